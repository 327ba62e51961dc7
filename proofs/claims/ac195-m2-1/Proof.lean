import JvmDerived
import JvmDerived.Pilot.@@N@@Statement
import JvmDerived.Pilot.@@N@@Code
set_option linter.unusedVariables false
set_option linter.unusedSimpArgs false
namespace Jvm.Pilot.@@N@@
open Jvm Jvm.ClassFile Sem Op Lib Jvm.Free Jvm.Stand Jvm.LawKit Jvm.RoadKit Bundle Jvm.Pilot.@@N@@.Jvm.D
/-! Own kit. own_Fin: from this frame the run comes to the method's end, and Q holds of what it leaves. -/
def own_Fin (p : Program) (e : Env) (below : List Frame) (s : State) (Q : Option Value → Heap → List Loc → Prop) (cl sl : Nat) (T : State) (f : JFrame) : Prop :=
  ∃ s₂ o, Steps p.tables e below (T.setTop f) s₂ ∧ s₂.status = .running ∧ Ended s₂ below o ∧ (∃ v L, o = .returned v ∧ Q v s₂.heap L ∧ FrameEnd s o s₂ L cl sl)
section OwnKit
variable {p : Program} {l : Launch} {e : Env} {R : Room} {s : State} {m : MethodId} {args : Array Value} {below : List Frame} {meth : Method} {c : Code} {T : State} {locs : List Loc} {cells slots : Nat} {Q : Option Value → Heap → List Loc → Prop} {cl sl : Nat} {Z : State} {a0 : Array Value} {h h' : Heap} {a b : Addr}
theorem own_step {T' : State} {f f' : JFrame} (k : ∀ t, Steps p.tables e below (T'.setTop f') t → Steps p.tables e below (T.setTop f) t) (r : own_Fin p e below s Q cl sl T' f') : own_Fin p e below s Q cl sl T f := by
  obtain ⟨s₂, o, h1, h2⟩ := r
  exact ⟨s₂, o, k _ h1, h2⟩
theorem own_stepT {T' : State} {f f' : JFrame} (k : Steps p.tables e below (T.setTop f) (T'.setTop f')) (r : own_Fin p e below s Q cl sl T' f') : own_Fin p e below s Q cl sl T f := by
  obtain ⟨s₂, o, h1, h2⟩ := r
  exact ⟨s₂, o, k.trans h1, h2⟩
theorem own_retZ (X : Stand p l e R s m args below meth c T locs cells slots) (hx : p.tables.exec = Jvm.exec) (hlocks : meth.locks = false) (hret : meth.sig.returnType = some .boolean) {pc : Nat} {Ls : Array Slot} {z z' : Int32} {rest : List Value} (hd : decode c.code pc = .ok (.ireturn, 1))
    (hn : nar .boolean z = z') (hc : cells ≤ cl) (hs : slots ≤ sl) (hT : T.heap = h) (hq : Q (some (.int z')) h locs) : own_Fin p e below s Q cl sl T (mkF m pc Ls (.int z :: rest)) := by
  subst hn hT
  obtain ⟨fs, hr, hrun, hended, hW, hsame⟩ := X.leave (v := some (.int (nar .boolean z))) (fun h => by rw [hret] at h; cases h)
  exact ⟨_, _, retN X hx hret (by simp) hd hr, hrun, hended, _, _, rfl, hq, ⟨_, rfl⟩, hW, hsame.mono hc hs⟩
theorem own_retI (X : Stand p l e R s m args below meth c T locs cells slots) (hx : p.tables.exec = Jvm.exec) (hlocks : meth.locks = false) (hret : meth.sig.returnType = some .int) {pc : Nat} {Ls : Array Slot} {z : Int32} {rest : List Value} (hd : decode c.code pc = .ok (.ireturn, 1))
    (hc : cells ≤ cl) (hs : slots ≤ sl) (hT : T.heap = h) (hq : Q (some (.int z)) h locs) : own_Fin p e below s Q cl sl T (mkF m pc Ls (.int z :: rest)) := by
  subst hT
  obtain ⟨fs, hr, hrun, hended, hW, hsame⟩ := X.leave (v := some (.int z)) (fun h => by rw [hret] at h; cases h)
  refine ⟨_, _, ?_, hrun, hended, _, _, rfl, hq, ⟨_, rfl⟩, hW, hsame.mono hc hs⟩
  have hm' : T.vm.method? m = some meth := X.method'
  have hn : narrow .int (.int z) = .int z := rfl
  show Steps p.tables e below (T.setTop { method := m, pc := pc, locals := Ls, stack := _ :: rest, locked := none }) _
  jvm_step X.here [X.here.top, hx, hd, hm', hret, hn]
  first | (intro acts; rw [hr _ acts rfl rfl rfl]) | rw [hr _ _ rfl rfl rfl]
  exact Steps.refl _
theorem own_retJ (X : Stand p l e R s m args below meth c T locs cells slots) (hx : p.tables.exec = Jvm.exec) (hlocks : meth.locks = false) (hret : meth.sig.returnType = some .long) {pc : Nat} {Ls : Array Slot} {z : Int64} (hd : decode c.code pc = .ok (.lreturn, 1))
    (hc : cells ≤ cl) (hs : slots ≤ sl) (hT : T.heap = h) (hq : Q (some (.long z)) h locs) : own_Fin p e below s Q cl sl T (mkF m pc Ls [.long z]) := by
  subst hT
  obtain ⟨fs, hr, hrun, hended, hW, hsame⟩ := X.leave (v := some (.long z)) (fun h => by rw [hret] at h; cases h)
  exact ⟨_, _, X.lreturnOut hx hret hd hr, hrun, hended, _, _, rfl, hq, ⟨_, rfl⟩, hW, hsame.mono hc hs⟩
theorem own_retV (X : Stand p l e R s m args below meth c T locs cells slots) (hx : p.tables.exec = Jvm.exec) (hlocks : meth.locks = false) (hret : meth.sig.returnType = none) {pc : Nat} {Ls : Array Slot} (hd : decode c.code pc = .ok (.return_, 1))
    (hc : cells ≤ cl) (hs : slots ≤ sl) (hT : T.heap = h) (hq : Q none h locs) : own_Fin p e below s Q cl sl T (mkF m pc Ls []) := by
  subst hT
  obtain ⟨fs, hr, hrun, hended, hW, hsame⟩ := X.leave (v := none) (fun _ => rfl)
  exact ⟨_, _, X.returnOut hx hret hd hr, hrun, hended, _, _, rfl, hq, ⟨_, rfl⟩, hW, hsame.mono hc hs⟩
theorem own_retR (X : Stand p l e R s m args below meth c T locs cells slots) (hx : p.tables.exec = Jvm.exec) (hlocks : meth.locks = false) {t : FieldType} (hret : meth.sig.returnType = some t) (ht : t.isReference = true) {pc : Nat} {Ls : Array Slot} {z : Value} (hz : z.isRef = true) (hd : decode c.code pc = .ok (.areturn, 1))
    (hc : cells ≤ cl) (hs : slots ≤ sl) (hT : T.heap = h) (hq : Q (some z) h locs) : own_Fin p e below s Q cl sl T (mkF m pc Ls [z]) := by
  subst hT
  obtain ⟨fs, hr, hrun, hended, hW, hsame⟩ := X.leave (v := some z) (fun h => by rw [hret] at h; cases h)
  refine ⟨_, _, ?_, hrun, hended, _, _, rfl, hq, ⟨_, rfl⟩, hW, hsame.mono hc hs⟩
  have hm' : T.vm.method? m = some meth := X.method'
  jvm_step X.here [X.here.top, hx, hd, hm', hret, ht, hz]
  first | (intro acts; rw [hr _ acts rfl rfl rfl]) | rw [hr _ _ rfl rfl rfl]
  exact Steps.refl _
/-! comparisons, said over Int -/
theorem own_cl {x y : Int32} {a b : Int} (ha : x.toInt = a) (hb : y.toInt = b) (h : a < b) : if_icmp.holds .lt x y = true ∧ if_icmp.holds .ge x y = false ∧ if_icmp.holds .gt y x = true ∧ if_icmp.holds .le y x = false := tlt (by rw [Int32.lt_iff_toInt_lt, ha, hb]; exact h)
theorem own_cn {x y : Int32} {a b : Int} (ha : x.toInt = a) (hb : y.toInt = b) (h : ¬ a < b) : if_icmp.holds .lt x y = false ∧ if_icmp.holds .ge x y = true ∧ if_icmp.holds .gt y x = false ∧ if_icmp.holds .le y x = true := flt (by rw [Int32.lt_iff_toInt_lt, ha, hb]; exact h)
theorem own_ce {x y : Int32} {a b : Int} (ha : x.toInt = a) (hb : y.toInt = b) (h : a = b) : if_icmp.holds .eq x y = true ∧ if_icmp.holds .ne x y = false := teq (by rw [← Int32.toInt_inj, ha, hb]; exact h)
theorem own_cu {x y : Int32} {a b : Int} (ha : x.toInt = a) (hb : y.toInt = b) (h : ¬ a = b) : if_icmp.holds .eq x y = false ∧ if_icmp.holds .ne x y = true := feq (by rw [← Int32.toInt_inj, ha, hb]; exact h)
theorem own_ll {x y : Int64} {a b : Int} (ha : x.toInt = a) (hb : y.toInt = b) (h : a < b) : ifCond.holds .lt (lcmpW x y) = true ∧ ifCond.holds .ge (lcmpW x y) = false ∧ ifCond.holds .gt (lcmpW y x) = true ∧ ifCond.holds .le (lcmpW y x) = false := by
  have q : x < y := by rw [Int64.lt_iff_toInt_lt, ha, hb]; exact h
  have h1 := tlt ((lw_lt x y).mpr q)
  have h2 := tlt ((lw_gt y x).mpr q)
  exact ⟨(if0 _ _).trans h1.1, (if0 _ _).trans h1.2.1, (if0 _ _).trans h2.2.2.1, (if0 _ _).trans h2.2.2.2⟩
theorem own_ln {x y : Int64} {a b : Int} (ha : x.toInt = a) (hb : y.toInt = b) (h : ¬ a < b) : ifCond.holds .lt (lcmpW x y) = false ∧ ifCond.holds .ge (lcmpW x y) = true ∧ ifCond.holds .gt (lcmpW y x) = false ∧ ifCond.holds .le (lcmpW y x) = true := by
  have q : ¬ x < y := by rw [Int64.lt_iff_toInt_lt, ha, hb]; exact h
  have h1 := flt (fun r => q ((lw_lt x y).mp r))
  have h2 := flt (fun r => q ((lw_gt y x).mp r))
  exact ⟨(if0 _ _).trans h1.1, (if0 _ _).trans h1.2.1, (if0 _ _).trans h2.2.2.1, (if0 _ _).trans h2.2.2.2⟩
theorem own_le {x y : Int64} {a b : Int} (ha : x.toInt = a) (hb : y.toInt = b) (h : a = b) : ifCond.holds .eq (lcmpW x y) = true ∧ ifCond.holds .ne (lcmpW x y) = false := by
  have q : x = y := by rw [← Int64.toInt_inj, ha, hb]; exact h
  have h1 := teq ((lw_eq x y).mpr q)
  exact ⟨(if0 _ _).trans h1.1, (if0 _ _).trans h1.2⟩
theorem own_lu {x y : Int64} {a b : Int} (ha : x.toInt = a) (hb : y.toInt = b) (h : ¬ a = b) : ifCond.holds .eq (lcmpW x y) = false ∧ ifCond.holds .ne (lcmpW x y) = true := by
  have q : ¬ x = y := by rw [← Int64.toInt_inj, ha, hb]; exact h
  have h1 := feq (fun r => q ((lw_eq x y).mp r))
  exact ⟨(if0 _ _).trans h1.1, (if0 _ _).trans h1.2⟩
/-! a boolean as an int -/
abbrev own_B (r : Int32) (P : Prop) : Prop := (r.toInt = 1 ∧ P) ∨ (r.toInt = 0 ∧ ¬ P)
theorem own_B1 {P : Prop} (h : P) : own_B 1 P := Or.inl ⟨rfl, h⟩
theorem own_B0 {P : Prop} (h : ¬ P) : own_B 0 P := Or.inr ⟨rfl, h⟩
theorem own_B.lit {r : Int32} {P : Prop} (H : own_B r P) : (r = 1 ∧ P) ∨ (r = 0 ∧ ¬ P) := by
  rcases H with ⟨q, h⟩ | ⟨q, h⟩
  · exact Or.inl ⟨Int32.toInt_inj.mp q, h⟩
  · exact Or.inr ⟨Int32.toInt_inj.mp q, h⟩
/-! arrays: their length and what each place holds -/
def own_A (Z : State) (h : Heap) (a : Addr) (ty : FieldType) (n : Nat) (f : Nat → Value) : Prop := ∃ c : Cell, Arr Z h a c ty ∧ c.slots.size = n ∧ ∀ i, i < n → c.slots[i]? = some (f i)
def own_AI (Z : State) (h : Heap) (a : Addr) (ty : FieldType) (n : Nat) (f : Nat → Int32) : Prop := own_A Z h a ty n (fun i => .int (f i))
def own_AJ (Z : State) (h : Heap) (a : Addr) (n : Nat) (f : Nat → Int64) : Prop := own_A Z h a .long n (fun i => .long (f i))
variable {ty : FieldType} {n : Nat} {fv : Nat → Value} {fi : Nat → Int32} {fj : Nat → Int64}
theorem own_A.lt (F : own_A Z h a ty n fv) : a < h.size := by obtain ⟨c, A, -⟩ := F; exact A.lt
theorem own_A.ext (F : own_A Z h a ty n fv) (E : Ext h h') : own_A Z h' a ty n fv := by obtain ⟨c, A, r⟩ := F; exact ⟨c, A.ext E, r⟩
theorem own_A.other {sl : Nat} {v : Value} (F : own_A Z h a ty n fv) (W : Wr h h' b sl v) (q : a ≠ b) : own_A Z h' a ty n fv := by obtain ⟨c, A, r⟩ := F; exact ⟨c, A.other W q, r⟩
theorem own_A.keep {ws : List Addr} (F : own_A Z h a ty n fv) (K : Keep h h' ws) (q : a ∉ ws) : own_A Z h' a ty n fv := by obtain ⟨c, A, r⟩ := F; exact ⟨c, ⟨K.2.1 a c A.1 q, A.2⟩, r⟩
theorem own_A.congr {gv : Nat → Value} (F : own_A Z h a ty n fv) (q : ∀ i, i < n → fv i = gv i) : own_A Z h a ty n gv := by obtain ⟨c, A, r, t⟩ := F; exact ⟨c, A, r, fun i hi => by rw [t i hi, q i hi]⟩
theorem own_A.set {j : Nat} {v : Value} (F : own_A Z h a ty n fv) (W : Wr h h' a j v) : own_A Z h' a ty n (fun i => if i = j then v else fv i) := by
  obtain ⟨c, A, r, t⟩ := F
  have W0 := W
  obtain ⟨c2, h1, -, h3, -⟩ := W0
  have ec : c2 = c := Option.some.inj (h1.symm.trans A.1)
  subst ec
  refine ⟨_, A.same W, by rw [sz_set]; exact r, fun i hi => ?_⟩
  by_cases q : i = j
  · subst q; simp [Cell.setSlot, h3]
  · simp only [q, if_false]; rw [← t i hi]; simp only [Cell.setSlot]; exact Array.getElem?_setIfInBounds_ne fun z => q z.symm
theorem own_A.new {k : ClassId} {z : Int32} (A : Arr Z h a (newA k ty z) ty) (q : z.toNatClampNeg = n) : own_A Z h a ty n (fun _ => defaultValue ty) := by
  subst q
  exact ⟨_, A, sz_new _ _ _, fun i hi => by simp [newA, hi]⟩
theorem own_AI.lt (F : own_AI Z h a ty n fi) : a < h.size := own_A.lt F
theorem own_AI.ext (F : own_AI Z h a ty n fi) (E : Ext h h') : own_AI Z h' a ty n fi := own_A.ext F E
theorem own_AI.other {sl : Nat} {v : Value} (F : own_AI Z h a ty n fi) (W : Wr h h' b sl v) (q : a ≠ b) : own_AI Z h' a ty n fi := own_A.other F W q
theorem own_AI.keep {ws : List Addr} (F : own_AI Z h a ty n fi) (K : Keep h h' ws) (q : a ∉ ws) : own_AI Z h' a ty n fi := own_A.keep F K q
theorem own_AI.congr {gi : Nat → Int32} (F : own_AI Z h a ty n fi) (q : ∀ i, i < n → fi i = gi i) : own_AI Z h a ty n gi := own_A.congr F fun i hi => by rw [q i hi]
theorem own_AI.set {j : Nat} {x : Int32} (F : own_AI Z h a ty n fi) (W : Wr h h' a j (.int x)) : own_AI Z h' a ty n (fun i => if i = j then x else fi i) := (own_A.set F W).congr fun i _ => by by_cases q : i = j <;> simp [q]
theorem own_AI.newI {k : ClassId} {z : Int32} (A : Arr Z h a (newA k .int z) .int) (q : z.toNatClampNeg = n) : own_AI Z h a .int n (fun _ => 0) := own_A.new A q
theorem own_AI.newB {k : ClassId} {z : Int32} (A : Arr Z h a (newA k .byte z) .byte) (q : z.toNatClampNeg = n) : own_AI Z h a .byte n (fun _ => 0) := own_A.new A q
theorem own_AJ.lt (F : own_AJ Z h a n fj) : a < h.size := own_A.lt F
theorem own_AJ.ext (F : own_AJ Z h a n fj) (E : Ext h h') : own_AJ Z h' a n fj := own_A.ext F E
theorem own_AJ.other {sl : Nat} {v : Value} (F : own_AJ Z h a n fj) (W : Wr h h' b sl v) (q : a ≠ b) : own_AJ Z h' a n fj := own_A.other F W q
theorem own_AJ.keep {ws : List Addr} (F : own_AJ Z h a n fj) (K : Keep h h' ws) (q : a ∉ ws) : own_AJ Z h' a n fj := own_A.keep F K q
theorem own_AJ.congr {gj : Nat → Int64} (F : own_AJ Z h a n fj) (q : ∀ i, i < n → fj i = gj i) : own_AJ Z h a n gj := own_A.congr F fun i hi => by rw [q i hi]
theorem own_AJ.set {j : Nat} {x : Int64} (F : own_AJ Z h a n fj) (W : Wr h h' a j (.long x)) : own_AJ Z h' a n (fun i => if i = j then x else fj i) := (own_A.set F W).congr fun i _ => by by_cases q : i = j <;> simp [q]
theorem own_AJ.new {k : ClassId} {z : Int32} (A : Arr Z h a (newA k .long z) .long) (q : z.toNatClampNeg = n) : own_AJ Z h a n (fun _ => 0) := own_A.new A q
theorem own_in {j : Int32} {k n : Nat} (hj : j.toInt = (k : Int)) (hk : k < n) : j.toNatClampNeg = k ∧ ¬ (j < 0 ∨ n ≤ j.toNatClampNeg) := by
  have q : j.toNatClampNeg = k := by simp only [Int32.toNatClampNeg, hj]; omega
  refine ⟨q, fun z => ?_⟩
  rcases z with z | z
  · rw [Int32.lt_iff_toInt_lt, hj] at z
    have : (0 : Int32).toInt = 0 := rfl
    omega
  · omega
theorem own_iaload (X : Stand p l e R s m args below meth c T locs cells slots) (hx : p.tables.exec = Jvm.exec) (hZ : Z.Warmed39 s.vm) (eT : T.heap = h) (F : own_AI Z h a .int n fi) {j : Int32} {k : Nat} (hj : j.toInt = (k : Int)) (hk : k < n) {v : Int32} (hv : fi k = v) {pc pc' : Nat} {Ls : Array Slot} {rest : List Value}
    (hd : decode c.code pc = .ok (.iaload, 1)) (hp : pc + 1 = pc') (r : own_Fin p e below s Q cl sl T (mkF m pc' Ls (.int v :: rest))) : own_Fin p e below s Q cl sl T (mkF m pc Ls (.int j :: .ref a :: rest)) := by
  obtain ⟨cc, A, h1, h2⟩ := F
  obtain ⟨q1, q2⟩ := own_in hj hk
  subst hp hv
  exact own_step (fun t k' => X.iaload hx (j := j) (v := .int (fi k)) (by rw [eT]; exact A.1) (State.isArrayOf_alike hZ.alike A.2.1) A.2.2 (by rw [h1]; exact q2) (by rw [q1]; exact h2 k hk) (g := mkF m pc Ls (.int j :: .ref a :: rest)) rfl rfl hd _ k') r
theorem own_baload (X : Stand p l e R s m args below meth c T locs cells slots) (hx : p.tables.exec = Jvm.exec) (hZ : Z.Warmed39 s.vm) (eT : T.heap = h) (F : own_AI Z h a .byte n fi) {j : Int32} {k : Nat} (hj : j.toInt = (k : Int)) (hk : k < n) {v : Int32} (hv : fi k = v) {pc pc' : Nat} {Ls : Array Slot} {rest : List Value}
    (hd : decode c.code pc = .ok (.baload, 1)) (hp : pc + 1 = pc') (r : own_Fin p e below s Q cl sl T (mkF m pc' Ls (.int v :: rest))) : own_Fin p e below s Q cl sl T (mkF m pc Ls (.int j :: .ref a :: rest)) := by
  obtain ⟨cc, A, h1, h2⟩ := F
  obtain ⟨q1, q2⟩ := own_in hj hk
  subst hp hv
  exact own_step (fun t k' => X.baloadBytes hx (j := j) (v := .int (fi k)) (by rw [eT]; exact A.1) (State.isArrayOf_alike hZ.alike A.2.1) A.2.2 (by rw [h1]; exact q2) (by rw [q1]; exact h2 k hk) (g := mkF m pc Ls (.int j :: .ref a :: rest)) rfl rfl hd _ k') r
theorem own_laload (X : Stand p l e R s m args below meth c T locs cells slots) (hx : p.tables.exec = Jvm.exec) (hZ : Z.Warmed39 s.vm) (eT : T.heap = h) (F : own_AJ Z h a n fj) {j : Int32} {k : Nat} (hj : j.toInt = (k : Int)) (hk : k < n) {v : Int64} (hv : fj k = v) {pc pc' : Nat} {Ls : Array Slot} {rest : List Value}
    (hd : decode c.code pc = .ok (.laload, 1)) (hp : pc + 1 = pc') (r : own_Fin p e below s Q cl sl T (mkF m pc' Ls (.long v :: rest))) : own_Fin p e below s Q cl sl T (mkF m pc Ls (.int j :: .ref a :: rest)) := by
  obtain ⟨cc, A, h1, h2⟩ := F
  obtain ⟨q1, q2⟩ := own_in hj hk
  subst hp hv
  exact own_step (fun t k' => X.laload hx (j := j) (v := .long (fj k)) (by rw [eT]; exact A.1) (State.isArrayOf_alike hZ.alike A.2.1) A.2.2 (by rw [h1]; exact q2) (by rw [q1]; exact h2 k hk) (g := mkF m pc Ls (.int j :: .ref a :: rest)) rfl rfl hd _ k') r
theorem own_arrlen (X : Stand p l e R s m args below meth c T locs cells slots) (hx : p.tables.exec = Jvm.exec) (hZ : Z.Warmed39 s.vm) (eT : T.heap = h) (F : own_A Z h a ty n fv) {z : Int32} (hz : n.toInt32 = z) {pc pc' : Nat} {Ls : Array Slot} {rest : List Value}
    (hd : decode c.code pc = .ok (.arraylength, 1)) (hp : pc + 1 = pc') (r : own_Fin p e below s Q cl sl T (mkF m pc' Ls (.int z :: rest))) : own_Fin p e below s Q cl sl T (mkF m pc Ls (.ref a :: rest)) := by
  obtain ⟨cc, A, h1, h2⟩ := F
  subst hp hz
  exact own_step (fun t k' => X.arraylength hx (by rw [eT]; exact A.1) (State.isArrayOf_alike hZ.alike A.2.1) (g := mkF m pc Ls (.ref a :: rest)) rfl rfl hd _ (by rw [h1]; exact k')) r
theorem own_iastore (X : Stand p l e R s m args below meth c T locs cells slots) (hx : p.tables.exec = Jvm.exec) (hZ : Z.Warmed39 s.vm) (eT : T.heap = h) (F : own_AI Z h a .int n fi) {j : Int32} {k : Nat} (hj : j.toInt = (k : Int)) (hk : k < n) {x : Int32} {pc pc' : Nat} {Ls : Array Slot} {rest : List Value}
    (hd : decode c.code pc = .ok (.iastore, 1)) (hp : pc + 1 = pc') :
    ∃ T' h', Stand p l e R s m args below meth c T' (locs ++ [⟨a, k⟩]) cells slots ∧ T'.heap = h' ∧ Wr h h' a k (.int x) ∧ own_AI Z h' a .int n (fun i => if i = k then x else fi i) ∧ ∀ t, Steps p.tables e below (T'.setTop (mkF m pc' Ls rest)) t → Steps p.tables e below (T.setTop (mkF m pc Ls (.int x :: .int j :: .ref a :: rest))) t := by
  obtain ⟨q1, q2⟩ := own_in hj hk
  have F' := F
  obtain ⟨cc, A, h1, h2⟩ := F
  subst hp q1
  obtain ⟨T', h', X', e', W', st⟩ := stI X hx hZ eT A (j := j) (x := x) (by rw [h1]; exact q2) (g := mkF m pc Ls (.int x :: .int j :: .ref a :: rest)) rfl rfl hd
  exact ⟨T', h', X', e', W', F'.set W', st⟩
theorem own_bastore (X : Stand p l e R s m args below meth c T locs cells slots) (hx : p.tables.exec = Jvm.exec) (hZ : Z.Warmed39 s.vm) (eT : T.heap = h) (F : own_AI Z h a .byte n fi) {j : Int32} {k : Nat} (hj : j.toInt = (k : Int)) (hk : k < n) {x y : Int32} (hn : nar .byte x = y) {pc pc' : Nat} {Ls : Array Slot} {rest : List Value}
    (hd : decode c.code pc = .ok (.bastore, 1)) (hp : pc + 1 = pc') :
    ∃ T' h', Stand p l e R s m args below meth c T' (locs ++ [⟨a, k⟩]) cells slots ∧ T'.heap = h' ∧ Wr h h' a k (.int y) ∧ own_AI Z h' a .byte n (fun i => if i = k then y else fi i) ∧ ∀ t, Steps p.tables e below (T'.setTop (mkF m pc' Ls rest)) t → Steps p.tables e below (T.setTop (mkF m pc Ls (.int x :: .int j :: .ref a :: rest))) t := by
  obtain ⟨q1, q2⟩ := own_in hj hk
  have F' := F
  obtain ⟨cc, A, h1, h2⟩ := F
  subst hp q1 hn
  obtain ⟨T', h', X', e', W', st⟩ := stB X hx hZ eT A (j := j) (x := x) (by rw [h1]; exact q2) (g := mkF m pc Ls (.int x :: .int j :: .ref a :: rest)) rfl rfl hd
  exact ⟨T', h', X', e', W', F'.set W', st⟩
theorem own_lastore (X : Stand p l e R s m args below meth c T locs cells slots) (hx : p.tables.exec = Jvm.exec) (hZ : Z.Warmed39 s.vm) (eT : T.heap = h) (F : own_AJ Z h a n fj) {j : Int32} {k : Nat} (hj : j.toInt = (k : Int)) (hk : k < n) {x : Int64} {pc pc' : Nat} {Ls : Array Slot} {rest : List Value}
    (hd : decode c.code pc = .ok (.lastore, 1)) (hp : pc + 1 = pc') :
    ∃ T' h', Stand p l e R s m args below meth c T' (locs ++ [⟨a, k⟩]) cells slots ∧ T'.heap = h' ∧ Wr h h' a k (.long x) ∧ own_AJ Z h' a n (fun i => if i = k then x else fj i) ∧ ∀ t, Steps p.tables e below (T'.setTop (mkF m pc' Ls rest)) t → Steps p.tables e below (T.setTop (mkF m pc Ls (.long x :: .int j :: .ref a :: rest))) t := by
  obtain ⟨q1, q2⟩ := own_in hj hk
  have F' := F
  obtain ⟨cc, A, h1, h2⟩ := F
  subst hp q1
  obtain ⟨T', h', X', e', W', st⟩ := stJ X hx hZ eT A (j := j) (x := x) (by rw [h1]; exact q2) (g := mkF m pc Ls (.long x :: .int j :: .ref a :: rest)) rfl rfl hd
  exact ⟨T', h', X', e', W', F'.set W', st⟩
theorem own_nar8 (x : Int32) : nar .byte x.toInt8.toInt32 = x.toInt8.toInt32 := by
  show (x.toInt8.toInt32).toInt8.toInt32 = x.toInt8.toInt32
  simp
end OwnKit
def own_max (a b : Int64) : Int64 := if a.toInt < b.toInt then b else a
theorem own_max_l {a b : Int64} (h : a.toInt < b.toInt) : some (Value.long b) = some (.long (own_max a b)) := by simp [own_max, h]
theorem own_max_n {a b : Int64} (h : ¬ a.toInt < b.toInt) : some (Value.long a) = some (.long (own_max a b)) := by simp [own_max, h]
theorem d1_0 : decode jdk_29_method_66_code 0 = .ok (.lload_n 0, 1) := by decide +kernel
theorem d1_1 : decode jdk_29_method_66_code 1 = .ok (.lload_n 2, 1) := by decide +kernel
theorem d1_2 : decode jdk_29_method_66_code 2 = .ok (.lcmp, 1) := by decide +kernel
theorem d1_3 : decode jdk_29_method_66_code 3 = .ok (.ifCond .lt 7, 3) := by decide +kernel
theorem d1_6 : decode jdk_29_method_66_code 6 = .ok (.lload_n 0, 1) := by decide +kernel
theorem d1_7 : decode jdk_29_method_66_code 7 = .ok (.goto 4, 3) := by decide +kernel
theorem d1_10 : decode jdk_29_method_66_code 10 = .ok (.lload_n 2, 1) := by decide +kernel
theorem d1_11 : decode jdk_29_method_66_code 11 = .ok (.lreturn, 1) := by decide +kernel
theorem own_ef_1 (m : MethodId) (q1 : Int64) (q2 : Int64) : entryFrame m #[(.long q1), (.long q2)] 4 = mkF m 0 #[.val (.long q1), .second, .val (.long q2), .second] [] := by first | (simp [entryFrame, mkF, argsToLocals, Value.category]; done) | rfl
abbrev own_R1 : Room := { frames := 0, cells := 0, slots := 0, locals := 0 }
def own_Q1 (Z : State) (q1 : Int64) (q2 : Int64) (h0 : Heap) (n0 : Nat) (v : Option Value) (h : Heap) (L : List Loc) : Prop := v = some (.long (own_max q1 q2)) ∧ Fr n0 L ∧ h = h0
set_option maxRecDepth 65536 in
set_option maxHeartbeats 40000000 in
theorem rm1 (l : Launch) (Z : State) (a0 : Array Value) (hw : ∀ d ∈ tables_1, d.before a0 Z = true) (ws : List Jvm.Cond) (q1 : Int64) (q2 : Int64) (h0 : Heap) (n0 : Nat) (Z0 : n0 ≤ h0.size) :
    MetFree l (⟨"java/lang/Math", "max", "(JJ)J"⟩ : MethodName) (head1 (Jvm.Cond.code (⟨"java/lang/Math", "max", "(JJ)J"⟩ : MethodName) jdk_29_method_66_code 4 (some .long) :: ws) own_R1) (fun a U => a = #[(.long q1), (.long q2)] ∧ Z.Warmed39 U.vm ∧ U.heap = h0) (fun _ _ _ _ _ => True) (fun _ U o U' => ∃ v L, o = .returned v ∧ own_Q1 Z q1 q2 h0 n0 v U'.heap L ∧ FrameEnd U o U' L own_R1.cells own_R1.slots) := by
  refine MetFree.of_bodySF (Jvm.Free.JP.mathPlain rfl (by decide +kernel)) hisR ?_
  intro p e s m args below meth c s₁ Bd hml0 hP hK
  obtain ⟨rfl, hZ, hh⟩ := hP
  have hx := Bd.exec
  have hby := Bd.bytes
  have hlk := BodyLoose.notSynchronized Bd
  have hml : c.maxLocals = 4 := hml0
  have hown : s.vm.findClass "java/lang/Math" = some m.cls := (findClass_of_methodNamed Bd.named : s.vm.findClass (⟨"java/lang/Math", "max", "(JJ)J"⟩ : MethodName).cls = some m.cls)
  have hnm := (name_of_methodNamed Bd.named Bd.method).1
  have X0 : Stand p l e own_R1 s m #[(.long q1), (.long q2)] below meth c s₁ [] 0 0 := Stand.of_body Bd
  have e0 : s₁.heap = h0 := by rw [← hh, Bd.state]; rfl
  have Nf := Fr.nil n0
  have Zs := Z0
  show own_Fin p e below s (own_Q1 Z q1 q2 h0 n0) 0 0 s₁ (entryFrame m #[(.long q1), (.long q2)] 4)
  rw [own_ef_1 m q1 q2]
  show own_Fin _ _ _ _ _ _ _ _ (mkF m 0 #[.val (.long q1), .second, .val (.long q2), .second] [])
  refine own_step (fun t k => XS.lloadN X0.here hx rfl (hb hby d1_0) rfl k) ?_
  show own_Fin _ _ _ _ _ _ _ _ (mkF m 1 #[.val (.long q1), .second, .val (.long q2), .second] [(.long q1)])
  refine own_step (fun t k => XS.lloadN X0.here hx rfl (hb hby d1_1) rfl k) ?_
  show own_Fin _ _ _ _ _ _ _ _ (mkF m 2 #[.val (.long q1), .second, .val (.long q2), .second] [(.long q2), (.long q1)])
  refine own_step (fun t k => XS.lcmp X0.here hx rfl (hb hby d1_2) rfl k) ?_
  show own_Fin _ _ _ _ _ _ _ _ (mkF m 3 #[.val (.long q1), .second, .val (.long q2), .second] [(.int (lcmpW q1 q2))])
  by_cases hc1 : (q1).toInt < (q2).toInt
  · skip
    refine own_step (fun t k => XS.ifYes X0.here hx rfl (pc0 := 3) (pc' := 10) rfl (hb hby d1_3) rfl (own_ll (x := q1) (y := q2) rfl rfl hc1).1 (by decide) (by decide) k) ?_
    show own_Fin _ _ _ _ _ _ _ _ (mkF m 10 #[.val (.long q1), .second, .val (.long q2), .second] [])
    refine own_step (fun t k => XS.lloadN X0.here hx rfl (hb hby d1_10) rfl k) ?_
    show own_Fin _ _ _ _ _ _ _ _ (mkF m 11 #[.val (.long q1), .second, .val (.long q2), .second] [(.long q2)])
    refine own_retJ X0 hx hlk Bd.returns (hb hby d1_11) (by decide) (by decide) e0 ?_
    exact ⟨own_max_l hc1, Nf, rfl⟩
  · skip
    refine own_step (fun t k => XS.ifNo X0.here hx rfl (hb hby d1_3) rfl (own_ln (x := q1) (y := q2) rfl rfl hc1).1 k) ?_
    show own_Fin _ _ _ _ _ _ _ _ (mkF m 6 #[.val (.long q1), .second, .val (.long q2), .second] [])
    refine own_step (fun t k => XS.lloadN X0.here hx rfl (hb hby d1_6) rfl k) ?_
    show own_Fin _ _ _ _ _ _ _ _ (mkF m 7 #[.val (.long q1), .second, .val (.long q2), .second] [(.long q1)])
    refine own_step (fun t k => XS.goto X0.here hx rfl (pc0 := 7) (pc' := 11) rfl (hb hby d1_7) (by decide) (by decide) k) ?_
    show own_Fin _ _ _ _ _ _ _ _ (mkF m 11 #[.val (.long q1), .second, .val (.long q2), .second] [(.long q1)])
    refine own_retJ X0 hx hlk Bd.returns (hb hby d1_11) (by decide) (by decide) e0 ?_
    exact ⟨own_max_n hc1, Nf, rfl⟩
theorem d2_0 : decode prog_32_method_1_code 0 = .ok (.aload_n 0, 1) := by decide +kernel
theorem d2_1 : decode prog_32_method_1_code 1 = .ok (.invokespecial 1, 3) := by decide +kernel
theorem d2_4 : decode prog_32_method_1_code 4 = .ok (.aload_n 0, 1) := by decide +kernel
theorem d2_5 : decode prog_32_method_1_code 5 = .ok (.ldc2_w 9, 3) := by decide +kernel
theorem d2_8 : decode prog_32_method_1_code 8 = .ok (.putfield 11, 3) := by decide +kernel
theorem d2_11 : decode prog_32_method_1_code 11 = .ok (.return_, 1) := by decide +kernel
theorem own_pn_2 : plainName "com/example/kern_tablet/kerntablet/storage/ColumnTally" = true := by first | (simp [plainName, overriddenIn]; done) | decide +kernel
theorem own_ef_2 (m : MethodId) (a1 : Addr) : entryFrame m #[(.ref a1)] 1 = mkF m 0 #[.val (.ref a1)] [] := by first | (simp [entryFrame, mkF, argsToLocals, Value.category]; done) | rfl
abbrev own_R2 : Room := { frames := 1, cells := 0, slots := 0, locals := 12 }
def own_Q2 (Z : State) (a1 : Addr) (h0 : Heap) (n0 : Nat) (v : Option Value) (h : Heap) (L : List Loc) : Prop := v = none ∧ Fr n0 L ∧ Keep h0 h [a1] ∧ Exa Z h a1 "com/example/kern_tablet/kerntablet/storage/ColumnTally" ∧ Fld Z h a1 "com/example/kern_tablet/kerntablet/storage/ColumnTally" "values" "I" (.int (0 : Int32)) ∧ Fld Z h a1 "com/example/kern_tablet/kerntablet/storage/ColumnTally" "plainBytes" "J" (.long (0 : Int64)) ∧ Fld Z h a1 "com/example/kern_tablet/kerntablet/storage/ColumnTally" "largest" "J" (.long (0 : Int64)) ∧ Fld Z h a1 "com/example/kern_tablet/kerntablet/storage/ColumnTally" "laidOut" "J" (.long (-1 : Int64)) ∧ Fld Z h a1 "com/example/kern_tablet/kerntablet/storage/ColumnTally" "added" "J" (.long (0 : Int64)) ∧ Fld Z h a1 "com/example/kern_tablet/kerntablet/storage/ColumnTally" "addedPlainBytes" "J" (.long (0 : Int64))
set_option maxRecDepth 65536 in
set_option maxHeartbeats 40000000 in
theorem rm2 (l : Launch) (Z : State) (a0 : Array Value) (hw : ∀ d ∈ tables_1, d.before a0 Z = true) (ws : List Jvm.Cond) (a1 : Addr) (h0 : Heap) (n0 : Nat) (Z0 : n0 ≤ h0.size) (E_a1 : Exa Z h0 a1 "com/example/kern_tablet/kerntablet/storage/ColumnTally") (F_values_a1 : Fld Z h0 a1 "com/example/kern_tablet/kerntablet/storage/ColumnTally" "values" "I" (.int (0 : Int32))) (F_plainBytes_a1 : Fld Z h0 a1 "com/example/kern_tablet/kerntablet/storage/ColumnTally" "plainBytes" "J" (.long (0 : Int64))) (F_largest_a1 : Fld Z h0 a1 "com/example/kern_tablet/kerntablet/storage/ColumnTally" "largest" "J" (.long (0 : Int64))) (F_laidOut_a1 : Fld Z h0 a1 "com/example/kern_tablet/kerntablet/storage/ColumnTally" "laidOut" "J" (.long (0 : Int64))) (F_added_a1 : Fld Z h0 a1 "com/example/kern_tablet/kerntablet/storage/ColumnTally" "added" "J" (.long (0 : Int64))) (F_addedPlainBytes_a1 : Fld Z h0 a1 "com/example/kern_tablet/kerntablet/storage/ColumnTally" "addedPlainBytes" "J" (.long (0 : Int64))) (g_a1 : n0 ≤ a1) :
    MetFree l (⟨"com/example/kern_tablet/kerntablet/storage/ColumnTally", "<init>", "()V"⟩ : MethodName) (head1 (Jvm.Cond.code (⟨"com/example/kern_tablet/kerntablet/storage/ColumnTally", "<init>", "()V"⟩ : MethodName) prog_32_method_1_code 1 none :: ws) own_R2) (fun a U => a = #[(.ref a1)] ∧ Z.Warmed39 U.vm ∧ U.heap = h0) (fun _ _ _ _ _ => True) (fun _ U o U' => ∃ v L, o = .returned v ∧ own_Q2 Z a1 h0 n0 v U'.heap L ∧ FrameEnd U o U' L own_R2.cells own_R2.slots) := by
  refine MetFree.of_bodySF (plainFor_of_name own_pn_2) hisR ?_
  intro p e s m args below meth c s₁ Bd hml0 hP hK
  obtain ⟨rfl, hZ, hh⟩ := hP
  have hx := Bd.exec
  have hby := Bd.bytes
  have hlk := BodyLoose.notSynchronized Bd
  have hml : c.maxLocals = 1 := hml0
  have hown : s.vm.findClass "com/example/kern_tablet/kerntablet/storage/ColumnTally" = some m.cls := (findClass_of_methodNamed Bd.named : s.vm.findClass (⟨"com/example/kern_tablet/kerntablet/storage/ColumnTally", "<init>", "()V"⟩ : MethodName).cls = some m.cls)
  have hnm := (name_of_methodNamed Bd.named Bd.method).1
  have X0 : Stand p l e own_R2 s m #[(.ref a1)] below meth c s₁ [] 0 0 := Stand.of_body Bd
  have e0 : s₁.heap = h0 := by rw [← hh, Bd.state]; rfl
  have Nf := Fr.nil n0
  have Zs := Z0
  have K : Keep h0 h0 [a1] := Keep.refl _ _
  show own_Fin p e below s (own_Q2 Z a1 h0 n0) 0 0 s₁ (entryFrame m #[(.ref a1)] 1)
  rw [own_ef_2 m a1]
  show own_Fin _ _ _ _ _ _ _ _ (mkF m 0 #[.val (.ref a1)] [])
  refine own_step (fun t k => XS.aloadN X0.here hx rfl (hb hby d2_0) rfl rfl k) ?_
  show own_Fin _ _ _ _ _ _ _ _ (mkF m 1 #[.val (.ref a1)] [(.ref a1)])
  obtain ⟨T1, X1, e1, st1⟩ := initO X0 hx hZ hown (hw _ (List.mem_of_getElem? (i := 6) rfl)) (hw _ (List.mem_of_getElem? (i := 7) rfl)) (hw _ (List.mem_of_getElem? (i := 8) rfl)) e0 (g := (mkF m 1 #[.val (.ref a1)] [(.ref a1)])) rfl (by rw [hml]; rfl) rfl (hb hby d2_1) (by decide) (W := 0) (by show 2 * 0 + _ ≤ _; exact Nat.le_of_eq rfl) (by decide)
  refine own_step st1 ?_
  show own_Fin _ _ _ _ _ _ _ _ (mkF m 4 #[.val (.ref a1)] [])
  refine own_step (fun t k => XS.aloadN X1.here hx rfl (hb hby d2_4) rfl rfl k) ?_
  show own_Fin _ _ _ _ _ _ _ _ (mkF m 5 #[.val (.ref a1)] [(.ref a1)])
  refine own_step (fun t k => X1.ldc2Long hx hown (mvT hZ (hw _ (List.mem_of_getElem? (i := 9) rfl))) (g := (mkF m 5 #[.val (.ref a1)] [(.ref a1)])) rfl (hb hby d2_5) _ k) ?_
  show own_Fin _ _ _ _ _ _ _ _ (mkF m 8 #[.val (.ref a1)] [(.long (-1 : Int64)), (.ref a1)])
  obtain ⟨T2, h2, X2, e2, W2, st2⟩ := putF X1 hx hZ hown (host := "") (Or.inl (hw _ (List.mem_of_getElem? (i := 10) rfl))) Via.refl e1 F_laidOut_a1 E_a1 (Or.inl (hw _ (List.mem_of_getElem? (i := 11) rfl))) (hw _ (List.mem_of_getElem? (i := 1) rfl)) (ty := .long) (by decide) rfl rfl (g := (mkF m 8 #[.val (.ref a1)] [(.long (-1 : Int64)), (.ref a1)])) rfl rfl (hb hby d2_8)
  refine own_step st2 ?_
  replace E_a1 := E_a1.wr W2
  replace F_values_a1 := F_values_a1.other W2 (Or.inr (slot_ne (Or.inl (hw _ (List.mem_of_getElem? (i := 18) rfl))) (Or.inl (hw _ (List.mem_of_getElem? (i := 11) rfl))) (by decide) (t := .int) (t' := .long) (by decide) (by decide)))
  replace F_plainBytes_a1 := F_plainBytes_a1.other W2 (Or.inr (slot_ne (Or.inl (hw _ (List.mem_of_getElem? (i := 20) rfl))) (Or.inl (hw _ (List.mem_of_getElem? (i := 11) rfl))) (by decide) (t := .long) (t' := .long) (by decide) (by decide)))
  replace F_largest_a1 := F_largest_a1.other W2 (Or.inr (slot_ne (Or.inl (hw _ (List.mem_of_getElem? (i := 22) rfl))) (Or.inl (hw _ (List.mem_of_getElem? (i := 11) rfl))) (by decide) (t := .long) (t' := .long) (by decide) (by decide)))
  replace F_laidOut_a1 := F_laidOut_a1.same W2
  replace F_added_a1 := F_added_a1.other W2 (Or.inr (slot_ne (Or.inl (hw _ (List.mem_of_getElem? (i := 28) rfl))) (Or.inl (hw _ (List.mem_of_getElem? (i := 11) rfl))) (by decide) (t := .long) (t' := .long) (by decide) (by decide)))
  replace F_addedPlainBytes_a1 := F_addedPlainBytes_a1.other W2 (Or.inr (slot_ne (Or.inl (hw _ (List.mem_of_getElem? (i := 30) rfl))) (Or.inl (hw _ (List.mem_of_getElem? (i := 11) rfl))) (by decide) (t := .long) (t' := .long) (by decide) (by decide)))
  replace Zs : n0 ≤ h2.size := by rw [W2.size]; exact Zs
  replace K := K.wr W2 (Or.inl (by simp))
  replace Nf := Fr.snoc X2 Nf g_a1
  show own_Fin _ _ _ _ _ _ _ _ (mkF m 11 #[.val (.ref a1)] [])
  refine own_retV X2 hx hlk Bd.returns (hb hby d2_11) (by decide) (by decide) e2 ?_
  exact ⟨rfl, Nf, K, E_a1, F_values_a1, F_plainBytes_a1, F_largest_a1, F_laidOut_a1, F_added_a1, F_addedPlainBytes_a1⟩
theorem own_pd_0 : parseMethodDescriptor "(JJ)J" = some ⟨[.long, .long], some .long⟩ := by decide +kernel
theorem d3_0 : decode prog_32_method_2_code 0 = .ok (.aload_n 0, 1) := by decide +kernel
theorem d3_1 : decode prog_32_method_2_code 1 = .ok (.dup, 1) := by decide +kernel
theorem d3_2 : decode prog_32_method_2_code 2 = .ok (.getfield 15, 3) := by decide +kernel
theorem d3_5 : decode prog_32_method_2_code 5 = .ok (.iconst 1, 1) := by decide +kernel
theorem d3_6 : decode prog_32_method_2_code 6 = .ok (.iadd, 1) := by decide +kernel
theorem d3_7 : decode prog_32_method_2_code 7 = .ok (.putfield 15, 3) := by decide +kernel
theorem d3_10 : decode prog_32_method_2_code 10 = .ok (.aload_n 0, 1) := by decide +kernel
theorem d3_11 : decode prog_32_method_2_code 11 = .ok (.dup, 1) := by decide +kernel
theorem d3_12 : decode prog_32_method_2_code 12 = .ok (.getfield 19, 3) := by decide +kernel
theorem d3_15 : decode prog_32_method_2_code 15 = .ok (.lload_n 1, 1) := by decide +kernel
theorem d3_16 : decode prog_32_method_2_code 16 = .ok (.ladd, 1) := by decide +kernel
theorem d3_17 : decode prog_32_method_2_code 17 = .ok (.putfield 19, 3) := by decide +kernel
theorem d3_20 : decode prog_32_method_2_code 20 = .ok (.aload_n 0, 1) := by decide +kernel
theorem d3_21 : decode prog_32_method_2_code 21 = .ok (.aload_n 0, 1) := by decide +kernel
theorem d3_22 : decode prog_32_method_2_code 22 = .ok (.getfield 22, 3) := by decide +kernel
theorem d3_25 : decode prog_32_method_2_code 25 = .ok (.lload_n 1, 1) := by decide +kernel
theorem d3_26 : decode prog_32_method_2_code 26 = .ok (.invokestatic 25, 3) := by decide +kernel
theorem d3_29 : decode prog_32_method_2_code 29 = .ok (.putfield 22, 3) := by decide +kernel
theorem d3_32 : decode prog_32_method_2_code 32 = .ok (.aload_n 0, 1) := by decide +kernel
theorem d3_33 : decode prog_32_method_2_code 33 = .ok (.dup, 1) := by decide +kernel
theorem d3_34 : decode prog_32_method_2_code 34 = .ok (.getfield 31, 3) := by decide +kernel
theorem d3_37 : decode prog_32_method_2_code 37 = .ok (.lconst 1, 1) := by decide +kernel
theorem d3_38 : decode prog_32_method_2_code 38 = .ok (.ladd, 1) := by decide +kernel
theorem d3_39 : decode prog_32_method_2_code 39 = .ok (.putfield 31, 3) := by decide +kernel
theorem d3_42 : decode prog_32_method_2_code 42 = .ok (.aload_n 0, 1) := by decide +kernel
theorem d3_43 : decode prog_32_method_2_code 43 = .ok (.dup, 1) := by decide +kernel
theorem d3_44 : decode prog_32_method_2_code 44 = .ok (.getfield 34, 3) := by decide +kernel
theorem d3_47 : decode prog_32_method_2_code 47 = .ok (.lload_n 1, 1) := by decide +kernel
theorem d3_48 : decode prog_32_method_2_code 48 = .ok (.ladd, 1) := by decide +kernel
theorem d3_49 : decode prog_32_method_2_code 49 = .ok (.putfield 34, 3) := by decide +kernel
theorem d3_52 : decode prog_32_method_2_code 52 = .ok (.return_, 1) := by decide +kernel
theorem own_pn_3 : plainName "com/example/kern_tablet/kerntablet/storage/ColumnTally" = true := by first | (simp [plainName, overriddenIn]; done) | decide +kernel
theorem own_ef_3 (m : MethodId) (a1 : Addr) (q2 : Int64) : entryFrame m #[(.ref a1), (.long q2)] 3 = mkF m 0 #[.val (.ref a1), .val (.long q2), .second] [] := by first | (simp [entryFrame, mkF, argsToLocals, Value.category]; done) | rfl
abbrev own_R3 : Room := { frames := 1, cells := 0, slots := 0, locals := 16 }
def own_Q3 (Z : State) (a1 : Addr) (q2 : Int64) (w_values : Int32) (w_plainBytes : Int64) (w_largest : Int64) (w_laidOut : Int64) (w_added : Int64) (w_addedPlainBytes : Int64) (h0 : Heap) (n0 : Nat) (v : Option Value) (h : Heap) (L : List Loc) : Prop := v = none ∧ Fr n0 L ∧ Keep h0 h [a1] ∧ Exa Z h a1 "com/example/kern_tablet/kerntablet/storage/ColumnTally" ∧ Fld Z h a1 "com/example/kern_tablet/kerntablet/storage/ColumnTally" "values" "I" (.int (w_values + (1 : Int32))) ∧ Fld Z h a1 "com/example/kern_tablet/kerntablet/storage/ColumnTally" "plainBytes" "J" (.long (w_plainBytes + q2)) ∧ Fld Z h a1 "com/example/kern_tablet/kerntablet/storage/ColumnTally" "largest" "J" (.long (own_max w_largest q2)) ∧ Fld Z h a1 "com/example/kern_tablet/kerntablet/storage/ColumnTally" "laidOut" "J" (.long w_laidOut) ∧ Fld Z h a1 "com/example/kern_tablet/kerntablet/storage/ColumnTally" "added" "J" (.long (w_added + (1 : Int64))) ∧ Fld Z h a1 "com/example/kern_tablet/kerntablet/storage/ColumnTally" "addedPlainBytes" "J" (.long (w_addedPlainBytes + q2))
set_option maxRecDepth 65536 in
set_option maxHeartbeats 40000000 in
theorem rm3 (l : Launch) (Z : State) (a0 : Array Value) (hw : ∀ d ∈ tables_1, d.before a0 Z = true) (ws : List Jvm.Cond) (a1 : Addr) (q2 : Int64) (w_values : Int32) (w_plainBytes : Int64) (w_largest : Int64) (w_laidOut : Int64) (w_added : Int64) (w_addedPlainBytes : Int64) (h0 : Heap) (n0 : Nat) (Z0 : n0 ≤ h0.size) (E_a1 : Exa Z h0 a1 "com/example/kern_tablet/kerntablet/storage/ColumnTally") (F_values_a1 : Fld Z h0 a1 "com/example/kern_tablet/kerntablet/storage/ColumnTally" "values" "I" (.int w_values)) (F_plainBytes_a1 : Fld Z h0 a1 "com/example/kern_tablet/kerntablet/storage/ColumnTally" "plainBytes" "J" (.long w_plainBytes)) (F_largest_a1 : Fld Z h0 a1 "com/example/kern_tablet/kerntablet/storage/ColumnTally" "largest" "J" (.long w_largest)) (F_laidOut_a1 : Fld Z h0 a1 "com/example/kern_tablet/kerntablet/storage/ColumnTally" "laidOut" "J" (.long w_laidOut)) (F_added_a1 : Fld Z h0 a1 "com/example/kern_tablet/kerntablet/storage/ColumnTally" "added" "J" (.long w_added)) (F_addedPlainBytes_a1 : Fld Z h0 a1 "com/example/kern_tablet/kerntablet/storage/ColumnTally" "addedPlainBytes" "J" (.long w_addedPlainBytes)) (g_a1 : n0 ≤ a1) :
    MetFree l (⟨"com/example/kern_tablet/kerntablet/storage/ColumnTally", "add", "(J)V"⟩ : MethodName) (head1 (Jvm.Cond.code (⟨"com/example/kern_tablet/kerntablet/storage/ColumnTally", "add", "(J)V"⟩ : MethodName) prog_32_method_2_code 3 none :: ws) own_R3) (fun a U => a = #[(.ref a1), (.long q2)] ∧ Z.Warmed39 U.vm ∧ U.heap = h0) (fun _ _ _ _ _ => True) (fun _ U o U' => ∃ v L, o = .returned v ∧ own_Q3 Z a1 q2 w_values w_plainBytes w_largest w_laidOut w_added w_addedPlainBytes h0 n0 v U'.heap L ∧ FrameEnd U o U' L own_R3.cells own_R3.slots) := by
  refine MetFree.of_bodySF (plainFor_of_name own_pn_3) hisR ?_
  intro p e s m args below meth c s₁ Bd hml0 hP hK
  obtain ⟨rfl, hZ, hh⟩ := hP
  have hx := Bd.exec
  have hby := Bd.bytes
  have hlk := BodyLoose.notSynchronized Bd
  have hml : c.maxLocals = 3 := hml0
  have hown : s.vm.findClass "com/example/kern_tablet/kerntablet/storage/ColumnTally" = some m.cls := (findClass_of_methodNamed Bd.named : s.vm.findClass (⟨"com/example/kern_tablet/kerntablet/storage/ColumnTally", "add", "(J)V"⟩ : MethodName).cls = some m.cls)
  have hnm := (name_of_methodNamed Bd.named Bd.method).1
  have X0 : Stand p l e own_R3 s m #[(.ref a1), (.long q2)] below meth c s₁ [] 0 0 := Stand.of_body Bd
  have e0 : s₁.heap = h0 := by rw [← hh, Bd.state]; rfl
  have Nf := Fr.nil n0
  have Zs := Z0
  have K : Keep h0 h0 [a1] := Keep.refl _ _
  show own_Fin p e below s (own_Q3 Z a1 q2 w_values w_plainBytes w_largest w_laidOut w_added w_addedPlainBytes h0 n0) 0 0 s₁ (entryFrame m #[(.ref a1), (.long q2)] 3)
  rw [own_ef_3 m a1 q2]
  show own_Fin _ _ _ _ _ _ _ _ (mkF m 0 #[.val (.ref a1), .val (.long q2), .second] [])
  refine own_step (fun t k => XS.aloadN X0.here hx rfl (hb hby d3_0) rfl rfl k) ?_
  show own_Fin _ _ _ _ _ _ _ _ (mkF m 1 #[.val (.ref a1), .val (.long q2), .second] [(.ref a1)])
  refine own_step (fun t k => XS.dup X0.here hx rfl (hb hby d3_1) rfl rfl k) ?_
  show own_Fin _ _ _ _ _ _ _ _ (mkF m 2 #[.val (.ref a1), .val (.long q2), .second] [(.ref a1), (.ref a1)])
  obtain ⟨T1, X1, e1, st1⟩ := getF X0 hx hZ hown (host := "") (Or.inl (hw _ (List.mem_of_getElem? (i := 17) rfl))) Via.refl e0 F_values_a1 (g := (mkF m 2 #[.val (.ref a1), .val (.long q2), .second] [(.ref a1), (.ref a1)])) rfl rfl (hb hby d3_2)
  refine own_step st1 ?_
  show own_Fin _ _ _ _ _ _ _ _ (mkF m 5 #[.val (.ref a1), .val (.long q2), .second] [(.int w_values), (.ref a1)])
  refine own_step (fun t k => XS.iconst X1.here hx rfl (hb hby d3_5) k) ?_
  show own_Fin _ _ _ _ _ _ _ _ (mkF m 6 #[.val (.ref a1), .val (.long q2), .second] [(.int (1 : Int32)), (.int w_values), (.ref a1)])
  refine own_step (fun t k => XS.iadd X1.here hx rfl (hb hby d3_6) rfl k) ?_
  show own_Fin _ _ _ _ _ _ _ _ (mkF m 7 #[.val (.ref a1), .val (.long q2), .second] [(.int (w_values + (1 : Int32))), (.ref a1)])
  obtain ⟨T2, h2, X2, e2, W2, st2⟩ := putF X1 hx hZ hown (host := "") (Or.inl (hw _ (List.mem_of_getElem? (i := 17) rfl))) Via.refl e1 F_values_a1 E_a1 (Or.inl (hw _ (List.mem_of_getElem? (i := 18) rfl))) (hw _ (List.mem_of_getElem? (i := 1) rfl)) (ty := .int) (by decide) rfl rfl (g := (mkF m 7 #[.val (.ref a1), .val (.long q2), .second] [(.int (w_values + (1 : Int32))), (.ref a1)])) rfl rfl (hb hby d3_7)
  refine own_step st2 ?_
  replace E_a1 := E_a1.wr W2
  replace F_values_a1 := F_values_a1.same W2
  replace F_plainBytes_a1 := F_plainBytes_a1.other W2 (Or.inr (slot_ne (Or.inl (hw _ (List.mem_of_getElem? (i := 20) rfl))) (Or.inl (hw _ (List.mem_of_getElem? (i := 18) rfl))) (by decide) (t := .long) (t' := .int) (by decide) (by decide)))
  replace F_largest_a1 := F_largest_a1.other W2 (Or.inr (slot_ne (Or.inl (hw _ (List.mem_of_getElem? (i := 22) rfl))) (Or.inl (hw _ (List.mem_of_getElem? (i := 18) rfl))) (by decide) (t := .long) (t' := .int) (by decide) (by decide)))
  replace F_laidOut_a1 := F_laidOut_a1.other W2 (Or.inr (slot_ne (Or.inl (hw _ (List.mem_of_getElem? (i := 11) rfl))) (Or.inl (hw _ (List.mem_of_getElem? (i := 18) rfl))) (by decide) (t := .long) (t' := .int) (by decide) (by decide)))
  replace F_added_a1 := F_added_a1.other W2 (Or.inr (slot_ne (Or.inl (hw _ (List.mem_of_getElem? (i := 28) rfl))) (Or.inl (hw _ (List.mem_of_getElem? (i := 18) rfl))) (by decide) (t := .long) (t' := .int) (by decide) (by decide)))
  replace F_addedPlainBytes_a1 := F_addedPlainBytes_a1.other W2 (Or.inr (slot_ne (Or.inl (hw _ (List.mem_of_getElem? (i := 30) rfl))) (Or.inl (hw _ (List.mem_of_getElem? (i := 18) rfl))) (by decide) (t := .long) (t' := .int) (by decide) (by decide)))
  replace Zs : n0 ≤ h2.size := by rw [W2.size]; exact Zs
  replace K := K.wr W2 (Or.inl (by simp))
  replace Nf := Fr.snoc X2 Nf g_a1
  show own_Fin _ _ _ _ _ _ _ _ (mkF m 10 #[.val (.ref a1), .val (.long q2), .second] [])
  refine own_step (fun t k => XS.aloadN X2.here hx rfl (hb hby d3_10) rfl rfl k) ?_
  show own_Fin _ _ _ _ _ _ _ _ (mkF m 11 #[.val (.ref a1), .val (.long q2), .second] [(.ref a1)])
  refine own_step (fun t k => XS.dup X2.here hx rfl (hb hby d3_11) rfl rfl k) ?_
  show own_Fin _ _ _ _ _ _ _ _ (mkF m 12 #[.val (.ref a1), .val (.long q2), .second] [(.ref a1), (.ref a1)])
  obtain ⟨T3, X3, e3, st3⟩ := getF X2 hx hZ hown (host := "") (Or.inl (hw _ (List.mem_of_getElem? (i := 19) rfl))) Via.refl e2 F_plainBytes_a1 (g := (mkF m 12 #[.val (.ref a1), .val (.long q2), .second] [(.ref a1), (.ref a1)])) rfl rfl (hb hby d3_12)
  refine own_step st3 ?_
  show own_Fin _ _ _ _ _ _ _ _ (mkF m 15 #[.val (.ref a1), .val (.long q2), .second] [(.long w_plainBytes), (.ref a1)])
  refine own_step (fun t k => XS.lloadN X3.here hx rfl (hb hby d3_15) rfl k) ?_
  show own_Fin _ _ _ _ _ _ _ _ (mkF m 16 #[.val (.ref a1), .val (.long q2), .second] [(.long q2), (.long w_plainBytes), (.ref a1)])
  refine own_step (fun t k => XS.ladd X3.here hx rfl (hb hby d3_16) rfl k) ?_
  show own_Fin _ _ _ _ _ _ _ _ (mkF m 17 #[.val (.ref a1), .val (.long q2), .second] [(.long (w_plainBytes + q2)), (.ref a1)])
  obtain ⟨T4, h4, X4, e4, W4, st4⟩ := putF X3 hx hZ hown (host := "") (Or.inl (hw _ (List.mem_of_getElem? (i := 19) rfl))) Via.refl e3 F_plainBytes_a1 E_a1 (Or.inl (hw _ (List.mem_of_getElem? (i := 20) rfl))) (hw _ (List.mem_of_getElem? (i := 1) rfl)) (ty := .long) (by decide) rfl rfl (g := (mkF m 17 #[.val (.ref a1), .val (.long q2), .second] [(.long (w_plainBytes + q2)), (.ref a1)])) rfl rfl (hb hby d3_17)
  refine own_step st4 ?_
  replace E_a1 := E_a1.wr W4
  replace F_values_a1 := F_values_a1.other W4 (Or.inr (slot_ne (Or.inl (hw _ (List.mem_of_getElem? (i := 18) rfl))) (Or.inl (hw _ (List.mem_of_getElem? (i := 20) rfl))) (by decide) (t := .int) (t' := .long) (by decide) (by decide)))
  replace F_plainBytes_a1 := F_plainBytes_a1.same W4
  replace F_largest_a1 := F_largest_a1.other W4 (Or.inr (slot_ne (Or.inl (hw _ (List.mem_of_getElem? (i := 22) rfl))) (Or.inl (hw _ (List.mem_of_getElem? (i := 20) rfl))) (by decide) (t := .long) (t' := .long) (by decide) (by decide)))
  replace F_laidOut_a1 := F_laidOut_a1.other W4 (Or.inr (slot_ne (Or.inl (hw _ (List.mem_of_getElem? (i := 11) rfl))) (Or.inl (hw _ (List.mem_of_getElem? (i := 20) rfl))) (by decide) (t := .long) (t' := .long) (by decide) (by decide)))
  replace F_added_a1 := F_added_a1.other W4 (Or.inr (slot_ne (Or.inl (hw _ (List.mem_of_getElem? (i := 28) rfl))) (Or.inl (hw _ (List.mem_of_getElem? (i := 20) rfl))) (by decide) (t := .long) (t' := .long) (by decide) (by decide)))
  replace F_addedPlainBytes_a1 := F_addedPlainBytes_a1.other W4 (Or.inr (slot_ne (Or.inl (hw _ (List.mem_of_getElem? (i := 30) rfl))) (Or.inl (hw _ (List.mem_of_getElem? (i := 20) rfl))) (by decide) (t := .long) (t' := .long) (by decide) (by decide)))
  replace Zs : n0 ≤ h4.size := by rw [W4.size]; exact Zs
  replace K := K.wr W4 (Or.inl (by simp))
  replace Nf := Fr.snoc X4 Nf g_a1
  show own_Fin _ _ _ _ _ _ _ _ (mkF m 20 #[.val (.ref a1), .val (.long q2), .second] [])
  refine own_step (fun t k => XS.aloadN X4.here hx rfl (hb hby d3_20) rfl rfl k) ?_
  show own_Fin _ _ _ _ _ _ _ _ (mkF m 21 #[.val (.ref a1), .val (.long q2), .second] [(.ref a1)])
  refine own_step (fun t k => XS.aloadN X4.here hx rfl (hb hby d3_21) rfl rfl k) ?_
  show own_Fin _ _ _ _ _ _ _ _ (mkF m 22 #[.val (.ref a1), .val (.long q2), .second] [(.ref a1), (.ref a1)])
  obtain ⟨T5, X5, e5, st5⟩ := getF X4 hx hZ hown (host := "") (Or.inl (hw _ (List.mem_of_getElem? (i := 21) rfl))) Via.refl e4 F_largest_a1 (g := (mkF m 22 #[.val (.ref a1), .val (.long q2), .second] [(.ref a1), (.ref a1)])) rfl rfl (hb hby d3_22)
  refine own_step st5 ?_
  show own_Fin _ _ _ _ _ _ _ _ (mkF m 25 #[.val (.ref a1), .val (.long q2), .second] [(.long w_largest), (.ref a1)])
  refine own_step (fun t k => XS.lloadN X5.here hx rfl (hb hby d3_25) rfl k) ?_
  show own_Fin _ _ _ _ _ _ _ _ (mkF m 26 #[.val (.ref a1), .val (.long q2), .second] [(.long q2), (.long w_largest), (.ref a1)])
  obtain ⟨_, _, ⟨T6, L6, k6, n6⟩, -, X6, ⟨Lc6, hQ6, l6, y6, z6⟩, st6⟩ := Jvm.LawKit.callS X5 hx (y := (⟨"java/lang/Math", "max", "(JJ)J"⟩ : MethodName)) hown (mvT hZ (hw _ (List.mem_of_getElem? (i := 23) rfl))) (mvT hZ (hw _ (List.mem_of_getElem? (i := 24) rfl))) (mvT hZ (hw _ (List.mem_of_getElem? (i := 25) rfl))) (mvT hZ (hw _ (List.mem_of_getElem? (i := 26) rfl))) (by decide) (backOf (W := 1) (rm1 l Z a0 hw [] w_largest q2 h4 n0 Zs) hZ (hw _ (List.mem_of_getElem? (i := 26) rfl)) (hw _ (List.mem_of_getElem? (i := 25) rfl)) (by decide) (by decide)) (g := (mkF m 26 #[.val (.ref a1), .val (.long q2), .second] [(.long q2), (.long w_largest), (.ref a1)])) rfl (by rw [hml]; rfl) (argsL := [(.long w_largest), (.long q2)]) (rest := [(.ref a1)]) (lenOf own_pd_0 rfl) rfl (by show 2 * 0 + _ ≤ _; exact Nat.le_of_eq rfl) (hb hby d3_26) (fun _ _ => ⟨rfl, e5, (by decide : 0 + 0 ≤ _), (by decide : 0 + 0 ≤ _)⟩)
  dsimp only [Pt.U, Pt.locs, Pt.cells, Pt.slots] at X6 l6 y6 z6 st6 hQ6
  subst l6 y6 z6
  obtain ⟨rfl, Nq6, hh6⟩ := hQ6
  replace Nf := Fr.app Nf Nq6
  refine own_step st6 ?_
  show own_Fin _ _ _ _ _ _ _ _ (mkF m 29 #[.val (.ref a1), .val (.long q2), .second] [(.long (own_max w_largest q2)), (.ref a1)])
  obtain ⟨T7, h7, X7, e7, W7, st7⟩ := putF X6 hx hZ hown (host := "") (Or.inl (hw _ (List.mem_of_getElem? (i := 21) rfl))) Via.refl hh6 F_largest_a1 E_a1 (Or.inl (hw _ (List.mem_of_getElem? (i := 22) rfl))) (hw _ (List.mem_of_getElem? (i := 1) rfl)) (ty := .long) (by decide) rfl rfl (g := (mkF m 29 #[.val (.ref a1), .val (.long q2), .second] [(.long (own_max w_largest q2)), (.ref a1)])) rfl rfl (hb hby d3_29)
  refine own_step st7 ?_
  replace E_a1 := E_a1.wr W7
  replace F_values_a1 := F_values_a1.other W7 (Or.inr (slot_ne (Or.inl (hw _ (List.mem_of_getElem? (i := 18) rfl))) (Or.inl (hw _ (List.mem_of_getElem? (i := 22) rfl))) (by decide) (t := .int) (t' := .long) (by decide) (by decide)))
  replace F_plainBytes_a1 := F_plainBytes_a1.other W7 (Or.inr (slot_ne (Or.inl (hw _ (List.mem_of_getElem? (i := 20) rfl))) (Or.inl (hw _ (List.mem_of_getElem? (i := 22) rfl))) (by decide) (t := .long) (t' := .long) (by decide) (by decide)))
  replace F_largest_a1 := F_largest_a1.same W7
  replace F_laidOut_a1 := F_laidOut_a1.other W7 (Or.inr (slot_ne (Or.inl (hw _ (List.mem_of_getElem? (i := 11) rfl))) (Or.inl (hw _ (List.mem_of_getElem? (i := 22) rfl))) (by decide) (t := .long) (t' := .long) (by decide) (by decide)))
  replace F_added_a1 := F_added_a1.other W7 (Or.inr (slot_ne (Or.inl (hw _ (List.mem_of_getElem? (i := 28) rfl))) (Or.inl (hw _ (List.mem_of_getElem? (i := 22) rfl))) (by decide) (t := .long) (t' := .long) (by decide) (by decide)))
  replace F_addedPlainBytes_a1 := F_addedPlainBytes_a1.other W7 (Or.inr (slot_ne (Or.inl (hw _ (List.mem_of_getElem? (i := 30) rfl))) (Or.inl (hw _ (List.mem_of_getElem? (i := 22) rfl))) (by decide) (t := .long) (t' := .long) (by decide) (by decide)))
  replace Zs : n0 ≤ h7.size := by rw [W7.size]; exact Zs
  replace K := K.wr W7 (Or.inl (by simp))
  replace Nf := Fr.snoc X7 Nf g_a1
  show own_Fin _ _ _ _ _ _ _ _ (mkF m 32 #[.val (.ref a1), .val (.long q2), .second] [])
  refine own_step (fun t k => XS.aloadN X7.here hx rfl (hb hby d3_32) rfl rfl k) ?_
  show own_Fin _ _ _ _ _ _ _ _ (mkF m 33 #[.val (.ref a1), .val (.long q2), .second] [(.ref a1)])
  refine own_step (fun t k => XS.dup X7.here hx rfl (hb hby d3_33) rfl rfl k) ?_
  show own_Fin _ _ _ _ _ _ _ _ (mkF m 34 #[.val (.ref a1), .val (.long q2), .second] [(.ref a1), (.ref a1)])
  obtain ⟨T8, X8, e8, st8⟩ := getF X7 hx hZ hown (host := "") (Or.inl (hw _ (List.mem_of_getElem? (i := 27) rfl))) Via.refl e7 F_added_a1 (g := (mkF m 34 #[.val (.ref a1), .val (.long q2), .second] [(.ref a1), (.ref a1)])) rfl rfl (hb hby d3_34)
  refine own_step st8 ?_
  show own_Fin _ _ _ _ _ _ _ _ (mkF m 37 #[.val (.ref a1), .val (.long q2), .second] [(.long w_added), (.ref a1)])
  refine own_step (fun t k => XS.lconst X8.here hx rfl (hb hby d3_37) k) ?_
  show own_Fin _ _ _ _ _ _ _ _ (mkF m 38 #[.val (.ref a1), .val (.long q2), .second] [(.long (1 : Int64)), (.long w_added), (.ref a1)])
  refine own_step (fun t k => XS.ladd X8.here hx rfl (hb hby d3_38) rfl k) ?_
  show own_Fin _ _ _ _ _ _ _ _ (mkF m 39 #[.val (.ref a1), .val (.long q2), .second] [(.long (w_added + (1 : Int64))), (.ref a1)])
  obtain ⟨T9, h9, X9, e9, W9, st9⟩ := putF X8 hx hZ hown (host := "") (Or.inl (hw _ (List.mem_of_getElem? (i := 27) rfl))) Via.refl e8 F_added_a1 E_a1 (Or.inl (hw _ (List.mem_of_getElem? (i := 28) rfl))) (hw _ (List.mem_of_getElem? (i := 1) rfl)) (ty := .long) (by decide) rfl rfl (g := (mkF m 39 #[.val (.ref a1), .val (.long q2), .second] [(.long (w_added + (1 : Int64))), (.ref a1)])) rfl rfl (hb hby d3_39)
  refine own_step st9 ?_
  replace E_a1 := E_a1.wr W9
  replace F_values_a1 := F_values_a1.other W9 (Or.inr (slot_ne (Or.inl (hw _ (List.mem_of_getElem? (i := 18) rfl))) (Or.inl (hw _ (List.mem_of_getElem? (i := 28) rfl))) (by decide) (t := .int) (t' := .long) (by decide) (by decide)))
  replace F_plainBytes_a1 := F_plainBytes_a1.other W9 (Or.inr (slot_ne (Or.inl (hw _ (List.mem_of_getElem? (i := 20) rfl))) (Or.inl (hw _ (List.mem_of_getElem? (i := 28) rfl))) (by decide) (t := .long) (t' := .long) (by decide) (by decide)))
  replace F_largest_a1 := F_largest_a1.other W9 (Or.inr (slot_ne (Or.inl (hw _ (List.mem_of_getElem? (i := 22) rfl))) (Or.inl (hw _ (List.mem_of_getElem? (i := 28) rfl))) (by decide) (t := .long) (t' := .long) (by decide) (by decide)))
  replace F_laidOut_a1 := F_laidOut_a1.other W9 (Or.inr (slot_ne (Or.inl (hw _ (List.mem_of_getElem? (i := 11) rfl))) (Or.inl (hw _ (List.mem_of_getElem? (i := 28) rfl))) (by decide) (t := .long) (t' := .long) (by decide) (by decide)))
  replace F_added_a1 := F_added_a1.same W9
  replace F_addedPlainBytes_a1 := F_addedPlainBytes_a1.other W9 (Or.inr (slot_ne (Or.inl (hw _ (List.mem_of_getElem? (i := 30) rfl))) (Or.inl (hw _ (List.mem_of_getElem? (i := 28) rfl))) (by decide) (t := .long) (t' := .long) (by decide) (by decide)))
  replace Zs : n0 ≤ h9.size := by rw [W9.size]; exact Zs
  replace K := K.wr W9 (Or.inl (by simp))
  replace Nf := Fr.snoc X9 Nf g_a1
  show own_Fin _ _ _ _ _ _ _ _ (mkF m 42 #[.val (.ref a1), .val (.long q2), .second] [])
  refine own_step (fun t k => XS.aloadN X9.here hx rfl (hb hby d3_42) rfl rfl k) ?_
  show own_Fin _ _ _ _ _ _ _ _ (mkF m 43 #[.val (.ref a1), .val (.long q2), .second] [(.ref a1)])
  refine own_step (fun t k => XS.dup X9.here hx rfl (hb hby d3_43) rfl rfl k) ?_
  show own_Fin _ _ _ _ _ _ _ _ (mkF m 44 #[.val (.ref a1), .val (.long q2), .second] [(.ref a1), (.ref a1)])
  obtain ⟨T10, X10, e10, st10⟩ := getF X9 hx hZ hown (host := "") (Or.inl (hw _ (List.mem_of_getElem? (i := 29) rfl))) Via.refl e9 F_addedPlainBytes_a1 (g := (mkF m 44 #[.val (.ref a1), .val (.long q2), .second] [(.ref a1), (.ref a1)])) rfl rfl (hb hby d3_44)
  refine own_step st10 ?_
  show own_Fin _ _ _ _ _ _ _ _ (mkF m 47 #[.val (.ref a1), .val (.long q2), .second] [(.long w_addedPlainBytes), (.ref a1)])
  refine own_step (fun t k => XS.lloadN X10.here hx rfl (hb hby d3_47) rfl k) ?_
  show own_Fin _ _ _ _ _ _ _ _ (mkF m 48 #[.val (.ref a1), .val (.long q2), .second] [(.long q2), (.long w_addedPlainBytes), (.ref a1)])
  refine own_step (fun t k => XS.ladd X10.here hx rfl (hb hby d3_48) rfl k) ?_
  show own_Fin _ _ _ _ _ _ _ _ (mkF m 49 #[.val (.ref a1), .val (.long q2), .second] [(.long (w_addedPlainBytes + q2)), (.ref a1)])
  obtain ⟨T11, h11, X11, e11, W11, st11⟩ := putF X10 hx hZ hown (host := "") (Or.inl (hw _ (List.mem_of_getElem? (i := 29) rfl))) Via.refl e10 F_addedPlainBytes_a1 E_a1 (Or.inl (hw _ (List.mem_of_getElem? (i := 30) rfl))) (hw _ (List.mem_of_getElem? (i := 1) rfl)) (ty := .long) (by decide) rfl rfl (g := (mkF m 49 #[.val (.ref a1), .val (.long q2), .second] [(.long (w_addedPlainBytes + q2)), (.ref a1)])) rfl rfl (hb hby d3_49)
  refine own_step st11 ?_
  replace E_a1 := E_a1.wr W11
  replace F_values_a1 := F_values_a1.other W11 (Or.inr (slot_ne (Or.inl (hw _ (List.mem_of_getElem? (i := 18) rfl))) (Or.inl (hw _ (List.mem_of_getElem? (i := 30) rfl))) (by decide) (t := .int) (t' := .long) (by decide) (by decide)))
  replace F_plainBytes_a1 := F_plainBytes_a1.other W11 (Or.inr (slot_ne (Or.inl (hw _ (List.mem_of_getElem? (i := 20) rfl))) (Or.inl (hw _ (List.mem_of_getElem? (i := 30) rfl))) (by decide) (t := .long) (t' := .long) (by decide) (by decide)))
  replace F_largest_a1 := F_largest_a1.other W11 (Or.inr (slot_ne (Or.inl (hw _ (List.mem_of_getElem? (i := 22) rfl))) (Or.inl (hw _ (List.mem_of_getElem? (i := 30) rfl))) (by decide) (t := .long) (t' := .long) (by decide) (by decide)))
  replace F_laidOut_a1 := F_laidOut_a1.other W11 (Or.inr (slot_ne (Or.inl (hw _ (List.mem_of_getElem? (i := 11) rfl))) (Or.inl (hw _ (List.mem_of_getElem? (i := 30) rfl))) (by decide) (t := .long) (t' := .long) (by decide) (by decide)))
  replace F_added_a1 := F_added_a1.other W11 (Or.inr (slot_ne (Or.inl (hw _ (List.mem_of_getElem? (i := 28) rfl))) (Or.inl (hw _ (List.mem_of_getElem? (i := 30) rfl))) (by decide) (t := .long) (t' := .long) (by decide) (by decide)))
  replace F_addedPlainBytes_a1 := F_addedPlainBytes_a1.same W11
  replace Zs : n0 ≤ h11.size := by rw [W11.size]; exact Zs
  replace K := K.wr W11 (Or.inl (by simp))
  replace Nf := Fr.snoc X11 Nf g_a1
  show own_Fin _ _ _ _ _ _ _ _ (mkF m 52 #[.val (.ref a1), .val (.long q2), .second] [])
  refine own_retV X11 hx hlk Bd.returns (hb hby d3_52) (by decide) (by decide) e11 ?_
  exact ⟨rfl, Nf, K, E_a1, F_values_a1, F_plainBytes_a1, F_largest_a1, F_laidOut_a1, F_added_a1, F_addedPlainBytes_a1⟩
theorem d4_0 : decode prog_32_method_3_code 0 = .ok (.aload_n 0, 1) := by decide +kernel
theorem d4_1 : decode prog_32_method_3_code 1 = .ok (.dup, 1) := by decide +kernel
theorem d4_2 : decode prog_32_method_3_code 2 = .ok (.getfield 15, 3) := by decide +kernel
theorem d4_5 : decode prog_32_method_3_code 5 = .ok (.iconst 1, 1) := by decide +kernel
theorem d4_6 : decode prog_32_method_3_code 6 = .ok (.isub, 1) := by decide +kernel
theorem d4_7 : decode prog_32_method_3_code 7 = .ok (.putfield 15, 3) := by decide +kernel
theorem d4_10 : decode prog_32_method_3_code 10 = .ok (.aload_n 0, 1) := by decide +kernel
theorem d4_11 : decode prog_32_method_3_code 11 = .ok (.dup, 1) := by decide +kernel
theorem d4_12 : decode prog_32_method_3_code 12 = .ok (.getfield 19, 3) := by decide +kernel
theorem d4_15 : decode prog_32_method_3_code 15 = .ok (.lload_n 1, 1) := by decide +kernel
theorem d4_16 : decode prog_32_method_3_code 16 = .ok (.lsub, 1) := by decide +kernel
theorem d4_17 : decode prog_32_method_3_code 17 = .ok (.putfield 19, 3) := by decide +kernel
theorem d4_20 : decode prog_32_method_3_code 20 = .ok (.return_, 1) := by decide +kernel
theorem own_pn_4 : plainName "com/example/kern_tablet/kerntablet/storage/ColumnTally" = true := by first | (simp [plainName, overriddenIn]; done) | decide +kernel
theorem own_ef_4 (m : MethodId) (a1 : Addr) (q2 : Int64) : entryFrame m #[(.ref a1), (.long q2)] 3 = mkF m 0 #[.val (.ref a1), .val (.long q2), .second] [] := by first | (simp [entryFrame, mkF, argsToLocals, Value.category]; done) | rfl
abbrev own_R4 : Room := { frames := 0, cells := 0, slots := 0, locals := 0 }
def own_Q4 (Z : State) (a1 : Addr) (q2 : Int64) (w_values : Int32) (w_plainBytes : Int64) (w_largest : Int64) (w_laidOut : Int64) (w_added : Int64) (w_addedPlainBytes : Int64) (h0 : Heap) (n0 : Nat) (v : Option Value) (h : Heap) (L : List Loc) : Prop := v = none ∧ Fr n0 L ∧ Keep h0 h [a1] ∧ Exa Z h a1 "com/example/kern_tablet/kerntablet/storage/ColumnTally" ∧ Fld Z h a1 "com/example/kern_tablet/kerntablet/storage/ColumnTally" "values" "I" (.int (w_values - (1 : Int32))) ∧ Fld Z h a1 "com/example/kern_tablet/kerntablet/storage/ColumnTally" "plainBytes" "J" (.long (w_plainBytes - q2)) ∧ Fld Z h a1 "com/example/kern_tablet/kerntablet/storage/ColumnTally" "largest" "J" (.long w_largest) ∧ Fld Z h a1 "com/example/kern_tablet/kerntablet/storage/ColumnTally" "laidOut" "J" (.long w_laidOut) ∧ Fld Z h a1 "com/example/kern_tablet/kerntablet/storage/ColumnTally" "added" "J" (.long w_added) ∧ Fld Z h a1 "com/example/kern_tablet/kerntablet/storage/ColumnTally" "addedPlainBytes" "J" (.long w_addedPlainBytes)
set_option maxRecDepth 65536 in
set_option maxHeartbeats 40000000 in
theorem rm4 (l : Launch) (Z : State) (a0 : Array Value) (hw : ∀ d ∈ tables_1, d.before a0 Z = true) (ws : List Jvm.Cond) (a1 : Addr) (q2 : Int64) (w_values : Int32) (w_plainBytes : Int64) (w_largest : Int64) (w_laidOut : Int64) (w_added : Int64) (w_addedPlainBytes : Int64) (h0 : Heap) (n0 : Nat) (Z0 : n0 ≤ h0.size) (E_a1 : Exa Z h0 a1 "com/example/kern_tablet/kerntablet/storage/ColumnTally") (F_values_a1 : Fld Z h0 a1 "com/example/kern_tablet/kerntablet/storage/ColumnTally" "values" "I" (.int w_values)) (F_plainBytes_a1 : Fld Z h0 a1 "com/example/kern_tablet/kerntablet/storage/ColumnTally" "plainBytes" "J" (.long w_plainBytes)) (F_largest_a1 : Fld Z h0 a1 "com/example/kern_tablet/kerntablet/storage/ColumnTally" "largest" "J" (.long w_largest)) (F_laidOut_a1 : Fld Z h0 a1 "com/example/kern_tablet/kerntablet/storage/ColumnTally" "laidOut" "J" (.long w_laidOut)) (F_added_a1 : Fld Z h0 a1 "com/example/kern_tablet/kerntablet/storage/ColumnTally" "added" "J" (.long w_added)) (F_addedPlainBytes_a1 : Fld Z h0 a1 "com/example/kern_tablet/kerntablet/storage/ColumnTally" "addedPlainBytes" "J" (.long w_addedPlainBytes)) (g_a1 : n0 ≤ a1) :
    MetFree l (⟨"com/example/kern_tablet/kerntablet/storage/ColumnTally", "remove", "(J)V"⟩ : MethodName) (head1 (Jvm.Cond.code (⟨"com/example/kern_tablet/kerntablet/storage/ColumnTally", "remove", "(J)V"⟩ : MethodName) prog_32_method_3_code 3 none :: ws) own_R4) (fun a U => a = #[(.ref a1), (.long q2)] ∧ Z.Warmed39 U.vm ∧ U.heap = h0) (fun _ _ _ _ _ => True) (fun _ U o U' => ∃ v L, o = .returned v ∧ own_Q4 Z a1 q2 w_values w_plainBytes w_largest w_laidOut w_added w_addedPlainBytes h0 n0 v U'.heap L ∧ FrameEnd U o U' L own_R4.cells own_R4.slots) := by
  refine MetFree.of_bodySF (plainFor_of_name own_pn_4) hisR ?_
  intro p e s m args below meth c s₁ Bd hml0 hP hK
  obtain ⟨rfl, hZ, hh⟩ := hP
  have hx := Bd.exec
  have hby := Bd.bytes
  have hlk := BodyLoose.notSynchronized Bd
  have hml : c.maxLocals = 3 := hml0
  have hown : s.vm.findClass "com/example/kern_tablet/kerntablet/storage/ColumnTally" = some m.cls := (findClass_of_methodNamed Bd.named : s.vm.findClass (⟨"com/example/kern_tablet/kerntablet/storage/ColumnTally", "remove", "(J)V"⟩ : MethodName).cls = some m.cls)
  have hnm := (name_of_methodNamed Bd.named Bd.method).1
  have X0 : Stand p l e own_R4 s m #[(.ref a1), (.long q2)] below meth c s₁ [] 0 0 := Stand.of_body Bd
  have e0 : s₁.heap = h0 := by rw [← hh, Bd.state]; rfl
  have Nf := Fr.nil n0
  have Zs := Z0
  have K : Keep h0 h0 [a1] := Keep.refl _ _
  show own_Fin p e below s (own_Q4 Z a1 q2 w_values w_plainBytes w_largest w_laidOut w_added w_addedPlainBytes h0 n0) 0 0 s₁ (entryFrame m #[(.ref a1), (.long q2)] 3)
  rw [own_ef_4 m a1 q2]
  show own_Fin _ _ _ _ _ _ _ _ (mkF m 0 #[.val (.ref a1), .val (.long q2), .second] [])
  refine own_step (fun t k => XS.aloadN X0.here hx rfl (hb hby d4_0) rfl rfl k) ?_
  show own_Fin _ _ _ _ _ _ _ _ (mkF m 1 #[.val (.ref a1), .val (.long q2), .second] [(.ref a1)])
  refine own_step (fun t k => XS.dup X0.here hx rfl (hb hby d4_1) rfl rfl k) ?_
  show own_Fin _ _ _ _ _ _ _ _ (mkF m 2 #[.val (.ref a1), .val (.long q2), .second] [(.ref a1), (.ref a1)])
  obtain ⟨T1, X1, e1, st1⟩ := getF X0 hx hZ hown (host := "") (Or.inl (hw _ (List.mem_of_getElem? (i := 17) rfl))) Via.refl e0 F_values_a1 (g := (mkF m 2 #[.val (.ref a1), .val (.long q2), .second] [(.ref a1), (.ref a1)])) rfl rfl (hb hby d4_2)
  refine own_step st1 ?_
  show own_Fin _ _ _ _ _ _ _ _ (mkF m 5 #[.val (.ref a1), .val (.long q2), .second] [(.int w_values), (.ref a1)])
  refine own_step (fun t k => XS.iconst X1.here hx rfl (hb hby d4_5) k) ?_
  show own_Fin _ _ _ _ _ _ _ _ (mkF m 6 #[.val (.ref a1), .val (.long q2), .second] [(.int (1 : Int32)), (.int w_values), (.ref a1)])
  refine own_step (fun t k => XS.isub X1.here hx rfl (hb hby d4_6) rfl k) ?_
  show own_Fin _ _ _ _ _ _ _ _ (mkF m 7 #[.val (.ref a1), .val (.long q2), .second] [(.int (w_values - (1 : Int32))), (.ref a1)])
  obtain ⟨T2, h2, X2, e2, W2, st2⟩ := putF X1 hx hZ hown (host := "") (Or.inl (hw _ (List.mem_of_getElem? (i := 17) rfl))) Via.refl e1 F_values_a1 E_a1 (Or.inl (hw _ (List.mem_of_getElem? (i := 18) rfl))) (hw _ (List.mem_of_getElem? (i := 1) rfl)) (ty := .int) (by decide) rfl rfl (g := (mkF m 7 #[.val (.ref a1), .val (.long q2), .second] [(.int (w_values - (1 : Int32))), (.ref a1)])) rfl rfl (hb hby d4_7)
  refine own_step st2 ?_
  replace E_a1 := E_a1.wr W2
  replace F_values_a1 := F_values_a1.same W2
  replace F_plainBytes_a1 := F_plainBytes_a1.other W2 (Or.inr (slot_ne (Or.inl (hw _ (List.mem_of_getElem? (i := 20) rfl))) (Or.inl (hw _ (List.mem_of_getElem? (i := 18) rfl))) (by decide) (t := .long) (t' := .int) (by decide) (by decide)))
  replace F_largest_a1 := F_largest_a1.other W2 (Or.inr (slot_ne (Or.inl (hw _ (List.mem_of_getElem? (i := 22) rfl))) (Or.inl (hw _ (List.mem_of_getElem? (i := 18) rfl))) (by decide) (t := .long) (t' := .int) (by decide) (by decide)))
  replace F_laidOut_a1 := F_laidOut_a1.other W2 (Or.inr (slot_ne (Or.inl (hw _ (List.mem_of_getElem? (i := 11) rfl))) (Or.inl (hw _ (List.mem_of_getElem? (i := 18) rfl))) (by decide) (t := .long) (t' := .int) (by decide) (by decide)))
  replace F_added_a1 := F_added_a1.other W2 (Or.inr (slot_ne (Or.inl (hw _ (List.mem_of_getElem? (i := 28) rfl))) (Or.inl (hw _ (List.mem_of_getElem? (i := 18) rfl))) (by decide) (t := .long) (t' := .int) (by decide) (by decide)))
  replace F_addedPlainBytes_a1 := F_addedPlainBytes_a1.other W2 (Or.inr (slot_ne (Or.inl (hw _ (List.mem_of_getElem? (i := 30) rfl))) (Or.inl (hw _ (List.mem_of_getElem? (i := 18) rfl))) (by decide) (t := .long) (t' := .int) (by decide) (by decide)))
  replace Zs : n0 ≤ h2.size := by rw [W2.size]; exact Zs
  replace K := K.wr W2 (Or.inl (by simp))
  replace Nf := Fr.snoc X2 Nf g_a1
  show own_Fin _ _ _ _ _ _ _ _ (mkF m 10 #[.val (.ref a1), .val (.long q2), .second] [])
  refine own_step (fun t k => XS.aloadN X2.here hx rfl (hb hby d4_10) rfl rfl k) ?_
  show own_Fin _ _ _ _ _ _ _ _ (mkF m 11 #[.val (.ref a1), .val (.long q2), .second] [(.ref a1)])
  refine own_step (fun t k => XS.dup X2.here hx rfl (hb hby d4_11) rfl rfl k) ?_
  show own_Fin _ _ _ _ _ _ _ _ (mkF m 12 #[.val (.ref a1), .val (.long q2), .second] [(.ref a1), (.ref a1)])
  obtain ⟨T3, X3, e3, st3⟩ := getF X2 hx hZ hown (host := "") (Or.inl (hw _ (List.mem_of_getElem? (i := 19) rfl))) Via.refl e2 F_plainBytes_a1 (g := (mkF m 12 #[.val (.ref a1), .val (.long q2), .second] [(.ref a1), (.ref a1)])) rfl rfl (hb hby d4_12)
  refine own_step st3 ?_
  show own_Fin _ _ _ _ _ _ _ _ (mkF m 15 #[.val (.ref a1), .val (.long q2), .second] [(.long w_plainBytes), (.ref a1)])
  refine own_step (fun t k => XS.lloadN X3.here hx rfl (hb hby d4_15) rfl k) ?_
  show own_Fin _ _ _ _ _ _ _ _ (mkF m 16 #[.val (.ref a1), .val (.long q2), .second] [(.long q2), (.long w_plainBytes), (.ref a1)])
  refine own_step (fun t k => XS.lsub X3.here hx rfl (hb hby d4_16) rfl k) ?_
  show own_Fin _ _ _ _ _ _ _ _ (mkF m 17 #[.val (.ref a1), .val (.long q2), .second] [(.long (w_plainBytes - q2)), (.ref a1)])
  obtain ⟨T4, h4, X4, e4, W4, st4⟩ := putF X3 hx hZ hown (host := "") (Or.inl (hw _ (List.mem_of_getElem? (i := 19) rfl))) Via.refl e3 F_plainBytes_a1 E_a1 (Or.inl (hw _ (List.mem_of_getElem? (i := 20) rfl))) (hw _ (List.mem_of_getElem? (i := 1) rfl)) (ty := .long) (by decide) rfl rfl (g := (mkF m 17 #[.val (.ref a1), .val (.long q2), .second] [(.long (w_plainBytes - q2)), (.ref a1)])) rfl rfl (hb hby d4_17)
  refine own_step st4 ?_
  replace E_a1 := E_a1.wr W4
  replace F_values_a1 := F_values_a1.other W4 (Or.inr (slot_ne (Or.inl (hw _ (List.mem_of_getElem? (i := 18) rfl))) (Or.inl (hw _ (List.mem_of_getElem? (i := 20) rfl))) (by decide) (t := .int) (t' := .long) (by decide) (by decide)))
  replace F_plainBytes_a1 := F_plainBytes_a1.same W4
  replace F_largest_a1 := F_largest_a1.other W4 (Or.inr (slot_ne (Or.inl (hw _ (List.mem_of_getElem? (i := 22) rfl))) (Or.inl (hw _ (List.mem_of_getElem? (i := 20) rfl))) (by decide) (t := .long) (t' := .long) (by decide) (by decide)))
  replace F_laidOut_a1 := F_laidOut_a1.other W4 (Or.inr (slot_ne (Or.inl (hw _ (List.mem_of_getElem? (i := 11) rfl))) (Or.inl (hw _ (List.mem_of_getElem? (i := 20) rfl))) (by decide) (t := .long) (t' := .long) (by decide) (by decide)))
  replace F_added_a1 := F_added_a1.other W4 (Or.inr (slot_ne (Or.inl (hw _ (List.mem_of_getElem? (i := 28) rfl))) (Or.inl (hw _ (List.mem_of_getElem? (i := 20) rfl))) (by decide) (t := .long) (t' := .long) (by decide) (by decide)))
  replace F_addedPlainBytes_a1 := F_addedPlainBytes_a1.other W4 (Or.inr (slot_ne (Or.inl (hw _ (List.mem_of_getElem? (i := 30) rfl))) (Or.inl (hw _ (List.mem_of_getElem? (i := 20) rfl))) (by decide) (t := .long) (t' := .long) (by decide) (by decide)))
  replace Zs : n0 ≤ h4.size := by rw [W4.size]; exact Zs
  replace K := K.wr W4 (Or.inl (by simp))
  replace Nf := Fr.snoc X4 Nf g_a1
  show own_Fin _ _ _ _ _ _ _ _ (mkF m 20 #[.val (.ref a1), .val (.long q2), .second] [])
  refine own_retV X4 hx hlk Bd.returns (hb hby d4_20) (by decide) (by decide) e4 ?_
  exact ⟨rfl, Nf, K, E_a1, F_values_a1, F_plainBytes_a1, F_largest_a1, F_laidOut_a1, F_added_a1, F_addedPlainBytes_a1⟩
theorem d5_0 : decode prog_32_method_4_code 0 = .ok (.aload_n 0, 1) := by decide +kernel
theorem d5_1 : decode prog_32_method_4_code 1 = .ok (.lload_n 1, 1) := by decide +kernel
theorem d5_2 : decode prog_32_method_4_code 2 = .ok (.putfield 11, 3) := by decide +kernel
theorem d5_5 : decode prog_32_method_4_code 5 = .ok (.aload_n 0, 1) := by decide +kernel
theorem d5_6 : decode prog_32_method_4_code 6 = .ok (.lconst 0, 1) := by decide +kernel
theorem d5_7 : decode prog_32_method_4_code 7 = .ok (.putfield 31, 3) := by decide +kernel
theorem d5_10 : decode prog_32_method_4_code 10 = .ok (.aload_n 0, 1) := by decide +kernel
theorem d5_11 : decode prog_32_method_4_code 11 = .ok (.lconst 0, 1) := by decide +kernel
theorem d5_12 : decode prog_32_method_4_code 12 = .ok (.putfield 34, 3) := by decide +kernel
theorem d5_15 : decode prog_32_method_4_code 15 = .ok (.return_, 1) := by decide +kernel
theorem own_pn_5 : plainName "com/example/kern_tablet/kerntablet/storage/ColumnTally" = true := by first | (simp [plainName, overriddenIn]; done) | decide +kernel
theorem own_ef_5 (m : MethodId) (a1 : Addr) (q2 : Int64) : entryFrame m #[(.ref a1), (.long q2)] 3 = mkF m 0 #[.val (.ref a1), .val (.long q2), .second] [] := by first | (simp [entryFrame, mkF, argsToLocals, Value.category]; done) | rfl
abbrev own_R5 : Room := { frames := 0, cells := 0, slots := 0, locals := 0 }
def own_Q5 (Z : State) (a1 : Addr) (q2 : Int64) (w_values : Int32) (w_plainBytes : Int64) (w_largest : Int64) (w_laidOut : Int64) (w_added : Int64) (w_addedPlainBytes : Int64) (h0 : Heap) (n0 : Nat) (v : Option Value) (h : Heap) (L : List Loc) : Prop := v = none ∧ Fr n0 L ∧ Keep h0 h [a1] ∧ Exa Z h a1 "com/example/kern_tablet/kerntablet/storage/ColumnTally" ∧ Fld Z h a1 "com/example/kern_tablet/kerntablet/storage/ColumnTally" "values" "I" (.int w_values) ∧ Fld Z h a1 "com/example/kern_tablet/kerntablet/storage/ColumnTally" "plainBytes" "J" (.long w_plainBytes) ∧ Fld Z h a1 "com/example/kern_tablet/kerntablet/storage/ColumnTally" "largest" "J" (.long w_largest) ∧ Fld Z h a1 "com/example/kern_tablet/kerntablet/storage/ColumnTally" "laidOut" "J" (.long q2) ∧ Fld Z h a1 "com/example/kern_tablet/kerntablet/storage/ColumnTally" "added" "J" (.long (0 : Int64)) ∧ Fld Z h a1 "com/example/kern_tablet/kerntablet/storage/ColumnTally" "addedPlainBytes" "J" (.long (0 : Int64))
set_option maxRecDepth 65536 in
set_option maxHeartbeats 40000000 in
theorem rm5 (l : Launch) (Z : State) (a0 : Array Value) (hw : ∀ d ∈ tables_1, d.before a0 Z = true) (ws : List Jvm.Cond) (a1 : Addr) (q2 : Int64) (w_values : Int32) (w_plainBytes : Int64) (w_largest : Int64) (w_laidOut : Int64) (w_added : Int64) (w_addedPlainBytes : Int64) (h0 : Heap) (n0 : Nat) (Z0 : n0 ≤ h0.size) (E_a1 : Exa Z h0 a1 "com/example/kern_tablet/kerntablet/storage/ColumnTally") (F_values_a1 : Fld Z h0 a1 "com/example/kern_tablet/kerntablet/storage/ColumnTally" "values" "I" (.int w_values)) (F_plainBytes_a1 : Fld Z h0 a1 "com/example/kern_tablet/kerntablet/storage/ColumnTally" "plainBytes" "J" (.long w_plainBytes)) (F_largest_a1 : Fld Z h0 a1 "com/example/kern_tablet/kerntablet/storage/ColumnTally" "largest" "J" (.long w_largest)) (F_laidOut_a1 : Fld Z h0 a1 "com/example/kern_tablet/kerntablet/storage/ColumnTally" "laidOut" "J" (.long w_laidOut)) (F_added_a1 : Fld Z h0 a1 "com/example/kern_tablet/kerntablet/storage/ColumnTally" "added" "J" (.long w_added)) (F_addedPlainBytes_a1 : Fld Z h0 a1 "com/example/kern_tablet/kerntablet/storage/ColumnTally" "addedPlainBytes" "J" (.long w_addedPlainBytes)) (g_a1 : n0 ≤ a1) :
    MetFree l (⟨"com/example/kern_tablet/kerntablet/storage/ColumnTally", "laidOut", "(J)V"⟩ : MethodName) (head1 (Jvm.Cond.code (⟨"com/example/kern_tablet/kerntablet/storage/ColumnTally", "laidOut", "(J)V"⟩ : MethodName) prog_32_method_4_code 3 none :: ws) own_R5) (fun a U => a = #[(.ref a1), (.long q2)] ∧ Z.Warmed39 U.vm ∧ U.heap = h0) (fun _ _ _ _ _ => True) (fun _ U o U' => ∃ v L, o = .returned v ∧ own_Q5 Z a1 q2 w_values w_plainBytes w_largest w_laidOut w_added w_addedPlainBytes h0 n0 v U'.heap L ∧ FrameEnd U o U' L own_R5.cells own_R5.slots) := by
  refine MetFree.of_bodySF (plainFor_of_name own_pn_5) hisR ?_
  intro p e s m args below meth c s₁ Bd hml0 hP hK
  obtain ⟨rfl, hZ, hh⟩ := hP
  have hx := Bd.exec
  have hby := Bd.bytes
  have hlk := BodyLoose.notSynchronized Bd
  have hml : c.maxLocals = 3 := hml0
  have hown : s.vm.findClass "com/example/kern_tablet/kerntablet/storage/ColumnTally" = some m.cls := (findClass_of_methodNamed Bd.named : s.vm.findClass (⟨"com/example/kern_tablet/kerntablet/storage/ColumnTally", "laidOut", "(J)V"⟩ : MethodName).cls = some m.cls)
  have hnm := (name_of_methodNamed Bd.named Bd.method).1
  have X0 : Stand p l e own_R5 s m #[(.ref a1), (.long q2)] below meth c s₁ [] 0 0 := Stand.of_body Bd
  have e0 : s₁.heap = h0 := by rw [← hh, Bd.state]; rfl
  have Nf := Fr.nil n0
  have Zs := Z0
  have K : Keep h0 h0 [a1] := Keep.refl _ _
  show own_Fin p e below s (own_Q5 Z a1 q2 w_values w_plainBytes w_largest w_laidOut w_added w_addedPlainBytes h0 n0) 0 0 s₁ (entryFrame m #[(.ref a1), (.long q2)] 3)
  rw [own_ef_5 m a1 q2]
  show own_Fin _ _ _ _ _ _ _ _ (mkF m 0 #[.val (.ref a1), .val (.long q2), .second] [])
  refine own_step (fun t k => XS.aloadN X0.here hx rfl (hb hby d5_0) rfl rfl k) ?_
  show own_Fin _ _ _ _ _ _ _ _ (mkF m 1 #[.val (.ref a1), .val (.long q2), .second] [(.ref a1)])
  refine own_step (fun t k => XS.lloadN X0.here hx rfl (hb hby d5_1) rfl k) ?_
  show own_Fin _ _ _ _ _ _ _ _ (mkF m 2 #[.val (.ref a1), .val (.long q2), .second] [(.long q2), (.ref a1)])
  obtain ⟨T1, h1, X1, e1, W1, st1⟩ := putF X0 hx hZ hown (host := "") (Or.inl (hw _ (List.mem_of_getElem? (i := 10) rfl))) Via.refl e0 F_laidOut_a1 E_a1 (Or.inl (hw _ (List.mem_of_getElem? (i := 11) rfl))) (hw _ (List.mem_of_getElem? (i := 1) rfl)) (ty := .long) (by decide) rfl rfl (g := (mkF m 2 #[.val (.ref a1), .val (.long q2), .second] [(.long q2), (.ref a1)])) rfl rfl (hb hby d5_2)
  refine own_step st1 ?_
  replace E_a1 := E_a1.wr W1
  replace F_values_a1 := F_values_a1.other W1 (Or.inr (slot_ne (Or.inl (hw _ (List.mem_of_getElem? (i := 18) rfl))) (Or.inl (hw _ (List.mem_of_getElem? (i := 11) rfl))) (by decide) (t := .int) (t' := .long) (by decide) (by decide)))
  replace F_plainBytes_a1 := F_plainBytes_a1.other W1 (Or.inr (slot_ne (Or.inl (hw _ (List.mem_of_getElem? (i := 20) rfl))) (Or.inl (hw _ (List.mem_of_getElem? (i := 11) rfl))) (by decide) (t := .long) (t' := .long) (by decide) (by decide)))
  replace F_largest_a1 := F_largest_a1.other W1 (Or.inr (slot_ne (Or.inl (hw _ (List.mem_of_getElem? (i := 22) rfl))) (Or.inl (hw _ (List.mem_of_getElem? (i := 11) rfl))) (by decide) (t := .long) (t' := .long) (by decide) (by decide)))
  replace F_laidOut_a1 := F_laidOut_a1.same W1
  replace F_added_a1 := F_added_a1.other W1 (Or.inr (slot_ne (Or.inl (hw _ (List.mem_of_getElem? (i := 28) rfl))) (Or.inl (hw _ (List.mem_of_getElem? (i := 11) rfl))) (by decide) (t := .long) (t' := .long) (by decide) (by decide)))
  replace F_addedPlainBytes_a1 := F_addedPlainBytes_a1.other W1 (Or.inr (slot_ne (Or.inl (hw _ (List.mem_of_getElem? (i := 30) rfl))) (Or.inl (hw _ (List.mem_of_getElem? (i := 11) rfl))) (by decide) (t := .long) (t' := .long) (by decide) (by decide)))
  replace Zs : n0 ≤ h1.size := by rw [W1.size]; exact Zs
  replace K := K.wr W1 (Or.inl (by simp))
  replace Nf := Fr.snoc X1 Nf g_a1
  show own_Fin _ _ _ _ _ _ _ _ (mkF m 5 #[.val (.ref a1), .val (.long q2), .second] [])
  refine own_step (fun t k => XS.aloadN X1.here hx rfl (hb hby d5_5) rfl rfl k) ?_
  show own_Fin _ _ _ _ _ _ _ _ (mkF m 6 #[.val (.ref a1), .val (.long q2), .second] [(.ref a1)])
  refine own_step (fun t k => XS.lconst X1.here hx rfl (hb hby d5_6) k) ?_
  show own_Fin _ _ _ _ _ _ _ _ (mkF m 7 #[.val (.ref a1), .val (.long q2), .second] [(.long (0 : Int64)), (.ref a1)])
  obtain ⟨T2, h2, X2, e2, W2, st2⟩ := putF X1 hx hZ hown (host := "") (Or.inl (hw _ (List.mem_of_getElem? (i := 27) rfl))) Via.refl e1 F_added_a1 E_a1 (Or.inl (hw _ (List.mem_of_getElem? (i := 28) rfl))) (hw _ (List.mem_of_getElem? (i := 1) rfl)) (ty := .long) (by decide) rfl rfl (g := (mkF m 7 #[.val (.ref a1), .val (.long q2), .second] [(.long (0 : Int64)), (.ref a1)])) rfl rfl (hb hby d5_7)
  refine own_step st2 ?_
  replace E_a1 := E_a1.wr W2
  replace F_values_a1 := F_values_a1.other W2 (Or.inr (slot_ne (Or.inl (hw _ (List.mem_of_getElem? (i := 18) rfl))) (Or.inl (hw _ (List.mem_of_getElem? (i := 28) rfl))) (by decide) (t := .int) (t' := .long) (by decide) (by decide)))
  replace F_plainBytes_a1 := F_plainBytes_a1.other W2 (Or.inr (slot_ne (Or.inl (hw _ (List.mem_of_getElem? (i := 20) rfl))) (Or.inl (hw _ (List.mem_of_getElem? (i := 28) rfl))) (by decide) (t := .long) (t' := .long) (by decide) (by decide)))
  replace F_largest_a1 := F_largest_a1.other W2 (Or.inr (slot_ne (Or.inl (hw _ (List.mem_of_getElem? (i := 22) rfl))) (Or.inl (hw _ (List.mem_of_getElem? (i := 28) rfl))) (by decide) (t := .long) (t' := .long) (by decide) (by decide)))
  replace F_laidOut_a1 := F_laidOut_a1.other W2 (Or.inr (slot_ne (Or.inl (hw _ (List.mem_of_getElem? (i := 11) rfl))) (Or.inl (hw _ (List.mem_of_getElem? (i := 28) rfl))) (by decide) (t := .long) (t' := .long) (by decide) (by decide)))
  replace F_added_a1 := F_added_a1.same W2
  replace F_addedPlainBytes_a1 := F_addedPlainBytes_a1.other W2 (Or.inr (slot_ne (Or.inl (hw _ (List.mem_of_getElem? (i := 30) rfl))) (Or.inl (hw _ (List.mem_of_getElem? (i := 28) rfl))) (by decide) (t := .long) (t' := .long) (by decide) (by decide)))
  replace Zs : n0 ≤ h2.size := by rw [W2.size]; exact Zs
  replace K := K.wr W2 (Or.inl (by simp))
  replace Nf := Fr.snoc X2 Nf g_a1
  show own_Fin _ _ _ _ _ _ _ _ (mkF m 10 #[.val (.ref a1), .val (.long q2), .second] [])
  refine own_step (fun t k => XS.aloadN X2.here hx rfl (hb hby d5_10) rfl rfl k) ?_
  show own_Fin _ _ _ _ _ _ _ _ (mkF m 11 #[.val (.ref a1), .val (.long q2), .second] [(.ref a1)])
  refine own_step (fun t k => XS.lconst X2.here hx rfl (hb hby d5_11) k) ?_
  show own_Fin _ _ _ _ _ _ _ _ (mkF m 12 #[.val (.ref a1), .val (.long q2), .second] [(.long (0 : Int64)), (.ref a1)])
  obtain ⟨T3, h3, X3, e3, W3, st3⟩ := putF X2 hx hZ hown (host := "") (Or.inl (hw _ (List.mem_of_getElem? (i := 29) rfl))) Via.refl e2 F_addedPlainBytes_a1 E_a1 (Or.inl (hw _ (List.mem_of_getElem? (i := 30) rfl))) (hw _ (List.mem_of_getElem? (i := 1) rfl)) (ty := .long) (by decide) rfl rfl (g := (mkF m 12 #[.val (.ref a1), .val (.long q2), .second] [(.long (0 : Int64)), (.ref a1)])) rfl rfl (hb hby d5_12)
  refine own_step st3 ?_
  replace E_a1 := E_a1.wr W3
  replace F_values_a1 := F_values_a1.other W3 (Or.inr (slot_ne (Or.inl (hw _ (List.mem_of_getElem? (i := 18) rfl))) (Or.inl (hw _ (List.mem_of_getElem? (i := 30) rfl))) (by decide) (t := .int) (t' := .long) (by decide) (by decide)))
  replace F_plainBytes_a1 := F_plainBytes_a1.other W3 (Or.inr (slot_ne (Or.inl (hw _ (List.mem_of_getElem? (i := 20) rfl))) (Or.inl (hw _ (List.mem_of_getElem? (i := 30) rfl))) (by decide) (t := .long) (t' := .long) (by decide) (by decide)))
  replace F_largest_a1 := F_largest_a1.other W3 (Or.inr (slot_ne (Or.inl (hw _ (List.mem_of_getElem? (i := 22) rfl))) (Or.inl (hw _ (List.mem_of_getElem? (i := 30) rfl))) (by decide) (t := .long) (t' := .long) (by decide) (by decide)))
  replace F_laidOut_a1 := F_laidOut_a1.other W3 (Or.inr (slot_ne (Or.inl (hw _ (List.mem_of_getElem? (i := 11) rfl))) (Or.inl (hw _ (List.mem_of_getElem? (i := 30) rfl))) (by decide) (t := .long) (t' := .long) (by decide) (by decide)))
  replace F_added_a1 := F_added_a1.other W3 (Or.inr (slot_ne (Or.inl (hw _ (List.mem_of_getElem? (i := 28) rfl))) (Or.inl (hw _ (List.mem_of_getElem? (i := 30) rfl))) (by decide) (t := .long) (t' := .long) (by decide) (by decide)))
  replace F_addedPlainBytes_a1 := F_addedPlainBytes_a1.same W3
  replace Zs : n0 ≤ h3.size := by rw [W3.size]; exact Zs
  replace K := K.wr W3 (Or.inl (by simp))
  replace Nf := Fr.snoc X3 Nf g_a1
  show own_Fin _ _ _ _ _ _ _ _ (mkF m 15 #[.val (.ref a1), .val (.long q2), .second] [])
  refine own_retV X3 hx hlk Bd.returns (hb hby d5_15) (by decide) (by decide) e3 ?_
  exact ⟨rfl, Nf, K, E_a1, F_values_a1, F_plainBytes_a1, F_largest_a1, F_laidOut_a1, F_added_a1, F_addedPlainBytes_a1⟩
theorem d10_0 : decode prog_32_method_6_code 0 = .ok (.aload_n 0, 1) := by decide +kernel
theorem d10_1 : decode prog_32_method_6_code 1 = .ok (.getfield 15, 3) := by decide +kernel
theorem d10_4 : decode prog_32_method_6_code 4 = .ok (.ireturn, 1) := by decide +kernel
theorem own_pn_10 : plainName "com/example/kern_tablet/kerntablet/storage/ColumnTally" = true := by first | (simp [plainName, overriddenIn]; done) | decide +kernel
theorem own_ef_10 (m : MethodId) (a1 : Addr) : entryFrame m #[(.ref a1)] 1 = mkF m 0 #[.val (.ref a1)] [] := by first | (simp [entryFrame, mkF, argsToLocals, Value.category]; done) | rfl
abbrev own_R10 : Room := { frames := 0, cells := 0, slots := 0, locals := 0 }
def own_Q10 (Z : State) (a1 : Addr) (w_values : Int32) (h0 : Heap) (n0 : Nat) (v : Option Value) (h : Heap) (L : List Loc) : Prop := v = some (.int w_values) ∧ Fr n0 L ∧ h = h0
set_option maxRecDepth 65536 in
set_option maxHeartbeats 40000000 in
theorem rm10 (l : Launch) (Z : State) (a0 : Array Value) (hw : ∀ d ∈ tables_1, d.before a0 Z = true) (ws : List Jvm.Cond) (a1 : Addr) (w_values : Int32) (h0 : Heap) (n0 : Nat) (Z0 : n0 ≤ h0.size) (F_values_a1 : Fld Z h0 a1 "com/example/kern_tablet/kerntablet/storage/ColumnTally" "values" "I" (.int w_values)) :
    MetFree l (⟨"com/example/kern_tablet/kerntablet/storage/ColumnTally", "values", "()I"⟩ : MethodName) (head1 (Jvm.Cond.code (⟨"com/example/kern_tablet/kerntablet/storage/ColumnTally", "values", "()I"⟩ : MethodName) prog_32_method_6_code 1 (some .int) :: ws) own_R10) (fun a U => a = #[(.ref a1)] ∧ Z.Warmed39 U.vm ∧ U.heap = h0) (fun _ _ _ _ _ => True) (fun _ U o U' => ∃ v L, o = .returned v ∧ own_Q10 Z a1 w_values h0 n0 v U'.heap L ∧ FrameEnd U o U' L own_R10.cells own_R10.slots) := by
  refine MetFree.of_bodySF (plainFor_of_name own_pn_10) hisR ?_
  intro p e s m args below meth c s₁ Bd hml0 hP hK
  obtain ⟨rfl, hZ, hh⟩ := hP
  have hx := Bd.exec
  have hby := Bd.bytes
  have hlk := BodyLoose.notSynchronized Bd
  have hml : c.maxLocals = 1 := hml0
  have hown : s.vm.findClass "com/example/kern_tablet/kerntablet/storage/ColumnTally" = some m.cls := (findClass_of_methodNamed Bd.named : s.vm.findClass (⟨"com/example/kern_tablet/kerntablet/storage/ColumnTally", "values", "()I"⟩ : MethodName).cls = some m.cls)
  have hnm := (name_of_methodNamed Bd.named Bd.method).1
  have X0 : Stand p l e own_R10 s m #[(.ref a1)] below meth c s₁ [] 0 0 := Stand.of_body Bd
  have e0 : s₁.heap = h0 := by rw [← hh, Bd.state]; rfl
  have Nf := Fr.nil n0
  have Zs := Z0
  show own_Fin p e below s (own_Q10 Z a1 w_values h0 n0) 0 0 s₁ (entryFrame m #[(.ref a1)] 1)
  rw [own_ef_10 m a1]
  show own_Fin _ _ _ _ _ _ _ _ (mkF m 0 #[.val (.ref a1)] [])
  refine own_step (fun t k => XS.aloadN X0.here hx rfl (hb hby d10_0) rfl rfl k) ?_
  show own_Fin _ _ _ _ _ _ _ _ (mkF m 1 #[.val (.ref a1)] [(.ref a1)])
  obtain ⟨T1, X1, e1, st1⟩ := getF X0 hx hZ hown (host := "") (Or.inl (hw _ (List.mem_of_getElem? (i := 17) rfl))) Via.refl e0 F_values_a1 (g := (mkF m 1 #[.val (.ref a1)] [(.ref a1)])) rfl rfl (hb hby d10_1)
  refine own_step st1 ?_
  show own_Fin _ _ _ _ _ _ _ _ (mkF m 4 #[.val (.ref a1)] [(.int w_values)])
  refine own_retI X1 hx hlk Bd.returns (hb hby d10_4) (by decide) (by decide) e1 ?_
  exact ⟨rfl, Nf, rfl⟩
theorem d11_0 : decode prog_32_method_7_code 0 = .ok (.aload_n 0, 1) := by decide +kernel
theorem d11_1 : decode prog_32_method_7_code 1 = .ok (.getfield 19, 3) := by decide +kernel
theorem d11_4 : decode prog_32_method_7_code 4 = .ok (.lreturn, 1) := by decide +kernel
theorem own_pn_11 : plainName "com/example/kern_tablet/kerntablet/storage/ColumnTally" = true := by first | (simp [plainName, overriddenIn]; done) | decide +kernel
theorem own_ef_11 (m : MethodId) (a1 : Addr) : entryFrame m #[(.ref a1)] 1 = mkF m 0 #[.val (.ref a1)] [] := by first | (simp [entryFrame, mkF, argsToLocals, Value.category]; done) | rfl
abbrev own_R11 : Room := { frames := 0, cells := 0, slots := 0, locals := 0 }
def own_Q11 (Z : State) (a1 : Addr) (w_plainBytes : Int64) (h0 : Heap) (n0 : Nat) (v : Option Value) (h : Heap) (L : List Loc) : Prop := v = some (.long w_plainBytes) ∧ Fr n0 L ∧ h = h0
set_option maxRecDepth 65536 in
set_option maxHeartbeats 40000000 in
theorem rm11 (l : Launch) (Z : State) (a0 : Array Value) (hw : ∀ d ∈ tables_1, d.before a0 Z = true) (ws : List Jvm.Cond) (a1 : Addr) (w_plainBytes : Int64) (h0 : Heap) (n0 : Nat) (Z0 : n0 ≤ h0.size) (F_plainBytes_a1 : Fld Z h0 a1 "com/example/kern_tablet/kerntablet/storage/ColumnTally" "plainBytes" "J" (.long w_plainBytes)) :
    MetFree l (⟨"com/example/kern_tablet/kerntablet/storage/ColumnTally", "plainBytes", "()J"⟩ : MethodName) (head1 (Jvm.Cond.code (⟨"com/example/kern_tablet/kerntablet/storage/ColumnTally", "plainBytes", "()J"⟩ : MethodName) prog_32_method_7_code 1 (some .long) :: ws) own_R11) (fun a U => a = #[(.ref a1)] ∧ Z.Warmed39 U.vm ∧ U.heap = h0) (fun _ _ _ _ _ => True) (fun _ U o U' => ∃ v L, o = .returned v ∧ own_Q11 Z a1 w_plainBytes h0 n0 v U'.heap L ∧ FrameEnd U o U' L own_R11.cells own_R11.slots) := by
  refine MetFree.of_bodySF (plainFor_of_name own_pn_11) hisR ?_
  intro p e s m args below meth c s₁ Bd hml0 hP hK
  obtain ⟨rfl, hZ, hh⟩ := hP
  have hx := Bd.exec
  have hby := Bd.bytes
  have hlk := BodyLoose.notSynchronized Bd
  have hml : c.maxLocals = 1 := hml0
  have hown : s.vm.findClass "com/example/kern_tablet/kerntablet/storage/ColumnTally" = some m.cls := (findClass_of_methodNamed Bd.named : s.vm.findClass (⟨"com/example/kern_tablet/kerntablet/storage/ColumnTally", "plainBytes", "()J"⟩ : MethodName).cls = some m.cls)
  have hnm := (name_of_methodNamed Bd.named Bd.method).1
  have X0 : Stand p l e own_R11 s m #[(.ref a1)] below meth c s₁ [] 0 0 := Stand.of_body Bd
  have e0 : s₁.heap = h0 := by rw [← hh, Bd.state]; rfl
  have Nf := Fr.nil n0
  have Zs := Z0
  show own_Fin p e below s (own_Q11 Z a1 w_plainBytes h0 n0) 0 0 s₁ (entryFrame m #[(.ref a1)] 1)
  rw [own_ef_11 m a1]
  show own_Fin _ _ _ _ _ _ _ _ (mkF m 0 #[.val (.ref a1)] [])
  refine own_step (fun t k => XS.aloadN X0.here hx rfl (hb hby d11_0) rfl rfl k) ?_
  show own_Fin _ _ _ _ _ _ _ _ (mkF m 1 #[.val (.ref a1)] [(.ref a1)])
  obtain ⟨T1, X1, e1, st1⟩ := getF X0 hx hZ hown (host := "") (Or.inl (hw _ (List.mem_of_getElem? (i := 19) rfl))) Via.refl e0 F_plainBytes_a1 (g := (mkF m 1 #[.val (.ref a1)] [(.ref a1)])) rfl rfl (hb hby d11_1)
  refine own_step st1 ?_
  show own_Fin _ _ _ _ _ _ _ _ (mkF m 4 #[.val (.ref a1)] [(.long w_plainBytes)])
  refine own_retJ X1 hx hlk Bd.returns (hb hby d11_4) (by decide) (by decide) e1 ?_
  exact ⟨rfl, Nf, rfl⟩
theorem d12_0 : decode prog_32_method_8_code 0 = .ok (.aload_n 0, 1) := by decide +kernel
theorem d12_1 : decode prog_32_method_8_code 1 = .ok (.getfield 22, 3) := by decide +kernel
theorem d12_4 : decode prog_32_method_8_code 4 = .ok (.lreturn, 1) := by decide +kernel
theorem own_pn_12 : plainName "com/example/kern_tablet/kerntablet/storage/ColumnTally" = true := by first | (simp [plainName, overriddenIn]; done) | decide +kernel
theorem own_ef_12 (m : MethodId) (a1 : Addr) : entryFrame m #[(.ref a1)] 1 = mkF m 0 #[.val (.ref a1)] [] := by first | (simp [entryFrame, mkF, argsToLocals, Value.category]; done) | rfl
abbrev own_R12 : Room := { frames := 0, cells := 0, slots := 0, locals := 0 }
def own_Q12 (Z : State) (a1 : Addr) (w_largest : Int64) (h0 : Heap) (n0 : Nat) (v : Option Value) (h : Heap) (L : List Loc) : Prop := v = some (.long w_largest) ∧ Fr n0 L ∧ h = h0
set_option maxRecDepth 65536 in
set_option maxHeartbeats 40000000 in
theorem rm12 (l : Launch) (Z : State) (a0 : Array Value) (hw : ∀ d ∈ tables_1, d.before a0 Z = true) (ws : List Jvm.Cond) (a1 : Addr) (w_largest : Int64) (h0 : Heap) (n0 : Nat) (Z0 : n0 ≤ h0.size) (F_largest_a1 : Fld Z h0 a1 "com/example/kern_tablet/kerntablet/storage/ColumnTally" "largest" "J" (.long w_largest)) :
    MetFree l (⟨"com/example/kern_tablet/kerntablet/storage/ColumnTally", "largest", "()J"⟩ : MethodName) (head1 (Jvm.Cond.code (⟨"com/example/kern_tablet/kerntablet/storage/ColumnTally", "largest", "()J"⟩ : MethodName) prog_32_method_8_code 1 (some .long) :: ws) own_R12) (fun a U => a = #[(.ref a1)] ∧ Z.Warmed39 U.vm ∧ U.heap = h0) (fun _ _ _ _ _ => True) (fun _ U o U' => ∃ v L, o = .returned v ∧ own_Q12 Z a1 w_largest h0 n0 v U'.heap L ∧ FrameEnd U o U' L own_R12.cells own_R12.slots) := by
  refine MetFree.of_bodySF (plainFor_of_name own_pn_12) hisR ?_
  intro p e s m args below meth c s₁ Bd hml0 hP hK
  obtain ⟨rfl, hZ, hh⟩ := hP
  have hx := Bd.exec
  have hby := Bd.bytes
  have hlk := BodyLoose.notSynchronized Bd
  have hml : c.maxLocals = 1 := hml0
  have hown : s.vm.findClass "com/example/kern_tablet/kerntablet/storage/ColumnTally" = some m.cls := (findClass_of_methodNamed Bd.named : s.vm.findClass (⟨"com/example/kern_tablet/kerntablet/storage/ColumnTally", "largest", "()J"⟩ : MethodName).cls = some m.cls)
  have hnm := (name_of_methodNamed Bd.named Bd.method).1
  have X0 : Stand p l e own_R12 s m #[(.ref a1)] below meth c s₁ [] 0 0 := Stand.of_body Bd
  have e0 : s₁.heap = h0 := by rw [← hh, Bd.state]; rfl
  have Nf := Fr.nil n0
  have Zs := Z0
  show own_Fin p e below s (own_Q12 Z a1 w_largest h0 n0) 0 0 s₁ (entryFrame m #[(.ref a1)] 1)
  rw [own_ef_12 m a1]
  show own_Fin _ _ _ _ _ _ _ _ (mkF m 0 #[.val (.ref a1)] [])
  refine own_step (fun t k => XS.aloadN X0.here hx rfl (hb hby d12_0) rfl rfl k) ?_
  show own_Fin _ _ _ _ _ _ _ _ (mkF m 1 #[.val (.ref a1)] [(.ref a1)])
  obtain ⟨T1, X1, e1, st1⟩ := getF X0 hx hZ hown (host := "") (Or.inl (hw _ (List.mem_of_getElem? (i := 21) rfl))) Via.refl e0 F_largest_a1 (g := (mkF m 1 #[.val (.ref a1)] [(.ref a1)])) rfl rfl (hb hby d12_1)
  refine own_step st1 ?_
  show own_Fin _ _ _ _ _ _ _ _ (mkF m 4 #[.val (.ref a1)] [(.long w_largest)])
  refine own_retJ X1 hx hlk Bd.returns (hb hby d12_4) (by decide) (by decide) e1 ?_
  exact ⟨rfl, Nf, rfl⟩
theorem d13_0 : decode prog_32_method_9_code 0 = .ok (.aload_n 0, 1) := by decide +kernel
theorem d13_1 : decode prog_32_method_9_code 1 = .ok (.getfield 11, 3) := by decide +kernel
theorem d13_4 : decode prog_32_method_9_code 4 = .ok (.lreturn, 1) := by decide +kernel
theorem own_pn_13 : plainName "com/example/kern_tablet/kerntablet/storage/ColumnTally" = true := by first | (simp [plainName, overriddenIn]; done) | decide +kernel
theorem own_ef_13 (m : MethodId) (a1 : Addr) : entryFrame m #[(.ref a1)] 1 = mkF m 0 #[.val (.ref a1)] [] := by first | (simp [entryFrame, mkF, argsToLocals, Value.category]; done) | rfl
abbrev own_R13 : Room := { frames := 0, cells := 0, slots := 0, locals := 0 }
def own_Q13 (Z : State) (a1 : Addr) (w_laidOut : Int64) (h0 : Heap) (n0 : Nat) (v : Option Value) (h : Heap) (L : List Loc) : Prop := v = some (.long w_laidOut) ∧ Fr n0 L ∧ h = h0
set_option maxRecDepth 65536 in
set_option maxHeartbeats 40000000 in
theorem rm13 (l : Launch) (Z : State) (a0 : Array Value) (hw : ∀ d ∈ tables_1, d.before a0 Z = true) (ws : List Jvm.Cond) (a1 : Addr) (w_laidOut : Int64) (h0 : Heap) (n0 : Nat) (Z0 : n0 ≤ h0.size) (F_laidOut_a1 : Fld Z h0 a1 "com/example/kern_tablet/kerntablet/storage/ColumnTally" "laidOut" "J" (.long w_laidOut)) :
    MetFree l (⟨"com/example/kern_tablet/kerntablet/storage/ColumnTally", "laidOut", "()J"⟩ : MethodName) (head1 (Jvm.Cond.code (⟨"com/example/kern_tablet/kerntablet/storage/ColumnTally", "laidOut", "()J"⟩ : MethodName) prog_32_method_9_code 1 (some .long) :: ws) own_R13) (fun a U => a = #[(.ref a1)] ∧ Z.Warmed39 U.vm ∧ U.heap = h0) (fun _ _ _ _ _ => True) (fun _ U o U' => ∃ v L, o = .returned v ∧ own_Q13 Z a1 w_laidOut h0 n0 v U'.heap L ∧ FrameEnd U o U' L own_R13.cells own_R13.slots) := by
  refine MetFree.of_bodySF (plainFor_of_name own_pn_13) hisR ?_
  intro p e s m args below meth c s₁ Bd hml0 hP hK
  obtain ⟨rfl, hZ, hh⟩ := hP
  have hx := Bd.exec
  have hby := Bd.bytes
  have hlk := BodyLoose.notSynchronized Bd
  have hml : c.maxLocals = 1 := hml0
  have hown : s.vm.findClass "com/example/kern_tablet/kerntablet/storage/ColumnTally" = some m.cls := (findClass_of_methodNamed Bd.named : s.vm.findClass (⟨"com/example/kern_tablet/kerntablet/storage/ColumnTally", "laidOut", "()J"⟩ : MethodName).cls = some m.cls)
  have hnm := (name_of_methodNamed Bd.named Bd.method).1
  have X0 : Stand p l e own_R13 s m #[(.ref a1)] below meth c s₁ [] 0 0 := Stand.of_body Bd
  have e0 : s₁.heap = h0 := by rw [← hh, Bd.state]; rfl
  have Nf := Fr.nil n0
  have Zs := Z0
  show own_Fin p e below s (own_Q13 Z a1 w_laidOut h0 n0) 0 0 s₁ (entryFrame m #[(.ref a1)] 1)
  rw [own_ef_13 m a1]
  show own_Fin _ _ _ _ _ _ _ _ (mkF m 0 #[.val (.ref a1)] [])
  refine own_step (fun t k => XS.aloadN X0.here hx rfl (hb hby d13_0) rfl rfl k) ?_
  show own_Fin _ _ _ _ _ _ _ _ (mkF m 1 #[.val (.ref a1)] [(.ref a1)])
  obtain ⟨T1, X1, e1, st1⟩ := getF X0 hx hZ hown (host := "") (Or.inl (hw _ (List.mem_of_getElem? (i := 10) rfl))) Via.refl e0 F_laidOut_a1 (g := (mkF m 1 #[.val (.ref a1)] [(.ref a1)])) rfl rfl (hb hby d13_1)
  refine own_step st1 ?_
  show own_Fin _ _ _ _ _ _ _ _ (mkF m 4 #[.val (.ref a1)] [(.long w_laidOut)])
  refine own_retJ X1 hx hlk Bd.returns (hb hby d13_4) (by decide) (by decide) e1 ?_
  exact ⟨rfl, Nf, rfl⟩
theorem d14_0 : decode prog_32_method_10_code 0 = .ok (.aload_n 0, 1) := by decide +kernel
theorem d14_1 : decode prog_32_method_10_code 1 = .ok (.getfield 31, 3) := by decide +kernel
theorem d14_4 : decode prog_32_method_10_code 4 = .ok (.lreturn, 1) := by decide +kernel
theorem own_pn_14 : plainName "com/example/kern_tablet/kerntablet/storage/ColumnTally" = true := by first | (simp [plainName, overriddenIn]; done) | decide +kernel
theorem own_ef_14 (m : MethodId) (a1 : Addr) : entryFrame m #[(.ref a1)] 1 = mkF m 0 #[.val (.ref a1)] [] := by first | (simp [entryFrame, mkF, argsToLocals, Value.category]; done) | rfl
abbrev own_R14 : Room := { frames := 0, cells := 0, slots := 0, locals := 0 }
def own_Q14 (Z : State) (a1 : Addr) (w_added : Int64) (h0 : Heap) (n0 : Nat) (v : Option Value) (h : Heap) (L : List Loc) : Prop := v = some (.long w_added) ∧ Fr n0 L ∧ h = h0
set_option maxRecDepth 65536 in
set_option maxHeartbeats 40000000 in
theorem rm14 (l : Launch) (Z : State) (a0 : Array Value) (hw : ∀ d ∈ tables_1, d.before a0 Z = true) (ws : List Jvm.Cond) (a1 : Addr) (w_added : Int64) (h0 : Heap) (n0 : Nat) (Z0 : n0 ≤ h0.size) (F_added_a1 : Fld Z h0 a1 "com/example/kern_tablet/kerntablet/storage/ColumnTally" "added" "J" (.long w_added)) :
    MetFree l (⟨"com/example/kern_tablet/kerntablet/storage/ColumnTally", "added", "()J"⟩ : MethodName) (head1 (Jvm.Cond.code (⟨"com/example/kern_tablet/kerntablet/storage/ColumnTally", "added", "()J"⟩ : MethodName) prog_32_method_10_code 1 (some .long) :: ws) own_R14) (fun a U => a = #[(.ref a1)] ∧ Z.Warmed39 U.vm ∧ U.heap = h0) (fun _ _ _ _ _ => True) (fun _ U o U' => ∃ v L, o = .returned v ∧ own_Q14 Z a1 w_added h0 n0 v U'.heap L ∧ FrameEnd U o U' L own_R14.cells own_R14.slots) := by
  refine MetFree.of_bodySF (plainFor_of_name own_pn_14) hisR ?_
  intro p e s m args below meth c s₁ Bd hml0 hP hK
  obtain ⟨rfl, hZ, hh⟩ := hP
  have hx := Bd.exec
  have hby := Bd.bytes
  have hlk := BodyLoose.notSynchronized Bd
  have hml : c.maxLocals = 1 := hml0
  have hown : s.vm.findClass "com/example/kern_tablet/kerntablet/storage/ColumnTally" = some m.cls := (findClass_of_methodNamed Bd.named : s.vm.findClass (⟨"com/example/kern_tablet/kerntablet/storage/ColumnTally", "added", "()J"⟩ : MethodName).cls = some m.cls)
  have hnm := (name_of_methodNamed Bd.named Bd.method).1
  have X0 : Stand p l e own_R14 s m #[(.ref a1)] below meth c s₁ [] 0 0 := Stand.of_body Bd
  have e0 : s₁.heap = h0 := by rw [← hh, Bd.state]; rfl
  have Nf := Fr.nil n0
  have Zs := Z0
  show own_Fin p e below s (own_Q14 Z a1 w_added h0 n0) 0 0 s₁ (entryFrame m #[(.ref a1)] 1)
  rw [own_ef_14 m a1]
  show own_Fin _ _ _ _ _ _ _ _ (mkF m 0 #[.val (.ref a1)] [])
  refine own_step (fun t k => XS.aloadN X0.here hx rfl (hb hby d14_0) rfl rfl k) ?_
  show own_Fin _ _ _ _ _ _ _ _ (mkF m 1 #[.val (.ref a1)] [(.ref a1)])
  obtain ⟨T1, X1, e1, st1⟩ := getF X0 hx hZ hown (host := "") (Or.inl (hw _ (List.mem_of_getElem? (i := 27) rfl))) Via.refl e0 F_added_a1 (g := (mkF m 1 #[.val (.ref a1)] [(.ref a1)])) rfl rfl (hb hby d14_1)
  refine own_step st1 ?_
  show own_Fin _ _ _ _ _ _ _ _ (mkF m 4 #[.val (.ref a1)] [(.long w_added)])
  refine own_retJ X1 hx hlk Bd.returns (hb hby d14_4) (by decide) (by decide) e1 ?_
  exact ⟨rfl, Nf, rfl⟩
theorem d15_0 : decode prog_32_method_11_code 0 = .ok (.aload_n 0, 1) := by decide +kernel
theorem d15_1 : decode prog_32_method_11_code 1 = .ok (.getfield 34, 3) := by decide +kernel
theorem d15_4 : decode prog_32_method_11_code 4 = .ok (.lreturn, 1) := by decide +kernel
theorem own_pn_15 : plainName "com/example/kern_tablet/kerntablet/storage/ColumnTally" = true := by first | (simp [plainName, overriddenIn]; done) | decide +kernel
theorem own_ef_15 (m : MethodId) (a1 : Addr) : entryFrame m #[(.ref a1)] 1 = mkF m 0 #[.val (.ref a1)] [] := by first | (simp [entryFrame, mkF, argsToLocals, Value.category]; done) | rfl
abbrev own_R15 : Room := { frames := 0, cells := 0, slots := 0, locals := 0 }
def own_Q15 (Z : State) (a1 : Addr) (w_addedPlainBytes : Int64) (h0 : Heap) (n0 : Nat) (v : Option Value) (h : Heap) (L : List Loc) : Prop := v = some (.long w_addedPlainBytes) ∧ Fr n0 L ∧ h = h0
set_option maxRecDepth 65536 in
set_option maxHeartbeats 40000000 in
theorem rm15 (l : Launch) (Z : State) (a0 : Array Value) (hw : ∀ d ∈ tables_1, d.before a0 Z = true) (ws : List Jvm.Cond) (a1 : Addr) (w_addedPlainBytes : Int64) (h0 : Heap) (n0 : Nat) (Z0 : n0 ≤ h0.size) (F_addedPlainBytes_a1 : Fld Z h0 a1 "com/example/kern_tablet/kerntablet/storage/ColumnTally" "addedPlainBytes" "J" (.long w_addedPlainBytes)) :
    MetFree l (⟨"com/example/kern_tablet/kerntablet/storage/ColumnTally", "addedPlainBytes", "()J"⟩ : MethodName) (head1 (Jvm.Cond.code (⟨"com/example/kern_tablet/kerntablet/storage/ColumnTally", "addedPlainBytes", "()J"⟩ : MethodName) prog_32_method_11_code 1 (some .long) :: ws) own_R15) (fun a U => a = #[(.ref a1)] ∧ Z.Warmed39 U.vm ∧ U.heap = h0) (fun _ _ _ _ _ => True) (fun _ U o U' => ∃ v L, o = .returned v ∧ own_Q15 Z a1 w_addedPlainBytes h0 n0 v U'.heap L ∧ FrameEnd U o U' L own_R15.cells own_R15.slots) := by
  refine MetFree.of_bodySF (plainFor_of_name own_pn_15) hisR ?_
  intro p e s m args below meth c s₁ Bd hml0 hP hK
  obtain ⟨rfl, hZ, hh⟩ := hP
  have hx := Bd.exec
  have hby := Bd.bytes
  have hlk := BodyLoose.notSynchronized Bd
  have hml : c.maxLocals = 1 := hml0
  have hown : s.vm.findClass "com/example/kern_tablet/kerntablet/storage/ColumnTally" = some m.cls := (findClass_of_methodNamed Bd.named : s.vm.findClass (⟨"com/example/kern_tablet/kerntablet/storage/ColumnTally", "addedPlainBytes", "()J"⟩ : MethodName).cls = some m.cls)
  have hnm := (name_of_methodNamed Bd.named Bd.method).1
  have X0 : Stand p l e own_R15 s m #[(.ref a1)] below meth c s₁ [] 0 0 := Stand.of_body Bd
  have e0 : s₁.heap = h0 := by rw [← hh, Bd.state]; rfl
  have Nf := Fr.nil n0
  have Zs := Z0
  show own_Fin p e below s (own_Q15 Z a1 w_addedPlainBytes h0 n0) 0 0 s₁ (entryFrame m #[(.ref a1)] 1)
  rw [own_ef_15 m a1]
  show own_Fin _ _ _ _ _ _ _ _ (mkF m 0 #[.val (.ref a1)] [])
  refine own_step (fun t k => XS.aloadN X0.here hx rfl (hb hby d15_0) rfl rfl k) ?_
  show own_Fin _ _ _ _ _ _ _ _ (mkF m 1 #[.val (.ref a1)] [(.ref a1)])
  obtain ⟨T1, X1, e1, st1⟩ := getF X0 hx hZ hown (host := "") (Or.inl (hw _ (List.mem_of_getElem? (i := 29) rfl))) Via.refl e0 F_addedPlainBytes_a1 (g := (mkF m 1 #[.val (.ref a1)] [(.ref a1)])) rfl rfl (hb hby d15_1)
  refine own_step st1 ?_
  show own_Fin _ _ _ _ _ _ _ _ (mkF m 4 #[.val (.ref a1)] [(.long w_addedPlainBytes)])
  refine own_retJ X1 hx hlk Bd.returns (hb hby d15_4) (by decide) (by decide) e1 ?_
  exact ⟨rfl, Nf, rfl⟩
theorem own_pd_1 : parseMethodDescriptor "()V" = some ⟨[], none⟩ := by decide +kernel
theorem own_pd_2 : parseMethodDescriptor "(J)V" = some ⟨[.long], none⟩ := by decide +kernel
theorem own_pd_3 : parseMethodDescriptor "()I" = some ⟨[], some .int⟩ := by decide +kernel
theorem own_pd_4 : parseMethodDescriptor "()J" = some ⟨[], some .long⟩ := by decide +kernel
theorem own_pn_0 : plainName "com/example/kern_tablet/kerntablet/storage/ColumnTallyRemovePinLaw" = true := by first | (simp [plainName, overriddenIn]; done) | decide +kernel
theorem own_ef_0 (m : MethodId) (q1 : Int64) (q2 : Int64) (q3 : Int64) (p4 : Int32) : entryFrame m #[(.long q1), (.long q2), (.long q3), (.int p4)] maxLocals = mkF m 0 #[.val (.long q1), .second, .val (.long q2), .second, .val (.long q3), .second, .val (.int p4), .unset, .unset, .unset, .unset, .unset, .unset, .unset, .unset, .unset, .unset, .unset, .unset, .unset, .unset, .unset] [] := by first | (simp [entryFrame, mkF, argsToLocals, Value.category, maxLocals]; done) | rfl
def own_Q0 (Z : State) (q1 : Int64) (q2 : Int64) (q3 : Int64) (p4 : Int32) (h0 : Heap) (n0 : Nat) (v : Option Value) (h : Heap) (L : List Loc) : Prop := v = some (.int 1) ∧ Fr n0 L
set_option maxRecDepth 65536 in
set_option maxHeartbeats 40000000 in
theorem rm0 (l : Launch) (Z : State) (a0 : Array Value) (hw : ∀ d ∈ tables_1, d.before a0 Z = true) (ws : List Jvm.Cond) (q1 : Int64) (q2 : Int64) (q3 : Int64) (p4 : Int32) (h0 : Heap) (n0 : Nat) (Z0 : n0 ≤ h0.size) :
    MetFree l x (head1 (Jvm.Cond.code x code maxLocals ret :: ws) room_1) (fun a U => a = #[(.long q1), (.long q2), (.long q3), (.int p4)] ∧ Z.Warmed39 U.vm ∧ U.heap = h0) (fun _ _ _ _ _ => True) (fun _ U o U' => ∃ v L, o = .returned v ∧ own_Q0 Z q1 q2 q3 p4 h0 n0 v U'.heap L ∧ FrameEnd U o U' L 16 128) := by
  refine MetFree.of_bodySF (plainFor_of_name own_pn_0) hisR ?_
  intro p e s m args below meth c s₁ Bd hml0 hP hK
  obtain ⟨rfl, hZ, hh⟩ := hP
  have hx := Bd.exec
  have hby := Bd.bytes
  have hlk := BodyLoose.notSynchronized Bd
  have hml : c.maxLocals = 22 := hml0
  have hown : s.vm.findClass "com/example/kern_tablet/kerntablet/storage/ColumnTallyRemovePinLaw" = some m.cls := (findClass_of_methodNamed Bd.named : s.vm.findClass x.cls = some m.cls)
  have hnm := (name_of_methodNamed Bd.named Bd.method).1
  have X0 : Stand p l e room_1 s m #[(.long q1), (.long q2), (.long q3), (.int p4)] below meth c s₁ [] 0 0 := Stand.of_body Bd
  have e0 : s₁.heap = h0 := by rw [← hh, Bd.state]; rfl
  have Nf := Fr.nil n0
  have Zs := Z0
  show own_Fin p e below s (own_Q0 Z q1 q2 q3 p4 h0 n0) 16 128 s₁ (entryFrame m #[(.long q1), (.long q2), (.long q3), (.int p4)] maxLocals)
  rw [own_ef_0 m q1 q2 q3 p4]
  show own_Fin _ _ _ _ _ _ _ _ (mkF m 0 #[.val (.long q1), .second, .val (.long q2), .second, .val (.long q3), .second, .val (.int p4), .unset, .unset, .unset, .unset, .unset, .unset, .unset, .unset, .unset, .unset, .unset, .unset, .unset, .unset, .unset] [])
  obtain ⟨Ls1, hLs1⟩ : ∃ z : Array Slot, z = #[.val (.long q1), .second, .val (.long q2), .second, .val (.long q3), .second, .val (.int p4), .unset, .unset, .unset, .unset, .unset, .unset, .unset, .unset, .unset, .unset, .unset, .unset, .unset, .unset, .unset] := ⟨_, rfl⟩
  rw [← hLs1]
  refine own_step (fun t k => XS.iload (v := p4) X0.here hx rfl (hb hby at_0) (by rw [hLs1]; rfl) k) ?_
  show own_Fin _ _ _ _ _ _ _ _ (mkF m 2 Ls1 [(.int p4)])
  refine own_step (fun t k => XS.iconst X0.here hx rfl (hb hby at_2) k) ?_
  show own_Fin _ _ _ _ _ _ _ _ (mkF m 3 Ls1 [(.int (1 : Int32)), (.int p4)])
  refine own_step (fun t k => XS.iand X0.here hx rfl (hb hby at_3) rfl k) ?_
  show own_Fin _ _ _ _ _ _ _ _ (mkF m 4 Ls1 [(.int (p4 &&& (1 : Int32)))])
  by_cases hc2 : ((p4 &&& (1 : Int32))).toInt = 0
  · skip
    refine own_step (fun t k => XS.ifYes X0.here hx rfl (pc0 := 4) (pc' := 11) rfl (hb hby at_4) rfl ((if0 _ _).trans (own_ce (x := (p4 &&& (1 : Int32))) (y := (0 : Int32)) rfl rfl hc2).1) (by decide) (by decide) k) ?_
    show own_Fin _ _ _ _ _ _ _ _ (mkF m 11 Ls1 [])
    refine own_step (fun t k => XS.iconst X0.here hx rfl (hb hby at_11) k) ?_
    show own_Fin _ _ _ _ _ _ _ _ (mkF m 12 Ls1 [(.int (0 : Int32))])
    obtain ⟨Ls3, hLs3⟩ : ∃ z : Array Slot, z = #[.val (.long q1), .second, .val (.long q2), .second, .val (.long q3), .second, .val (.int p4), .val (.int (0 : Int32)), .unset, .unset, .unset, .unset, .unset, .unset, .unset, .unset, .unset, .unset, .unset, .unset, .unset, .unset] := ⟨_, rfl⟩
    refine own_step (fun t k => XS.istore X0.here hx rfl (hb hby at_12) rfl (l' := Ls3) (by rw [hLs1, hLs3]; rfl) k) ?_
    show own_Fin _ _ _ _ _ _ _ _ (mkF m 14 Ls3 [])
    refine own_step (fun t k => XS.iload (v := p4) X0.here hx rfl (hb hby at_14) (by rw [hLs3]; rfl) k) ?_
    show own_Fin _ _ _ _ _ _ _ _ (mkF m 16 Ls3 [(.int p4)])
    refine own_step (fun t k => XS.iconst X0.here hx rfl (hb hby at_16) k) ?_
    show own_Fin _ _ _ _ _ _ _ _ (mkF m 17 Ls3 [(.int (2 : Int32)), (.int p4)])
    refine own_step (fun t k => XS.iand X0.here hx rfl (hb hby at_17) rfl k) ?_
    show own_Fin _ _ _ _ _ _ _ _ (mkF m 18 Ls3 [(.int (p4 &&& (2 : Int32)))])
    by_cases hc4 : ((p4 &&& (2 : Int32))).toInt = 0
    · skip
      refine own_step (fun t k => XS.ifYes X0.here hx rfl (pc0 := 18) (pc' := 25) rfl (hb hby at_18) rfl ((if0 _ _).trans (own_ce (x := (p4 &&& (2 : Int32))) (y := (0 : Int32)) rfl rfl hc4).1) (by decide) (by decide) k) ?_
      show own_Fin _ _ _ _ _ _ _ _ (mkF m 25 Ls3 [])
      refine own_step (fun t k => XS.iconst X0.here hx rfl (hb hby at_25) k) ?_
      show own_Fin _ _ _ _ _ _ _ _ (mkF m 26 Ls3 [(.int (0 : Int32))])
      obtain ⟨Ls5, hLs5⟩ : ∃ z : Array Slot, z = #[.val (.long q1), .second, .val (.long q2), .second, .val (.long q3), .second, .val (.int p4), .val (.int (0 : Int32)), .val (.int (0 : Int32)), .unset, .unset, .unset, .unset, .unset, .unset, .unset, .unset, .unset, .unset, .unset, .unset, .unset] := ⟨_, rfl⟩
      refine own_step (fun t k => XS.istore X0.here hx rfl (hb hby at_26) rfl (l' := Ls5) (by rw [hLs3, hLs5]; rfl) k) ?_
      show own_Fin _ _ _ _ _ _ _ _ (mkF m 28 Ls5 [])
      obtain ⟨T6, h6, X6, e6, E6, A6, D6, -, st6⟩ := newO X0 hx hZ hown (hw _ (List.mem_of_getElem? (i := 0) rfl)) (hw _ (List.mem_of_getElem? (i := 1) rfl)) (hw _ (List.mem_of_getElem? (i := 2) rfl)) e0 (g := (mkF m 28 Ls5 [])) rfl (hb hby at_28) (by decide) (by decide)
      obtain ⟨b6, g6⟩ : ∃ z, z = h0.size := ⟨_, rfl⟩
      rw [← g6] at A6 D6 st6
      refine own_step st6 ?_
      have g_b6 : n0 ≤ b6 := Nat.le_trans Zs (Nat.le_of_eq g6.symm)
      replace Zs := Nat.le_trans Zs E6.1
      have E_b6 := A6
      have F_laidOut_b6 : Fld Z h6 b6 "com/example/kern_tablet/kerntablet/storage/ColumnTally" "laidOut" "J" (.long (0 : Int64)) := D6 (Or.inl (hw _ (List.mem_of_getElem? (i := 11) rfl))) (ty := .long) (by decide)
      have F_values_b6 : Fld Z h6 b6 "com/example/kern_tablet/kerntablet/storage/ColumnTally" "values" "I" (.int (0 : Int32)) := D6 (Or.inl (hw _ (List.mem_of_getElem? (i := 18) rfl))) (ty := .int) (by decide)
      have F_plainBytes_b6 : Fld Z h6 b6 "com/example/kern_tablet/kerntablet/storage/ColumnTally" "plainBytes" "J" (.long (0 : Int64)) := D6 (Or.inl (hw _ (List.mem_of_getElem? (i := 20) rfl))) (ty := .long) (by decide)
      have F_largest_b6 : Fld Z h6 b6 "com/example/kern_tablet/kerntablet/storage/ColumnTally" "largest" "J" (.long (0 : Int64)) := D6 (Or.inl (hw _ (List.mem_of_getElem? (i := 22) rfl))) (ty := .long) (by decide)
      have F_added_b6 : Fld Z h6 b6 "com/example/kern_tablet/kerntablet/storage/ColumnTally" "added" "J" (.long (0 : Int64)) := D6 (Or.inl (hw _ (List.mem_of_getElem? (i := 28) rfl))) (ty := .long) (by decide)
      have F_addedPlainBytes_b6 : Fld Z h6 b6 "com/example/kern_tablet/kerntablet/storage/ColumnTally" "addedPlainBytes" "J" (.long (0 : Int64)) := D6 (Or.inl (hw _ (List.mem_of_getElem? (i := 30) rfl))) (ty := .long) (by decide)
      show own_Fin _ _ _ _ _ _ _ _ (mkF m 31 Ls5 [(.ref b6)])
      refine own_step (fun t k => XS.dup X6.here hx rfl (hb hby at_31) rfl rfl k) ?_
      show own_Fin _ _ _ _ _ _ _ _ (mkF m 32 Ls5 [(.ref b6), (.ref b6)])
      obtain ⟨_, _, ⟨T7, L7, k7, n7⟩, -, X7, ⟨Lc7, hQ7, l7, y7, z7⟩, st7⟩ := X6.specialBack hx (y := (⟨"com/example/kern_tablet/kerntablet/storage/ColumnTally", "<init>", "()V"⟩ : MethodName)) rfl hown (mvT hZ (hw _ (List.mem_of_getElem? (i := 3) rfl))) (mvT hZ (hw _ (List.mem_of_getElem? (i := 4) rfl))) (mvT hZ (hw _ (List.mem_of_getElem? (i := 5) rfl))) (by decide) (backOf (W := 1) (rm2 l Z a0 hw [] b6 h6 n0 Zs E_b6 F_values_b6 F_plainBytes_b6 F_largest_b6 F_laidOut_b6 F_added_b6 F_addedPlainBytes_b6 g_b6) hZ (hw _ (List.mem_of_getElem? (i := 5) rfl)) (hw _ (List.mem_of_getElem? (i := 2) rfl)) (by decide) (by decide)) (g := (mkF m 32 Ls5 [(.ref b6), (.ref b6)])) rfl (by rw [hml]; show Array.size Ls5 = _; rw [hLs5]; rfl) (Steps.refl _) (a := b6) (argsL := []) (rest := [(.ref b6)]) (lenOf own_pd_1 rfl) rfl (by show 2 * 0 + _ ≤ _; exact Nat.le_of_eq rfl) (hb hby at_32) (fun _ _ => ⟨rfl, e6, (by decide : 1 + 0 ≤ _), (by decide : 6 + 0 ≤ _)⟩)
      dsimp only [Pt.U, Pt.locs, Pt.cells, Pt.slots] at X7 l7 y7 z7 st7 hQ7
      subst l7 y7 z7
      obtain ⟨rfl, Nq7, Kq7, P7_0, P7_1, P7_2, P7_3, P7_4, P7_5, P7_6⟩ := hQ7
      replace Nf := Fr.app Nf Nq7
      replace E_b6 := P7_0
      replace F_values_b6 := P7_1
      replace F_plainBytes_b6 := P7_2
      replace F_largest_b6 := P7_3
      replace F_laidOut_b6 : Fld Z T7.heap b6 "com/example/kern_tablet/kerntablet/storage/ColumnTally" "laidOut" "J" (.long (-1 : Int64)) := P7_4
      replace F_added_b6 := P7_5
      replace F_addedPlainBytes_b6 := P7_6
      replace Zs := Nat.le_trans Zs Kq7.1
      refine own_stepT st7 ?_
      show own_Fin _ _ _ _ _ _ _ _ (mkF m 35 Ls5 [(.ref b6)])
      obtain ⟨Ls8, hLs8⟩ : ∃ z : Array Slot, z = #[.val (.long q1), .second, .val (.long q2), .second, .val (.long q3), .second, .val (.int p4), .val (.int (0 : Int32)), .val (.int (0 : Int32)), .val (.ref b6), .unset, .unset, .unset, .unset, .unset, .unset, .unset, .unset, .unset, .unset, .unset, .unset] := ⟨_, rfl⟩
      refine own_step (fun t k => XS.astore X7.here hx rfl (hb hby at_35) rfl rfl (l' := Ls8) (by rw [hLs5, hLs8]; rfl) k) ?_
      show own_Fin _ _ _ _ _ _ _ _ (mkF m 37 Ls8 [])
      refine own_step (fun t k => XS.aload (v := (.ref b6)) X7.here hx rfl (hb hby at_37) (by rw [hLs8]; rfl) rfl k) ?_
      show own_Fin _ _ _ _ _ _ _ _ (mkF m 39 Ls8 [(.ref b6)])
      refine own_step (fun t k => XS.lloadN (v := q1) X7.here hx rfl (hb hby at_39) (by rw [hLs8]; rfl) k) ?_
      show own_Fin _ _ _ _ _ _ _ _ (mkF m 40 Ls8 [(.long q1), (.ref b6)])
      obtain ⟨cq9, kq9, q9a, q9b, q9c⟩ := isOf hZ rfl E_b6
      obtain ⟨_, _, ⟨T9, L9, k9, n9⟩, -, X9, ⟨Lc9, hQ9, l9, y9, z9⟩, st9⟩ := X7.virtualBack hx (y := (⟨"com/example/kern_tablet/kerntablet/storage/ColumnTally", "add", "(J)V"⟩ : MethodName)) (z := (⟨"com/example/kern_tablet/kerntablet/storage/ColumnTally", "add", "(J)V"⟩ : MethodName)) hown (mvT hZ (hw _ (List.mem_of_getElem? (i := 12) rfl))) (mvT hZ (hw _ (List.mem_of_getElem? (i := 13) rfl))) (notFace_of_selects (args := #[]) (mvT hZ (hw _ (List.mem_of_getElem? (i := 15) rfl)))) (mvT hZ (hw _ (List.mem_of_getElem? (i := 15) rfl))) (mvT hZ (hw _ (List.mem_of_getElem? (i := 14) rfl))) (by decide) (backOf (W := 0) (rm3 l Z a0 hw [] b6 q1 _ _ _ _ _ _ T7.heap n0 Zs E_b6 F_values_b6 F_plainBytes_b6 F_largest_b6 F_laidOut_b6 F_added_b6 F_addedPlainBytes_b6 g_b6) hZ (hw _ (List.mem_of_getElem? (i := 16) rfl)) (hw _ (List.mem_of_getElem? (i := 2) rfl)) (by decide) (by decide)) q9a q9c (g := (mkF m 40 Ls8 [(.long q1), (.ref b6)])) rfl (by rw [hml]; show Array.size Ls8 = _; rw [hLs8]; rfl) (Steps.refl _) (argsL := [(.long q1)]) (rest := []) (lenOf own_pd_2 rfl) rfl (by show 2 * 0 + _ ≤ _; exact Nat.le_of_eq rfl) (hb hby at_40) (fun _ _ => ⟨rfl, rfl, (by decide : 1 + 0 ≤ _), (by decide : 6 + 0 ≤ _)⟩)
      dsimp only [Pt.U, Pt.locs, Pt.cells, Pt.slots] at X9 l9 y9 z9 st9 hQ9
      subst l9 y9 z9
      obtain ⟨rfl, Nq9, Kq9, P9_0, P9_1, P9_2, P9_3, P9_4, P9_5, P9_6⟩ := hQ9
      replace Nf := Fr.app Nf Nq9
      replace E_b6 := P9_0
      replace F_values_b6 : Fld Z T9.heap b6 "com/example/kern_tablet/kerntablet/storage/ColumnTally" "values" "I" (.int (1 : Int32)) := P9_1
      replace F_plainBytes_b6 := P9_2
      replace F_largest_b6 := P9_3
      replace F_laidOut_b6 := P9_4
      replace F_added_b6 : Fld Z T9.heap b6 "com/example/kern_tablet/kerntablet/storage/ColumnTally" "added" "J" (.long (1 : Int64)) := P9_5
      replace F_addedPlainBytes_b6 := P9_6
      replace Zs := Nat.le_trans Zs Kq9.1
      refine own_stepT st9 ?_
      show own_Fin _ _ _ _ _ _ _ _ (mkF m 43 Ls8 [])
      refine own_step (fun t k => XS.iload (v := (0 : Int32)) X9.here hx rfl (hb hby at_43) (by rw [hLs8]; rfl) k) ?_
      show own_Fin _ _ _ _ _ _ _ _ (mkF m 45 Ls8 [(.int (0 : Int32))])
      refine own_step (fun t k => XS.ifYes X9.here hx rfl (pc0 := 45) (pc' := 55) rfl (hb hby at_45) rfl (by decide) (by decide) (by decide) k) ?_
      show own_Fin _ _ _ _ _ _ _ _ (mkF m 55 Ls8 [])
      refine own_step (fun t k => XS.aload (v := (.ref b6)) X9.here hx rfl (hb hby at_55) (by rw [hLs8]; rfl) rfl k) ?_
      show own_Fin _ _ _ _ _ _ _ _ (mkF m 57 Ls8 [(.ref b6)])
      refine own_step (fun t k => XS.lloadN (v := q2) X9.here hx rfl (hb hby at_57) (by rw [hLs8]; rfl) k) ?_
      show own_Fin _ _ _ _ _ _ _ _ (mkF m 58 Ls8 [(.long q2), (.ref b6)])
      obtain ⟨cq10, kq10, q10a, q10b, q10c⟩ := isOf hZ rfl E_b6
      obtain ⟨_, _, ⟨T10, L10, k10, n10⟩, -, X10, ⟨Lc10, hQ10, l10, y10, z10⟩, st10⟩ := X9.virtualBack hx (y := (⟨"com/example/kern_tablet/kerntablet/storage/ColumnTally", "add", "(J)V"⟩ : MethodName)) (z := (⟨"com/example/kern_tablet/kerntablet/storage/ColumnTally", "add", "(J)V"⟩ : MethodName)) hown (mvT hZ (hw _ (List.mem_of_getElem? (i := 12) rfl))) (mvT hZ (hw _ (List.mem_of_getElem? (i := 13) rfl))) (notFace_of_selects (args := #[]) (mvT hZ (hw _ (List.mem_of_getElem? (i := 15) rfl)))) (mvT hZ (hw _ (List.mem_of_getElem? (i := 15) rfl))) (mvT hZ (hw _ (List.mem_of_getElem? (i := 14) rfl))) (by decide) (backOf (W := 0) (rm3 l Z a0 hw [] b6 q2 _ _ _ _ _ _ T9.heap n0 Zs E_b6 F_values_b6 F_plainBytes_b6 F_largest_b6 F_laidOut_b6 F_added_b6 F_addedPlainBytes_b6 g_b6) hZ (hw _ (List.mem_of_getElem? (i := 16) rfl)) (hw _ (List.mem_of_getElem? (i := 2) rfl)) (by decide) (by decide)) q10a q10c (g := (mkF m 58 Ls8 [(.long q2), (.ref b6)])) rfl (by rw [hml]; show Array.size Ls8 = _; rw [hLs8]; rfl) (Steps.refl _) (argsL := [(.long q2)]) (rest := []) (lenOf own_pd_2 rfl) rfl (by show 2 * 0 + _ ≤ _; exact Nat.le_of_eq rfl) (hb hby at_58) (fun _ _ => ⟨rfl, rfl, (by decide : 1 + 0 ≤ _), (by decide : 6 + 0 ≤ _)⟩)
      dsimp only [Pt.U, Pt.locs, Pt.cells, Pt.slots] at X10 l10 y10 z10 st10 hQ10
      subst l10 y10 z10
      obtain ⟨rfl, Nq10, Kq10, P10_0, P10_1, P10_2, P10_3, P10_4, P10_5, P10_6⟩ := hQ10
      replace Nf := Fr.app Nf Nq10
      replace E_b6 := P10_0
      replace F_values_b6 : Fld Z T10.heap b6 "com/example/kern_tablet/kerntablet/storage/ColumnTally" "values" "I" (.int (2 : Int32)) := P10_1
      replace F_plainBytes_b6 := P10_2
      replace F_largest_b6 := P10_3
      replace F_laidOut_b6 := P10_4
      replace F_added_b6 : Fld Z T10.heap b6 "com/example/kern_tablet/kerntablet/storage/ColumnTally" "added" "J" (.long (2 : Int64)) := P10_5
      replace F_addedPlainBytes_b6 := P10_6
      replace Zs := Nat.le_trans Zs Kq10.1
      refine own_stepT st10 ?_
      show own_Fin _ _ _ _ _ _ _ _ (mkF m 61 Ls8 [])
      refine own_step (fun t k => XS.iload (v := (0 : Int32)) X10.here hx rfl (hb hby at_61) (by rw [hLs8]; rfl) k) ?_
      show own_Fin _ _ _ _ _ _ _ _ (mkF m 63 Ls8 [(.int (0 : Int32))])
      refine own_step (fun t k => XS.ifYes X10.here hx rfl (pc0 := 63) (pc' := 70) rfl (hb hby at_63) rfl (by decide) (by decide) (by decide) k) ?_
      show own_Fin _ _ _ _ _ _ _ _ (mkF m 70 Ls8 [])
      refine own_step (fun t k => XS.lloadN (v := q2) X10.here hx rfl (hb hby at_70) (by rw [hLs8]; rfl) k) ?_
      show own_Fin _ _ _ _ _ _ _ _ (mkF m 71 Ls8 [(.long q2)])
      obtain ⟨Ls11, hLs11⟩ : ∃ z : Array Slot, z = #[.val (.long q1), .second, .val (.long q2), .second, .val (.long q3), .second, .val (.int p4), .val (.int (0 : Int32)), .val (.int (0 : Int32)), .val (.ref b6), .val (.long q2), .second, .unset, .unset, .unset, .unset, .unset, .unset, .unset, .unset, .unset, .unset] := ⟨_, rfl⟩
      refine own_step (fun t k => XS.lstore X10.here hx rfl (hb hby at_71) rfl (l' := Ls11) (by rw [hLs8, hLs11]; rfl) k) ?_
      show own_Fin _ _ _ _ _ _ _ _ (mkF m 73 Ls11 [])
      refine own_step (fun t k => XS.iload (v := (0 : Int32)) X10.here hx rfl (hb hby at_73) (by rw [hLs11]; rfl) k) ?_
      show own_Fin _ _ _ _ _ _ _ _ (mkF m 75 Ls11 [(.int (0 : Int32))])
      refine own_step (fun t k => XS.ifYes X10.here hx rfl (pc0 := 75) (pc' := 82) rfl (hb hby at_75) rfl (by decide) (by decide) (by decide) k) ?_
      show own_Fin _ _ _ _ _ _ _ _ (mkF m 82 Ls11 [])
      refine own_step (fun t k => XS.lloadN (v := q1) X10.here hx rfl (hb hby at_82) (by rw [hLs11]; rfl) k) ?_
      show own_Fin _ _ _ _ _ _ _ _ (mkF m 83 Ls11 [(.long q1)])
      obtain ⟨Ls12, hLs12⟩ : ∃ z : Array Slot, z = #[.val (.long q1), .second, .val (.long q2), .second, .val (.long q3), .second, .val (.int p4), .val (.int (0 : Int32)), .val (.int (0 : Int32)), .val (.ref b6), .val (.long q2), .second, .val (.long q1), .second, .unset, .unset, .unset, .unset, .unset, .unset, .unset, .unset] := ⟨_, rfl⟩
      refine own_step (fun t k => XS.lstore X10.here hx rfl (hb hby at_83) rfl (l' := Ls12) (by rw [hLs11, hLs12]; rfl) k) ?_
      show own_Fin _ _ _ _ _ _ _ _ (mkF m 85 Ls12 [])
      refine own_step (fun t k => XS.aload (v := (.ref b6)) X10.here hx rfl (hb hby at_85) (by rw [hLs12]; rfl) rfl k) ?_
      show own_Fin _ _ _ _ _ _ _ _ (mkF m 87 Ls12 [(.ref b6)])
      refine own_step (fun t k => XS.lload (v := q2) X10.here hx rfl (hb hby at_87) (by rw [hLs12]; rfl) k) ?_
      show own_Fin _ _ _ _ _ _ _ _ (mkF m 89 Ls12 [(.long q2), (.ref b6)])
      obtain ⟨cq13, kq13, q13a, q13b, q13c⟩ := isOf hZ rfl E_b6
      obtain ⟨_, _, ⟨T13, L13, k13, n13⟩, -, X13, ⟨Lc13, hQ13, l13, y13, z13⟩, st13⟩ := X10.virtualBack hx (y := (⟨"com/example/kern_tablet/kerntablet/storage/ColumnTally", "remove", "(J)V"⟩ : MethodName)) (z := (⟨"com/example/kern_tablet/kerntablet/storage/ColumnTally", "remove", "(J)V"⟩ : MethodName)) hown (mvT hZ (hw _ (List.mem_of_getElem? (i := 31) rfl))) (mvT hZ (hw _ (List.mem_of_getElem? (i := 32) rfl))) (notFace_of_selects (args := #[]) (mvT hZ (hw _ (List.mem_of_getElem? (i := 34) rfl)))) (mvT hZ (hw _ (List.mem_of_getElem? (i := 34) rfl))) (mvT hZ (hw _ (List.mem_of_getElem? (i := 33) rfl))) (by decide) (backOf (W := 0) (rm4 l Z a0 hw [] b6 q2 _ _ _ _ _ _ T10.heap n0 Zs E_b6 F_values_b6 F_plainBytes_b6 F_largest_b6 F_laidOut_b6 F_added_b6 F_addedPlainBytes_b6 g_b6) hZ (hw _ (List.mem_of_getElem? (i := 35) rfl)) (hw _ (List.mem_of_getElem? (i := 2) rfl)) (by decide) (by decide)) q13a q13c (g := (mkF m 89 Ls12 [(.long q2), (.ref b6)])) rfl (by rw [hml]; show Array.size Ls12 = _; rw [hLs12]; rfl) (Steps.refl _) (argsL := [(.long q2)]) (rest := []) (lenOf own_pd_2 rfl) rfl (by show 2 * 0 + _ ≤ _; exact Nat.le_of_eq rfl) (hb hby at_89) (fun _ _ => ⟨rfl, rfl, (by decide : 1 + 0 ≤ _), (by decide : 6 + 0 ≤ _)⟩)
      dsimp only [Pt.U, Pt.locs, Pt.cells, Pt.slots] at X13 l13 y13 z13 st13 hQ13
      subst l13 y13 z13
      obtain ⟨rfl, Nq13, Kq13, P13_0, P13_1, P13_2, P13_3, P13_4, P13_5, P13_6⟩ := hQ13
      replace Nf := Fr.app Nf Nq13
      replace E_b6 := P13_0
      replace F_values_b6 : Fld Z T13.heap b6 "com/example/kern_tablet/kerntablet/storage/ColumnTally" "values" "I" (.int (1 : Int32)) := P13_1
      replace F_plainBytes_b6 := P13_2
      replace F_largest_b6 := P13_3
      replace F_laidOut_b6 := P13_4
      replace F_added_b6 := P13_5
      replace F_addedPlainBytes_b6 := P13_6
      replace Zs := Nat.le_trans Zs Kq13.1
      refine own_stepT st13 ?_
      show own_Fin _ _ _ _ _ _ _ _ (mkF m 92 Ls12 [])
      refine own_step (fun t k => XS.lconst X13.here hx rfl (hb hby at_92) k) ?_
      show own_Fin _ _ _ _ _ _ _ _ (mkF m 93 Ls12 [(.long (0 : Int64))])
      refine own_step (fun t k => XS.lloadN (v := q1) X13.here hx rfl (hb hby at_93) (by rw [hLs12]; rfl) k) ?_
      show own_Fin _ _ _ _ _ _ _ _ (mkF m 94 Ls12 [(.long q1), (.long (0 : Int64))])
      obtain ⟨_, _, ⟨T14, L14, k14, n14⟩, -, X14, ⟨Lc14, hQ14, l14, y14, z14⟩, st14⟩ := Jvm.LawKit.callS X13 hx (y := (⟨"java/lang/Math", "max", "(JJ)J"⟩ : MethodName)) hown (mvT hZ (hw _ (List.mem_of_getElem? (i := 36) rfl))) (mvT hZ (hw _ (List.mem_of_getElem? (i := 24) rfl))) (mvT hZ (hw _ (List.mem_of_getElem? (i := 25) rfl))) (mvT hZ (hw _ (List.mem_of_getElem? (i := 26) rfl))) (by decide) (backOf (W := 0) (rm1 l Z a0 hw [] (0 : Int64) q1 T13.heap n0 Zs) hZ (hw _ (List.mem_of_getElem? (i := 26) rfl)) (hw _ (List.mem_of_getElem? (i := 25) rfl)) (by decide) (by decide)) (g := (mkF m 94 Ls12 [(.long q1), (.long (0 : Int64))])) rfl (by rw [hml]; show Array.size Ls12 = _; rw [hLs12]; rfl) (argsL := [(.long (0 : Int64)), (.long q1)]) (rest := []) (lenOf own_pd_0 rfl) rfl (by show 2 * 0 + _ ≤ _; exact Nat.le_of_eq rfl) (hb hby at_94) (fun _ _ => ⟨rfl, rfl, (by decide : 1 + 0 ≤ _), (by decide : 6 + 0 ≤ _)⟩)
      dsimp only [Pt.U, Pt.locs, Pt.cells, Pt.slots] at X14 l14 y14 z14 st14 hQ14
      subst l14 y14 z14
      obtain ⟨rfl, Nq14, hh14⟩ := hQ14
      replace Nf := Fr.app Nf Nq14
      refine own_step st14 ?_
      show own_Fin _ _ _ _ _ _ _ _ (mkF m 97 Ls12 [(.long (own_max (0 : Int64) q1))])
      refine own_step (fun t k => XS.lloadN (v := q2) X14.here hx rfl (hb hby at_97) (by rw [hLs12]; rfl) k) ?_
      show own_Fin _ _ _ _ _ _ _ _ (mkF m 98 Ls12 [(.long q2), (.long (own_max (0 : Int64) q1))])
      obtain ⟨_, _, ⟨T15, L15, k15, n15⟩, -, X15, ⟨Lc15, hQ15, l15, y15, z15⟩, st15⟩ := Jvm.LawKit.callS X14 hx (y := (⟨"java/lang/Math", "max", "(JJ)J"⟩ : MethodName)) hown (mvT hZ (hw _ (List.mem_of_getElem? (i := 36) rfl))) (mvT hZ (hw _ (List.mem_of_getElem? (i := 24) rfl))) (mvT hZ (hw _ (List.mem_of_getElem? (i := 25) rfl))) (mvT hZ (hw _ (List.mem_of_getElem? (i := 26) rfl))) (by decide) (backOf (W := 0) (rm1 l Z a0 hw [] (own_max (0 : Int64) q1) q2 T13.heap n0 Zs) hZ (hw _ (List.mem_of_getElem? (i := 26) rfl)) (hw _ (List.mem_of_getElem? (i := 25) rfl)) (by decide) (by decide)) (g := (mkF m 98 Ls12 [(.long q2), (.long (own_max (0 : Int64) q1))])) rfl (by rw [hml]; show Array.size Ls12 = _; rw [hLs12]; rfl) (argsL := [(.long (own_max (0 : Int64) q1)), (.long q2)]) (rest := []) (lenOf own_pd_0 rfl) rfl (by show 2 * 0 + _ ≤ _; exact Nat.le_of_eq rfl) (hb hby at_98) (fun _ _ => ⟨rfl, hh14, (by decide : 1 + 0 ≤ _), (by decide : 6 + 0 ≤ _)⟩)
      dsimp only [Pt.U, Pt.locs, Pt.cells, Pt.slots] at X15 l15 y15 z15 st15 hQ15
      subst l15 y15 z15
      obtain ⟨rfl, Nq15, hh15⟩ := hQ15
      replace Nf := Fr.app Nf Nq15
      refine own_step st15 ?_
      show own_Fin _ _ _ _ _ _ _ _ (mkF m 101 Ls12 [(.long (own_max (own_max (0 : Int64) q1) q2))])
      obtain ⟨Ls16, hLs16⟩ : ∃ z : Array Slot, z = #[.val (.long q1), .second, .val (.long q2), .second, .val (.long q3), .second, .val (.int p4), .val (.int (0 : Int32)), .val (.int (0 : Int32)), .val (.ref b6), .val (.long q2), .second, .val (.long q1), .second, .val (.long (own_max (own_max (0 : Int64) q1) q2)), .second, .unset, .unset, .unset, .unset, .unset, .unset] := ⟨_, rfl⟩
      refine own_step (fun t k => XS.lstore X15.here hx rfl (hb hby at_101) rfl (l' := Ls16) (by rw [hLs12, hLs16]; rfl) k) ?_
      show own_Fin _ _ _ _ _ _ _ _ (mkF m 103 Ls16 [])
      refine own_step (fun t k => XS.iload (v := (0 : Int32)) X15.here hx rfl (hb hby at_103) (by rw [hLs16]; rfl) k) ?_
      show own_Fin _ _ _ _ _ _ _ _ (mkF m 105 Ls16 [(.int (0 : Int32))])
      refine own_step (fun t k => XS.ifYes X15.here hx rfl (pc0 := 105) (pc' := 113) rfl (hb hby at_105) rfl (by decide) (by decide) (by decide) k) ?_
      show own_Fin _ _ _ _ _ _ _ _ (mkF m 113 Ls16 [])
      refine own_step (fun t k => X15.ldc2Long hx hown (mvT hZ (hw _ (List.mem_of_getElem? (i := 37) rfl))) (g := (mkF m 113 Ls16 [])) rfl (hb hby at_113) _ k) ?_
      show own_Fin _ _ _ _ _ _ _ _ (mkF m 116 Ls16 [(.long (-1 : Int64))])
      obtain ⟨Ls17, hLs17⟩ : ∃ z : Array Slot, z = #[.val (.long q1), .second, .val (.long q2), .second, .val (.long q3), .second, .val (.int p4), .val (.int (0 : Int32)), .val (.int (0 : Int32)), .val (.ref b6), .val (.long q2), .second, .val (.long q1), .second, .val (.long (own_max (own_max (0 : Int64) q1) q2)), .second, .val (.long (-1 : Int64)), .second, .unset, .unset, .unset, .unset] := ⟨_, rfl⟩
      refine own_step (fun t k => XS.lstore X15.here hx rfl (hb hby at_116) rfl (l' := Ls17) (by rw [hLs16, hLs17]; rfl) k) ?_
      show own_Fin _ _ _ _ _ _ _ _ (mkF m 118 Ls17 [])
      refine own_step (fun t k => XS.iload (v := (0 : Int32)) X15.here hx rfl (hb hby at_118) (by rw [hLs17]; rfl) k) ?_
      show own_Fin _ _ _ _ _ _ _ _ (mkF m 120 Ls17 [(.int (0 : Int32))])
      refine own_step (fun t k => XS.ifYes X15.here hx rfl (pc0 := 120) (pc' := 127) rfl (hb hby at_120) rfl (by decide) (by decide) (by decide) k) ?_
      show own_Fin _ _ _ _ _ _ _ _ (mkF m 127 Ls17 [])
      refine own_step (fun t k => X15.ldc2Long hx hown (mvT hZ (hw _ (List.mem_of_getElem? (i := 38) rfl))) (g := (mkF m 127 Ls17 [])) rfl (hb hby at_127) _ k) ?_
      show own_Fin _ _ _ _ _ _ _ _ (mkF m 130 Ls17 [(.long (2 : Int64))])
      obtain ⟨Ls18, hLs18⟩ : ∃ z : Array Slot, z = #[.val (.long q1), .second, .val (.long q2), .second, .val (.long q3), .second, .val (.int p4), .val (.int (0 : Int32)), .val (.int (0 : Int32)), .val (.ref b6), .val (.long q2), .second, .val (.long q1), .second, .val (.long (own_max (own_max (0 : Int64) q1) q2)), .second, .val (.long (-1 : Int64)), .second, .val (.long (2 : Int64)), .second, .unset, .unset] := ⟨_, rfl⟩
      refine own_step (fun t k => XS.lstore X15.here hx rfl (hb hby at_130) rfl (l' := Ls18) (by rw [hLs17, hLs18]; rfl) k) ?_
      show own_Fin _ _ _ _ _ _ _ _ (mkF m 132 Ls18 [])
      refine own_step (fun t k => XS.iload (v := (0 : Int32)) X15.here hx rfl (hb hby at_132) (by rw [hLs18]; rfl) k) ?_
      show own_Fin _ _ _ _ _ _ _ _ (mkF m 134 Ls18 [(.int (0 : Int32))])
      refine own_step (fun t k => XS.ifYes X15.here hx rfl (pc0 := 134) (pc' := 141) rfl (hb hby at_134) rfl (by decide) (by decide) (by decide) k) ?_
      show own_Fin _ _ _ _ _ _ _ _ (mkF m 141 Ls18 [])
      refine own_step (fun t k => XS.lloadN (v := q1) X15.here hx rfl (hb hby at_141) (by rw [hLs18]; rfl) k) ?_
      show own_Fin _ _ _ _ _ _ _ _ (mkF m 142 Ls18 [(.long q1)])
      refine own_step (fun t k => XS.lloadN (v := q2) X15.here hx rfl (hb hby at_142) (by rw [hLs18]; rfl) k) ?_
      show own_Fin _ _ _ _ _ _ _ _ (mkF m 143 Ls18 [(.long q2), (.long q1)])
      refine own_step (fun t k => XS.ladd X15.here hx rfl (hb hby at_143) rfl k) ?_
      show own_Fin _ _ _ _ _ _ _ _ (mkF m 144 Ls18 [(.long (q1 + q2))])
      obtain ⟨Ls19, hLs19⟩ : ∃ z : Array Slot, z = #[.val (.long q1), .second, .val (.long q2), .second, .val (.long q3), .second, .val (.int p4), .val (.int (0 : Int32)), .val (.int (0 : Int32)), .val (.ref b6), .val (.long q2), .second, .val (.long q1), .second, .val (.long (own_max (own_max (0 : Int64) q1) q2)), .second, .val (.long (-1 : Int64)), .second, .val (.long (2 : Int64)), .second, .val (.long (q1 + q2)), .second] := ⟨_, rfl⟩
      refine own_step (fun t k => XS.lstore X15.here hx rfl (hb hby at_144) rfl (l' := Ls19) (by rw [hLs18, hLs19]; rfl) k) ?_
      show own_Fin _ _ _ _ _ _ _ _ (mkF m 146 Ls19 [])
      refine own_step (fun t k => XS.aload (v := (.ref b6)) X15.here hx rfl (hb hby at_146) (by rw [hLs19]; rfl) rfl k) ?_
      show own_Fin _ _ _ _ _ _ _ _ (mkF m 148 Ls19 [(.ref b6)])
      obtain ⟨cq20, kq20, q20a, q20b, q20c⟩ := isOf hZ hh15 E_b6
      obtain ⟨_, _, ⟨T20, L20, k20, n20⟩, -, X20, ⟨Lc20, hQ20, l20, y20, z20⟩, st20⟩ := X15.virtualBack hx (y := (⟨"com/example/kern_tablet/kerntablet/storage/ColumnTally", "values", "()I"⟩ : MethodName)) (z := (⟨"com/example/kern_tablet/kerntablet/storage/ColumnTally", "values", "()I"⟩ : MethodName)) hown (mvT hZ (hw _ (List.mem_of_getElem? (i := 39) rfl))) (mvT hZ (hw _ (List.mem_of_getElem? (i := 40) rfl))) (notFace_of_selects (args := #[]) (mvT hZ (hw _ (List.mem_of_getElem? (i := 42) rfl)))) (mvT hZ (hw _ (List.mem_of_getElem? (i := 42) rfl))) (mvT hZ (hw _ (List.mem_of_getElem? (i := 41) rfl))) (by decide) (backOf (W := 0) (rm10 l Z a0 hw [] b6 _ T13.heap n0 Zs F_values_b6) hZ (hw _ (List.mem_of_getElem? (i := 43) rfl)) (hw _ (List.mem_of_getElem? (i := 2) rfl)) (by decide) (by decide)) q20a q20c (g := (mkF m 148 Ls19 [(.ref b6)])) rfl (by rw [hml]; show Array.size Ls19 = _; rw [hLs19]; rfl) (Steps.refl _) (argsL := []) (rest := []) (lenOf own_pd_3 rfl) rfl (by show 2 * 0 + _ ≤ _; exact Nat.le_of_eq rfl) (hb hby at_148) (fun _ _ => ⟨rfl, hh15, (by decide : 1 + 0 ≤ _), (by decide : 6 + 0 ≤ _)⟩)
      dsimp only [Pt.U, Pt.locs, Pt.cells, Pt.slots] at X20 l20 y20 z20 st20 hQ20
      subst l20 y20 z20
      obtain ⟨rfl, Nq20, hh20⟩ := hQ20
      replace Nf := Fr.app Nf Nq20
      refine own_stepT st20 ?_
      show own_Fin _ _ _ _ _ _ _ _ (mkF m 151 Ls19 [(.int (1 : Int32))])
      refine own_step (fun t k => XS.iconst X20.here hx rfl (hb hby at_151) k) ?_
      show own_Fin _ _ _ _ _ _ _ _ (mkF m 152 Ls19 [(.int (1 : Int32)), (.int (1 : Int32))])
      refine own_step (fun t k => XS.icmpNo X20.here hx rfl (hb hby at_152) rfl (own_ce (x := (1 : Int32)) (y := (1 : Int32)) rfl rfl (rfl : ((1 : Int32)).toInt = 1)).2 k) ?_
      show own_Fin _ _ _ _ _ _ _ _ (mkF m 155 Ls19 [])
      refine own_step (fun t k => XS.aload (v := (.ref b6)) X20.here hx rfl (hb hby at_155) (by rw [hLs19]; rfl) rfl k) ?_
      show own_Fin _ _ _ _ _ _ _ _ (mkF m 157 Ls19 [(.ref b6)])
      obtain ⟨cq21, kq21, q21a, q21b, q21c⟩ := isOf hZ hh20 E_b6
      obtain ⟨_, _, ⟨T21, L21, k21, n21⟩, -, X21, ⟨Lc21, hQ21, l21, y21, z21⟩, st21⟩ := X20.virtualBack hx (y := (⟨"com/example/kern_tablet/kerntablet/storage/ColumnTally", "plainBytes", "()J"⟩ : MethodName)) (z := (⟨"com/example/kern_tablet/kerntablet/storage/ColumnTally", "plainBytes", "()J"⟩ : MethodName)) hown (mvT hZ (hw _ (List.mem_of_getElem? (i := 44) rfl))) (mvT hZ (hw _ (List.mem_of_getElem? (i := 45) rfl))) (notFace_of_selects (args := #[]) (mvT hZ (hw _ (List.mem_of_getElem? (i := 47) rfl)))) (mvT hZ (hw _ (List.mem_of_getElem? (i := 47) rfl))) (mvT hZ (hw _ (List.mem_of_getElem? (i := 46) rfl))) (by decide) (backOf (W := 0) (rm11 l Z a0 hw [] b6 _ T13.heap n0 Zs F_plainBytes_b6) hZ (hw _ (List.mem_of_getElem? (i := 48) rfl)) (hw _ (List.mem_of_getElem? (i := 2) rfl)) (by decide) (by decide)) q21a q21c (g := (mkF m 157 Ls19 [(.ref b6)])) rfl (by rw [hml]; show Array.size Ls19 = _; rw [hLs19]; rfl) (Steps.refl _) (argsL := []) (rest := []) (lenOf own_pd_4 rfl) rfl (by show 2 * 0 + _ ≤ _; exact Nat.le_of_eq rfl) (hb hby at_157) (fun _ _ => ⟨rfl, hh20, (by decide : 1 + 0 ≤ _), (by decide : 6 + 0 ≤ _)⟩)
      dsimp only [Pt.U, Pt.locs, Pt.cells, Pt.slots] at X21 l21 y21 z21 st21 hQ21
      subst l21 y21 z21
      obtain ⟨rfl, Nq21, hh21⟩ := hQ21
      replace Nf := Fr.app Nf Nq21
      refine own_stepT st21 ?_
      show own_Fin _ _ _ _ _ _ _ _ (mkF m 160 Ls19 [(.long ((((0 : Int64) + q1) + q2) - q2))])
      refine own_step (fun t k => XS.lload (v := q1) X21.here hx rfl (hb hby at_160) (by rw [hLs19]; rfl) k) ?_
      show own_Fin _ _ _ _ _ _ _ _ (mkF m 162 Ls19 [(.long q1), (.long ((((0 : Int64) + q1) + q2) - q2))])
      refine own_step (fun t k => XS.lcmp X21.here hx rfl (hb hby at_162) rfl k) ?_
      show own_Fin _ _ _ _ _ _ _ _ (mkF m 163 Ls19 [(.int (lcmpW ((((0 : Int64) + q1) + q2) - q2) q1))])
      have hc22 : (((((0 : Int64) + q1) + q2) - q2)).toInt = (q1).toInt := by congr 1; rw [Int64.zero_add, Int64.add_sub_cancel]
      refine own_step (fun t k => XS.ifNo X21.here hx rfl (hb hby at_163) rfl (own_le (x := ((((0 : Int64) + q1) + q2) - q2)) (y := q1) rfl rfl hc22).2 k) ?_
      show own_Fin _ _ _ _ _ _ _ _ (mkF m 166 Ls19 [])
      refine own_step (fun t k => XS.aload (v := (.ref b6)) X21.here hx rfl (hb hby at_166) (by rw [hLs19]; rfl) rfl k) ?_
      show own_Fin _ _ _ _ _ _ _ _ (mkF m 168 Ls19 [(.ref b6)])
      obtain ⟨cq23, kq23, q23a, q23b, q23c⟩ := isOf hZ hh21 E_b6
      obtain ⟨_, _, ⟨T23, L23, k23, n23⟩, -, X23, ⟨Lc23, hQ23, l23, y23, z23⟩, st23⟩ := X21.virtualBack hx (y := (⟨"com/example/kern_tablet/kerntablet/storage/ColumnTally", "largest", "()J"⟩ : MethodName)) (z := (⟨"com/example/kern_tablet/kerntablet/storage/ColumnTally", "largest", "()J"⟩ : MethodName)) hown (mvT hZ (hw _ (List.mem_of_getElem? (i := 49) rfl))) (mvT hZ (hw _ (List.mem_of_getElem? (i := 50) rfl))) (notFace_of_selects (args := #[]) (mvT hZ (hw _ (List.mem_of_getElem? (i := 52) rfl)))) (mvT hZ (hw _ (List.mem_of_getElem? (i := 52) rfl))) (mvT hZ (hw _ (List.mem_of_getElem? (i := 51) rfl))) (by decide) (backOf (W := 0) (rm12 l Z a0 hw [] b6 _ T13.heap n0 Zs F_largest_b6) hZ (hw _ (List.mem_of_getElem? (i := 53) rfl)) (hw _ (List.mem_of_getElem? (i := 2) rfl)) (by decide) (by decide)) q23a q23c (g := (mkF m 168 Ls19 [(.ref b6)])) rfl (by rw [hml]; show Array.size Ls19 = _; rw [hLs19]; rfl) (Steps.refl _) (argsL := []) (rest := []) (lenOf own_pd_4 rfl) rfl (by show 2 * 0 + _ ≤ _; exact Nat.le_of_eq rfl) (hb hby at_168) (fun _ _ => ⟨rfl, hh21, (by decide : 1 + 0 ≤ _), (by decide : 6 + 0 ≤ _)⟩)
      dsimp only [Pt.U, Pt.locs, Pt.cells, Pt.slots] at X23 l23 y23 z23 st23 hQ23
      subst l23 y23 z23
      obtain ⟨rfl, Nq23, hh23⟩ := hQ23
      replace Nf := Fr.app Nf Nq23
      refine own_stepT st23 ?_
      show own_Fin _ _ _ _ _ _ _ _ (mkF m 171 Ls19 [(.long (own_max (own_max (0 : Int64) q1) q2))])
      refine own_step (fun t k => XS.lload (v := (own_max (own_max (0 : Int64) q1) q2)) X23.here hx rfl (hb hby at_171) (by rw [hLs19]; rfl) k) ?_
      show own_Fin _ _ _ _ _ _ _ _ (mkF m 173 Ls19 [(.long (own_max (own_max (0 : Int64) q1) q2)), (.long (own_max (own_max (0 : Int64) q1) q2))])
      refine own_step (fun t k => XS.lcmp X23.here hx rfl (hb hby at_173) rfl k) ?_
      show own_Fin _ _ _ _ _ _ _ _ (mkF m 174 Ls19 [(.int (lcmpW (own_max (own_max (0 : Int64) q1) q2) (own_max (own_max (0 : Int64) q1) q2)))])
      refine own_step (fun t k => XS.ifNo X23.here hx rfl (hb hby at_174) rfl (own_le (x := (own_max (own_max (0 : Int64) q1) q2)) (y := (own_max (own_max (0 : Int64) q1) q2)) rfl rfl (rfl : ((own_max (own_max (0 : Int64) q1) q2)).toInt = ((own_max (own_max (0 : Int64) q1) q2)).toInt)).2 k) ?_
      show own_Fin _ _ _ _ _ _ _ _ (mkF m 177 Ls19 [])
      refine own_step (fun t k => XS.aload (v := (.ref b6)) X23.here hx rfl (hb hby at_177) (by rw [hLs19]; rfl) rfl k) ?_
      show own_Fin _ _ _ _ _ _ _ _ (mkF m 179 Ls19 [(.ref b6)])
      obtain ⟨cq24, kq24, q24a, q24b, q24c⟩ := isOf hZ hh23 E_b6
      obtain ⟨_, _, ⟨T24, L24, k24, n24⟩, -, X24, ⟨Lc24, hQ24, l24, y24, z24⟩, st24⟩ := X23.virtualBack hx (y := (⟨"com/example/kern_tablet/kerntablet/storage/ColumnTally", "laidOut", "()J"⟩ : MethodName)) (z := (⟨"com/example/kern_tablet/kerntablet/storage/ColumnTally", "laidOut", "()J"⟩ : MethodName)) hown (mvT hZ (hw _ (List.mem_of_getElem? (i := 54) rfl))) (mvT hZ (hw _ (List.mem_of_getElem? (i := 55) rfl))) (notFace_of_selects (args := #[]) (mvT hZ (hw _ (List.mem_of_getElem? (i := 57) rfl)))) (mvT hZ (hw _ (List.mem_of_getElem? (i := 57) rfl))) (mvT hZ (hw _ (List.mem_of_getElem? (i := 56) rfl))) (by decide) (backOf (W := 0) (rm13 l Z a0 hw [] b6 _ T13.heap n0 Zs F_laidOut_b6) hZ (hw _ (List.mem_of_getElem? (i := 58) rfl)) (hw _ (List.mem_of_getElem? (i := 2) rfl)) (by decide) (by decide)) q24a q24c (g := (mkF m 179 Ls19 [(.ref b6)])) rfl (by rw [hml]; show Array.size Ls19 = _; rw [hLs19]; rfl) (Steps.refl _) (argsL := []) (rest := []) (lenOf own_pd_4 rfl) rfl (by show 2 * 0 + _ ≤ _; exact Nat.le_of_eq rfl) (hb hby at_179) (fun _ _ => ⟨rfl, hh23, (by decide : 1 + 0 ≤ _), (by decide : 6 + 0 ≤ _)⟩)
      dsimp only [Pt.U, Pt.locs, Pt.cells, Pt.slots] at X24 l24 y24 z24 st24 hQ24
      subst l24 y24 z24
      obtain ⟨rfl, Nq24, hh24⟩ := hQ24
      replace Nf := Fr.app Nf Nq24
      refine own_stepT st24 ?_
      show own_Fin _ _ _ _ _ _ _ _ (mkF m 182 Ls19 [(.long (-1 : Int64))])
      refine own_step (fun t k => XS.lload (v := (-1 : Int64)) X24.here hx rfl (hb hby at_182) (by rw [hLs19]; rfl) k) ?_
      show own_Fin _ _ _ _ _ _ _ _ (mkF m 184 Ls19 [(.long (-1 : Int64)), (.long (-1 : Int64))])
      refine own_step (fun t k => XS.lcmp X24.here hx rfl (hb hby at_184) rfl k) ?_
      show own_Fin _ _ _ _ _ _ _ _ (mkF m 185 Ls19 [(.int (lcmpW (-1 : Int64) (-1 : Int64)))])
      refine own_step (fun t k => XS.ifNo X24.here hx rfl (hb hby at_185) rfl (own_le (x := (-1 : Int64)) (y := (-1 : Int64)) rfl rfl (rfl : ((-1 : Int64)).toInt = (-1))).2 k) ?_
      show own_Fin _ _ _ _ _ _ _ _ (mkF m 188 Ls19 [])
      refine own_step (fun t k => XS.aload (v := (.ref b6)) X24.here hx rfl (hb hby at_188) (by rw [hLs19]; rfl) rfl k) ?_
      show own_Fin _ _ _ _ _ _ _ _ (mkF m 190 Ls19 [(.ref b6)])
      obtain ⟨cq25, kq25, q25a, q25b, q25c⟩ := isOf hZ hh24 E_b6
      obtain ⟨_, _, ⟨T25, L25, k25, n25⟩, -, X25, ⟨Lc25, hQ25, l25, y25, z25⟩, st25⟩ := X24.virtualBack hx (y := (⟨"com/example/kern_tablet/kerntablet/storage/ColumnTally", "added", "()J"⟩ : MethodName)) (z := (⟨"com/example/kern_tablet/kerntablet/storage/ColumnTally", "added", "()J"⟩ : MethodName)) hown (mvT hZ (hw _ (List.mem_of_getElem? (i := 59) rfl))) (mvT hZ (hw _ (List.mem_of_getElem? (i := 60) rfl))) (notFace_of_selects (args := #[]) (mvT hZ (hw _ (List.mem_of_getElem? (i := 62) rfl)))) (mvT hZ (hw _ (List.mem_of_getElem? (i := 62) rfl))) (mvT hZ (hw _ (List.mem_of_getElem? (i := 61) rfl))) (by decide) (backOf (W := 0) (rm14 l Z a0 hw [] b6 _ T13.heap n0 Zs F_added_b6) hZ (hw _ (List.mem_of_getElem? (i := 63) rfl)) (hw _ (List.mem_of_getElem? (i := 2) rfl)) (by decide) (by decide)) q25a q25c (g := (mkF m 190 Ls19 [(.ref b6)])) rfl (by rw [hml]; show Array.size Ls19 = _; rw [hLs19]; rfl) (Steps.refl _) (argsL := []) (rest := []) (lenOf own_pd_4 rfl) rfl (by show 2 * 0 + _ ≤ _; exact Nat.le_of_eq rfl) (hb hby at_190) (fun _ _ => ⟨rfl, hh24, (by decide : 1 + 0 ≤ _), (by decide : 6 + 0 ≤ _)⟩)
      dsimp only [Pt.U, Pt.locs, Pt.cells, Pt.slots] at X25 l25 y25 z25 st25 hQ25
      subst l25 y25 z25
      obtain ⟨rfl, Nq25, hh25⟩ := hQ25
      replace Nf := Fr.app Nf Nq25
      refine own_stepT st25 ?_
      show own_Fin _ _ _ _ _ _ _ _ (mkF m 193 Ls19 [(.long (2 : Int64))])
      refine own_step (fun t k => XS.lload (v := (2 : Int64)) X25.here hx rfl (hb hby at_193) (by rw [hLs19]; rfl) k) ?_
      show own_Fin _ _ _ _ _ _ _ _ (mkF m 195 Ls19 [(.long (2 : Int64)), (.long (2 : Int64))])
      refine own_step (fun t k => XS.lcmp X25.here hx rfl (hb hby at_195) rfl k) ?_
      show own_Fin _ _ _ _ _ _ _ _ (mkF m 196 Ls19 [(.int (lcmpW (2 : Int64) (2 : Int64)))])
      refine own_step (fun t k => XS.ifNo X25.here hx rfl (hb hby at_196) rfl (own_le (x := (2 : Int64)) (y := (2 : Int64)) rfl rfl (rfl : ((2 : Int64)).toInt = 2)).2 k) ?_
      show own_Fin _ _ _ _ _ _ _ _ (mkF m 199 Ls19 [])
      refine own_step (fun t k => XS.aload (v := (.ref b6)) X25.here hx rfl (hb hby at_199) (by rw [hLs19]; rfl) rfl k) ?_
      show own_Fin _ _ _ _ _ _ _ _ (mkF m 201 Ls19 [(.ref b6)])
      obtain ⟨cq26, kq26, q26a, q26b, q26c⟩ := isOf hZ hh25 E_b6
      obtain ⟨_, _, ⟨T26, L26, k26, n26⟩, -, X26, ⟨Lc26, hQ26, l26, y26, z26⟩, st26⟩ := X25.virtualBack hx (y := (⟨"com/example/kern_tablet/kerntablet/storage/ColumnTally", "addedPlainBytes", "()J"⟩ : MethodName)) (z := (⟨"com/example/kern_tablet/kerntablet/storage/ColumnTally", "addedPlainBytes", "()J"⟩ : MethodName)) hown (mvT hZ (hw _ (List.mem_of_getElem? (i := 64) rfl))) (mvT hZ (hw _ (List.mem_of_getElem? (i := 65) rfl))) (notFace_of_selects (args := #[]) (mvT hZ (hw _ (List.mem_of_getElem? (i := 67) rfl)))) (mvT hZ (hw _ (List.mem_of_getElem? (i := 67) rfl))) (mvT hZ (hw _ (List.mem_of_getElem? (i := 66) rfl))) (by decide) (backOf (W := 0) (rm15 l Z a0 hw [] b6 _ T13.heap n0 Zs F_addedPlainBytes_b6) hZ (hw _ (List.mem_of_getElem? (i := 68) rfl)) (hw _ (List.mem_of_getElem? (i := 2) rfl)) (by decide) (by decide)) q26a q26c (g := (mkF m 201 Ls19 [(.ref b6)])) rfl (by rw [hml]; show Array.size Ls19 = _; rw [hLs19]; rfl) (Steps.refl _) (argsL := []) (rest := []) (lenOf own_pd_4 rfl) rfl (by show 2 * 0 + _ ≤ _; exact Nat.le_of_eq rfl) (hb hby at_201) (fun _ _ => ⟨rfl, hh25, (by decide : 1 + 0 ≤ _), (by decide : 6 + 0 ≤ _)⟩)
      dsimp only [Pt.U, Pt.locs, Pt.cells, Pt.slots] at X26 l26 y26 z26 st26 hQ26
      subst l26 y26 z26
      obtain ⟨rfl, Nq26, hh26⟩ := hQ26
      replace Nf := Fr.app Nf Nq26
      refine own_stepT st26 ?_
      show own_Fin _ _ _ _ _ _ _ _ (mkF m 204 Ls19 [(.long (((0 : Int64) + q1) + q2))])
      refine own_step (fun t k => XS.lload (v := (q1 + q2)) X26.here hx rfl (hb hby at_204) (by rw [hLs19]; rfl) k) ?_
      show own_Fin _ _ _ _ _ _ _ _ (mkF m 206 Ls19 [(.long (q1 + q2)), (.long (((0 : Int64) + q1) + q2))])
      refine own_step (fun t k => XS.lcmp X26.here hx rfl (hb hby at_206) rfl k) ?_
      show own_Fin _ _ _ _ _ _ _ _ (mkF m 207 Ls19 [(.int (lcmpW (((0 : Int64) + q1) + q2) (q1 + q2)))])
      have hc27 : ((((0 : Int64) + q1) + q2)).toInt = ((q1 + q2)).toInt := by rw [Int64.zero_add]
      refine own_step (fun t k => XS.ifNo X26.here hx rfl (hb hby at_207) rfl (own_le (x := (((0 : Int64) + q1) + q2)) (y := (q1 + q2)) rfl rfl hc27).2 k) ?_
      show own_Fin _ _ _ _ _ _ _ _ (mkF m 210 Ls19 [])
      refine own_step (fun t k => XS.iconst X26.here hx rfl (hb hby at_210) k) ?_
      show own_Fin _ _ _ _ _ _ _ _ (mkF m 211 Ls19 [(.int (1 : Int32))])
      refine own_step (fun t k => XS.goto X26.here hx rfl (pc0 := 211) (pc' := 215) rfl (hb hby at_211) (by decide) (by decide) k) ?_
      show own_Fin _ _ _ _ _ _ _ _ (mkF m 215 Ls19 [(.int (1 : Int32))])
      refine own_retZ X26 hx hlk Bd.returns (hb hby at_215) (z' := (1 : Int32)) (by decide) (by decide) (by decide) hh26 ?_
      exact ⟨rfl, Nf⟩
    · skip
      refine own_step (fun t k => XS.ifNo X0.here hx rfl (hb hby at_18) rfl ((if0 _ _).trans (own_cu (x := (p4 &&& (2 : Int32))) (y := (0 : Int32)) rfl rfl hc4).1) k) ?_
      show own_Fin _ _ _ _ _ _ _ _ (mkF m 21 Ls3 [])
      refine own_step (fun t k => XS.iconst X0.here hx rfl (hb hby at_21) k) ?_
      show own_Fin _ _ _ _ _ _ _ _ (mkF m 22 Ls3 [(.int (1 : Int32))])
      refine own_step (fun t k => XS.goto X0.here hx rfl (pc0 := 22) (pc' := 26) rfl (hb hby at_22) (by decide) (by decide) k) ?_
      show own_Fin _ _ _ _ _ _ _ _ (mkF m 26 Ls3 [(.int (1 : Int32))])
      obtain ⟨Ls28, hLs28⟩ : ∃ z : Array Slot, z = #[.val (.long q1), .second, .val (.long q2), .second, .val (.long q3), .second, .val (.int p4), .val (.int (0 : Int32)), .val (.int (1 : Int32)), .unset, .unset, .unset, .unset, .unset, .unset, .unset, .unset, .unset, .unset, .unset, .unset, .unset] := ⟨_, rfl⟩
      refine own_step (fun t k => XS.istore X0.here hx rfl (hb hby at_26) rfl (l' := Ls28) (by rw [hLs3, hLs28]; rfl) k) ?_
      show own_Fin _ _ _ _ _ _ _ _ (mkF m 28 Ls28 [])
      obtain ⟨T29, h29, X29, e29, E29, A29, D29, -, st29⟩ := newO X0 hx hZ hown (hw _ (List.mem_of_getElem? (i := 0) rfl)) (hw _ (List.mem_of_getElem? (i := 1) rfl)) (hw _ (List.mem_of_getElem? (i := 2) rfl)) e0 (g := (mkF m 28 Ls28 [])) rfl (hb hby at_28) (by decide) (by decide)
      obtain ⟨b29, g29⟩ : ∃ z, z = h0.size := ⟨_, rfl⟩
      rw [← g29] at A29 D29 st29
      refine own_step st29 ?_
      have g_b29 : n0 ≤ b29 := Nat.le_trans Zs (Nat.le_of_eq g29.symm)
      replace Zs := Nat.le_trans Zs E29.1
      have E_b29 := A29
      have F_laidOut_b29 : Fld Z h29 b29 "com/example/kern_tablet/kerntablet/storage/ColumnTally" "laidOut" "J" (.long (0 : Int64)) := D29 (Or.inl (hw _ (List.mem_of_getElem? (i := 11) rfl))) (ty := .long) (by decide)
      have F_values_b29 : Fld Z h29 b29 "com/example/kern_tablet/kerntablet/storage/ColumnTally" "values" "I" (.int (0 : Int32)) := D29 (Or.inl (hw _ (List.mem_of_getElem? (i := 18) rfl))) (ty := .int) (by decide)
      have F_plainBytes_b29 : Fld Z h29 b29 "com/example/kern_tablet/kerntablet/storage/ColumnTally" "plainBytes" "J" (.long (0 : Int64)) := D29 (Or.inl (hw _ (List.mem_of_getElem? (i := 20) rfl))) (ty := .long) (by decide)
      have F_largest_b29 : Fld Z h29 b29 "com/example/kern_tablet/kerntablet/storage/ColumnTally" "largest" "J" (.long (0 : Int64)) := D29 (Or.inl (hw _ (List.mem_of_getElem? (i := 22) rfl))) (ty := .long) (by decide)
      have F_added_b29 : Fld Z h29 b29 "com/example/kern_tablet/kerntablet/storage/ColumnTally" "added" "J" (.long (0 : Int64)) := D29 (Or.inl (hw _ (List.mem_of_getElem? (i := 28) rfl))) (ty := .long) (by decide)
      have F_addedPlainBytes_b29 : Fld Z h29 b29 "com/example/kern_tablet/kerntablet/storage/ColumnTally" "addedPlainBytes" "J" (.long (0 : Int64)) := D29 (Or.inl (hw _ (List.mem_of_getElem? (i := 30) rfl))) (ty := .long) (by decide)
      show own_Fin _ _ _ _ _ _ _ _ (mkF m 31 Ls28 [(.ref b29)])
      refine own_step (fun t k => XS.dup X29.here hx rfl (hb hby at_31) rfl rfl k) ?_
      show own_Fin _ _ _ _ _ _ _ _ (mkF m 32 Ls28 [(.ref b29), (.ref b29)])
      obtain ⟨_, _, ⟨T30, L30, k30, n30⟩, -, X30, ⟨Lc30, hQ30, l30, y30, z30⟩, st30⟩ := X29.specialBack hx (y := (⟨"com/example/kern_tablet/kerntablet/storage/ColumnTally", "<init>", "()V"⟩ : MethodName)) rfl hown (mvT hZ (hw _ (List.mem_of_getElem? (i := 3) rfl))) (mvT hZ (hw _ (List.mem_of_getElem? (i := 4) rfl))) (mvT hZ (hw _ (List.mem_of_getElem? (i := 5) rfl))) (by decide) (backOf (W := 1) (rm2 l Z a0 hw [] b29 h29 n0 Zs E_b29 F_values_b29 F_plainBytes_b29 F_largest_b29 F_laidOut_b29 F_added_b29 F_addedPlainBytes_b29 g_b29) hZ (hw _ (List.mem_of_getElem? (i := 5) rfl)) (hw _ (List.mem_of_getElem? (i := 2) rfl)) (by decide) (by decide)) (g := (mkF m 32 Ls28 [(.ref b29), (.ref b29)])) rfl (by rw [hml]; show Array.size Ls28 = _; rw [hLs28]; rfl) (Steps.refl _) (a := b29) (argsL := []) (rest := [(.ref b29)]) (lenOf own_pd_1 rfl) rfl (by show 2 * 0 + _ ≤ _; exact Nat.le_of_eq rfl) (hb hby at_32) (fun _ _ => ⟨rfl, e29, (by decide : 1 + 0 ≤ _), (by decide : 6 + 0 ≤ _)⟩)
      dsimp only [Pt.U, Pt.locs, Pt.cells, Pt.slots] at X30 l30 y30 z30 st30 hQ30
      subst l30 y30 z30
      obtain ⟨rfl, Nq30, Kq30, P30_0, P30_1, P30_2, P30_3, P30_4, P30_5, P30_6⟩ := hQ30
      replace Nf := Fr.app Nf Nq30
      replace E_b29 := P30_0
      replace F_values_b29 := P30_1
      replace F_plainBytes_b29 := P30_2
      replace F_largest_b29 := P30_3
      replace F_laidOut_b29 : Fld Z T30.heap b29 "com/example/kern_tablet/kerntablet/storage/ColumnTally" "laidOut" "J" (.long (-1 : Int64)) := P30_4
      replace F_added_b29 := P30_5
      replace F_addedPlainBytes_b29 := P30_6
      replace Zs := Nat.le_trans Zs Kq30.1
      refine own_stepT st30 ?_
      show own_Fin _ _ _ _ _ _ _ _ (mkF m 35 Ls28 [(.ref b29)])
      obtain ⟨Ls31, hLs31⟩ : ∃ z : Array Slot, z = #[.val (.long q1), .second, .val (.long q2), .second, .val (.long q3), .second, .val (.int p4), .val (.int (0 : Int32)), .val (.int (1 : Int32)), .val (.ref b29), .unset, .unset, .unset, .unset, .unset, .unset, .unset, .unset, .unset, .unset, .unset, .unset] := ⟨_, rfl⟩
      refine own_step (fun t k => XS.astore X30.here hx rfl (hb hby at_35) rfl rfl (l' := Ls31) (by rw [hLs28, hLs31]; rfl) k) ?_
      show own_Fin _ _ _ _ _ _ _ _ (mkF m 37 Ls31 [])
      refine own_step (fun t k => XS.aload (v := (.ref b29)) X30.here hx rfl (hb hby at_37) (by rw [hLs31]; rfl) rfl k) ?_
      show own_Fin _ _ _ _ _ _ _ _ (mkF m 39 Ls31 [(.ref b29)])
      refine own_step (fun t k => XS.lloadN (v := q1) X30.here hx rfl (hb hby at_39) (by rw [hLs31]; rfl) k) ?_
      show own_Fin _ _ _ _ _ _ _ _ (mkF m 40 Ls31 [(.long q1), (.ref b29)])
      obtain ⟨cq32, kq32, q32a, q32b, q32c⟩ := isOf hZ rfl E_b29
      obtain ⟨_, _, ⟨T32, L32, k32, n32⟩, -, X32, ⟨Lc32, hQ32, l32, y32, z32⟩, st32⟩ := X30.virtualBack hx (y := (⟨"com/example/kern_tablet/kerntablet/storage/ColumnTally", "add", "(J)V"⟩ : MethodName)) (z := (⟨"com/example/kern_tablet/kerntablet/storage/ColumnTally", "add", "(J)V"⟩ : MethodName)) hown (mvT hZ (hw _ (List.mem_of_getElem? (i := 12) rfl))) (mvT hZ (hw _ (List.mem_of_getElem? (i := 13) rfl))) (notFace_of_selects (args := #[]) (mvT hZ (hw _ (List.mem_of_getElem? (i := 15) rfl)))) (mvT hZ (hw _ (List.mem_of_getElem? (i := 15) rfl))) (mvT hZ (hw _ (List.mem_of_getElem? (i := 14) rfl))) (by decide) (backOf (W := 0) (rm3 l Z a0 hw [] b29 q1 _ _ _ _ _ _ T30.heap n0 Zs E_b29 F_values_b29 F_plainBytes_b29 F_largest_b29 F_laidOut_b29 F_added_b29 F_addedPlainBytes_b29 g_b29) hZ (hw _ (List.mem_of_getElem? (i := 16) rfl)) (hw _ (List.mem_of_getElem? (i := 2) rfl)) (by decide) (by decide)) q32a q32c (g := (mkF m 40 Ls31 [(.long q1), (.ref b29)])) rfl (by rw [hml]; show Array.size Ls31 = _; rw [hLs31]; rfl) (Steps.refl _) (argsL := [(.long q1)]) (rest := []) (lenOf own_pd_2 rfl) rfl (by show 2 * 0 + _ ≤ _; exact Nat.le_of_eq rfl) (hb hby at_40) (fun _ _ => ⟨rfl, rfl, (by decide : 1 + 0 ≤ _), (by decide : 6 + 0 ≤ _)⟩)
      dsimp only [Pt.U, Pt.locs, Pt.cells, Pt.slots] at X32 l32 y32 z32 st32 hQ32
      subst l32 y32 z32
      obtain ⟨rfl, Nq32, Kq32, P32_0, P32_1, P32_2, P32_3, P32_4, P32_5, P32_6⟩ := hQ32
      replace Nf := Fr.app Nf Nq32
      replace E_b29 := P32_0
      replace F_values_b29 : Fld Z T32.heap b29 "com/example/kern_tablet/kerntablet/storage/ColumnTally" "values" "I" (.int (1 : Int32)) := P32_1
      replace F_plainBytes_b29 := P32_2
      replace F_largest_b29 := P32_3
      replace F_laidOut_b29 := P32_4
      replace F_added_b29 : Fld Z T32.heap b29 "com/example/kern_tablet/kerntablet/storage/ColumnTally" "added" "J" (.long (1 : Int64)) := P32_5
      replace F_addedPlainBytes_b29 := P32_6
      replace Zs := Nat.le_trans Zs Kq32.1
      refine own_stepT st32 ?_
      show own_Fin _ _ _ _ _ _ _ _ (mkF m 43 Ls31 [])
      refine own_step (fun t k => XS.iload (v := (0 : Int32)) X32.here hx rfl (hb hby at_43) (by rw [hLs31]; rfl) k) ?_
      show own_Fin _ _ _ _ _ _ _ _ (mkF m 45 Ls31 [(.int (0 : Int32))])
      refine own_step (fun t k => XS.ifYes X32.here hx rfl (pc0 := 45) (pc' := 55) rfl (hb hby at_45) rfl (by decide) (by decide) (by decide) k) ?_
      show own_Fin _ _ _ _ _ _ _ _ (mkF m 55 Ls31 [])
      refine own_step (fun t k => XS.aload (v := (.ref b29)) X32.here hx rfl (hb hby at_55) (by rw [hLs31]; rfl) rfl k) ?_
      show own_Fin _ _ _ _ _ _ _ _ (mkF m 57 Ls31 [(.ref b29)])
      refine own_step (fun t k => XS.lloadN (v := q2) X32.here hx rfl (hb hby at_57) (by rw [hLs31]; rfl) k) ?_
      show own_Fin _ _ _ _ _ _ _ _ (mkF m 58 Ls31 [(.long q2), (.ref b29)])
      obtain ⟨cq33, kq33, q33a, q33b, q33c⟩ := isOf hZ rfl E_b29
      obtain ⟨_, _, ⟨T33, L33, k33, n33⟩, -, X33, ⟨Lc33, hQ33, l33, y33, z33⟩, st33⟩ := X32.virtualBack hx (y := (⟨"com/example/kern_tablet/kerntablet/storage/ColumnTally", "add", "(J)V"⟩ : MethodName)) (z := (⟨"com/example/kern_tablet/kerntablet/storage/ColumnTally", "add", "(J)V"⟩ : MethodName)) hown (mvT hZ (hw _ (List.mem_of_getElem? (i := 12) rfl))) (mvT hZ (hw _ (List.mem_of_getElem? (i := 13) rfl))) (notFace_of_selects (args := #[]) (mvT hZ (hw _ (List.mem_of_getElem? (i := 15) rfl)))) (mvT hZ (hw _ (List.mem_of_getElem? (i := 15) rfl))) (mvT hZ (hw _ (List.mem_of_getElem? (i := 14) rfl))) (by decide) (backOf (W := 0) (rm3 l Z a0 hw [] b29 q2 _ _ _ _ _ _ T32.heap n0 Zs E_b29 F_values_b29 F_plainBytes_b29 F_largest_b29 F_laidOut_b29 F_added_b29 F_addedPlainBytes_b29 g_b29) hZ (hw _ (List.mem_of_getElem? (i := 16) rfl)) (hw _ (List.mem_of_getElem? (i := 2) rfl)) (by decide) (by decide)) q33a q33c (g := (mkF m 58 Ls31 [(.long q2), (.ref b29)])) rfl (by rw [hml]; show Array.size Ls31 = _; rw [hLs31]; rfl) (Steps.refl _) (argsL := [(.long q2)]) (rest := []) (lenOf own_pd_2 rfl) rfl (by show 2 * 0 + _ ≤ _; exact Nat.le_of_eq rfl) (hb hby at_58) (fun _ _ => ⟨rfl, rfl, (by decide : 1 + 0 ≤ _), (by decide : 6 + 0 ≤ _)⟩)
      dsimp only [Pt.U, Pt.locs, Pt.cells, Pt.slots] at X33 l33 y33 z33 st33 hQ33
      subst l33 y33 z33
      obtain ⟨rfl, Nq33, Kq33, P33_0, P33_1, P33_2, P33_3, P33_4, P33_5, P33_6⟩ := hQ33
      replace Nf := Fr.app Nf Nq33
      replace E_b29 := P33_0
      replace F_values_b29 : Fld Z T33.heap b29 "com/example/kern_tablet/kerntablet/storage/ColumnTally" "values" "I" (.int (2 : Int32)) := P33_1
      replace F_plainBytes_b29 := P33_2
      replace F_largest_b29 := P33_3
      replace F_laidOut_b29 := P33_4
      replace F_added_b29 : Fld Z T33.heap b29 "com/example/kern_tablet/kerntablet/storage/ColumnTally" "added" "J" (.long (2 : Int64)) := P33_5
      replace F_addedPlainBytes_b29 := P33_6
      replace Zs := Nat.le_trans Zs Kq33.1
      refine own_stepT st33 ?_
      show own_Fin _ _ _ _ _ _ _ _ (mkF m 61 Ls31 [])
      refine own_step (fun t k => XS.iload (v := (1 : Int32)) X33.here hx rfl (hb hby at_61) (by rw [hLs31]; rfl) k) ?_
      show own_Fin _ _ _ _ _ _ _ _ (mkF m 63 Ls31 [(.int (1 : Int32))])
      refine own_step (fun t k => XS.ifNo X33.here hx rfl (hb hby at_63) rfl (by decide) k) ?_
      show own_Fin _ _ _ _ _ _ _ _ (mkF m 66 Ls31 [])
      refine own_step (fun t k => XS.lloadN (v := q1) X33.here hx rfl (hb hby at_66) (by rw [hLs31]; rfl) k) ?_
      show own_Fin _ _ _ _ _ _ _ _ (mkF m 67 Ls31 [(.long q1)])
      refine own_step (fun t k => XS.goto X33.here hx rfl (pc0 := 67) (pc' := 71) rfl (hb hby at_67) (by decide) (by decide) k) ?_
      show own_Fin _ _ _ _ _ _ _ _ (mkF m 71 Ls31 [(.long q1)])
      obtain ⟨Ls34, hLs34⟩ : ∃ z : Array Slot, z = #[.val (.long q1), .second, .val (.long q2), .second, .val (.long q3), .second, .val (.int p4), .val (.int (0 : Int32)), .val (.int (1 : Int32)), .val (.ref b29), .val (.long q1), .second, .unset, .unset, .unset, .unset, .unset, .unset, .unset, .unset, .unset, .unset] := ⟨_, rfl⟩
      refine own_step (fun t k => XS.lstore X33.here hx rfl (hb hby at_71) rfl (l' := Ls34) (by rw [hLs31, hLs34]; rfl) k) ?_
      show own_Fin _ _ _ _ _ _ _ _ (mkF m 73 Ls34 [])
      refine own_step (fun t k => XS.iload (v := (1 : Int32)) X33.here hx rfl (hb hby at_73) (by rw [hLs34]; rfl) k) ?_
      show own_Fin _ _ _ _ _ _ _ _ (mkF m 75 Ls34 [(.int (1 : Int32))])
      refine own_step (fun t k => XS.ifNo X33.here hx rfl (hb hby at_75) rfl (by decide) k) ?_
      show own_Fin _ _ _ _ _ _ _ _ (mkF m 78 Ls34 [])
      refine own_step (fun t k => XS.lloadN (v := q2) X33.here hx rfl (hb hby at_78) (by rw [hLs34]; rfl) k) ?_
      show own_Fin _ _ _ _ _ _ _ _ (mkF m 79 Ls34 [(.long q2)])
      refine own_step (fun t k => XS.goto X33.here hx rfl (pc0 := 79) (pc' := 83) rfl (hb hby at_79) (by decide) (by decide) k) ?_
      show own_Fin _ _ _ _ _ _ _ _ (mkF m 83 Ls34 [(.long q2)])
      obtain ⟨Ls35, hLs35⟩ : ∃ z : Array Slot, z = #[.val (.long q1), .second, .val (.long q2), .second, .val (.long q3), .second, .val (.int p4), .val (.int (0 : Int32)), .val (.int (1 : Int32)), .val (.ref b29), .val (.long q1), .second, .val (.long q2), .second, .unset, .unset, .unset, .unset, .unset, .unset, .unset, .unset] := ⟨_, rfl⟩
      refine own_step (fun t k => XS.lstore X33.here hx rfl (hb hby at_83) rfl (l' := Ls35) (by rw [hLs34, hLs35]; rfl) k) ?_
      show own_Fin _ _ _ _ _ _ _ _ (mkF m 85 Ls35 [])
      refine own_step (fun t k => XS.aload (v := (.ref b29)) X33.here hx rfl (hb hby at_85) (by rw [hLs35]; rfl) rfl k) ?_
      show own_Fin _ _ _ _ _ _ _ _ (mkF m 87 Ls35 [(.ref b29)])
      refine own_step (fun t k => XS.lload (v := q1) X33.here hx rfl (hb hby at_87) (by rw [hLs35]; rfl) k) ?_
      show own_Fin _ _ _ _ _ _ _ _ (mkF m 89 Ls35 [(.long q1), (.ref b29)])
      obtain ⟨cq36, kq36, q36a, q36b, q36c⟩ := isOf hZ rfl E_b29
      obtain ⟨_, _, ⟨T36, L36, k36, n36⟩, -, X36, ⟨Lc36, hQ36, l36, y36, z36⟩, st36⟩ := X33.virtualBack hx (y := (⟨"com/example/kern_tablet/kerntablet/storage/ColumnTally", "remove", "(J)V"⟩ : MethodName)) (z := (⟨"com/example/kern_tablet/kerntablet/storage/ColumnTally", "remove", "(J)V"⟩ : MethodName)) hown (mvT hZ (hw _ (List.mem_of_getElem? (i := 31) rfl))) (mvT hZ (hw _ (List.mem_of_getElem? (i := 32) rfl))) (notFace_of_selects (args := #[]) (mvT hZ (hw _ (List.mem_of_getElem? (i := 34) rfl)))) (mvT hZ (hw _ (List.mem_of_getElem? (i := 34) rfl))) (mvT hZ (hw _ (List.mem_of_getElem? (i := 33) rfl))) (by decide) (backOf (W := 0) (rm4 l Z a0 hw [] b29 q1 _ _ _ _ _ _ T33.heap n0 Zs E_b29 F_values_b29 F_plainBytes_b29 F_largest_b29 F_laidOut_b29 F_added_b29 F_addedPlainBytes_b29 g_b29) hZ (hw _ (List.mem_of_getElem? (i := 35) rfl)) (hw _ (List.mem_of_getElem? (i := 2) rfl)) (by decide) (by decide)) q36a q36c (g := (mkF m 89 Ls35 [(.long q1), (.ref b29)])) rfl (by rw [hml]; show Array.size Ls35 = _; rw [hLs35]; rfl) (Steps.refl _) (argsL := [(.long q1)]) (rest := []) (lenOf own_pd_2 rfl) rfl (by show 2 * 0 + _ ≤ _; exact Nat.le_of_eq rfl) (hb hby at_89) (fun _ _ => ⟨rfl, rfl, (by decide : 1 + 0 ≤ _), (by decide : 6 + 0 ≤ _)⟩)
      dsimp only [Pt.U, Pt.locs, Pt.cells, Pt.slots] at X36 l36 y36 z36 st36 hQ36
      subst l36 y36 z36
      obtain ⟨rfl, Nq36, Kq36, P36_0, P36_1, P36_2, P36_3, P36_4, P36_5, P36_6⟩ := hQ36
      replace Nf := Fr.app Nf Nq36
      replace E_b29 := P36_0
      replace F_values_b29 : Fld Z T36.heap b29 "com/example/kern_tablet/kerntablet/storage/ColumnTally" "values" "I" (.int (1 : Int32)) := P36_1
      replace F_plainBytes_b29 := P36_2
      replace F_largest_b29 := P36_3
      replace F_laidOut_b29 := P36_4
      replace F_added_b29 := P36_5
      replace F_addedPlainBytes_b29 := P36_6
      replace Zs := Nat.le_trans Zs Kq36.1
      refine own_stepT st36 ?_
      show own_Fin _ _ _ _ _ _ _ _ (mkF m 92 Ls35 [])
      refine own_step (fun t k => XS.lconst X36.here hx rfl (hb hby at_92) k) ?_
      show own_Fin _ _ _ _ _ _ _ _ (mkF m 93 Ls35 [(.long (0 : Int64))])
      refine own_step (fun t k => XS.lloadN (v := q1) X36.here hx rfl (hb hby at_93) (by rw [hLs35]; rfl) k) ?_
      show own_Fin _ _ _ _ _ _ _ _ (mkF m 94 Ls35 [(.long q1), (.long (0 : Int64))])
      obtain ⟨_, _, ⟨T37, L37, k37, n37⟩, -, X37, ⟨Lc37, hQ37, l37, y37, z37⟩, st37⟩ := Jvm.LawKit.callS X36 hx (y := (⟨"java/lang/Math", "max", "(JJ)J"⟩ : MethodName)) hown (mvT hZ (hw _ (List.mem_of_getElem? (i := 36) rfl))) (mvT hZ (hw _ (List.mem_of_getElem? (i := 24) rfl))) (mvT hZ (hw _ (List.mem_of_getElem? (i := 25) rfl))) (mvT hZ (hw _ (List.mem_of_getElem? (i := 26) rfl))) (by decide) (backOf (W := 0) (rm1 l Z a0 hw [] (0 : Int64) q1 T36.heap n0 Zs) hZ (hw _ (List.mem_of_getElem? (i := 26) rfl)) (hw _ (List.mem_of_getElem? (i := 25) rfl)) (by decide) (by decide)) (g := (mkF m 94 Ls35 [(.long q1), (.long (0 : Int64))])) rfl (by rw [hml]; show Array.size Ls35 = _; rw [hLs35]; rfl) (argsL := [(.long (0 : Int64)), (.long q1)]) (rest := []) (lenOf own_pd_0 rfl) rfl (by show 2 * 0 + _ ≤ _; exact Nat.le_of_eq rfl) (hb hby at_94) (fun _ _ => ⟨rfl, rfl, (by decide : 1 + 0 ≤ _), (by decide : 6 + 0 ≤ _)⟩)
      dsimp only [Pt.U, Pt.locs, Pt.cells, Pt.slots] at X37 l37 y37 z37 st37 hQ37
      subst l37 y37 z37
      obtain ⟨rfl, Nq37, hh37⟩ := hQ37
      replace Nf := Fr.app Nf Nq37
      refine own_step st37 ?_
      show own_Fin _ _ _ _ _ _ _ _ (mkF m 97 Ls35 [(.long (own_max (0 : Int64) q1))])
      refine own_step (fun t k => XS.lloadN (v := q2) X37.here hx rfl (hb hby at_97) (by rw [hLs35]; rfl) k) ?_
      show own_Fin _ _ _ _ _ _ _ _ (mkF m 98 Ls35 [(.long q2), (.long (own_max (0 : Int64) q1))])
      obtain ⟨_, _, ⟨T38, L38, k38, n38⟩, -, X38, ⟨Lc38, hQ38, l38, y38, z38⟩, st38⟩ := Jvm.LawKit.callS X37 hx (y := (⟨"java/lang/Math", "max", "(JJ)J"⟩ : MethodName)) hown (mvT hZ (hw _ (List.mem_of_getElem? (i := 36) rfl))) (mvT hZ (hw _ (List.mem_of_getElem? (i := 24) rfl))) (mvT hZ (hw _ (List.mem_of_getElem? (i := 25) rfl))) (mvT hZ (hw _ (List.mem_of_getElem? (i := 26) rfl))) (by decide) (backOf (W := 0) (rm1 l Z a0 hw [] (own_max (0 : Int64) q1) q2 T36.heap n0 Zs) hZ (hw _ (List.mem_of_getElem? (i := 26) rfl)) (hw _ (List.mem_of_getElem? (i := 25) rfl)) (by decide) (by decide)) (g := (mkF m 98 Ls35 [(.long q2), (.long (own_max (0 : Int64) q1))])) rfl (by rw [hml]; show Array.size Ls35 = _; rw [hLs35]; rfl) (argsL := [(.long (own_max (0 : Int64) q1)), (.long q2)]) (rest := []) (lenOf own_pd_0 rfl) rfl (by show 2 * 0 + _ ≤ _; exact Nat.le_of_eq rfl) (hb hby at_98) (fun _ _ => ⟨rfl, hh37, (by decide : 1 + 0 ≤ _), (by decide : 6 + 0 ≤ _)⟩)
      dsimp only [Pt.U, Pt.locs, Pt.cells, Pt.slots] at X38 l38 y38 z38 st38 hQ38
      subst l38 y38 z38
      obtain ⟨rfl, Nq38, hh38⟩ := hQ38
      replace Nf := Fr.app Nf Nq38
      refine own_step st38 ?_
      show own_Fin _ _ _ _ _ _ _ _ (mkF m 101 Ls35 [(.long (own_max (own_max (0 : Int64) q1) q2))])
      obtain ⟨Ls39, hLs39⟩ : ∃ z : Array Slot, z = #[.val (.long q1), .second, .val (.long q2), .second, .val (.long q3), .second, .val (.int p4), .val (.int (0 : Int32)), .val (.int (1 : Int32)), .val (.ref b29), .val (.long q1), .second, .val (.long q2), .second, .val (.long (own_max (own_max (0 : Int64) q1) q2)), .second, .unset, .unset, .unset, .unset, .unset, .unset] := ⟨_, rfl⟩
      refine own_step (fun t k => XS.lstore X38.here hx rfl (hb hby at_101) rfl (l' := Ls39) (by rw [hLs35, hLs39]; rfl) k) ?_
      show own_Fin _ _ _ _ _ _ _ _ (mkF m 103 Ls39 [])
      refine own_step (fun t k => XS.iload (v := (0 : Int32)) X38.here hx rfl (hb hby at_103) (by rw [hLs39]; rfl) k) ?_
      show own_Fin _ _ _ _ _ _ _ _ (mkF m 105 Ls39 [(.int (0 : Int32))])
      refine own_step (fun t k => XS.ifYes X38.here hx rfl (pc0 := 105) (pc' := 113) rfl (hb hby at_105) rfl (by decide) (by decide) (by decide) k) ?_
      show own_Fin _ _ _ _ _ _ _ _ (mkF m 113 Ls39 [])
      refine own_step (fun t k => X38.ldc2Long hx hown (mvT hZ (hw _ (List.mem_of_getElem? (i := 37) rfl))) (g := (mkF m 113 Ls39 [])) rfl (hb hby at_113) _ k) ?_
      show own_Fin _ _ _ _ _ _ _ _ (mkF m 116 Ls39 [(.long (-1 : Int64))])
      obtain ⟨Ls40, hLs40⟩ : ∃ z : Array Slot, z = #[.val (.long q1), .second, .val (.long q2), .second, .val (.long q3), .second, .val (.int p4), .val (.int (0 : Int32)), .val (.int (1 : Int32)), .val (.ref b29), .val (.long q1), .second, .val (.long q2), .second, .val (.long (own_max (own_max (0 : Int64) q1) q2)), .second, .val (.long (-1 : Int64)), .second, .unset, .unset, .unset, .unset] := ⟨_, rfl⟩
      refine own_step (fun t k => XS.lstore X38.here hx rfl (hb hby at_116) rfl (l' := Ls40) (by rw [hLs39, hLs40]; rfl) k) ?_
      show own_Fin _ _ _ _ _ _ _ _ (mkF m 118 Ls40 [])
      refine own_step (fun t k => XS.iload (v := (0 : Int32)) X38.here hx rfl (hb hby at_118) (by rw [hLs40]; rfl) k) ?_
      show own_Fin _ _ _ _ _ _ _ _ (mkF m 120 Ls40 [(.int (0 : Int32))])
      refine own_step (fun t k => XS.ifYes X38.here hx rfl (pc0 := 120) (pc' := 127) rfl (hb hby at_120) rfl (by decide) (by decide) (by decide) k) ?_
      show own_Fin _ _ _ _ _ _ _ _ (mkF m 127 Ls40 [])
      refine own_step (fun t k => X38.ldc2Long hx hown (mvT hZ (hw _ (List.mem_of_getElem? (i := 38) rfl))) (g := (mkF m 127 Ls40 [])) rfl (hb hby at_127) _ k) ?_
      show own_Fin _ _ _ _ _ _ _ _ (mkF m 130 Ls40 [(.long (2 : Int64))])
      obtain ⟨Ls41, hLs41⟩ : ∃ z : Array Slot, z = #[.val (.long q1), .second, .val (.long q2), .second, .val (.long q3), .second, .val (.int p4), .val (.int (0 : Int32)), .val (.int (1 : Int32)), .val (.ref b29), .val (.long q1), .second, .val (.long q2), .second, .val (.long (own_max (own_max (0 : Int64) q1) q2)), .second, .val (.long (-1 : Int64)), .second, .val (.long (2 : Int64)), .second, .unset, .unset] := ⟨_, rfl⟩
      refine own_step (fun t k => XS.lstore X38.here hx rfl (hb hby at_130) rfl (l' := Ls41) (by rw [hLs40, hLs41]; rfl) k) ?_
      show own_Fin _ _ _ _ _ _ _ _ (mkF m 132 Ls41 [])
      refine own_step (fun t k => XS.iload (v := (0 : Int32)) X38.here hx rfl (hb hby at_132) (by rw [hLs41]; rfl) k) ?_
      show own_Fin _ _ _ _ _ _ _ _ (mkF m 134 Ls41 [(.int (0 : Int32))])
      refine own_step (fun t k => XS.ifYes X38.here hx rfl (pc0 := 134) (pc' := 141) rfl (hb hby at_134) rfl (by decide) (by decide) (by decide) k) ?_
      show own_Fin _ _ _ _ _ _ _ _ (mkF m 141 Ls41 [])
      refine own_step (fun t k => XS.lloadN (v := q1) X38.here hx rfl (hb hby at_141) (by rw [hLs41]; rfl) k) ?_
      show own_Fin _ _ _ _ _ _ _ _ (mkF m 142 Ls41 [(.long q1)])
      refine own_step (fun t k => XS.lloadN (v := q2) X38.here hx rfl (hb hby at_142) (by rw [hLs41]; rfl) k) ?_
      show own_Fin _ _ _ _ _ _ _ _ (mkF m 143 Ls41 [(.long q2), (.long q1)])
      refine own_step (fun t k => XS.ladd X38.here hx rfl (hb hby at_143) rfl k) ?_
      show own_Fin _ _ _ _ _ _ _ _ (mkF m 144 Ls41 [(.long (q1 + q2))])
      obtain ⟨Ls42, hLs42⟩ : ∃ z : Array Slot, z = #[.val (.long q1), .second, .val (.long q2), .second, .val (.long q3), .second, .val (.int p4), .val (.int (0 : Int32)), .val (.int (1 : Int32)), .val (.ref b29), .val (.long q1), .second, .val (.long q2), .second, .val (.long (own_max (own_max (0 : Int64) q1) q2)), .second, .val (.long (-1 : Int64)), .second, .val (.long (2 : Int64)), .second, .val (.long (q1 + q2)), .second] := ⟨_, rfl⟩
      refine own_step (fun t k => XS.lstore X38.here hx rfl (hb hby at_144) rfl (l' := Ls42) (by rw [hLs41, hLs42]; rfl) k) ?_
      show own_Fin _ _ _ _ _ _ _ _ (mkF m 146 Ls42 [])
      refine own_step (fun t k => XS.aload (v := (.ref b29)) X38.here hx rfl (hb hby at_146) (by rw [hLs42]; rfl) rfl k) ?_
      show own_Fin _ _ _ _ _ _ _ _ (mkF m 148 Ls42 [(.ref b29)])
      obtain ⟨cq43, kq43, q43a, q43b, q43c⟩ := isOf hZ hh38 E_b29
      obtain ⟨_, _, ⟨T43, L43, k43, n43⟩, -, X43, ⟨Lc43, hQ43, l43, y43, z43⟩, st43⟩ := X38.virtualBack hx (y := (⟨"com/example/kern_tablet/kerntablet/storage/ColumnTally", "values", "()I"⟩ : MethodName)) (z := (⟨"com/example/kern_tablet/kerntablet/storage/ColumnTally", "values", "()I"⟩ : MethodName)) hown (mvT hZ (hw _ (List.mem_of_getElem? (i := 39) rfl))) (mvT hZ (hw _ (List.mem_of_getElem? (i := 40) rfl))) (notFace_of_selects (args := #[]) (mvT hZ (hw _ (List.mem_of_getElem? (i := 42) rfl)))) (mvT hZ (hw _ (List.mem_of_getElem? (i := 42) rfl))) (mvT hZ (hw _ (List.mem_of_getElem? (i := 41) rfl))) (by decide) (backOf (W := 0) (rm10 l Z a0 hw [] b29 _ T36.heap n0 Zs F_values_b29) hZ (hw _ (List.mem_of_getElem? (i := 43) rfl)) (hw _ (List.mem_of_getElem? (i := 2) rfl)) (by decide) (by decide)) q43a q43c (g := (mkF m 148 Ls42 [(.ref b29)])) rfl (by rw [hml]; show Array.size Ls42 = _; rw [hLs42]; rfl) (Steps.refl _) (argsL := []) (rest := []) (lenOf own_pd_3 rfl) rfl (by show 2 * 0 + _ ≤ _; exact Nat.le_of_eq rfl) (hb hby at_148) (fun _ _ => ⟨rfl, hh38, (by decide : 1 + 0 ≤ _), (by decide : 6 + 0 ≤ _)⟩)
      dsimp only [Pt.U, Pt.locs, Pt.cells, Pt.slots] at X43 l43 y43 z43 st43 hQ43
      subst l43 y43 z43
      obtain ⟨rfl, Nq43, hh43⟩ := hQ43
      replace Nf := Fr.app Nf Nq43
      refine own_stepT st43 ?_
      show own_Fin _ _ _ _ _ _ _ _ (mkF m 151 Ls42 [(.int (1 : Int32))])
      refine own_step (fun t k => XS.iconst X43.here hx rfl (hb hby at_151) k) ?_
      show own_Fin _ _ _ _ _ _ _ _ (mkF m 152 Ls42 [(.int (1 : Int32)), (.int (1 : Int32))])
      refine own_step (fun t k => XS.icmpNo X43.here hx rfl (hb hby at_152) rfl (own_ce (x := (1 : Int32)) (y := (1 : Int32)) rfl rfl (rfl : ((1 : Int32)).toInt = 1)).2 k) ?_
      show own_Fin _ _ _ _ _ _ _ _ (mkF m 155 Ls42 [])
      refine own_step (fun t k => XS.aload (v := (.ref b29)) X43.here hx rfl (hb hby at_155) (by rw [hLs42]; rfl) rfl k) ?_
      show own_Fin _ _ _ _ _ _ _ _ (mkF m 157 Ls42 [(.ref b29)])
      obtain ⟨cq44, kq44, q44a, q44b, q44c⟩ := isOf hZ hh43 E_b29
      obtain ⟨_, _, ⟨T44, L44, k44, n44⟩, -, X44, ⟨Lc44, hQ44, l44, y44, z44⟩, st44⟩ := X43.virtualBack hx (y := (⟨"com/example/kern_tablet/kerntablet/storage/ColumnTally", "plainBytes", "()J"⟩ : MethodName)) (z := (⟨"com/example/kern_tablet/kerntablet/storage/ColumnTally", "plainBytes", "()J"⟩ : MethodName)) hown (mvT hZ (hw _ (List.mem_of_getElem? (i := 44) rfl))) (mvT hZ (hw _ (List.mem_of_getElem? (i := 45) rfl))) (notFace_of_selects (args := #[]) (mvT hZ (hw _ (List.mem_of_getElem? (i := 47) rfl)))) (mvT hZ (hw _ (List.mem_of_getElem? (i := 47) rfl))) (mvT hZ (hw _ (List.mem_of_getElem? (i := 46) rfl))) (by decide) (backOf (W := 0) (rm11 l Z a0 hw [] b29 _ T36.heap n0 Zs F_plainBytes_b29) hZ (hw _ (List.mem_of_getElem? (i := 48) rfl)) (hw _ (List.mem_of_getElem? (i := 2) rfl)) (by decide) (by decide)) q44a q44c (g := (mkF m 157 Ls42 [(.ref b29)])) rfl (by rw [hml]; show Array.size Ls42 = _; rw [hLs42]; rfl) (Steps.refl _) (argsL := []) (rest := []) (lenOf own_pd_4 rfl) rfl (by show 2 * 0 + _ ≤ _; exact Nat.le_of_eq rfl) (hb hby at_157) (fun _ _ => ⟨rfl, hh43, (by decide : 1 + 0 ≤ _), (by decide : 6 + 0 ≤ _)⟩)
      dsimp only [Pt.U, Pt.locs, Pt.cells, Pt.slots] at X44 l44 y44 z44 st44 hQ44
      subst l44 y44 z44
      obtain ⟨rfl, Nq44, hh44⟩ := hQ44
      replace Nf := Fr.app Nf Nq44
      refine own_stepT st44 ?_
      show own_Fin _ _ _ _ _ _ _ _ (mkF m 160 Ls42 [(.long ((((0 : Int64) + q1) + q2) - q1))])
      refine own_step (fun t k => XS.lload (v := q2) X44.here hx rfl (hb hby at_160) (by rw [hLs42]; rfl) k) ?_
      show own_Fin _ _ _ _ _ _ _ _ (mkF m 162 Ls42 [(.long q2), (.long ((((0 : Int64) + q1) + q2) - q1))])
      refine own_step (fun t k => XS.lcmp X44.here hx rfl (hb hby at_162) rfl k) ?_
      show own_Fin _ _ _ _ _ _ _ _ (mkF m 163 Ls42 [(.int (lcmpW ((((0 : Int64) + q1) + q2) - q1) q2))])
      have hc45 : (((((0 : Int64) + q1) + q2) - q1)).toInt = (q2).toInt := by congr 1; rw [Int64.zero_add, Int64.add_comm q1 q2, Int64.add_sub_cancel]
      refine own_step (fun t k => XS.ifNo X44.here hx rfl (hb hby at_163) rfl (own_le (x := ((((0 : Int64) + q1) + q2) - q1)) (y := q2) rfl rfl hc45).2 k) ?_
      show own_Fin _ _ _ _ _ _ _ _ (mkF m 166 Ls42 [])
      refine own_step (fun t k => XS.aload (v := (.ref b29)) X44.here hx rfl (hb hby at_166) (by rw [hLs42]; rfl) rfl k) ?_
      show own_Fin _ _ _ _ _ _ _ _ (mkF m 168 Ls42 [(.ref b29)])
      obtain ⟨cq46, kq46, q46a, q46b, q46c⟩ := isOf hZ hh44 E_b29
      obtain ⟨_, _, ⟨T46, L46, k46, n46⟩, -, X46, ⟨Lc46, hQ46, l46, y46, z46⟩, st46⟩ := X44.virtualBack hx (y := (⟨"com/example/kern_tablet/kerntablet/storage/ColumnTally", "largest", "()J"⟩ : MethodName)) (z := (⟨"com/example/kern_tablet/kerntablet/storage/ColumnTally", "largest", "()J"⟩ : MethodName)) hown (mvT hZ (hw _ (List.mem_of_getElem? (i := 49) rfl))) (mvT hZ (hw _ (List.mem_of_getElem? (i := 50) rfl))) (notFace_of_selects (args := #[]) (mvT hZ (hw _ (List.mem_of_getElem? (i := 52) rfl)))) (mvT hZ (hw _ (List.mem_of_getElem? (i := 52) rfl))) (mvT hZ (hw _ (List.mem_of_getElem? (i := 51) rfl))) (by decide) (backOf (W := 0) (rm12 l Z a0 hw [] b29 _ T36.heap n0 Zs F_largest_b29) hZ (hw _ (List.mem_of_getElem? (i := 53) rfl)) (hw _ (List.mem_of_getElem? (i := 2) rfl)) (by decide) (by decide)) q46a q46c (g := (mkF m 168 Ls42 [(.ref b29)])) rfl (by rw [hml]; show Array.size Ls42 = _; rw [hLs42]; rfl) (Steps.refl _) (argsL := []) (rest := []) (lenOf own_pd_4 rfl) rfl (by show 2 * 0 + _ ≤ _; exact Nat.le_of_eq rfl) (hb hby at_168) (fun _ _ => ⟨rfl, hh44, (by decide : 1 + 0 ≤ _), (by decide : 6 + 0 ≤ _)⟩)
      dsimp only [Pt.U, Pt.locs, Pt.cells, Pt.slots] at X46 l46 y46 z46 st46 hQ46
      subst l46 y46 z46
      obtain ⟨rfl, Nq46, hh46⟩ := hQ46
      replace Nf := Fr.app Nf Nq46
      refine own_stepT st46 ?_
      show own_Fin _ _ _ _ _ _ _ _ (mkF m 171 Ls42 [(.long (own_max (own_max (0 : Int64) q1) q2))])
      refine own_step (fun t k => XS.lload (v := (own_max (own_max (0 : Int64) q1) q2)) X46.here hx rfl (hb hby at_171) (by rw [hLs42]; rfl) k) ?_
      show own_Fin _ _ _ _ _ _ _ _ (mkF m 173 Ls42 [(.long (own_max (own_max (0 : Int64) q1) q2)), (.long (own_max (own_max (0 : Int64) q1) q2))])
      refine own_step (fun t k => XS.lcmp X46.here hx rfl (hb hby at_173) rfl k) ?_
      show own_Fin _ _ _ _ _ _ _ _ (mkF m 174 Ls42 [(.int (lcmpW (own_max (own_max (0 : Int64) q1) q2) (own_max (own_max (0 : Int64) q1) q2)))])
      refine own_step (fun t k => XS.ifNo X46.here hx rfl (hb hby at_174) rfl (own_le (x := (own_max (own_max (0 : Int64) q1) q2)) (y := (own_max (own_max (0 : Int64) q1) q2)) rfl rfl (rfl : ((own_max (own_max (0 : Int64) q1) q2)).toInt = ((own_max (own_max (0 : Int64) q1) q2)).toInt)).2 k) ?_
      show own_Fin _ _ _ _ _ _ _ _ (mkF m 177 Ls42 [])
      refine own_step (fun t k => XS.aload (v := (.ref b29)) X46.here hx rfl (hb hby at_177) (by rw [hLs42]; rfl) rfl k) ?_
      show own_Fin _ _ _ _ _ _ _ _ (mkF m 179 Ls42 [(.ref b29)])
      obtain ⟨cq47, kq47, q47a, q47b, q47c⟩ := isOf hZ hh46 E_b29
      obtain ⟨_, _, ⟨T47, L47, k47, n47⟩, -, X47, ⟨Lc47, hQ47, l47, y47, z47⟩, st47⟩ := X46.virtualBack hx (y := (⟨"com/example/kern_tablet/kerntablet/storage/ColumnTally", "laidOut", "()J"⟩ : MethodName)) (z := (⟨"com/example/kern_tablet/kerntablet/storage/ColumnTally", "laidOut", "()J"⟩ : MethodName)) hown (mvT hZ (hw _ (List.mem_of_getElem? (i := 54) rfl))) (mvT hZ (hw _ (List.mem_of_getElem? (i := 55) rfl))) (notFace_of_selects (args := #[]) (mvT hZ (hw _ (List.mem_of_getElem? (i := 57) rfl)))) (mvT hZ (hw _ (List.mem_of_getElem? (i := 57) rfl))) (mvT hZ (hw _ (List.mem_of_getElem? (i := 56) rfl))) (by decide) (backOf (W := 0) (rm13 l Z a0 hw [] b29 _ T36.heap n0 Zs F_laidOut_b29) hZ (hw _ (List.mem_of_getElem? (i := 58) rfl)) (hw _ (List.mem_of_getElem? (i := 2) rfl)) (by decide) (by decide)) q47a q47c (g := (mkF m 179 Ls42 [(.ref b29)])) rfl (by rw [hml]; show Array.size Ls42 = _; rw [hLs42]; rfl) (Steps.refl _) (argsL := []) (rest := []) (lenOf own_pd_4 rfl) rfl (by show 2 * 0 + _ ≤ _; exact Nat.le_of_eq rfl) (hb hby at_179) (fun _ _ => ⟨rfl, hh46, (by decide : 1 + 0 ≤ _), (by decide : 6 + 0 ≤ _)⟩)
      dsimp only [Pt.U, Pt.locs, Pt.cells, Pt.slots] at X47 l47 y47 z47 st47 hQ47
      subst l47 y47 z47
      obtain ⟨rfl, Nq47, hh47⟩ := hQ47
      replace Nf := Fr.app Nf Nq47
      refine own_stepT st47 ?_
      show own_Fin _ _ _ _ _ _ _ _ (mkF m 182 Ls42 [(.long (-1 : Int64))])
      refine own_step (fun t k => XS.lload (v := (-1 : Int64)) X47.here hx rfl (hb hby at_182) (by rw [hLs42]; rfl) k) ?_
      show own_Fin _ _ _ _ _ _ _ _ (mkF m 184 Ls42 [(.long (-1 : Int64)), (.long (-1 : Int64))])
      refine own_step (fun t k => XS.lcmp X47.here hx rfl (hb hby at_184) rfl k) ?_
      show own_Fin _ _ _ _ _ _ _ _ (mkF m 185 Ls42 [(.int (lcmpW (-1 : Int64) (-1 : Int64)))])
      refine own_step (fun t k => XS.ifNo X47.here hx rfl (hb hby at_185) rfl (own_le (x := (-1 : Int64)) (y := (-1 : Int64)) rfl rfl (rfl : ((-1 : Int64)).toInt = (-1))).2 k) ?_
      show own_Fin _ _ _ _ _ _ _ _ (mkF m 188 Ls42 [])
      refine own_step (fun t k => XS.aload (v := (.ref b29)) X47.here hx rfl (hb hby at_188) (by rw [hLs42]; rfl) rfl k) ?_
      show own_Fin _ _ _ _ _ _ _ _ (mkF m 190 Ls42 [(.ref b29)])
      obtain ⟨cq48, kq48, q48a, q48b, q48c⟩ := isOf hZ hh47 E_b29
      obtain ⟨_, _, ⟨T48, L48, k48, n48⟩, -, X48, ⟨Lc48, hQ48, l48, y48, z48⟩, st48⟩ := X47.virtualBack hx (y := (⟨"com/example/kern_tablet/kerntablet/storage/ColumnTally", "added", "()J"⟩ : MethodName)) (z := (⟨"com/example/kern_tablet/kerntablet/storage/ColumnTally", "added", "()J"⟩ : MethodName)) hown (mvT hZ (hw _ (List.mem_of_getElem? (i := 59) rfl))) (mvT hZ (hw _ (List.mem_of_getElem? (i := 60) rfl))) (notFace_of_selects (args := #[]) (mvT hZ (hw _ (List.mem_of_getElem? (i := 62) rfl)))) (mvT hZ (hw _ (List.mem_of_getElem? (i := 62) rfl))) (mvT hZ (hw _ (List.mem_of_getElem? (i := 61) rfl))) (by decide) (backOf (W := 0) (rm14 l Z a0 hw [] b29 _ T36.heap n0 Zs F_added_b29) hZ (hw _ (List.mem_of_getElem? (i := 63) rfl)) (hw _ (List.mem_of_getElem? (i := 2) rfl)) (by decide) (by decide)) q48a q48c (g := (mkF m 190 Ls42 [(.ref b29)])) rfl (by rw [hml]; show Array.size Ls42 = _; rw [hLs42]; rfl) (Steps.refl _) (argsL := []) (rest := []) (lenOf own_pd_4 rfl) rfl (by show 2 * 0 + _ ≤ _; exact Nat.le_of_eq rfl) (hb hby at_190) (fun _ _ => ⟨rfl, hh47, (by decide : 1 + 0 ≤ _), (by decide : 6 + 0 ≤ _)⟩)
      dsimp only [Pt.U, Pt.locs, Pt.cells, Pt.slots] at X48 l48 y48 z48 st48 hQ48
      subst l48 y48 z48
      obtain ⟨rfl, Nq48, hh48⟩ := hQ48
      replace Nf := Fr.app Nf Nq48
      refine own_stepT st48 ?_
      show own_Fin _ _ _ _ _ _ _ _ (mkF m 193 Ls42 [(.long (2 : Int64))])
      refine own_step (fun t k => XS.lload (v := (2 : Int64)) X48.here hx rfl (hb hby at_193) (by rw [hLs42]; rfl) k) ?_
      show own_Fin _ _ _ _ _ _ _ _ (mkF m 195 Ls42 [(.long (2 : Int64)), (.long (2 : Int64))])
      refine own_step (fun t k => XS.lcmp X48.here hx rfl (hb hby at_195) rfl k) ?_
      show own_Fin _ _ _ _ _ _ _ _ (mkF m 196 Ls42 [(.int (lcmpW (2 : Int64) (2 : Int64)))])
      refine own_step (fun t k => XS.ifNo X48.here hx rfl (hb hby at_196) rfl (own_le (x := (2 : Int64)) (y := (2 : Int64)) rfl rfl (rfl : ((2 : Int64)).toInt = 2)).2 k) ?_
      show own_Fin _ _ _ _ _ _ _ _ (mkF m 199 Ls42 [])
      refine own_step (fun t k => XS.aload (v := (.ref b29)) X48.here hx rfl (hb hby at_199) (by rw [hLs42]; rfl) rfl k) ?_
      show own_Fin _ _ _ _ _ _ _ _ (mkF m 201 Ls42 [(.ref b29)])
      obtain ⟨cq49, kq49, q49a, q49b, q49c⟩ := isOf hZ hh48 E_b29
      obtain ⟨_, _, ⟨T49, L49, k49, n49⟩, -, X49, ⟨Lc49, hQ49, l49, y49, z49⟩, st49⟩ := X48.virtualBack hx (y := (⟨"com/example/kern_tablet/kerntablet/storage/ColumnTally", "addedPlainBytes", "()J"⟩ : MethodName)) (z := (⟨"com/example/kern_tablet/kerntablet/storage/ColumnTally", "addedPlainBytes", "()J"⟩ : MethodName)) hown (mvT hZ (hw _ (List.mem_of_getElem? (i := 64) rfl))) (mvT hZ (hw _ (List.mem_of_getElem? (i := 65) rfl))) (notFace_of_selects (args := #[]) (mvT hZ (hw _ (List.mem_of_getElem? (i := 67) rfl)))) (mvT hZ (hw _ (List.mem_of_getElem? (i := 67) rfl))) (mvT hZ (hw _ (List.mem_of_getElem? (i := 66) rfl))) (by decide) (backOf (W := 0) (rm15 l Z a0 hw [] b29 _ T36.heap n0 Zs F_addedPlainBytes_b29) hZ (hw _ (List.mem_of_getElem? (i := 68) rfl)) (hw _ (List.mem_of_getElem? (i := 2) rfl)) (by decide) (by decide)) q49a q49c (g := (mkF m 201 Ls42 [(.ref b29)])) rfl (by rw [hml]; show Array.size Ls42 = _; rw [hLs42]; rfl) (Steps.refl _) (argsL := []) (rest := []) (lenOf own_pd_4 rfl) rfl (by show 2 * 0 + _ ≤ _; exact Nat.le_of_eq rfl) (hb hby at_201) (fun _ _ => ⟨rfl, hh48, (by decide : 1 + 0 ≤ _), (by decide : 6 + 0 ≤ _)⟩)
      dsimp only [Pt.U, Pt.locs, Pt.cells, Pt.slots] at X49 l49 y49 z49 st49 hQ49
      subst l49 y49 z49
      obtain ⟨rfl, Nq49, hh49⟩ := hQ49
      replace Nf := Fr.app Nf Nq49
      refine own_stepT st49 ?_
      show own_Fin _ _ _ _ _ _ _ _ (mkF m 204 Ls42 [(.long (((0 : Int64) + q1) + q2))])
      refine own_step (fun t k => XS.lload (v := (q1 + q2)) X49.here hx rfl (hb hby at_204) (by rw [hLs42]; rfl) k) ?_
      show own_Fin _ _ _ _ _ _ _ _ (mkF m 206 Ls42 [(.long (q1 + q2)), (.long (((0 : Int64) + q1) + q2))])
      refine own_step (fun t k => XS.lcmp X49.here hx rfl (hb hby at_206) rfl k) ?_
      show own_Fin _ _ _ _ _ _ _ _ (mkF m 207 Ls42 [(.int (lcmpW (((0 : Int64) + q1) + q2) (q1 + q2)))])
      have hc50 : ((((0 : Int64) + q1) + q2)).toInt = ((q1 + q2)).toInt := by rw [Int64.zero_add]
      refine own_step (fun t k => XS.ifNo X49.here hx rfl (hb hby at_207) rfl (own_le (x := (((0 : Int64) + q1) + q2)) (y := (q1 + q2)) rfl rfl hc50).2 k) ?_
      show own_Fin _ _ _ _ _ _ _ _ (mkF m 210 Ls42 [])
      refine own_step (fun t k => XS.iconst X49.here hx rfl (hb hby at_210) k) ?_
      show own_Fin _ _ _ _ _ _ _ _ (mkF m 211 Ls42 [(.int (1 : Int32))])
      refine own_step (fun t k => XS.goto X49.here hx rfl (pc0 := 211) (pc' := 215) rfl (hb hby at_211) (by decide) (by decide) k) ?_
      show own_Fin _ _ _ _ _ _ _ _ (mkF m 215 Ls42 [(.int (1 : Int32))])
      refine own_retZ X49 hx hlk Bd.returns (hb hby at_215) (z' := (1 : Int32)) (by decide) (by decide) (by decide) hh49 ?_
      exact ⟨rfl, Nf⟩
  · skip
    refine own_step (fun t k => XS.ifNo X0.here hx rfl (hb hby at_4) rfl ((if0 _ _).trans (own_cu (x := (p4 &&& (1 : Int32))) (y := (0 : Int32)) rfl rfl hc2).1) k) ?_
    show own_Fin _ _ _ _ _ _ _ _ (mkF m 7 Ls1 [])
    refine own_step (fun t k => XS.iconst X0.here hx rfl (hb hby at_7) k) ?_
    show own_Fin _ _ _ _ _ _ _ _ (mkF m 8 Ls1 [(.int (1 : Int32))])
    refine own_step (fun t k => XS.goto X0.here hx rfl (pc0 := 8) (pc' := 12) rfl (hb hby at_8) (by decide) (by decide) k) ?_
    show own_Fin _ _ _ _ _ _ _ _ (mkF m 12 Ls1 [(.int (1 : Int32))])
    obtain ⟨Ls51, hLs51⟩ : ∃ z : Array Slot, z = #[.val (.long q1), .second, .val (.long q2), .second, .val (.long q3), .second, .val (.int p4), .val (.int (1 : Int32)), .unset, .unset, .unset, .unset, .unset, .unset, .unset, .unset, .unset, .unset, .unset, .unset, .unset, .unset] := ⟨_, rfl⟩
    refine own_step (fun t k => XS.istore X0.here hx rfl (hb hby at_12) rfl (l' := Ls51) (by rw [hLs1, hLs51]; rfl) k) ?_
    show own_Fin _ _ _ _ _ _ _ _ (mkF m 14 Ls51 [])
    refine own_step (fun t k => XS.iload (v := p4) X0.here hx rfl (hb hby at_14) (by rw [hLs51]; rfl) k) ?_
    show own_Fin _ _ _ _ _ _ _ _ (mkF m 16 Ls51 [(.int p4)])
    refine own_step (fun t k => XS.iconst X0.here hx rfl (hb hby at_16) k) ?_
    show own_Fin _ _ _ _ _ _ _ _ (mkF m 17 Ls51 [(.int (2 : Int32)), (.int p4)])
    refine own_step (fun t k => XS.iand X0.here hx rfl (hb hby at_17) rfl k) ?_
    show own_Fin _ _ _ _ _ _ _ _ (mkF m 18 Ls51 [(.int (p4 &&& (2 : Int32)))])
    by_cases hc52 : ((p4 &&& (2 : Int32))).toInt = 0
    · skip
      refine own_step (fun t k => XS.ifYes X0.here hx rfl (pc0 := 18) (pc' := 25) rfl (hb hby at_18) rfl ((if0 _ _).trans (own_ce (x := (p4 &&& (2 : Int32))) (y := (0 : Int32)) rfl rfl hc52).1) (by decide) (by decide) k) ?_
      show own_Fin _ _ _ _ _ _ _ _ (mkF m 25 Ls51 [])
      refine own_step (fun t k => XS.iconst X0.here hx rfl (hb hby at_25) k) ?_
      show own_Fin _ _ _ _ _ _ _ _ (mkF m 26 Ls51 [(.int (0 : Int32))])
      obtain ⟨Ls53, hLs53⟩ : ∃ z : Array Slot, z = #[.val (.long q1), .second, .val (.long q2), .second, .val (.long q3), .second, .val (.int p4), .val (.int (1 : Int32)), .val (.int (0 : Int32)), .unset, .unset, .unset, .unset, .unset, .unset, .unset, .unset, .unset, .unset, .unset, .unset, .unset] := ⟨_, rfl⟩
      refine own_step (fun t k => XS.istore X0.here hx rfl (hb hby at_26) rfl (l' := Ls53) (by rw [hLs51, hLs53]; rfl) k) ?_
      show own_Fin _ _ _ _ _ _ _ _ (mkF m 28 Ls53 [])
      obtain ⟨T54, h54, X54, e54, E54, A54, D54, -, st54⟩ := newO X0 hx hZ hown (hw _ (List.mem_of_getElem? (i := 0) rfl)) (hw _ (List.mem_of_getElem? (i := 1) rfl)) (hw _ (List.mem_of_getElem? (i := 2) rfl)) e0 (g := (mkF m 28 Ls53 [])) rfl (hb hby at_28) (by decide) (by decide)
      obtain ⟨b54, g54⟩ : ∃ z, z = h0.size := ⟨_, rfl⟩
      rw [← g54] at A54 D54 st54
      refine own_step st54 ?_
      have g_b54 : n0 ≤ b54 := Nat.le_trans Zs (Nat.le_of_eq g54.symm)
      replace Zs := Nat.le_trans Zs E54.1
      have E_b54 := A54
      have F_laidOut_b54 : Fld Z h54 b54 "com/example/kern_tablet/kerntablet/storage/ColumnTally" "laidOut" "J" (.long (0 : Int64)) := D54 (Or.inl (hw _ (List.mem_of_getElem? (i := 11) rfl))) (ty := .long) (by decide)
      have F_values_b54 : Fld Z h54 b54 "com/example/kern_tablet/kerntablet/storage/ColumnTally" "values" "I" (.int (0 : Int32)) := D54 (Or.inl (hw _ (List.mem_of_getElem? (i := 18) rfl))) (ty := .int) (by decide)
      have F_plainBytes_b54 : Fld Z h54 b54 "com/example/kern_tablet/kerntablet/storage/ColumnTally" "plainBytes" "J" (.long (0 : Int64)) := D54 (Or.inl (hw _ (List.mem_of_getElem? (i := 20) rfl))) (ty := .long) (by decide)
      have F_largest_b54 : Fld Z h54 b54 "com/example/kern_tablet/kerntablet/storage/ColumnTally" "largest" "J" (.long (0 : Int64)) := D54 (Or.inl (hw _ (List.mem_of_getElem? (i := 22) rfl))) (ty := .long) (by decide)
      have F_added_b54 : Fld Z h54 b54 "com/example/kern_tablet/kerntablet/storage/ColumnTally" "added" "J" (.long (0 : Int64)) := D54 (Or.inl (hw _ (List.mem_of_getElem? (i := 28) rfl))) (ty := .long) (by decide)
      have F_addedPlainBytes_b54 : Fld Z h54 b54 "com/example/kern_tablet/kerntablet/storage/ColumnTally" "addedPlainBytes" "J" (.long (0 : Int64)) := D54 (Or.inl (hw _ (List.mem_of_getElem? (i := 30) rfl))) (ty := .long) (by decide)
      show own_Fin _ _ _ _ _ _ _ _ (mkF m 31 Ls53 [(.ref b54)])
      refine own_step (fun t k => XS.dup X54.here hx rfl (hb hby at_31) rfl rfl k) ?_
      show own_Fin _ _ _ _ _ _ _ _ (mkF m 32 Ls53 [(.ref b54), (.ref b54)])
      obtain ⟨_, _, ⟨T55, L55, k55, n55⟩, -, X55, ⟨Lc55, hQ55, l55, y55, z55⟩, st55⟩ := X54.specialBack hx (y := (⟨"com/example/kern_tablet/kerntablet/storage/ColumnTally", "<init>", "()V"⟩ : MethodName)) rfl hown (mvT hZ (hw _ (List.mem_of_getElem? (i := 3) rfl))) (mvT hZ (hw _ (List.mem_of_getElem? (i := 4) rfl))) (mvT hZ (hw _ (List.mem_of_getElem? (i := 5) rfl))) (by decide) (backOf (W := 1) (rm2 l Z a0 hw [] b54 h54 n0 Zs E_b54 F_values_b54 F_plainBytes_b54 F_largest_b54 F_laidOut_b54 F_added_b54 F_addedPlainBytes_b54 g_b54) hZ (hw _ (List.mem_of_getElem? (i := 5) rfl)) (hw _ (List.mem_of_getElem? (i := 2) rfl)) (by decide) (by decide)) (g := (mkF m 32 Ls53 [(.ref b54), (.ref b54)])) rfl (by rw [hml]; show Array.size Ls53 = _; rw [hLs53]; rfl) (Steps.refl _) (a := b54) (argsL := []) (rest := [(.ref b54)]) (lenOf own_pd_1 rfl) rfl (by show 2 * 0 + _ ≤ _; exact Nat.le_of_eq rfl) (hb hby at_32) (fun _ _ => ⟨rfl, e54, (by decide : 1 + 0 ≤ _), (by decide : 6 + 0 ≤ _)⟩)
      dsimp only [Pt.U, Pt.locs, Pt.cells, Pt.slots] at X55 l55 y55 z55 st55 hQ55
      subst l55 y55 z55
      obtain ⟨rfl, Nq55, Kq55, P55_0, P55_1, P55_2, P55_3, P55_4, P55_5, P55_6⟩ := hQ55
      replace Nf := Fr.app Nf Nq55
      replace E_b54 := P55_0
      replace F_values_b54 := P55_1
      replace F_plainBytes_b54 := P55_2
      replace F_largest_b54 := P55_3
      replace F_laidOut_b54 : Fld Z T55.heap b54 "com/example/kern_tablet/kerntablet/storage/ColumnTally" "laidOut" "J" (.long (-1 : Int64)) := P55_4
      replace F_added_b54 := P55_5
      replace F_addedPlainBytes_b54 := P55_6
      replace Zs := Nat.le_trans Zs Kq55.1
      refine own_stepT st55 ?_
      show own_Fin _ _ _ _ _ _ _ _ (mkF m 35 Ls53 [(.ref b54)])
      obtain ⟨Ls56, hLs56⟩ : ∃ z : Array Slot, z = #[.val (.long q1), .second, .val (.long q2), .second, .val (.long q3), .second, .val (.int p4), .val (.int (1 : Int32)), .val (.int (0 : Int32)), .val (.ref b54), .unset, .unset, .unset, .unset, .unset, .unset, .unset, .unset, .unset, .unset, .unset, .unset] := ⟨_, rfl⟩
      refine own_step (fun t k => XS.astore X55.here hx rfl (hb hby at_35) rfl rfl (l' := Ls56) (by rw [hLs53, hLs56]; rfl) k) ?_
      show own_Fin _ _ _ _ _ _ _ _ (mkF m 37 Ls56 [])
      refine own_step (fun t k => XS.aload (v := (.ref b54)) X55.here hx rfl (hb hby at_37) (by rw [hLs56]; rfl) rfl k) ?_
      show own_Fin _ _ _ _ _ _ _ _ (mkF m 39 Ls56 [(.ref b54)])
      refine own_step (fun t k => XS.lloadN (v := q1) X55.here hx rfl (hb hby at_39) (by rw [hLs56]; rfl) k) ?_
      show own_Fin _ _ _ _ _ _ _ _ (mkF m 40 Ls56 [(.long q1), (.ref b54)])
      obtain ⟨cq57, kq57, q57a, q57b, q57c⟩ := isOf hZ rfl E_b54
      obtain ⟨_, _, ⟨T57, L57, k57, n57⟩, -, X57, ⟨Lc57, hQ57, l57, y57, z57⟩, st57⟩ := X55.virtualBack hx (y := (⟨"com/example/kern_tablet/kerntablet/storage/ColumnTally", "add", "(J)V"⟩ : MethodName)) (z := (⟨"com/example/kern_tablet/kerntablet/storage/ColumnTally", "add", "(J)V"⟩ : MethodName)) hown (mvT hZ (hw _ (List.mem_of_getElem? (i := 12) rfl))) (mvT hZ (hw _ (List.mem_of_getElem? (i := 13) rfl))) (notFace_of_selects (args := #[]) (mvT hZ (hw _ (List.mem_of_getElem? (i := 15) rfl)))) (mvT hZ (hw _ (List.mem_of_getElem? (i := 15) rfl))) (mvT hZ (hw _ (List.mem_of_getElem? (i := 14) rfl))) (by decide) (backOf (W := 0) (rm3 l Z a0 hw [] b54 q1 _ _ _ _ _ _ T55.heap n0 Zs E_b54 F_values_b54 F_plainBytes_b54 F_largest_b54 F_laidOut_b54 F_added_b54 F_addedPlainBytes_b54 g_b54) hZ (hw _ (List.mem_of_getElem? (i := 16) rfl)) (hw _ (List.mem_of_getElem? (i := 2) rfl)) (by decide) (by decide)) q57a q57c (g := (mkF m 40 Ls56 [(.long q1), (.ref b54)])) rfl (by rw [hml]; show Array.size Ls56 = _; rw [hLs56]; rfl) (Steps.refl _) (argsL := [(.long q1)]) (rest := []) (lenOf own_pd_2 rfl) rfl (by show 2 * 0 + _ ≤ _; exact Nat.le_of_eq rfl) (hb hby at_40) (fun _ _ => ⟨rfl, rfl, (by decide : 1 + 0 ≤ _), (by decide : 6 + 0 ≤ _)⟩)
      dsimp only [Pt.U, Pt.locs, Pt.cells, Pt.slots] at X57 l57 y57 z57 st57 hQ57
      subst l57 y57 z57
      obtain ⟨rfl, Nq57, Kq57, P57_0, P57_1, P57_2, P57_3, P57_4, P57_5, P57_6⟩ := hQ57
      replace Nf := Fr.app Nf Nq57
      replace E_b54 := P57_0
      replace F_values_b54 : Fld Z T57.heap b54 "com/example/kern_tablet/kerntablet/storage/ColumnTally" "values" "I" (.int (1 : Int32)) := P57_1
      replace F_plainBytes_b54 := P57_2
      replace F_largest_b54 := P57_3
      replace F_laidOut_b54 := P57_4
      replace F_added_b54 : Fld Z T57.heap b54 "com/example/kern_tablet/kerntablet/storage/ColumnTally" "added" "J" (.long (1 : Int64)) := P57_5
      replace F_addedPlainBytes_b54 := P57_6
      replace Zs := Nat.le_trans Zs Kq57.1
      refine own_stepT st57 ?_
      show own_Fin _ _ _ _ _ _ _ _ (mkF m 43 Ls56 [])
      refine own_step (fun t k => XS.iload (v := (1 : Int32)) X57.here hx rfl (hb hby at_43) (by rw [hLs56]; rfl) k) ?_
      show own_Fin _ _ _ _ _ _ _ _ (mkF m 45 Ls56 [(.int (1 : Int32))])
      refine own_step (fun t k => XS.ifNo X57.here hx rfl (hb hby at_45) rfl (by decide) k) ?_
      show own_Fin _ _ _ _ _ _ _ _ (mkF m 48 Ls56 [])
      refine own_step (fun t k => XS.aload (v := (.ref b54)) X57.here hx rfl (hb hby at_48) (by rw [hLs56]; rfl) rfl k) ?_
      show own_Fin _ _ _ _ _ _ _ _ (mkF m 50 Ls56 [(.ref b54)])
      refine own_step (fun t k => XS.lload (v := q3) X57.here hx rfl (hb hby at_50) (by rw [hLs56]; rfl) k) ?_
      show own_Fin _ _ _ _ _ _ _ _ (mkF m 52 Ls56 [(.long q3), (.ref b54)])
      obtain ⟨cq58, kq58, q58a, q58b, q58c⟩ := isOf hZ rfl E_b54
      obtain ⟨_, _, ⟨T58, L58, k58, n58⟩, -, X58, ⟨Lc58, hQ58, l58, y58, z58⟩, st58⟩ := X57.virtualBack hx (y := (⟨"com/example/kern_tablet/kerntablet/storage/ColumnTally", "laidOut", "(J)V"⟩ : MethodName)) (z := (⟨"com/example/kern_tablet/kerntablet/storage/ColumnTally", "laidOut", "(J)V"⟩ : MethodName)) hown (mvT hZ (hw _ (List.mem_of_getElem? (i := 69) rfl))) (mvT hZ (hw _ (List.mem_of_getElem? (i := 70) rfl))) (notFace_of_selects (args := #[]) (mvT hZ (hw _ (List.mem_of_getElem? (i := 72) rfl)))) (mvT hZ (hw _ (List.mem_of_getElem? (i := 72) rfl))) (mvT hZ (hw _ (List.mem_of_getElem? (i := 71) rfl))) (by decide) (backOf (W := 0) (rm5 l Z a0 hw [] b54 q3 _ _ _ _ _ _ T57.heap n0 Zs E_b54 F_values_b54 F_plainBytes_b54 F_largest_b54 F_laidOut_b54 F_added_b54 F_addedPlainBytes_b54 g_b54) hZ (hw _ (List.mem_of_getElem? (i := 73) rfl)) (hw _ (List.mem_of_getElem? (i := 2) rfl)) (by decide) (by decide)) q58a q58c (g := (mkF m 52 Ls56 [(.long q3), (.ref b54)])) rfl (by rw [hml]; show Array.size Ls56 = _; rw [hLs56]; rfl) (Steps.refl _) (argsL := [(.long q3)]) (rest := []) (lenOf own_pd_2 rfl) rfl (by show 2 * 0 + _ ≤ _; exact Nat.le_of_eq rfl) (hb hby at_52) (fun _ _ => ⟨rfl, rfl, (by decide : 1 + 0 ≤ _), (by decide : 6 + 0 ≤ _)⟩)
      dsimp only [Pt.U, Pt.locs, Pt.cells, Pt.slots] at X58 l58 y58 z58 st58 hQ58
      subst l58 y58 z58
      obtain ⟨rfl, Nq58, Kq58, P58_0, P58_1, P58_2, P58_3, P58_4, P58_5, P58_6⟩ := hQ58
      replace Nf := Fr.app Nf Nq58
      replace E_b54 := P58_0
      replace F_values_b54 := P58_1
      replace F_plainBytes_b54 := P58_2
      replace F_largest_b54 := P58_3
      replace F_laidOut_b54 := P58_4
      replace F_added_b54 : Fld Z T58.heap b54 "com/example/kern_tablet/kerntablet/storage/ColumnTally" "added" "J" (.long (0 : Int64)) := P58_5
      replace F_addedPlainBytes_b54 : Fld Z T58.heap b54 "com/example/kern_tablet/kerntablet/storage/ColumnTally" "addedPlainBytes" "J" (.long (0 : Int64)) := P58_6
      replace Zs := Nat.le_trans Zs Kq58.1
      refine own_stepT st58 ?_
      show own_Fin _ _ _ _ _ _ _ _ (mkF m 55 Ls56 [])
      refine own_step (fun t k => XS.aload (v := (.ref b54)) X58.here hx rfl (hb hby at_55) (by rw [hLs56]; rfl) rfl k) ?_
      show own_Fin _ _ _ _ _ _ _ _ (mkF m 57 Ls56 [(.ref b54)])
      refine own_step (fun t k => XS.lloadN (v := q2) X58.here hx rfl (hb hby at_57) (by rw [hLs56]; rfl) k) ?_
      show own_Fin _ _ _ _ _ _ _ _ (mkF m 58 Ls56 [(.long q2), (.ref b54)])
      obtain ⟨cq59, kq59, q59a, q59b, q59c⟩ := isOf hZ rfl E_b54
      obtain ⟨_, _, ⟨T59, L59, k59, n59⟩, -, X59, ⟨Lc59, hQ59, l59, y59, z59⟩, st59⟩ := X58.virtualBack hx (y := (⟨"com/example/kern_tablet/kerntablet/storage/ColumnTally", "add", "(J)V"⟩ : MethodName)) (z := (⟨"com/example/kern_tablet/kerntablet/storage/ColumnTally", "add", "(J)V"⟩ : MethodName)) hown (mvT hZ (hw _ (List.mem_of_getElem? (i := 12) rfl))) (mvT hZ (hw _ (List.mem_of_getElem? (i := 13) rfl))) (notFace_of_selects (args := #[]) (mvT hZ (hw _ (List.mem_of_getElem? (i := 15) rfl)))) (mvT hZ (hw _ (List.mem_of_getElem? (i := 15) rfl))) (mvT hZ (hw _ (List.mem_of_getElem? (i := 14) rfl))) (by decide) (backOf (W := 0) (rm3 l Z a0 hw [] b54 q2 _ _ _ _ _ _ T58.heap n0 Zs E_b54 F_values_b54 F_plainBytes_b54 F_largest_b54 F_laidOut_b54 F_added_b54 F_addedPlainBytes_b54 g_b54) hZ (hw _ (List.mem_of_getElem? (i := 16) rfl)) (hw _ (List.mem_of_getElem? (i := 2) rfl)) (by decide) (by decide)) q59a q59c (g := (mkF m 58 Ls56 [(.long q2), (.ref b54)])) rfl (by rw [hml]; show Array.size Ls56 = _; rw [hLs56]; rfl) (Steps.refl _) (argsL := [(.long q2)]) (rest := []) (lenOf own_pd_2 rfl) rfl (by show 2 * 0 + _ ≤ _; exact Nat.le_of_eq rfl) (hb hby at_58) (fun _ _ => ⟨rfl, rfl, (by decide : 1 + 0 ≤ _), (by decide : 6 + 0 ≤ _)⟩)
      dsimp only [Pt.U, Pt.locs, Pt.cells, Pt.slots] at X59 l59 y59 z59 st59 hQ59
      subst l59 y59 z59
      obtain ⟨rfl, Nq59, Kq59, P59_0, P59_1, P59_2, P59_3, P59_4, P59_5, P59_6⟩ := hQ59
      replace Nf := Fr.app Nf Nq59
      replace E_b54 := P59_0
      replace F_values_b54 : Fld Z T59.heap b54 "com/example/kern_tablet/kerntablet/storage/ColumnTally" "values" "I" (.int (2 : Int32)) := P59_1
      replace F_plainBytes_b54 := P59_2
      replace F_largest_b54 := P59_3
      replace F_laidOut_b54 := P59_4
      replace F_added_b54 : Fld Z T59.heap b54 "com/example/kern_tablet/kerntablet/storage/ColumnTally" "added" "J" (.long (1 : Int64)) := P59_5
      replace F_addedPlainBytes_b54 := P59_6
      replace Zs := Nat.le_trans Zs Kq59.1
      refine own_stepT st59 ?_
      show own_Fin _ _ _ _ _ _ _ _ (mkF m 61 Ls56 [])
      refine own_step (fun t k => XS.iload (v := (0 : Int32)) X59.here hx rfl (hb hby at_61) (by rw [hLs56]; rfl) k) ?_
      show own_Fin _ _ _ _ _ _ _ _ (mkF m 63 Ls56 [(.int (0 : Int32))])
      refine own_step (fun t k => XS.ifYes X59.here hx rfl (pc0 := 63) (pc' := 70) rfl (hb hby at_63) rfl (by decide) (by decide) (by decide) k) ?_
      show own_Fin _ _ _ _ _ _ _ _ (mkF m 70 Ls56 [])
      refine own_step (fun t k => XS.lloadN (v := q2) X59.here hx rfl (hb hby at_70) (by rw [hLs56]; rfl) k) ?_
      show own_Fin _ _ _ _ _ _ _ _ (mkF m 71 Ls56 [(.long q2)])
      obtain ⟨Ls60, hLs60⟩ : ∃ z : Array Slot, z = #[.val (.long q1), .second, .val (.long q2), .second, .val (.long q3), .second, .val (.int p4), .val (.int (1 : Int32)), .val (.int (0 : Int32)), .val (.ref b54), .val (.long q2), .second, .unset, .unset, .unset, .unset, .unset, .unset, .unset, .unset, .unset, .unset] := ⟨_, rfl⟩
      refine own_step (fun t k => XS.lstore X59.here hx rfl (hb hby at_71) rfl (l' := Ls60) (by rw [hLs56, hLs60]; rfl) k) ?_
      show own_Fin _ _ _ _ _ _ _ _ (mkF m 73 Ls60 [])
      refine own_step (fun t k => XS.iload (v := (0 : Int32)) X59.here hx rfl (hb hby at_73) (by rw [hLs60]; rfl) k) ?_
      show own_Fin _ _ _ _ _ _ _ _ (mkF m 75 Ls60 [(.int (0 : Int32))])
      refine own_step (fun t k => XS.ifYes X59.here hx rfl (pc0 := 75) (pc' := 82) rfl (hb hby at_75) rfl (by decide) (by decide) (by decide) k) ?_
      show own_Fin _ _ _ _ _ _ _ _ (mkF m 82 Ls60 [])
      refine own_step (fun t k => XS.lloadN (v := q1) X59.here hx rfl (hb hby at_82) (by rw [hLs60]; rfl) k) ?_
      show own_Fin _ _ _ _ _ _ _ _ (mkF m 83 Ls60 [(.long q1)])
      obtain ⟨Ls61, hLs61⟩ : ∃ z : Array Slot, z = #[.val (.long q1), .second, .val (.long q2), .second, .val (.long q3), .second, .val (.int p4), .val (.int (1 : Int32)), .val (.int (0 : Int32)), .val (.ref b54), .val (.long q2), .second, .val (.long q1), .second, .unset, .unset, .unset, .unset, .unset, .unset, .unset, .unset] := ⟨_, rfl⟩
      refine own_step (fun t k => XS.lstore X59.here hx rfl (hb hby at_83) rfl (l' := Ls61) (by rw [hLs60, hLs61]; rfl) k) ?_
      show own_Fin _ _ _ _ _ _ _ _ (mkF m 85 Ls61 [])
      refine own_step (fun t k => XS.aload (v := (.ref b54)) X59.here hx rfl (hb hby at_85) (by rw [hLs61]; rfl) rfl k) ?_
      show own_Fin _ _ _ _ _ _ _ _ (mkF m 87 Ls61 [(.ref b54)])
      refine own_step (fun t k => XS.lload (v := q2) X59.here hx rfl (hb hby at_87) (by rw [hLs61]; rfl) k) ?_
      show own_Fin _ _ _ _ _ _ _ _ (mkF m 89 Ls61 [(.long q2), (.ref b54)])
      obtain ⟨cq62, kq62, q62a, q62b, q62c⟩ := isOf hZ rfl E_b54
      obtain ⟨_, _, ⟨T62, L62, k62, n62⟩, -, X62, ⟨Lc62, hQ62, l62, y62, z62⟩, st62⟩ := X59.virtualBack hx (y := (⟨"com/example/kern_tablet/kerntablet/storage/ColumnTally", "remove", "(J)V"⟩ : MethodName)) (z := (⟨"com/example/kern_tablet/kerntablet/storage/ColumnTally", "remove", "(J)V"⟩ : MethodName)) hown (mvT hZ (hw _ (List.mem_of_getElem? (i := 31) rfl))) (mvT hZ (hw _ (List.mem_of_getElem? (i := 32) rfl))) (notFace_of_selects (args := #[]) (mvT hZ (hw _ (List.mem_of_getElem? (i := 34) rfl)))) (mvT hZ (hw _ (List.mem_of_getElem? (i := 34) rfl))) (mvT hZ (hw _ (List.mem_of_getElem? (i := 33) rfl))) (by decide) (backOf (W := 0) (rm4 l Z a0 hw [] b54 q2 _ _ _ _ _ _ T59.heap n0 Zs E_b54 F_values_b54 F_plainBytes_b54 F_largest_b54 F_laidOut_b54 F_added_b54 F_addedPlainBytes_b54 g_b54) hZ (hw _ (List.mem_of_getElem? (i := 35) rfl)) (hw _ (List.mem_of_getElem? (i := 2) rfl)) (by decide) (by decide)) q62a q62c (g := (mkF m 89 Ls61 [(.long q2), (.ref b54)])) rfl (by rw [hml]; show Array.size Ls61 = _; rw [hLs61]; rfl) (Steps.refl _) (argsL := [(.long q2)]) (rest := []) (lenOf own_pd_2 rfl) rfl (by show 2 * 0 + _ ≤ _; exact Nat.le_of_eq rfl) (hb hby at_89) (fun _ _ => ⟨rfl, rfl, (by decide : 1 + 0 ≤ _), (by decide : 6 + 0 ≤ _)⟩)
      dsimp only [Pt.U, Pt.locs, Pt.cells, Pt.slots] at X62 l62 y62 z62 st62 hQ62
      subst l62 y62 z62
      obtain ⟨rfl, Nq62, Kq62, P62_0, P62_1, P62_2, P62_3, P62_4, P62_5, P62_6⟩ := hQ62
      replace Nf := Fr.app Nf Nq62
      replace E_b54 := P62_0
      replace F_values_b54 : Fld Z T62.heap b54 "com/example/kern_tablet/kerntablet/storage/ColumnTally" "values" "I" (.int (1 : Int32)) := P62_1
      replace F_plainBytes_b54 := P62_2
      replace F_largest_b54 := P62_3
      replace F_laidOut_b54 := P62_4
      replace F_added_b54 := P62_5
      replace F_addedPlainBytes_b54 := P62_6
      replace Zs := Nat.le_trans Zs Kq62.1
      refine own_stepT st62 ?_
      show own_Fin _ _ _ _ _ _ _ _ (mkF m 92 Ls61 [])
      refine own_step (fun t k => XS.lconst X62.here hx rfl (hb hby at_92) k) ?_
      show own_Fin _ _ _ _ _ _ _ _ (mkF m 93 Ls61 [(.long (0 : Int64))])
      refine own_step (fun t k => XS.lloadN (v := q1) X62.here hx rfl (hb hby at_93) (by rw [hLs61]; rfl) k) ?_
      show own_Fin _ _ _ _ _ _ _ _ (mkF m 94 Ls61 [(.long q1), (.long (0 : Int64))])
      obtain ⟨_, _, ⟨T63, L63, k63, n63⟩, -, X63, ⟨Lc63, hQ63, l63, y63, z63⟩, st63⟩ := Jvm.LawKit.callS X62 hx (y := (⟨"java/lang/Math", "max", "(JJ)J"⟩ : MethodName)) hown (mvT hZ (hw _ (List.mem_of_getElem? (i := 36) rfl))) (mvT hZ (hw _ (List.mem_of_getElem? (i := 24) rfl))) (mvT hZ (hw _ (List.mem_of_getElem? (i := 25) rfl))) (mvT hZ (hw _ (List.mem_of_getElem? (i := 26) rfl))) (by decide) (backOf (W := 0) (rm1 l Z a0 hw [] (0 : Int64) q1 T62.heap n0 Zs) hZ (hw _ (List.mem_of_getElem? (i := 26) rfl)) (hw _ (List.mem_of_getElem? (i := 25) rfl)) (by decide) (by decide)) (g := (mkF m 94 Ls61 [(.long q1), (.long (0 : Int64))])) rfl (by rw [hml]; show Array.size Ls61 = _; rw [hLs61]; rfl) (argsL := [(.long (0 : Int64)), (.long q1)]) (rest := []) (lenOf own_pd_0 rfl) rfl (by show 2 * 0 + _ ≤ _; exact Nat.le_of_eq rfl) (hb hby at_94) (fun _ _ => ⟨rfl, rfl, (by decide : 1 + 0 ≤ _), (by decide : 6 + 0 ≤ _)⟩)
      dsimp only [Pt.U, Pt.locs, Pt.cells, Pt.slots] at X63 l63 y63 z63 st63 hQ63
      subst l63 y63 z63
      obtain ⟨rfl, Nq63, hh63⟩ := hQ63
      replace Nf := Fr.app Nf Nq63
      refine own_step st63 ?_
      show own_Fin _ _ _ _ _ _ _ _ (mkF m 97 Ls61 [(.long (own_max (0 : Int64) q1))])
      refine own_step (fun t k => XS.lloadN (v := q2) X63.here hx rfl (hb hby at_97) (by rw [hLs61]; rfl) k) ?_
      show own_Fin _ _ _ _ _ _ _ _ (mkF m 98 Ls61 [(.long q2), (.long (own_max (0 : Int64) q1))])
      obtain ⟨_, _, ⟨T64, L64, k64, n64⟩, -, X64, ⟨Lc64, hQ64, l64, y64, z64⟩, st64⟩ := Jvm.LawKit.callS X63 hx (y := (⟨"java/lang/Math", "max", "(JJ)J"⟩ : MethodName)) hown (mvT hZ (hw _ (List.mem_of_getElem? (i := 36) rfl))) (mvT hZ (hw _ (List.mem_of_getElem? (i := 24) rfl))) (mvT hZ (hw _ (List.mem_of_getElem? (i := 25) rfl))) (mvT hZ (hw _ (List.mem_of_getElem? (i := 26) rfl))) (by decide) (backOf (W := 0) (rm1 l Z a0 hw [] (own_max (0 : Int64) q1) q2 T62.heap n0 Zs) hZ (hw _ (List.mem_of_getElem? (i := 26) rfl)) (hw _ (List.mem_of_getElem? (i := 25) rfl)) (by decide) (by decide)) (g := (mkF m 98 Ls61 [(.long q2), (.long (own_max (0 : Int64) q1))])) rfl (by rw [hml]; show Array.size Ls61 = _; rw [hLs61]; rfl) (argsL := [(.long (own_max (0 : Int64) q1)), (.long q2)]) (rest := []) (lenOf own_pd_0 rfl) rfl (by show 2 * 0 + _ ≤ _; exact Nat.le_of_eq rfl) (hb hby at_98) (fun _ _ => ⟨rfl, hh63, (by decide : 1 + 0 ≤ _), (by decide : 6 + 0 ≤ _)⟩)
      dsimp only [Pt.U, Pt.locs, Pt.cells, Pt.slots] at X64 l64 y64 z64 st64 hQ64
      subst l64 y64 z64
      obtain ⟨rfl, Nq64, hh64⟩ := hQ64
      replace Nf := Fr.app Nf Nq64
      refine own_step st64 ?_
      show own_Fin _ _ _ _ _ _ _ _ (mkF m 101 Ls61 [(.long (own_max (own_max (0 : Int64) q1) q2))])
      obtain ⟨Ls65, hLs65⟩ : ∃ z : Array Slot, z = #[.val (.long q1), .second, .val (.long q2), .second, .val (.long q3), .second, .val (.int p4), .val (.int (1 : Int32)), .val (.int (0 : Int32)), .val (.ref b54), .val (.long q2), .second, .val (.long q1), .second, .val (.long (own_max (own_max (0 : Int64) q1) q2)), .second, .unset, .unset, .unset, .unset, .unset, .unset] := ⟨_, rfl⟩
      refine own_step (fun t k => XS.lstore X64.here hx rfl (hb hby at_101) rfl (l' := Ls65) (by rw [hLs61, hLs65]; rfl) k) ?_
      show own_Fin _ _ _ _ _ _ _ _ (mkF m 103 Ls65 [])
      refine own_step (fun t k => XS.iload (v := (1 : Int32)) X64.here hx rfl (hb hby at_103) (by rw [hLs65]; rfl) k) ?_
      show own_Fin _ _ _ _ _ _ _ _ (mkF m 105 Ls65 [(.int (1 : Int32))])
      refine own_step (fun t k => XS.ifNo X64.here hx rfl (hb hby at_105) rfl (by decide) k) ?_
      show own_Fin _ _ _ _ _ _ _ _ (mkF m 108 Ls65 [])
      refine own_step (fun t k => XS.lload (v := q3) X64.here hx rfl (hb hby at_108) (by rw [hLs65]; rfl) k) ?_
      show own_Fin _ _ _ _ _ _ _ _ (mkF m 110 Ls65 [(.long q3)])
      refine own_step (fun t k => XS.goto X64.here hx rfl (pc0 := 110) (pc' := 116) rfl (hb hby at_110) (by decide) (by decide) k) ?_
      show own_Fin _ _ _ _ _ _ _ _ (mkF m 116 Ls65 [(.long q3)])
      obtain ⟨Ls66, hLs66⟩ : ∃ z : Array Slot, z = #[.val (.long q1), .second, .val (.long q2), .second, .val (.long q3), .second, .val (.int p4), .val (.int (1 : Int32)), .val (.int (0 : Int32)), .val (.ref b54), .val (.long q2), .second, .val (.long q1), .second, .val (.long (own_max (own_max (0 : Int64) q1) q2)), .second, .val (.long q3), .second, .unset, .unset, .unset, .unset] := ⟨_, rfl⟩
      refine own_step (fun t k => XS.lstore X64.here hx rfl (hb hby at_116) rfl (l' := Ls66) (by rw [hLs65, hLs66]; rfl) k) ?_
      show own_Fin _ _ _ _ _ _ _ _ (mkF m 118 Ls66 [])
      refine own_step (fun t k => XS.iload (v := (1 : Int32)) X64.here hx rfl (hb hby at_118) (by rw [hLs66]; rfl) k) ?_
      show own_Fin _ _ _ _ _ _ _ _ (mkF m 120 Ls66 [(.int (1 : Int32))])
      refine own_step (fun t k => XS.ifNo X64.here hx rfl (hb hby at_120) rfl (by decide) k) ?_
      show own_Fin _ _ _ _ _ _ _ _ (mkF m 123 Ls66 [])
      refine own_step (fun t k => XS.lconst X64.here hx rfl (hb hby at_123) k) ?_
      show own_Fin _ _ _ _ _ _ _ _ (mkF m 124 Ls66 [(.long (1 : Int64))])
      refine own_step (fun t k => XS.goto X64.here hx rfl (pc0 := 124) (pc' := 130) rfl (hb hby at_124) (by decide) (by decide) k) ?_
      show own_Fin _ _ _ _ _ _ _ _ (mkF m 130 Ls66 [(.long (1 : Int64))])
      obtain ⟨Ls67, hLs67⟩ : ∃ z : Array Slot, z = #[.val (.long q1), .second, .val (.long q2), .second, .val (.long q3), .second, .val (.int p4), .val (.int (1 : Int32)), .val (.int (0 : Int32)), .val (.ref b54), .val (.long q2), .second, .val (.long q1), .second, .val (.long (own_max (own_max (0 : Int64) q1) q2)), .second, .val (.long q3), .second, .val (.long (1 : Int64)), .second, .unset, .unset] := ⟨_, rfl⟩
      refine own_step (fun t k => XS.lstore X64.here hx rfl (hb hby at_130) rfl (l' := Ls67) (by rw [hLs66, hLs67]; rfl) k) ?_
      show own_Fin _ _ _ _ _ _ _ _ (mkF m 132 Ls67 [])
      refine own_step (fun t k => XS.iload (v := (1 : Int32)) X64.here hx rfl (hb hby at_132) (by rw [hLs67]; rfl) k) ?_
      show own_Fin _ _ _ _ _ _ _ _ (mkF m 134 Ls67 [(.int (1 : Int32))])
      refine own_step (fun t k => XS.ifNo X64.here hx rfl (hb hby at_134) rfl (by decide) k) ?_
      show own_Fin _ _ _ _ _ _ _ _ (mkF m 137 Ls67 [])
      refine own_step (fun t k => XS.lloadN (v := q2) X64.here hx rfl (hb hby at_137) (by rw [hLs67]; rfl) k) ?_
      show own_Fin _ _ _ _ _ _ _ _ (mkF m 138 Ls67 [(.long q2)])
      refine own_step (fun t k => XS.goto X64.here hx rfl (pc0 := 138) (pc' := 144) rfl (hb hby at_138) (by decide) (by decide) k) ?_
      show own_Fin _ _ _ _ _ _ _ _ (mkF m 144 Ls67 [(.long q2)])
      obtain ⟨Ls68, hLs68⟩ : ∃ z : Array Slot, z = #[.val (.long q1), .second, .val (.long q2), .second, .val (.long q3), .second, .val (.int p4), .val (.int (1 : Int32)), .val (.int (0 : Int32)), .val (.ref b54), .val (.long q2), .second, .val (.long q1), .second, .val (.long (own_max (own_max (0 : Int64) q1) q2)), .second, .val (.long q3), .second, .val (.long (1 : Int64)), .second, .val (.long q2), .second] := ⟨_, rfl⟩
      refine own_step (fun t k => XS.lstore X64.here hx rfl (hb hby at_144) rfl (l' := Ls68) (by rw [hLs67, hLs68]; rfl) k) ?_
      show own_Fin _ _ _ _ _ _ _ _ (mkF m 146 Ls68 [])
      refine own_step (fun t k => XS.aload (v := (.ref b54)) X64.here hx rfl (hb hby at_146) (by rw [hLs68]; rfl) rfl k) ?_
      show own_Fin _ _ _ _ _ _ _ _ (mkF m 148 Ls68 [(.ref b54)])
      obtain ⟨cq69, kq69, q69a, q69b, q69c⟩ := isOf hZ hh64 E_b54
      obtain ⟨_, _, ⟨T69, L69, k69, n69⟩, -, X69, ⟨Lc69, hQ69, l69, y69, z69⟩, st69⟩ := X64.virtualBack hx (y := (⟨"com/example/kern_tablet/kerntablet/storage/ColumnTally", "values", "()I"⟩ : MethodName)) (z := (⟨"com/example/kern_tablet/kerntablet/storage/ColumnTally", "values", "()I"⟩ : MethodName)) hown (mvT hZ (hw _ (List.mem_of_getElem? (i := 39) rfl))) (mvT hZ (hw _ (List.mem_of_getElem? (i := 40) rfl))) (notFace_of_selects (args := #[]) (mvT hZ (hw _ (List.mem_of_getElem? (i := 42) rfl)))) (mvT hZ (hw _ (List.mem_of_getElem? (i := 42) rfl))) (mvT hZ (hw _ (List.mem_of_getElem? (i := 41) rfl))) (by decide) (backOf (W := 0) (rm10 l Z a0 hw [] b54 _ T62.heap n0 Zs F_values_b54) hZ (hw _ (List.mem_of_getElem? (i := 43) rfl)) (hw _ (List.mem_of_getElem? (i := 2) rfl)) (by decide) (by decide)) q69a q69c (g := (mkF m 148 Ls68 [(.ref b54)])) rfl (by rw [hml]; show Array.size Ls68 = _; rw [hLs68]; rfl) (Steps.refl _) (argsL := []) (rest := []) (lenOf own_pd_3 rfl) rfl (by show 2 * 0 + _ ≤ _; exact Nat.le_of_eq rfl) (hb hby at_148) (fun _ _ => ⟨rfl, hh64, (by decide : 1 + 0 ≤ _), (by decide : 6 + 0 ≤ _)⟩)
      dsimp only [Pt.U, Pt.locs, Pt.cells, Pt.slots] at X69 l69 y69 z69 st69 hQ69
      subst l69 y69 z69
      obtain ⟨rfl, Nq69, hh69⟩ := hQ69
      replace Nf := Fr.app Nf Nq69
      refine own_stepT st69 ?_
      show own_Fin _ _ _ _ _ _ _ _ (mkF m 151 Ls68 [(.int (1 : Int32))])
      refine own_step (fun t k => XS.iconst X69.here hx rfl (hb hby at_151) k) ?_
      show own_Fin _ _ _ _ _ _ _ _ (mkF m 152 Ls68 [(.int (1 : Int32)), (.int (1 : Int32))])
      refine own_step (fun t k => XS.icmpNo X69.here hx rfl (hb hby at_152) rfl (own_ce (x := (1 : Int32)) (y := (1 : Int32)) rfl rfl (rfl : ((1 : Int32)).toInt = 1)).2 k) ?_
      show own_Fin _ _ _ _ _ _ _ _ (mkF m 155 Ls68 [])
      refine own_step (fun t k => XS.aload (v := (.ref b54)) X69.here hx rfl (hb hby at_155) (by rw [hLs68]; rfl) rfl k) ?_
      show own_Fin _ _ _ _ _ _ _ _ (mkF m 157 Ls68 [(.ref b54)])
      obtain ⟨cq70, kq70, q70a, q70b, q70c⟩ := isOf hZ hh69 E_b54
      obtain ⟨_, _, ⟨T70, L70, k70, n70⟩, -, X70, ⟨Lc70, hQ70, l70, y70, z70⟩, st70⟩ := X69.virtualBack hx (y := (⟨"com/example/kern_tablet/kerntablet/storage/ColumnTally", "plainBytes", "()J"⟩ : MethodName)) (z := (⟨"com/example/kern_tablet/kerntablet/storage/ColumnTally", "plainBytes", "()J"⟩ : MethodName)) hown (mvT hZ (hw _ (List.mem_of_getElem? (i := 44) rfl))) (mvT hZ (hw _ (List.mem_of_getElem? (i := 45) rfl))) (notFace_of_selects (args := #[]) (mvT hZ (hw _ (List.mem_of_getElem? (i := 47) rfl)))) (mvT hZ (hw _ (List.mem_of_getElem? (i := 47) rfl))) (mvT hZ (hw _ (List.mem_of_getElem? (i := 46) rfl))) (by decide) (backOf (W := 0) (rm11 l Z a0 hw [] b54 _ T62.heap n0 Zs F_plainBytes_b54) hZ (hw _ (List.mem_of_getElem? (i := 48) rfl)) (hw _ (List.mem_of_getElem? (i := 2) rfl)) (by decide) (by decide)) q70a q70c (g := (mkF m 157 Ls68 [(.ref b54)])) rfl (by rw [hml]; show Array.size Ls68 = _; rw [hLs68]; rfl) (Steps.refl _) (argsL := []) (rest := []) (lenOf own_pd_4 rfl) rfl (by show 2 * 0 + _ ≤ _; exact Nat.le_of_eq rfl) (hb hby at_157) (fun _ _ => ⟨rfl, hh69, (by decide : 1 + 0 ≤ _), (by decide : 6 + 0 ≤ _)⟩)
      dsimp only [Pt.U, Pt.locs, Pt.cells, Pt.slots] at X70 l70 y70 z70 st70 hQ70
      subst l70 y70 z70
      obtain ⟨rfl, Nq70, hh70⟩ := hQ70
      replace Nf := Fr.app Nf Nq70
      refine own_stepT st70 ?_
      show own_Fin _ _ _ _ _ _ _ _ (mkF m 160 Ls68 [(.long ((((0 : Int64) + q1) + q2) - q2))])
      refine own_step (fun t k => XS.lload (v := q1) X70.here hx rfl (hb hby at_160) (by rw [hLs68]; rfl) k) ?_
      show own_Fin _ _ _ _ _ _ _ _ (mkF m 162 Ls68 [(.long q1), (.long ((((0 : Int64) + q1) + q2) - q2))])
      refine own_step (fun t k => XS.lcmp X70.here hx rfl (hb hby at_162) rfl k) ?_
      show own_Fin _ _ _ _ _ _ _ _ (mkF m 163 Ls68 [(.int (lcmpW ((((0 : Int64) + q1) + q2) - q2) q1))])
      have hc71 : (((((0 : Int64) + q1) + q2) - q2)).toInt = (q1).toInt := by congr 1; rw [Int64.zero_add, Int64.add_sub_cancel]
      refine own_step (fun t k => XS.ifNo X70.here hx rfl (hb hby at_163) rfl (own_le (x := ((((0 : Int64) + q1) + q2) - q2)) (y := q1) rfl rfl hc71).2 k) ?_
      show own_Fin _ _ _ _ _ _ _ _ (mkF m 166 Ls68 [])
      refine own_step (fun t k => XS.aload (v := (.ref b54)) X70.here hx rfl (hb hby at_166) (by rw [hLs68]; rfl) rfl k) ?_
      show own_Fin _ _ _ _ _ _ _ _ (mkF m 168 Ls68 [(.ref b54)])
      obtain ⟨cq72, kq72, q72a, q72b, q72c⟩ := isOf hZ hh70 E_b54
      obtain ⟨_, _, ⟨T72, L72, k72, n72⟩, -, X72, ⟨Lc72, hQ72, l72, y72, z72⟩, st72⟩ := X70.virtualBack hx (y := (⟨"com/example/kern_tablet/kerntablet/storage/ColumnTally", "largest", "()J"⟩ : MethodName)) (z := (⟨"com/example/kern_tablet/kerntablet/storage/ColumnTally", "largest", "()J"⟩ : MethodName)) hown (mvT hZ (hw _ (List.mem_of_getElem? (i := 49) rfl))) (mvT hZ (hw _ (List.mem_of_getElem? (i := 50) rfl))) (notFace_of_selects (args := #[]) (mvT hZ (hw _ (List.mem_of_getElem? (i := 52) rfl)))) (mvT hZ (hw _ (List.mem_of_getElem? (i := 52) rfl))) (mvT hZ (hw _ (List.mem_of_getElem? (i := 51) rfl))) (by decide) (backOf (W := 0) (rm12 l Z a0 hw [] b54 _ T62.heap n0 Zs F_largest_b54) hZ (hw _ (List.mem_of_getElem? (i := 53) rfl)) (hw _ (List.mem_of_getElem? (i := 2) rfl)) (by decide) (by decide)) q72a q72c (g := (mkF m 168 Ls68 [(.ref b54)])) rfl (by rw [hml]; show Array.size Ls68 = _; rw [hLs68]; rfl) (Steps.refl _) (argsL := []) (rest := []) (lenOf own_pd_4 rfl) rfl (by show 2 * 0 + _ ≤ _; exact Nat.le_of_eq rfl) (hb hby at_168) (fun _ _ => ⟨rfl, hh70, (by decide : 1 + 0 ≤ _), (by decide : 6 + 0 ≤ _)⟩)
      dsimp only [Pt.U, Pt.locs, Pt.cells, Pt.slots] at X72 l72 y72 z72 st72 hQ72
      subst l72 y72 z72
      obtain ⟨rfl, Nq72, hh72⟩ := hQ72
      replace Nf := Fr.app Nf Nq72
      refine own_stepT st72 ?_
      show own_Fin _ _ _ _ _ _ _ _ (mkF m 171 Ls68 [(.long (own_max (own_max (0 : Int64) q1) q2))])
      refine own_step (fun t k => XS.lload (v := (own_max (own_max (0 : Int64) q1) q2)) X72.here hx rfl (hb hby at_171) (by rw [hLs68]; rfl) k) ?_
      show own_Fin _ _ _ _ _ _ _ _ (mkF m 173 Ls68 [(.long (own_max (own_max (0 : Int64) q1) q2)), (.long (own_max (own_max (0 : Int64) q1) q2))])
      refine own_step (fun t k => XS.lcmp X72.here hx rfl (hb hby at_173) rfl k) ?_
      show own_Fin _ _ _ _ _ _ _ _ (mkF m 174 Ls68 [(.int (lcmpW (own_max (own_max (0 : Int64) q1) q2) (own_max (own_max (0 : Int64) q1) q2)))])
      refine own_step (fun t k => XS.ifNo X72.here hx rfl (hb hby at_174) rfl (own_le (x := (own_max (own_max (0 : Int64) q1) q2)) (y := (own_max (own_max (0 : Int64) q1) q2)) rfl rfl (rfl : ((own_max (own_max (0 : Int64) q1) q2)).toInt = ((own_max (own_max (0 : Int64) q1) q2)).toInt)).2 k) ?_
      show own_Fin _ _ _ _ _ _ _ _ (mkF m 177 Ls68 [])
      refine own_step (fun t k => XS.aload (v := (.ref b54)) X72.here hx rfl (hb hby at_177) (by rw [hLs68]; rfl) rfl k) ?_
      show own_Fin _ _ _ _ _ _ _ _ (mkF m 179 Ls68 [(.ref b54)])
      obtain ⟨cq73, kq73, q73a, q73b, q73c⟩ := isOf hZ hh72 E_b54
      obtain ⟨_, _, ⟨T73, L73, k73, n73⟩, -, X73, ⟨Lc73, hQ73, l73, y73, z73⟩, st73⟩ := X72.virtualBack hx (y := (⟨"com/example/kern_tablet/kerntablet/storage/ColumnTally", "laidOut", "()J"⟩ : MethodName)) (z := (⟨"com/example/kern_tablet/kerntablet/storage/ColumnTally", "laidOut", "()J"⟩ : MethodName)) hown (mvT hZ (hw _ (List.mem_of_getElem? (i := 54) rfl))) (mvT hZ (hw _ (List.mem_of_getElem? (i := 55) rfl))) (notFace_of_selects (args := #[]) (mvT hZ (hw _ (List.mem_of_getElem? (i := 57) rfl)))) (mvT hZ (hw _ (List.mem_of_getElem? (i := 57) rfl))) (mvT hZ (hw _ (List.mem_of_getElem? (i := 56) rfl))) (by decide) (backOf (W := 0) (rm13 l Z a0 hw [] b54 _ T62.heap n0 Zs F_laidOut_b54) hZ (hw _ (List.mem_of_getElem? (i := 58) rfl)) (hw _ (List.mem_of_getElem? (i := 2) rfl)) (by decide) (by decide)) q73a q73c (g := (mkF m 179 Ls68 [(.ref b54)])) rfl (by rw [hml]; show Array.size Ls68 = _; rw [hLs68]; rfl) (Steps.refl _) (argsL := []) (rest := []) (lenOf own_pd_4 rfl) rfl (by show 2 * 0 + _ ≤ _; exact Nat.le_of_eq rfl) (hb hby at_179) (fun _ _ => ⟨rfl, hh72, (by decide : 1 + 0 ≤ _), (by decide : 6 + 0 ≤ _)⟩)
      dsimp only [Pt.U, Pt.locs, Pt.cells, Pt.slots] at X73 l73 y73 z73 st73 hQ73
      subst l73 y73 z73
      obtain ⟨rfl, Nq73, hh73⟩ := hQ73
      replace Nf := Fr.app Nf Nq73
      refine own_stepT st73 ?_
      show own_Fin _ _ _ _ _ _ _ _ (mkF m 182 Ls68 [(.long q3)])
      refine own_step (fun t k => XS.lload (v := q3) X73.here hx rfl (hb hby at_182) (by rw [hLs68]; rfl) k) ?_
      show own_Fin _ _ _ _ _ _ _ _ (mkF m 184 Ls68 [(.long q3), (.long q3)])
      refine own_step (fun t k => XS.lcmp X73.here hx rfl (hb hby at_184) rfl k) ?_
      show own_Fin _ _ _ _ _ _ _ _ (mkF m 185 Ls68 [(.int (lcmpW q3 q3))])
      refine own_step (fun t k => XS.ifNo X73.here hx rfl (hb hby at_185) rfl (own_le (x := q3) (y := q3) rfl rfl (rfl : (q3).toInt = (q3).toInt)).2 k) ?_
      show own_Fin _ _ _ _ _ _ _ _ (mkF m 188 Ls68 [])
      refine own_step (fun t k => XS.aload (v := (.ref b54)) X73.here hx rfl (hb hby at_188) (by rw [hLs68]; rfl) rfl k) ?_
      show own_Fin _ _ _ _ _ _ _ _ (mkF m 190 Ls68 [(.ref b54)])
      obtain ⟨cq74, kq74, q74a, q74b, q74c⟩ := isOf hZ hh73 E_b54
      obtain ⟨_, _, ⟨T74, L74, k74, n74⟩, -, X74, ⟨Lc74, hQ74, l74, y74, z74⟩, st74⟩ := X73.virtualBack hx (y := (⟨"com/example/kern_tablet/kerntablet/storage/ColumnTally", "added", "()J"⟩ : MethodName)) (z := (⟨"com/example/kern_tablet/kerntablet/storage/ColumnTally", "added", "()J"⟩ : MethodName)) hown (mvT hZ (hw _ (List.mem_of_getElem? (i := 59) rfl))) (mvT hZ (hw _ (List.mem_of_getElem? (i := 60) rfl))) (notFace_of_selects (args := #[]) (mvT hZ (hw _ (List.mem_of_getElem? (i := 62) rfl)))) (mvT hZ (hw _ (List.mem_of_getElem? (i := 62) rfl))) (mvT hZ (hw _ (List.mem_of_getElem? (i := 61) rfl))) (by decide) (backOf (W := 0) (rm14 l Z a0 hw [] b54 _ T62.heap n0 Zs F_added_b54) hZ (hw _ (List.mem_of_getElem? (i := 63) rfl)) (hw _ (List.mem_of_getElem? (i := 2) rfl)) (by decide) (by decide)) q74a q74c (g := (mkF m 190 Ls68 [(.ref b54)])) rfl (by rw [hml]; show Array.size Ls68 = _; rw [hLs68]; rfl) (Steps.refl _) (argsL := []) (rest := []) (lenOf own_pd_4 rfl) rfl (by show 2 * 0 + _ ≤ _; exact Nat.le_of_eq rfl) (hb hby at_190) (fun _ _ => ⟨rfl, hh73, (by decide : 1 + 0 ≤ _), (by decide : 6 + 0 ≤ _)⟩)
      dsimp only [Pt.U, Pt.locs, Pt.cells, Pt.slots] at X74 l74 y74 z74 st74 hQ74
      subst l74 y74 z74
      obtain ⟨rfl, Nq74, hh74⟩ := hQ74
      replace Nf := Fr.app Nf Nq74
      refine own_stepT st74 ?_
      show own_Fin _ _ _ _ _ _ _ _ (mkF m 193 Ls68 [(.long (1 : Int64))])
      refine own_step (fun t k => XS.lload (v := (1 : Int64)) X74.here hx rfl (hb hby at_193) (by rw [hLs68]; rfl) k) ?_
      show own_Fin _ _ _ _ _ _ _ _ (mkF m 195 Ls68 [(.long (1 : Int64)), (.long (1 : Int64))])
      refine own_step (fun t k => XS.lcmp X74.here hx rfl (hb hby at_195) rfl k) ?_
      show own_Fin _ _ _ _ _ _ _ _ (mkF m 196 Ls68 [(.int (lcmpW (1 : Int64) (1 : Int64)))])
      refine own_step (fun t k => XS.ifNo X74.here hx rfl (hb hby at_196) rfl (own_le (x := (1 : Int64)) (y := (1 : Int64)) rfl rfl (rfl : ((1 : Int64)).toInt = 1)).2 k) ?_
      show own_Fin _ _ _ _ _ _ _ _ (mkF m 199 Ls68 [])
      refine own_step (fun t k => XS.aload (v := (.ref b54)) X74.here hx rfl (hb hby at_199) (by rw [hLs68]; rfl) rfl k) ?_
      show own_Fin _ _ _ _ _ _ _ _ (mkF m 201 Ls68 [(.ref b54)])
      obtain ⟨cq75, kq75, q75a, q75b, q75c⟩ := isOf hZ hh74 E_b54
      obtain ⟨_, _, ⟨T75, L75, k75, n75⟩, -, X75, ⟨Lc75, hQ75, l75, y75, z75⟩, st75⟩ := X74.virtualBack hx (y := (⟨"com/example/kern_tablet/kerntablet/storage/ColumnTally", "addedPlainBytes", "()J"⟩ : MethodName)) (z := (⟨"com/example/kern_tablet/kerntablet/storage/ColumnTally", "addedPlainBytes", "()J"⟩ : MethodName)) hown (mvT hZ (hw _ (List.mem_of_getElem? (i := 64) rfl))) (mvT hZ (hw _ (List.mem_of_getElem? (i := 65) rfl))) (notFace_of_selects (args := #[]) (mvT hZ (hw _ (List.mem_of_getElem? (i := 67) rfl)))) (mvT hZ (hw _ (List.mem_of_getElem? (i := 67) rfl))) (mvT hZ (hw _ (List.mem_of_getElem? (i := 66) rfl))) (by decide) (backOf (W := 0) (rm15 l Z a0 hw [] b54 _ T62.heap n0 Zs F_addedPlainBytes_b54) hZ (hw _ (List.mem_of_getElem? (i := 68) rfl)) (hw _ (List.mem_of_getElem? (i := 2) rfl)) (by decide) (by decide)) q75a q75c (g := (mkF m 201 Ls68 [(.ref b54)])) rfl (by rw [hml]; show Array.size Ls68 = _; rw [hLs68]; rfl) (Steps.refl _) (argsL := []) (rest := []) (lenOf own_pd_4 rfl) rfl (by show 2 * 0 + _ ≤ _; exact Nat.le_of_eq rfl) (hb hby at_201) (fun _ _ => ⟨rfl, hh74, (by decide : 1 + 0 ≤ _), (by decide : 6 + 0 ≤ _)⟩)
      dsimp only [Pt.U, Pt.locs, Pt.cells, Pt.slots] at X75 l75 y75 z75 st75 hQ75
      subst l75 y75 z75
      obtain ⟨rfl, Nq75, hh75⟩ := hQ75
      replace Nf := Fr.app Nf Nq75
      refine own_stepT st75 ?_
      show own_Fin _ _ _ _ _ _ _ _ (mkF m 204 Ls68 [(.long ((0 : Int64) + q2))])
      refine own_step (fun t k => XS.lload (v := q2) X75.here hx rfl (hb hby at_204) (by rw [hLs68]; rfl) k) ?_
      show own_Fin _ _ _ _ _ _ _ _ (mkF m 206 Ls68 [(.long q2), (.long ((0 : Int64) + q2))])
      refine own_step (fun t k => XS.lcmp X75.here hx rfl (hb hby at_206) rfl k) ?_
      show own_Fin _ _ _ _ _ _ _ _ (mkF m 207 Ls68 [(.int (lcmpW ((0 : Int64) + q2) q2))])
      have hc76 : (((0 : Int64) + q2)).toInt = (q2).toInt := by rw [Int64.zero_add]
      refine own_step (fun t k => XS.ifNo X75.here hx rfl (hb hby at_207) rfl (own_le (x := ((0 : Int64) + q2)) (y := q2) rfl rfl hc76).2 k) ?_
      show own_Fin _ _ _ _ _ _ _ _ (mkF m 210 Ls68 [])
      refine own_step (fun t k => XS.iconst X75.here hx rfl (hb hby at_210) k) ?_
      show own_Fin _ _ _ _ _ _ _ _ (mkF m 211 Ls68 [(.int (1 : Int32))])
      refine own_step (fun t k => XS.goto X75.here hx rfl (pc0 := 211) (pc' := 215) rfl (hb hby at_211) (by decide) (by decide) k) ?_
      show own_Fin _ _ _ _ _ _ _ _ (mkF m 215 Ls68 [(.int (1 : Int32))])
      refine own_retZ X75 hx hlk Bd.returns (hb hby at_215) (z' := (1 : Int32)) (by decide) (by decide) (by decide) hh75 ?_
      exact ⟨rfl, Nf⟩
    · skip
      refine own_step (fun t k => XS.ifNo X0.here hx rfl (hb hby at_18) rfl ((if0 _ _).trans (own_cu (x := (p4 &&& (2 : Int32))) (y := (0 : Int32)) rfl rfl hc52).1) k) ?_
      show own_Fin _ _ _ _ _ _ _ _ (mkF m 21 Ls51 [])
      refine own_step (fun t k => XS.iconst X0.here hx rfl (hb hby at_21) k) ?_
      show own_Fin _ _ _ _ _ _ _ _ (mkF m 22 Ls51 [(.int (1 : Int32))])
      refine own_step (fun t k => XS.goto X0.here hx rfl (pc0 := 22) (pc' := 26) rfl (hb hby at_22) (by decide) (by decide) k) ?_
      show own_Fin _ _ _ _ _ _ _ _ (mkF m 26 Ls51 [(.int (1 : Int32))])
      obtain ⟨Ls77, hLs77⟩ : ∃ z : Array Slot, z = #[.val (.long q1), .second, .val (.long q2), .second, .val (.long q3), .second, .val (.int p4), .val (.int (1 : Int32)), .val (.int (1 : Int32)), .unset, .unset, .unset, .unset, .unset, .unset, .unset, .unset, .unset, .unset, .unset, .unset, .unset] := ⟨_, rfl⟩
      refine own_step (fun t k => XS.istore X0.here hx rfl (hb hby at_26) rfl (l' := Ls77) (by rw [hLs51, hLs77]; rfl) k) ?_
      show own_Fin _ _ _ _ _ _ _ _ (mkF m 28 Ls77 [])
      obtain ⟨T78, h78, X78, e78, E78, A78, D78, -, st78⟩ := newO X0 hx hZ hown (hw _ (List.mem_of_getElem? (i := 0) rfl)) (hw _ (List.mem_of_getElem? (i := 1) rfl)) (hw _ (List.mem_of_getElem? (i := 2) rfl)) e0 (g := (mkF m 28 Ls77 [])) rfl (hb hby at_28) (by decide) (by decide)
      obtain ⟨b78, g78⟩ : ∃ z, z = h0.size := ⟨_, rfl⟩
      rw [← g78] at A78 D78 st78
      refine own_step st78 ?_
      have g_b78 : n0 ≤ b78 := Nat.le_trans Zs (Nat.le_of_eq g78.symm)
      replace Zs := Nat.le_trans Zs E78.1
      have E_b78 := A78
      have F_laidOut_b78 : Fld Z h78 b78 "com/example/kern_tablet/kerntablet/storage/ColumnTally" "laidOut" "J" (.long (0 : Int64)) := D78 (Or.inl (hw _ (List.mem_of_getElem? (i := 11) rfl))) (ty := .long) (by decide)
      have F_values_b78 : Fld Z h78 b78 "com/example/kern_tablet/kerntablet/storage/ColumnTally" "values" "I" (.int (0 : Int32)) := D78 (Or.inl (hw _ (List.mem_of_getElem? (i := 18) rfl))) (ty := .int) (by decide)
      have F_plainBytes_b78 : Fld Z h78 b78 "com/example/kern_tablet/kerntablet/storage/ColumnTally" "plainBytes" "J" (.long (0 : Int64)) := D78 (Or.inl (hw _ (List.mem_of_getElem? (i := 20) rfl))) (ty := .long) (by decide)
      have F_largest_b78 : Fld Z h78 b78 "com/example/kern_tablet/kerntablet/storage/ColumnTally" "largest" "J" (.long (0 : Int64)) := D78 (Or.inl (hw _ (List.mem_of_getElem? (i := 22) rfl))) (ty := .long) (by decide)
      have F_added_b78 : Fld Z h78 b78 "com/example/kern_tablet/kerntablet/storage/ColumnTally" "added" "J" (.long (0 : Int64)) := D78 (Or.inl (hw _ (List.mem_of_getElem? (i := 28) rfl))) (ty := .long) (by decide)
      have F_addedPlainBytes_b78 : Fld Z h78 b78 "com/example/kern_tablet/kerntablet/storage/ColumnTally" "addedPlainBytes" "J" (.long (0 : Int64)) := D78 (Or.inl (hw _ (List.mem_of_getElem? (i := 30) rfl))) (ty := .long) (by decide)
      show own_Fin _ _ _ _ _ _ _ _ (mkF m 31 Ls77 [(.ref b78)])
      refine own_step (fun t k => XS.dup X78.here hx rfl (hb hby at_31) rfl rfl k) ?_
      show own_Fin _ _ _ _ _ _ _ _ (mkF m 32 Ls77 [(.ref b78), (.ref b78)])
      obtain ⟨_, _, ⟨T79, L79, k79, n79⟩, -, X79, ⟨Lc79, hQ79, l79, y79, z79⟩, st79⟩ := X78.specialBack hx (y := (⟨"com/example/kern_tablet/kerntablet/storage/ColumnTally", "<init>", "()V"⟩ : MethodName)) rfl hown (mvT hZ (hw _ (List.mem_of_getElem? (i := 3) rfl))) (mvT hZ (hw _ (List.mem_of_getElem? (i := 4) rfl))) (mvT hZ (hw _ (List.mem_of_getElem? (i := 5) rfl))) (by decide) (backOf (W := 1) (rm2 l Z a0 hw [] b78 h78 n0 Zs E_b78 F_values_b78 F_plainBytes_b78 F_largest_b78 F_laidOut_b78 F_added_b78 F_addedPlainBytes_b78 g_b78) hZ (hw _ (List.mem_of_getElem? (i := 5) rfl)) (hw _ (List.mem_of_getElem? (i := 2) rfl)) (by decide) (by decide)) (g := (mkF m 32 Ls77 [(.ref b78), (.ref b78)])) rfl (by rw [hml]; show Array.size Ls77 = _; rw [hLs77]; rfl) (Steps.refl _) (a := b78) (argsL := []) (rest := [(.ref b78)]) (lenOf own_pd_1 rfl) rfl (by show 2 * 0 + _ ≤ _; exact Nat.le_of_eq rfl) (hb hby at_32) (fun _ _ => ⟨rfl, e78, (by decide : 1 + 0 ≤ _), (by decide : 6 + 0 ≤ _)⟩)
      dsimp only [Pt.U, Pt.locs, Pt.cells, Pt.slots] at X79 l79 y79 z79 st79 hQ79
      subst l79 y79 z79
      obtain ⟨rfl, Nq79, Kq79, P79_0, P79_1, P79_2, P79_3, P79_4, P79_5, P79_6⟩ := hQ79
      replace Nf := Fr.app Nf Nq79
      replace E_b78 := P79_0
      replace F_values_b78 := P79_1
      replace F_plainBytes_b78 := P79_2
      replace F_largest_b78 := P79_3
      replace F_laidOut_b78 : Fld Z T79.heap b78 "com/example/kern_tablet/kerntablet/storage/ColumnTally" "laidOut" "J" (.long (-1 : Int64)) := P79_4
      replace F_added_b78 := P79_5
      replace F_addedPlainBytes_b78 := P79_6
      replace Zs := Nat.le_trans Zs Kq79.1
      refine own_stepT st79 ?_
      show own_Fin _ _ _ _ _ _ _ _ (mkF m 35 Ls77 [(.ref b78)])
      obtain ⟨Ls80, hLs80⟩ : ∃ z : Array Slot, z = #[.val (.long q1), .second, .val (.long q2), .second, .val (.long q3), .second, .val (.int p4), .val (.int (1 : Int32)), .val (.int (1 : Int32)), .val (.ref b78), .unset, .unset, .unset, .unset, .unset, .unset, .unset, .unset, .unset, .unset, .unset, .unset] := ⟨_, rfl⟩
      refine own_step (fun t k => XS.astore X79.here hx rfl (hb hby at_35) rfl rfl (l' := Ls80) (by rw [hLs77, hLs80]; rfl) k) ?_
      show own_Fin _ _ _ _ _ _ _ _ (mkF m 37 Ls80 [])
      refine own_step (fun t k => XS.aload (v := (.ref b78)) X79.here hx rfl (hb hby at_37) (by rw [hLs80]; rfl) rfl k) ?_
      show own_Fin _ _ _ _ _ _ _ _ (mkF m 39 Ls80 [(.ref b78)])
      refine own_step (fun t k => XS.lloadN (v := q1) X79.here hx rfl (hb hby at_39) (by rw [hLs80]; rfl) k) ?_
      show own_Fin _ _ _ _ _ _ _ _ (mkF m 40 Ls80 [(.long q1), (.ref b78)])
      obtain ⟨cq81, kq81, q81a, q81b, q81c⟩ := isOf hZ rfl E_b78
      obtain ⟨_, _, ⟨T81, L81, k81, n81⟩, -, X81, ⟨Lc81, hQ81, l81, y81, z81⟩, st81⟩ := X79.virtualBack hx (y := (⟨"com/example/kern_tablet/kerntablet/storage/ColumnTally", "add", "(J)V"⟩ : MethodName)) (z := (⟨"com/example/kern_tablet/kerntablet/storage/ColumnTally", "add", "(J)V"⟩ : MethodName)) hown (mvT hZ (hw _ (List.mem_of_getElem? (i := 12) rfl))) (mvT hZ (hw _ (List.mem_of_getElem? (i := 13) rfl))) (notFace_of_selects (args := #[]) (mvT hZ (hw _ (List.mem_of_getElem? (i := 15) rfl)))) (mvT hZ (hw _ (List.mem_of_getElem? (i := 15) rfl))) (mvT hZ (hw _ (List.mem_of_getElem? (i := 14) rfl))) (by decide) (backOf (W := 0) (rm3 l Z a0 hw [] b78 q1 _ _ _ _ _ _ T79.heap n0 Zs E_b78 F_values_b78 F_plainBytes_b78 F_largest_b78 F_laidOut_b78 F_added_b78 F_addedPlainBytes_b78 g_b78) hZ (hw _ (List.mem_of_getElem? (i := 16) rfl)) (hw _ (List.mem_of_getElem? (i := 2) rfl)) (by decide) (by decide)) q81a q81c (g := (mkF m 40 Ls80 [(.long q1), (.ref b78)])) rfl (by rw [hml]; show Array.size Ls80 = _; rw [hLs80]; rfl) (Steps.refl _) (argsL := [(.long q1)]) (rest := []) (lenOf own_pd_2 rfl) rfl (by show 2 * 0 + _ ≤ _; exact Nat.le_of_eq rfl) (hb hby at_40) (fun _ _ => ⟨rfl, rfl, (by decide : 1 + 0 ≤ _), (by decide : 6 + 0 ≤ _)⟩)
      dsimp only [Pt.U, Pt.locs, Pt.cells, Pt.slots] at X81 l81 y81 z81 st81 hQ81
      subst l81 y81 z81
      obtain ⟨rfl, Nq81, Kq81, P81_0, P81_1, P81_2, P81_3, P81_4, P81_5, P81_6⟩ := hQ81
      replace Nf := Fr.app Nf Nq81
      replace E_b78 := P81_0
      replace F_values_b78 : Fld Z T81.heap b78 "com/example/kern_tablet/kerntablet/storage/ColumnTally" "values" "I" (.int (1 : Int32)) := P81_1
      replace F_plainBytes_b78 := P81_2
      replace F_largest_b78 := P81_3
      replace F_laidOut_b78 := P81_4
      replace F_added_b78 : Fld Z T81.heap b78 "com/example/kern_tablet/kerntablet/storage/ColumnTally" "added" "J" (.long (1 : Int64)) := P81_5
      replace F_addedPlainBytes_b78 := P81_6
      replace Zs := Nat.le_trans Zs Kq81.1
      refine own_stepT st81 ?_
      show own_Fin _ _ _ _ _ _ _ _ (mkF m 43 Ls80 [])
      refine own_step (fun t k => XS.iload (v := (1 : Int32)) X81.here hx rfl (hb hby at_43) (by rw [hLs80]; rfl) k) ?_
      show own_Fin _ _ _ _ _ _ _ _ (mkF m 45 Ls80 [(.int (1 : Int32))])
      refine own_step (fun t k => XS.ifNo X81.here hx rfl (hb hby at_45) rfl (by decide) k) ?_
      show own_Fin _ _ _ _ _ _ _ _ (mkF m 48 Ls80 [])
      refine own_step (fun t k => XS.aload (v := (.ref b78)) X81.here hx rfl (hb hby at_48) (by rw [hLs80]; rfl) rfl k) ?_
      show own_Fin _ _ _ _ _ _ _ _ (mkF m 50 Ls80 [(.ref b78)])
      refine own_step (fun t k => XS.lload (v := q3) X81.here hx rfl (hb hby at_50) (by rw [hLs80]; rfl) k) ?_
      show own_Fin _ _ _ _ _ _ _ _ (mkF m 52 Ls80 [(.long q3), (.ref b78)])
      obtain ⟨cq82, kq82, q82a, q82b, q82c⟩ := isOf hZ rfl E_b78
      obtain ⟨_, _, ⟨T82, L82, k82, n82⟩, -, X82, ⟨Lc82, hQ82, l82, y82, z82⟩, st82⟩ := X81.virtualBack hx (y := (⟨"com/example/kern_tablet/kerntablet/storage/ColumnTally", "laidOut", "(J)V"⟩ : MethodName)) (z := (⟨"com/example/kern_tablet/kerntablet/storage/ColumnTally", "laidOut", "(J)V"⟩ : MethodName)) hown (mvT hZ (hw _ (List.mem_of_getElem? (i := 69) rfl))) (mvT hZ (hw _ (List.mem_of_getElem? (i := 70) rfl))) (notFace_of_selects (args := #[]) (mvT hZ (hw _ (List.mem_of_getElem? (i := 72) rfl)))) (mvT hZ (hw _ (List.mem_of_getElem? (i := 72) rfl))) (mvT hZ (hw _ (List.mem_of_getElem? (i := 71) rfl))) (by decide) (backOf (W := 0) (rm5 l Z a0 hw [] b78 q3 _ _ _ _ _ _ T81.heap n0 Zs E_b78 F_values_b78 F_plainBytes_b78 F_largest_b78 F_laidOut_b78 F_added_b78 F_addedPlainBytes_b78 g_b78) hZ (hw _ (List.mem_of_getElem? (i := 73) rfl)) (hw _ (List.mem_of_getElem? (i := 2) rfl)) (by decide) (by decide)) q82a q82c (g := (mkF m 52 Ls80 [(.long q3), (.ref b78)])) rfl (by rw [hml]; show Array.size Ls80 = _; rw [hLs80]; rfl) (Steps.refl _) (argsL := [(.long q3)]) (rest := []) (lenOf own_pd_2 rfl) rfl (by show 2 * 0 + _ ≤ _; exact Nat.le_of_eq rfl) (hb hby at_52) (fun _ _ => ⟨rfl, rfl, (by decide : 1 + 0 ≤ _), (by decide : 6 + 0 ≤ _)⟩)
      dsimp only [Pt.U, Pt.locs, Pt.cells, Pt.slots] at X82 l82 y82 z82 st82 hQ82
      subst l82 y82 z82
      obtain ⟨rfl, Nq82, Kq82, P82_0, P82_1, P82_2, P82_3, P82_4, P82_5, P82_6⟩ := hQ82
      replace Nf := Fr.app Nf Nq82
      replace E_b78 := P82_0
      replace F_values_b78 := P82_1
      replace F_plainBytes_b78 := P82_2
      replace F_largest_b78 := P82_3
      replace F_laidOut_b78 := P82_4
      replace F_added_b78 : Fld Z T82.heap b78 "com/example/kern_tablet/kerntablet/storage/ColumnTally" "added" "J" (.long (0 : Int64)) := P82_5
      replace F_addedPlainBytes_b78 : Fld Z T82.heap b78 "com/example/kern_tablet/kerntablet/storage/ColumnTally" "addedPlainBytes" "J" (.long (0 : Int64)) := P82_6
      replace Zs := Nat.le_trans Zs Kq82.1
      refine own_stepT st82 ?_
      show own_Fin _ _ _ _ _ _ _ _ (mkF m 55 Ls80 [])
      refine own_step (fun t k => XS.aload (v := (.ref b78)) X82.here hx rfl (hb hby at_55) (by rw [hLs80]; rfl) rfl k) ?_
      show own_Fin _ _ _ _ _ _ _ _ (mkF m 57 Ls80 [(.ref b78)])
      refine own_step (fun t k => XS.lloadN (v := q2) X82.here hx rfl (hb hby at_57) (by rw [hLs80]; rfl) k) ?_
      show own_Fin _ _ _ _ _ _ _ _ (mkF m 58 Ls80 [(.long q2), (.ref b78)])
      obtain ⟨cq83, kq83, q83a, q83b, q83c⟩ := isOf hZ rfl E_b78
      obtain ⟨_, _, ⟨T83, L83, k83, n83⟩, -, X83, ⟨Lc83, hQ83, l83, y83, z83⟩, st83⟩ := X82.virtualBack hx (y := (⟨"com/example/kern_tablet/kerntablet/storage/ColumnTally", "add", "(J)V"⟩ : MethodName)) (z := (⟨"com/example/kern_tablet/kerntablet/storage/ColumnTally", "add", "(J)V"⟩ : MethodName)) hown (mvT hZ (hw _ (List.mem_of_getElem? (i := 12) rfl))) (mvT hZ (hw _ (List.mem_of_getElem? (i := 13) rfl))) (notFace_of_selects (args := #[]) (mvT hZ (hw _ (List.mem_of_getElem? (i := 15) rfl)))) (mvT hZ (hw _ (List.mem_of_getElem? (i := 15) rfl))) (mvT hZ (hw _ (List.mem_of_getElem? (i := 14) rfl))) (by decide) (backOf (W := 0) (rm3 l Z a0 hw [] b78 q2 _ _ _ _ _ _ T82.heap n0 Zs E_b78 F_values_b78 F_plainBytes_b78 F_largest_b78 F_laidOut_b78 F_added_b78 F_addedPlainBytes_b78 g_b78) hZ (hw _ (List.mem_of_getElem? (i := 16) rfl)) (hw _ (List.mem_of_getElem? (i := 2) rfl)) (by decide) (by decide)) q83a q83c (g := (mkF m 58 Ls80 [(.long q2), (.ref b78)])) rfl (by rw [hml]; show Array.size Ls80 = _; rw [hLs80]; rfl) (Steps.refl _) (argsL := [(.long q2)]) (rest := []) (lenOf own_pd_2 rfl) rfl (by show 2 * 0 + _ ≤ _; exact Nat.le_of_eq rfl) (hb hby at_58) (fun _ _ => ⟨rfl, rfl, (by decide : 1 + 0 ≤ _), (by decide : 6 + 0 ≤ _)⟩)
      dsimp only [Pt.U, Pt.locs, Pt.cells, Pt.slots] at X83 l83 y83 z83 st83 hQ83
      subst l83 y83 z83
      obtain ⟨rfl, Nq83, Kq83, P83_0, P83_1, P83_2, P83_3, P83_4, P83_5, P83_6⟩ := hQ83
      replace Nf := Fr.app Nf Nq83
      replace E_b78 := P83_0
      replace F_values_b78 : Fld Z T83.heap b78 "com/example/kern_tablet/kerntablet/storage/ColumnTally" "values" "I" (.int (2 : Int32)) := P83_1
      replace F_plainBytes_b78 := P83_2
      replace F_largest_b78 := P83_3
      replace F_laidOut_b78 := P83_4
      replace F_added_b78 : Fld Z T83.heap b78 "com/example/kern_tablet/kerntablet/storage/ColumnTally" "added" "J" (.long (1 : Int64)) := P83_5
      replace F_addedPlainBytes_b78 := P83_6
      replace Zs := Nat.le_trans Zs Kq83.1
      refine own_stepT st83 ?_
      show own_Fin _ _ _ _ _ _ _ _ (mkF m 61 Ls80 [])
      refine own_step (fun t k => XS.iload (v := (1 : Int32)) X83.here hx rfl (hb hby at_61) (by rw [hLs80]; rfl) k) ?_
      show own_Fin _ _ _ _ _ _ _ _ (mkF m 63 Ls80 [(.int (1 : Int32))])
      refine own_step (fun t k => XS.ifNo X83.here hx rfl (hb hby at_63) rfl (by decide) k) ?_
      show own_Fin _ _ _ _ _ _ _ _ (mkF m 66 Ls80 [])
      refine own_step (fun t k => XS.lloadN (v := q1) X83.here hx rfl (hb hby at_66) (by rw [hLs80]; rfl) k) ?_
      show own_Fin _ _ _ _ _ _ _ _ (mkF m 67 Ls80 [(.long q1)])
      refine own_step (fun t k => XS.goto X83.here hx rfl (pc0 := 67) (pc' := 71) rfl (hb hby at_67) (by decide) (by decide) k) ?_
      show own_Fin _ _ _ _ _ _ _ _ (mkF m 71 Ls80 [(.long q1)])
      obtain ⟨Ls84, hLs84⟩ : ∃ z : Array Slot, z = #[.val (.long q1), .second, .val (.long q2), .second, .val (.long q3), .second, .val (.int p4), .val (.int (1 : Int32)), .val (.int (1 : Int32)), .val (.ref b78), .val (.long q1), .second, .unset, .unset, .unset, .unset, .unset, .unset, .unset, .unset, .unset, .unset] := ⟨_, rfl⟩
      refine own_step (fun t k => XS.lstore X83.here hx rfl (hb hby at_71) rfl (l' := Ls84) (by rw [hLs80, hLs84]; rfl) k) ?_
      show own_Fin _ _ _ _ _ _ _ _ (mkF m 73 Ls84 [])
      refine own_step (fun t k => XS.iload (v := (1 : Int32)) X83.here hx rfl (hb hby at_73) (by rw [hLs84]; rfl) k) ?_
      show own_Fin _ _ _ _ _ _ _ _ (mkF m 75 Ls84 [(.int (1 : Int32))])
      refine own_step (fun t k => XS.ifNo X83.here hx rfl (hb hby at_75) rfl (by decide) k) ?_
      show own_Fin _ _ _ _ _ _ _ _ (mkF m 78 Ls84 [])
      refine own_step (fun t k => XS.lloadN (v := q2) X83.here hx rfl (hb hby at_78) (by rw [hLs84]; rfl) k) ?_
      show own_Fin _ _ _ _ _ _ _ _ (mkF m 79 Ls84 [(.long q2)])
      refine own_step (fun t k => XS.goto X83.here hx rfl (pc0 := 79) (pc' := 83) rfl (hb hby at_79) (by decide) (by decide) k) ?_
      show own_Fin _ _ _ _ _ _ _ _ (mkF m 83 Ls84 [(.long q2)])
      obtain ⟨Ls85, hLs85⟩ : ∃ z : Array Slot, z = #[.val (.long q1), .second, .val (.long q2), .second, .val (.long q3), .second, .val (.int p4), .val (.int (1 : Int32)), .val (.int (1 : Int32)), .val (.ref b78), .val (.long q1), .second, .val (.long q2), .second, .unset, .unset, .unset, .unset, .unset, .unset, .unset, .unset] := ⟨_, rfl⟩
      refine own_step (fun t k => XS.lstore X83.here hx rfl (hb hby at_83) rfl (l' := Ls85) (by rw [hLs84, hLs85]; rfl) k) ?_
      show own_Fin _ _ _ _ _ _ _ _ (mkF m 85 Ls85 [])
      refine own_step (fun t k => XS.aload (v := (.ref b78)) X83.here hx rfl (hb hby at_85) (by rw [hLs85]; rfl) rfl k) ?_
      show own_Fin _ _ _ _ _ _ _ _ (mkF m 87 Ls85 [(.ref b78)])
      refine own_step (fun t k => XS.lload (v := q1) X83.here hx rfl (hb hby at_87) (by rw [hLs85]; rfl) k) ?_
      show own_Fin _ _ _ _ _ _ _ _ (mkF m 89 Ls85 [(.long q1), (.ref b78)])
      obtain ⟨cq86, kq86, q86a, q86b, q86c⟩ := isOf hZ rfl E_b78
      obtain ⟨_, _, ⟨T86, L86, k86, n86⟩, -, X86, ⟨Lc86, hQ86, l86, y86, z86⟩, st86⟩ := X83.virtualBack hx (y := (⟨"com/example/kern_tablet/kerntablet/storage/ColumnTally", "remove", "(J)V"⟩ : MethodName)) (z := (⟨"com/example/kern_tablet/kerntablet/storage/ColumnTally", "remove", "(J)V"⟩ : MethodName)) hown (mvT hZ (hw _ (List.mem_of_getElem? (i := 31) rfl))) (mvT hZ (hw _ (List.mem_of_getElem? (i := 32) rfl))) (notFace_of_selects (args := #[]) (mvT hZ (hw _ (List.mem_of_getElem? (i := 34) rfl)))) (mvT hZ (hw _ (List.mem_of_getElem? (i := 34) rfl))) (mvT hZ (hw _ (List.mem_of_getElem? (i := 33) rfl))) (by decide) (backOf (W := 0) (rm4 l Z a0 hw [] b78 q1 _ _ _ _ _ _ T83.heap n0 Zs E_b78 F_values_b78 F_plainBytes_b78 F_largest_b78 F_laidOut_b78 F_added_b78 F_addedPlainBytes_b78 g_b78) hZ (hw _ (List.mem_of_getElem? (i := 35) rfl)) (hw _ (List.mem_of_getElem? (i := 2) rfl)) (by decide) (by decide)) q86a q86c (g := (mkF m 89 Ls85 [(.long q1), (.ref b78)])) rfl (by rw [hml]; show Array.size Ls85 = _; rw [hLs85]; rfl) (Steps.refl _) (argsL := [(.long q1)]) (rest := []) (lenOf own_pd_2 rfl) rfl (by show 2 * 0 + _ ≤ _; exact Nat.le_of_eq rfl) (hb hby at_89) (fun _ _ => ⟨rfl, rfl, (by decide : 1 + 0 ≤ _), (by decide : 6 + 0 ≤ _)⟩)
      dsimp only [Pt.U, Pt.locs, Pt.cells, Pt.slots] at X86 l86 y86 z86 st86 hQ86
      subst l86 y86 z86
      obtain ⟨rfl, Nq86, Kq86, P86_0, P86_1, P86_2, P86_3, P86_4, P86_5, P86_6⟩ := hQ86
      replace Nf := Fr.app Nf Nq86
      replace E_b78 := P86_0
      replace F_values_b78 : Fld Z T86.heap b78 "com/example/kern_tablet/kerntablet/storage/ColumnTally" "values" "I" (.int (1 : Int32)) := P86_1
      replace F_plainBytes_b78 := P86_2
      replace F_largest_b78 := P86_3
      replace F_laidOut_b78 := P86_4
      replace F_added_b78 := P86_5
      replace F_addedPlainBytes_b78 := P86_6
      replace Zs := Nat.le_trans Zs Kq86.1
      refine own_stepT st86 ?_
      show own_Fin _ _ _ _ _ _ _ _ (mkF m 92 Ls85 [])
      refine own_step (fun t k => XS.lconst X86.here hx rfl (hb hby at_92) k) ?_
      show own_Fin _ _ _ _ _ _ _ _ (mkF m 93 Ls85 [(.long (0 : Int64))])
      refine own_step (fun t k => XS.lloadN (v := q1) X86.here hx rfl (hb hby at_93) (by rw [hLs85]; rfl) k) ?_
      show own_Fin _ _ _ _ _ _ _ _ (mkF m 94 Ls85 [(.long q1), (.long (0 : Int64))])
      obtain ⟨_, _, ⟨T87, L87, k87, n87⟩, -, X87, ⟨Lc87, hQ87, l87, y87, z87⟩, st87⟩ := Jvm.LawKit.callS X86 hx (y := (⟨"java/lang/Math", "max", "(JJ)J"⟩ : MethodName)) hown (mvT hZ (hw _ (List.mem_of_getElem? (i := 36) rfl))) (mvT hZ (hw _ (List.mem_of_getElem? (i := 24) rfl))) (mvT hZ (hw _ (List.mem_of_getElem? (i := 25) rfl))) (mvT hZ (hw _ (List.mem_of_getElem? (i := 26) rfl))) (by decide) (backOf (W := 0) (rm1 l Z a0 hw [] (0 : Int64) q1 T86.heap n0 Zs) hZ (hw _ (List.mem_of_getElem? (i := 26) rfl)) (hw _ (List.mem_of_getElem? (i := 25) rfl)) (by decide) (by decide)) (g := (mkF m 94 Ls85 [(.long q1), (.long (0 : Int64))])) rfl (by rw [hml]; show Array.size Ls85 = _; rw [hLs85]; rfl) (argsL := [(.long (0 : Int64)), (.long q1)]) (rest := []) (lenOf own_pd_0 rfl) rfl (by show 2 * 0 + _ ≤ _; exact Nat.le_of_eq rfl) (hb hby at_94) (fun _ _ => ⟨rfl, rfl, (by decide : 1 + 0 ≤ _), (by decide : 6 + 0 ≤ _)⟩)
      dsimp only [Pt.U, Pt.locs, Pt.cells, Pt.slots] at X87 l87 y87 z87 st87 hQ87
      subst l87 y87 z87
      obtain ⟨rfl, Nq87, hh87⟩ := hQ87
      replace Nf := Fr.app Nf Nq87
      refine own_step st87 ?_
      show own_Fin _ _ _ _ _ _ _ _ (mkF m 97 Ls85 [(.long (own_max (0 : Int64) q1))])
      refine own_step (fun t k => XS.lloadN (v := q2) X87.here hx rfl (hb hby at_97) (by rw [hLs85]; rfl) k) ?_
      show own_Fin _ _ _ _ _ _ _ _ (mkF m 98 Ls85 [(.long q2), (.long (own_max (0 : Int64) q1))])
      obtain ⟨_, _, ⟨T88, L88, k88, n88⟩, -, X88, ⟨Lc88, hQ88, l88, y88, z88⟩, st88⟩ := Jvm.LawKit.callS X87 hx (y := (⟨"java/lang/Math", "max", "(JJ)J"⟩ : MethodName)) hown (mvT hZ (hw _ (List.mem_of_getElem? (i := 36) rfl))) (mvT hZ (hw _ (List.mem_of_getElem? (i := 24) rfl))) (mvT hZ (hw _ (List.mem_of_getElem? (i := 25) rfl))) (mvT hZ (hw _ (List.mem_of_getElem? (i := 26) rfl))) (by decide) (backOf (W := 0) (rm1 l Z a0 hw [] (own_max (0 : Int64) q1) q2 T86.heap n0 Zs) hZ (hw _ (List.mem_of_getElem? (i := 26) rfl)) (hw _ (List.mem_of_getElem? (i := 25) rfl)) (by decide) (by decide)) (g := (mkF m 98 Ls85 [(.long q2), (.long (own_max (0 : Int64) q1))])) rfl (by rw [hml]; show Array.size Ls85 = _; rw [hLs85]; rfl) (argsL := [(.long (own_max (0 : Int64) q1)), (.long q2)]) (rest := []) (lenOf own_pd_0 rfl) rfl (by show 2 * 0 + _ ≤ _; exact Nat.le_of_eq rfl) (hb hby at_98) (fun _ _ => ⟨rfl, hh87, (by decide : 1 + 0 ≤ _), (by decide : 6 + 0 ≤ _)⟩)
      dsimp only [Pt.U, Pt.locs, Pt.cells, Pt.slots] at X88 l88 y88 z88 st88 hQ88
      subst l88 y88 z88
      obtain ⟨rfl, Nq88, hh88⟩ := hQ88
      replace Nf := Fr.app Nf Nq88
      refine own_step st88 ?_
      show own_Fin _ _ _ _ _ _ _ _ (mkF m 101 Ls85 [(.long (own_max (own_max (0 : Int64) q1) q2))])
      obtain ⟨Ls89, hLs89⟩ : ∃ z : Array Slot, z = #[.val (.long q1), .second, .val (.long q2), .second, .val (.long q3), .second, .val (.int p4), .val (.int (1 : Int32)), .val (.int (1 : Int32)), .val (.ref b78), .val (.long q1), .second, .val (.long q2), .second, .val (.long (own_max (own_max (0 : Int64) q1) q2)), .second, .unset, .unset, .unset, .unset, .unset, .unset] := ⟨_, rfl⟩
      refine own_step (fun t k => XS.lstore X88.here hx rfl (hb hby at_101) rfl (l' := Ls89) (by rw [hLs85, hLs89]; rfl) k) ?_
      show own_Fin _ _ _ _ _ _ _ _ (mkF m 103 Ls89 [])
      refine own_step (fun t k => XS.iload (v := (1 : Int32)) X88.here hx rfl (hb hby at_103) (by rw [hLs89]; rfl) k) ?_
      show own_Fin _ _ _ _ _ _ _ _ (mkF m 105 Ls89 [(.int (1 : Int32))])
      refine own_step (fun t k => XS.ifNo X88.here hx rfl (hb hby at_105) rfl (by decide) k) ?_
      show own_Fin _ _ _ _ _ _ _ _ (mkF m 108 Ls89 [])
      refine own_step (fun t k => XS.lload (v := q3) X88.here hx rfl (hb hby at_108) (by rw [hLs89]; rfl) k) ?_
      show own_Fin _ _ _ _ _ _ _ _ (mkF m 110 Ls89 [(.long q3)])
      refine own_step (fun t k => XS.goto X88.here hx rfl (pc0 := 110) (pc' := 116) rfl (hb hby at_110) (by decide) (by decide) k) ?_
      show own_Fin _ _ _ _ _ _ _ _ (mkF m 116 Ls89 [(.long q3)])
      obtain ⟨Ls90, hLs90⟩ : ∃ z : Array Slot, z = #[.val (.long q1), .second, .val (.long q2), .second, .val (.long q3), .second, .val (.int p4), .val (.int (1 : Int32)), .val (.int (1 : Int32)), .val (.ref b78), .val (.long q1), .second, .val (.long q2), .second, .val (.long (own_max (own_max (0 : Int64) q1) q2)), .second, .val (.long q3), .second, .unset, .unset, .unset, .unset] := ⟨_, rfl⟩
      refine own_step (fun t k => XS.lstore X88.here hx rfl (hb hby at_116) rfl (l' := Ls90) (by rw [hLs89, hLs90]; rfl) k) ?_
      show own_Fin _ _ _ _ _ _ _ _ (mkF m 118 Ls90 [])
      refine own_step (fun t k => XS.iload (v := (1 : Int32)) X88.here hx rfl (hb hby at_118) (by rw [hLs90]; rfl) k) ?_
      show own_Fin _ _ _ _ _ _ _ _ (mkF m 120 Ls90 [(.int (1 : Int32))])
      refine own_step (fun t k => XS.ifNo X88.here hx rfl (hb hby at_120) rfl (by decide) k) ?_
      show own_Fin _ _ _ _ _ _ _ _ (mkF m 123 Ls90 [])
      refine own_step (fun t k => XS.lconst X88.here hx rfl (hb hby at_123) k) ?_
      show own_Fin _ _ _ _ _ _ _ _ (mkF m 124 Ls90 [(.long (1 : Int64))])
      refine own_step (fun t k => XS.goto X88.here hx rfl (pc0 := 124) (pc' := 130) rfl (hb hby at_124) (by decide) (by decide) k) ?_
      show own_Fin _ _ _ _ _ _ _ _ (mkF m 130 Ls90 [(.long (1 : Int64))])
      obtain ⟨Ls91, hLs91⟩ : ∃ z : Array Slot, z = #[.val (.long q1), .second, .val (.long q2), .second, .val (.long q3), .second, .val (.int p4), .val (.int (1 : Int32)), .val (.int (1 : Int32)), .val (.ref b78), .val (.long q1), .second, .val (.long q2), .second, .val (.long (own_max (own_max (0 : Int64) q1) q2)), .second, .val (.long q3), .second, .val (.long (1 : Int64)), .second, .unset, .unset] := ⟨_, rfl⟩
      refine own_step (fun t k => XS.lstore X88.here hx rfl (hb hby at_130) rfl (l' := Ls91) (by rw [hLs90, hLs91]; rfl) k) ?_
      show own_Fin _ _ _ _ _ _ _ _ (mkF m 132 Ls91 [])
      refine own_step (fun t k => XS.iload (v := (1 : Int32)) X88.here hx rfl (hb hby at_132) (by rw [hLs91]; rfl) k) ?_
      show own_Fin _ _ _ _ _ _ _ _ (mkF m 134 Ls91 [(.int (1 : Int32))])
      refine own_step (fun t k => XS.ifNo X88.here hx rfl (hb hby at_134) rfl (by decide) k) ?_
      show own_Fin _ _ _ _ _ _ _ _ (mkF m 137 Ls91 [])
      refine own_step (fun t k => XS.lloadN (v := q2) X88.here hx rfl (hb hby at_137) (by rw [hLs91]; rfl) k) ?_
      show own_Fin _ _ _ _ _ _ _ _ (mkF m 138 Ls91 [(.long q2)])
      refine own_step (fun t k => XS.goto X88.here hx rfl (pc0 := 138) (pc' := 144) rfl (hb hby at_138) (by decide) (by decide) k) ?_
      show own_Fin _ _ _ _ _ _ _ _ (mkF m 144 Ls91 [(.long q2)])
      obtain ⟨Ls92, hLs92⟩ : ∃ z : Array Slot, z = #[.val (.long q1), .second, .val (.long q2), .second, .val (.long q3), .second, .val (.int p4), .val (.int (1 : Int32)), .val (.int (1 : Int32)), .val (.ref b78), .val (.long q1), .second, .val (.long q2), .second, .val (.long (own_max (own_max (0 : Int64) q1) q2)), .second, .val (.long q3), .second, .val (.long (1 : Int64)), .second, .val (.long q2), .second] := ⟨_, rfl⟩
      refine own_step (fun t k => XS.lstore X88.here hx rfl (hb hby at_144) rfl (l' := Ls92) (by rw [hLs91, hLs92]; rfl) k) ?_
      show own_Fin _ _ _ _ _ _ _ _ (mkF m 146 Ls92 [])
      refine own_step (fun t k => XS.aload (v := (.ref b78)) X88.here hx rfl (hb hby at_146) (by rw [hLs92]; rfl) rfl k) ?_
      show own_Fin _ _ _ _ _ _ _ _ (mkF m 148 Ls92 [(.ref b78)])
      obtain ⟨cq93, kq93, q93a, q93b, q93c⟩ := isOf hZ hh88 E_b78
      obtain ⟨_, _, ⟨T93, L93, k93, n93⟩, -, X93, ⟨Lc93, hQ93, l93, y93, z93⟩, st93⟩ := X88.virtualBack hx (y := (⟨"com/example/kern_tablet/kerntablet/storage/ColumnTally", "values", "()I"⟩ : MethodName)) (z := (⟨"com/example/kern_tablet/kerntablet/storage/ColumnTally", "values", "()I"⟩ : MethodName)) hown (mvT hZ (hw _ (List.mem_of_getElem? (i := 39) rfl))) (mvT hZ (hw _ (List.mem_of_getElem? (i := 40) rfl))) (notFace_of_selects (args := #[]) (mvT hZ (hw _ (List.mem_of_getElem? (i := 42) rfl)))) (mvT hZ (hw _ (List.mem_of_getElem? (i := 42) rfl))) (mvT hZ (hw _ (List.mem_of_getElem? (i := 41) rfl))) (by decide) (backOf (W := 0) (rm10 l Z a0 hw [] b78 _ T86.heap n0 Zs F_values_b78) hZ (hw _ (List.mem_of_getElem? (i := 43) rfl)) (hw _ (List.mem_of_getElem? (i := 2) rfl)) (by decide) (by decide)) q93a q93c (g := (mkF m 148 Ls92 [(.ref b78)])) rfl (by rw [hml]; show Array.size Ls92 = _; rw [hLs92]; rfl) (Steps.refl _) (argsL := []) (rest := []) (lenOf own_pd_3 rfl) rfl (by show 2 * 0 + _ ≤ _; exact Nat.le_of_eq rfl) (hb hby at_148) (fun _ _ => ⟨rfl, hh88, (by decide : 1 + 0 ≤ _), (by decide : 6 + 0 ≤ _)⟩)
      dsimp only [Pt.U, Pt.locs, Pt.cells, Pt.slots] at X93 l93 y93 z93 st93 hQ93
      subst l93 y93 z93
      obtain ⟨rfl, Nq93, hh93⟩ := hQ93
      replace Nf := Fr.app Nf Nq93
      refine own_stepT st93 ?_
      show own_Fin _ _ _ _ _ _ _ _ (mkF m 151 Ls92 [(.int (1 : Int32))])
      refine own_step (fun t k => XS.iconst X93.here hx rfl (hb hby at_151) k) ?_
      show own_Fin _ _ _ _ _ _ _ _ (mkF m 152 Ls92 [(.int (1 : Int32)), (.int (1 : Int32))])
      refine own_step (fun t k => XS.icmpNo X93.here hx rfl (hb hby at_152) rfl (own_ce (x := (1 : Int32)) (y := (1 : Int32)) rfl rfl (rfl : ((1 : Int32)).toInt = 1)).2 k) ?_
      show own_Fin _ _ _ _ _ _ _ _ (mkF m 155 Ls92 [])
      refine own_step (fun t k => XS.aload (v := (.ref b78)) X93.here hx rfl (hb hby at_155) (by rw [hLs92]; rfl) rfl k) ?_
      show own_Fin _ _ _ _ _ _ _ _ (mkF m 157 Ls92 [(.ref b78)])
      obtain ⟨cq94, kq94, q94a, q94b, q94c⟩ := isOf hZ hh93 E_b78
      obtain ⟨_, _, ⟨T94, L94, k94, n94⟩, -, X94, ⟨Lc94, hQ94, l94, y94, z94⟩, st94⟩ := X93.virtualBack hx (y := (⟨"com/example/kern_tablet/kerntablet/storage/ColumnTally", "plainBytes", "()J"⟩ : MethodName)) (z := (⟨"com/example/kern_tablet/kerntablet/storage/ColumnTally", "plainBytes", "()J"⟩ : MethodName)) hown (mvT hZ (hw _ (List.mem_of_getElem? (i := 44) rfl))) (mvT hZ (hw _ (List.mem_of_getElem? (i := 45) rfl))) (notFace_of_selects (args := #[]) (mvT hZ (hw _ (List.mem_of_getElem? (i := 47) rfl)))) (mvT hZ (hw _ (List.mem_of_getElem? (i := 47) rfl))) (mvT hZ (hw _ (List.mem_of_getElem? (i := 46) rfl))) (by decide) (backOf (W := 0) (rm11 l Z a0 hw [] b78 _ T86.heap n0 Zs F_plainBytes_b78) hZ (hw _ (List.mem_of_getElem? (i := 48) rfl)) (hw _ (List.mem_of_getElem? (i := 2) rfl)) (by decide) (by decide)) q94a q94c (g := (mkF m 157 Ls92 [(.ref b78)])) rfl (by rw [hml]; show Array.size Ls92 = _; rw [hLs92]; rfl) (Steps.refl _) (argsL := []) (rest := []) (lenOf own_pd_4 rfl) rfl (by show 2 * 0 + _ ≤ _; exact Nat.le_of_eq rfl) (hb hby at_157) (fun _ _ => ⟨rfl, hh93, (by decide : 1 + 0 ≤ _), (by decide : 6 + 0 ≤ _)⟩)
      dsimp only [Pt.U, Pt.locs, Pt.cells, Pt.slots] at X94 l94 y94 z94 st94 hQ94
      subst l94 y94 z94
      obtain ⟨rfl, Nq94, hh94⟩ := hQ94
      replace Nf := Fr.app Nf Nq94
      refine own_stepT st94 ?_
      show own_Fin _ _ _ _ _ _ _ _ (mkF m 160 Ls92 [(.long ((((0 : Int64) + q1) + q2) - q1))])
      refine own_step (fun t k => XS.lload (v := q2) X94.here hx rfl (hb hby at_160) (by rw [hLs92]; rfl) k) ?_
      show own_Fin _ _ _ _ _ _ _ _ (mkF m 162 Ls92 [(.long q2), (.long ((((0 : Int64) + q1) + q2) - q1))])
      refine own_step (fun t k => XS.lcmp X94.here hx rfl (hb hby at_162) rfl k) ?_
      show own_Fin _ _ _ _ _ _ _ _ (mkF m 163 Ls92 [(.int (lcmpW ((((0 : Int64) + q1) + q2) - q1) q2))])
      have hc95 : (((((0 : Int64) + q1) + q2) - q1)).toInt = (q2).toInt := by congr 1; rw [Int64.zero_add, Int64.add_comm q1 q2, Int64.add_sub_cancel]
      refine own_step (fun t k => XS.ifNo X94.here hx rfl (hb hby at_163) rfl (own_le (x := ((((0 : Int64) + q1) + q2) - q1)) (y := q2) rfl rfl hc95).2 k) ?_
      show own_Fin _ _ _ _ _ _ _ _ (mkF m 166 Ls92 [])
      refine own_step (fun t k => XS.aload (v := (.ref b78)) X94.here hx rfl (hb hby at_166) (by rw [hLs92]; rfl) rfl k) ?_
      show own_Fin _ _ _ _ _ _ _ _ (mkF m 168 Ls92 [(.ref b78)])
      obtain ⟨cq96, kq96, q96a, q96b, q96c⟩ := isOf hZ hh94 E_b78
      obtain ⟨_, _, ⟨T96, L96, k96, n96⟩, -, X96, ⟨Lc96, hQ96, l96, y96, z96⟩, st96⟩ := X94.virtualBack hx (y := (⟨"com/example/kern_tablet/kerntablet/storage/ColumnTally", "largest", "()J"⟩ : MethodName)) (z := (⟨"com/example/kern_tablet/kerntablet/storage/ColumnTally", "largest", "()J"⟩ : MethodName)) hown (mvT hZ (hw _ (List.mem_of_getElem? (i := 49) rfl))) (mvT hZ (hw _ (List.mem_of_getElem? (i := 50) rfl))) (notFace_of_selects (args := #[]) (mvT hZ (hw _ (List.mem_of_getElem? (i := 52) rfl)))) (mvT hZ (hw _ (List.mem_of_getElem? (i := 52) rfl))) (mvT hZ (hw _ (List.mem_of_getElem? (i := 51) rfl))) (by decide) (backOf (W := 0) (rm12 l Z a0 hw [] b78 _ T86.heap n0 Zs F_largest_b78) hZ (hw _ (List.mem_of_getElem? (i := 53) rfl)) (hw _ (List.mem_of_getElem? (i := 2) rfl)) (by decide) (by decide)) q96a q96c (g := (mkF m 168 Ls92 [(.ref b78)])) rfl (by rw [hml]; show Array.size Ls92 = _; rw [hLs92]; rfl) (Steps.refl _) (argsL := []) (rest := []) (lenOf own_pd_4 rfl) rfl (by show 2 * 0 + _ ≤ _; exact Nat.le_of_eq rfl) (hb hby at_168) (fun _ _ => ⟨rfl, hh94, (by decide : 1 + 0 ≤ _), (by decide : 6 + 0 ≤ _)⟩)
      dsimp only [Pt.U, Pt.locs, Pt.cells, Pt.slots] at X96 l96 y96 z96 st96 hQ96
      subst l96 y96 z96
      obtain ⟨rfl, Nq96, hh96⟩ := hQ96
      replace Nf := Fr.app Nf Nq96
      refine own_stepT st96 ?_
      show own_Fin _ _ _ _ _ _ _ _ (mkF m 171 Ls92 [(.long (own_max (own_max (0 : Int64) q1) q2))])
      refine own_step (fun t k => XS.lload (v := (own_max (own_max (0 : Int64) q1) q2)) X96.here hx rfl (hb hby at_171) (by rw [hLs92]; rfl) k) ?_
      show own_Fin _ _ _ _ _ _ _ _ (mkF m 173 Ls92 [(.long (own_max (own_max (0 : Int64) q1) q2)), (.long (own_max (own_max (0 : Int64) q1) q2))])
      refine own_step (fun t k => XS.lcmp X96.here hx rfl (hb hby at_173) rfl k) ?_
      show own_Fin _ _ _ _ _ _ _ _ (mkF m 174 Ls92 [(.int (lcmpW (own_max (own_max (0 : Int64) q1) q2) (own_max (own_max (0 : Int64) q1) q2)))])
      refine own_step (fun t k => XS.ifNo X96.here hx rfl (hb hby at_174) rfl (own_le (x := (own_max (own_max (0 : Int64) q1) q2)) (y := (own_max (own_max (0 : Int64) q1) q2)) rfl rfl (rfl : ((own_max (own_max (0 : Int64) q1) q2)).toInt = ((own_max (own_max (0 : Int64) q1) q2)).toInt)).2 k) ?_
      show own_Fin _ _ _ _ _ _ _ _ (mkF m 177 Ls92 [])
      refine own_step (fun t k => XS.aload (v := (.ref b78)) X96.here hx rfl (hb hby at_177) (by rw [hLs92]; rfl) rfl k) ?_
      show own_Fin _ _ _ _ _ _ _ _ (mkF m 179 Ls92 [(.ref b78)])
      obtain ⟨cq97, kq97, q97a, q97b, q97c⟩ := isOf hZ hh96 E_b78
      obtain ⟨_, _, ⟨T97, L97, k97, n97⟩, -, X97, ⟨Lc97, hQ97, l97, y97, z97⟩, st97⟩ := X96.virtualBack hx (y := (⟨"com/example/kern_tablet/kerntablet/storage/ColumnTally", "laidOut", "()J"⟩ : MethodName)) (z := (⟨"com/example/kern_tablet/kerntablet/storage/ColumnTally", "laidOut", "()J"⟩ : MethodName)) hown (mvT hZ (hw _ (List.mem_of_getElem? (i := 54) rfl))) (mvT hZ (hw _ (List.mem_of_getElem? (i := 55) rfl))) (notFace_of_selects (args := #[]) (mvT hZ (hw _ (List.mem_of_getElem? (i := 57) rfl)))) (mvT hZ (hw _ (List.mem_of_getElem? (i := 57) rfl))) (mvT hZ (hw _ (List.mem_of_getElem? (i := 56) rfl))) (by decide) (backOf (W := 0) (rm13 l Z a0 hw [] b78 _ T86.heap n0 Zs F_laidOut_b78) hZ (hw _ (List.mem_of_getElem? (i := 58) rfl)) (hw _ (List.mem_of_getElem? (i := 2) rfl)) (by decide) (by decide)) q97a q97c (g := (mkF m 179 Ls92 [(.ref b78)])) rfl (by rw [hml]; show Array.size Ls92 = _; rw [hLs92]; rfl) (Steps.refl _) (argsL := []) (rest := []) (lenOf own_pd_4 rfl) rfl (by show 2 * 0 + _ ≤ _; exact Nat.le_of_eq rfl) (hb hby at_179) (fun _ _ => ⟨rfl, hh96, (by decide : 1 + 0 ≤ _), (by decide : 6 + 0 ≤ _)⟩)
      dsimp only [Pt.U, Pt.locs, Pt.cells, Pt.slots] at X97 l97 y97 z97 st97 hQ97
      subst l97 y97 z97
      obtain ⟨rfl, Nq97, hh97⟩ := hQ97
      replace Nf := Fr.app Nf Nq97
      refine own_stepT st97 ?_
      show own_Fin _ _ _ _ _ _ _ _ (mkF m 182 Ls92 [(.long q3)])
      refine own_step (fun t k => XS.lload (v := q3) X97.here hx rfl (hb hby at_182) (by rw [hLs92]; rfl) k) ?_
      show own_Fin _ _ _ _ _ _ _ _ (mkF m 184 Ls92 [(.long q3), (.long q3)])
      refine own_step (fun t k => XS.lcmp X97.here hx rfl (hb hby at_184) rfl k) ?_
      show own_Fin _ _ _ _ _ _ _ _ (mkF m 185 Ls92 [(.int (lcmpW q3 q3))])
      refine own_step (fun t k => XS.ifNo X97.here hx rfl (hb hby at_185) rfl (own_le (x := q3) (y := q3) rfl rfl (rfl : (q3).toInt = (q3).toInt)).2 k) ?_
      show own_Fin _ _ _ _ _ _ _ _ (mkF m 188 Ls92 [])
      refine own_step (fun t k => XS.aload (v := (.ref b78)) X97.here hx rfl (hb hby at_188) (by rw [hLs92]; rfl) rfl k) ?_
      show own_Fin _ _ _ _ _ _ _ _ (mkF m 190 Ls92 [(.ref b78)])
      obtain ⟨cq98, kq98, q98a, q98b, q98c⟩ := isOf hZ hh97 E_b78
      obtain ⟨_, _, ⟨T98, L98, k98, n98⟩, -, X98, ⟨Lc98, hQ98, l98, y98, z98⟩, st98⟩ := X97.virtualBack hx (y := (⟨"com/example/kern_tablet/kerntablet/storage/ColumnTally", "added", "()J"⟩ : MethodName)) (z := (⟨"com/example/kern_tablet/kerntablet/storage/ColumnTally", "added", "()J"⟩ : MethodName)) hown (mvT hZ (hw _ (List.mem_of_getElem? (i := 59) rfl))) (mvT hZ (hw _ (List.mem_of_getElem? (i := 60) rfl))) (notFace_of_selects (args := #[]) (mvT hZ (hw _ (List.mem_of_getElem? (i := 62) rfl)))) (mvT hZ (hw _ (List.mem_of_getElem? (i := 62) rfl))) (mvT hZ (hw _ (List.mem_of_getElem? (i := 61) rfl))) (by decide) (backOf (W := 0) (rm14 l Z a0 hw [] b78 _ T86.heap n0 Zs F_added_b78) hZ (hw _ (List.mem_of_getElem? (i := 63) rfl)) (hw _ (List.mem_of_getElem? (i := 2) rfl)) (by decide) (by decide)) q98a q98c (g := (mkF m 190 Ls92 [(.ref b78)])) rfl (by rw [hml]; show Array.size Ls92 = _; rw [hLs92]; rfl) (Steps.refl _) (argsL := []) (rest := []) (lenOf own_pd_4 rfl) rfl (by show 2 * 0 + _ ≤ _; exact Nat.le_of_eq rfl) (hb hby at_190) (fun _ _ => ⟨rfl, hh97, (by decide : 1 + 0 ≤ _), (by decide : 6 + 0 ≤ _)⟩)
      dsimp only [Pt.U, Pt.locs, Pt.cells, Pt.slots] at X98 l98 y98 z98 st98 hQ98
      subst l98 y98 z98
      obtain ⟨rfl, Nq98, hh98⟩ := hQ98
      replace Nf := Fr.app Nf Nq98
      refine own_stepT st98 ?_
      show own_Fin _ _ _ _ _ _ _ _ (mkF m 193 Ls92 [(.long (1 : Int64))])
      refine own_step (fun t k => XS.lload (v := (1 : Int64)) X98.here hx rfl (hb hby at_193) (by rw [hLs92]; rfl) k) ?_
      show own_Fin _ _ _ _ _ _ _ _ (mkF m 195 Ls92 [(.long (1 : Int64)), (.long (1 : Int64))])
      refine own_step (fun t k => XS.lcmp X98.here hx rfl (hb hby at_195) rfl k) ?_
      show own_Fin _ _ _ _ _ _ _ _ (mkF m 196 Ls92 [(.int (lcmpW (1 : Int64) (1 : Int64)))])
      refine own_step (fun t k => XS.ifNo X98.here hx rfl (hb hby at_196) rfl (own_le (x := (1 : Int64)) (y := (1 : Int64)) rfl rfl (rfl : ((1 : Int64)).toInt = 1)).2 k) ?_
      show own_Fin _ _ _ _ _ _ _ _ (mkF m 199 Ls92 [])
      refine own_step (fun t k => XS.aload (v := (.ref b78)) X98.here hx rfl (hb hby at_199) (by rw [hLs92]; rfl) rfl k) ?_
      show own_Fin _ _ _ _ _ _ _ _ (mkF m 201 Ls92 [(.ref b78)])
      obtain ⟨cq99, kq99, q99a, q99b, q99c⟩ := isOf hZ hh98 E_b78
      obtain ⟨_, _, ⟨T99, L99, k99, n99⟩, -, X99, ⟨Lc99, hQ99, l99, y99, z99⟩, st99⟩ := X98.virtualBack hx (y := (⟨"com/example/kern_tablet/kerntablet/storage/ColumnTally", "addedPlainBytes", "()J"⟩ : MethodName)) (z := (⟨"com/example/kern_tablet/kerntablet/storage/ColumnTally", "addedPlainBytes", "()J"⟩ : MethodName)) hown (mvT hZ (hw _ (List.mem_of_getElem? (i := 64) rfl))) (mvT hZ (hw _ (List.mem_of_getElem? (i := 65) rfl))) (notFace_of_selects (args := #[]) (mvT hZ (hw _ (List.mem_of_getElem? (i := 67) rfl)))) (mvT hZ (hw _ (List.mem_of_getElem? (i := 67) rfl))) (mvT hZ (hw _ (List.mem_of_getElem? (i := 66) rfl))) (by decide) (backOf (W := 0) (rm15 l Z a0 hw [] b78 _ T86.heap n0 Zs F_addedPlainBytes_b78) hZ (hw _ (List.mem_of_getElem? (i := 68) rfl)) (hw _ (List.mem_of_getElem? (i := 2) rfl)) (by decide) (by decide)) q99a q99c (g := (mkF m 201 Ls92 [(.ref b78)])) rfl (by rw [hml]; show Array.size Ls92 = _; rw [hLs92]; rfl) (Steps.refl _) (argsL := []) (rest := []) (lenOf own_pd_4 rfl) rfl (by show 2 * 0 + _ ≤ _; exact Nat.le_of_eq rfl) (hb hby at_201) (fun _ _ => ⟨rfl, hh98, (by decide : 1 + 0 ≤ _), (by decide : 6 + 0 ≤ _)⟩)
      dsimp only [Pt.U, Pt.locs, Pt.cells, Pt.slots] at X99 l99 y99 z99 st99 hQ99
      subst l99 y99 z99
      obtain ⟨rfl, Nq99, hh99⟩ := hQ99
      replace Nf := Fr.app Nf Nq99
      refine own_stepT st99 ?_
      show own_Fin _ _ _ _ _ _ _ _ (mkF m 204 Ls92 [(.long ((0 : Int64) + q2))])
      refine own_step (fun t k => XS.lload (v := q2) X99.here hx rfl (hb hby at_204) (by rw [hLs92]; rfl) k) ?_
      show own_Fin _ _ _ _ _ _ _ _ (mkF m 206 Ls92 [(.long q2), (.long ((0 : Int64) + q2))])
      refine own_step (fun t k => XS.lcmp X99.here hx rfl (hb hby at_206) rfl k) ?_
      show own_Fin _ _ _ _ _ _ _ _ (mkF m 207 Ls92 [(.int (lcmpW ((0 : Int64) + q2) q2))])
      have hc100 : (((0 : Int64) + q2)).toInt = (q2).toInt := by rw [Int64.zero_add]
      refine own_step (fun t k => XS.ifNo X99.here hx rfl (hb hby at_207) rfl (own_le (x := ((0 : Int64) + q2)) (y := q2) rfl rfl hc100).2 k) ?_
      show own_Fin _ _ _ _ _ _ _ _ (mkF m 210 Ls92 [])
      refine own_step (fun t k => XS.iconst X99.here hx rfl (hb hby at_210) k) ?_
      show own_Fin _ _ _ _ _ _ _ _ (mkF m 211 Ls92 [(.int (1 : Int32))])
      refine own_step (fun t k => XS.goto X99.here hx rfl (pc0 := 211) (pc' := 215) rfl (hb hby at_211) (by decide) (by decide) k) ?_
      show own_Fin _ _ _ _ _ _ _ _ (mkF m 215 Ls92 [(.int (1 : Int32))])
      refine own_retZ X99 hx hlk Bd.returns (hb hby at_215) (z' := (1 : Int32)) (by decide) (by decide) (by decide) hh99 ?_
      exact ⟨rfl, Nf⟩
set_option maxRecDepth 65536 in
set_option maxHeartbeats 40000000 in
theorem comes_1 {Post : Tables → Env → Array Value → State → Outcome → State → Prop} (hpost : ∀ tb e args s v u, (limb_1_1.after args s (.returned v) u = true ∧ limb_1_2.after args s (.returned v) u = true ∧ True) → FrameEnd s (.returned v) u (Jvm.fieldLocs frame_1_writes args s ++ Jvm.arrayLocs frame_1_arrays args s ++ Jvm.staticLocs frame_1_statics s) 16 128 → Post tb e args s (.returned v) u) :
    ArmFor flags0 classFile x code maxLocals ret World_1 tables_1 room_1 Calls_1 rest_1 Pre_1 Post := by
  intro l hfl _ _ p e ha hc hk s m args below hf hA hF happ hP
  obtain ⟨hcalls, hrest, hpre⟩ := hP
  obtain ⟨-, -, -, hnamed, -, -, -, hat⟩ := (Spec.applies_iff hf).mp happ
  obtain ⟨hg, hn⟩ := and_e (Cond.before_iff.mp (show (Jvm.Cond.and given_1 narrow_1).before args s = true from hpre))
  obtain ⟨g1, g2⟩ := and_e hg
  obtain ⟨g3, g4⟩ := and_e g2
  obtain ⟨g5, g6⟩ := and_e g4
  obtain ⟨g7, g8⟩ := and_e g6
  obtain ⟨w0, w1, w2, w3, rfl⟩ : ∃ w0 w1 w2 w3 : Value, args = #[w0, w1, w2, w3] := by
    have hs : args.size = 4 := by simpa [Cond.value, given_1] using g1
    obtain ⟨L⟩ := args
    match L, hs with
    | [w0, w1, w2, w3], _ => exact ⟨w0, w1, w2, w3, rfl⟩
  have hw := fun d (hd : d ∈ tables_1) => atoms_spec (ws := Jvm.Cond.code x code maxLocals ret :: tables_1) hat d (List.mem_cons_of_mem _ hd)
  obtain ⟨i0, ei0⟩ := isL_v g3
  obtain rfl : w0 = (.long i0) := Option.some.inj ei0
  obtain ⟨i1, ei1⟩ := isL_v g5
  obtain rfl : w1 = (.long i1) := Option.some.inj ei1
  obtain ⟨i2, ei2⟩ := isL_v g7
  obtain rfl : w2 = (.long i2) := Option.some.inj ei2
  obtain ⟨i3, ei3⟩ := is_v g8
  obtain rfl : w3 = (.int i3) := Option.some.inj ei3
  obtain ⟨n, o, h1, h2, h3, _, L, rfl, ⟨rfl, N⟩, hq⟩ := rm0 l s _ hw tables_1 i0 i1 i2 i3 s.heap s.heap.size (Nat.le_refl _) p e ha hc hk s m _ below hf ((Spec.applies_iff_loose hf).mp happ).1 ⟨rfl, State.Warmed39.refl s, rfl⟩ trivial
  refine ⟨n, _, h1, h2, h3, hpost _ _ _ _ _ _ ⟨Cond.after_iff.mpr rfl, Cond.after_iff.mpr (eq_i res_at (Term.int_eval (1)) rfl), trivial⟩ ⟨hq.1, hq.2.1, (hq.2.2.sift fun y hy => Or.inr (N y hy)).mono (by decide) (by decide)⟩⟩
theorem main_1_1 : Claimed_1_1 := comes_1 fun _ _ _ _ _ _ h hF => ⟨h.1, hF⟩
theorem main_1_2 : Claimed_1_2 := comes_1 fun _ _ _ _ _ _ h hF => ⟨h.2.1, hF⟩
end Jvm.Pilot.@@N@@
namespace Jvm.Pilot.@@N@@
open Jvm Jvm.ClassFile Sem Op Lib Jvm.Free Jvm.Stand Jvm.Pilot.@@N@@.Jvm.D
/-! MADE BY PROGRAM (witnessworld.py) out of the Statement's table words and the real class files: 10 classes; the members and pool entries that the words name. The judged class is class 1, her method 1. -/
namespace start1
open Jvm.ClassFile
def u (s : String) : CpInfo := .utf8 (stringToUtf16 s)
/-- a pool by its gaps: so many unusable entries, then the entry; so many at the end -/
def gap : Nat → List CpInfo → List CpInfo
  | 0, r => r
  | n + 1, r => .unusable :: gap n r
def poolList (es : List (Nat × CpInfo)) (last : Nat) : List CpInfo := es.foldr (fun e r => gap e.1 (e.2 :: r)) (gap last [])
def pool (es : List (Nat × CpInfo)) (last : Nat) : Array CpInfo := ⟨poolList es last⟩
def fileOf (pool : Array CpInfo) (this : Nat) (attrs : Array Attribute := #[]) (ms : Array MethodInfo := #[]) (fl : Nat := 33) (sup : Nat := 0) (ifs : Array Nat := #[]) (fds : Array FieldInfo := #[]) : ClassFile where
  minorVersion := 0
  majorVersion := 65
  constantPool := pool
  accessFlags := fl
  thisClass := this
  superClass := sup
  interfaces := ifs
  fields := fds
  methods := ms
  attributes := attrs
def plain (name : String) (sup : Option ClassId) : Class where
  name := name
  kind := .ordinary
  loader := none
  accessFlags := 33
  super := sup
  interfaces := #[]
  cf := none
  fields := #[]
  methods := #[]
  instanceTypes := #[]
  staticTypes := #[]
  resolved := #[]
  callSites := []
  init := .initialized
  statics := none
  mirror := none

def pool0 : Array CpInfo := pool [(5, u "<init>"), (0, u "()V"), (1, .class_ 10), (1, u "java/lang/Object")] 113

def k0c0 : Code := { maxStack := 0, maxLocals := 1, code := object_method_1_code, exceptionTable := #[], attributes := #[] }
def k0m0 : Method := { name := "<init>", desc := "()V", sig := { parameters := [], returnType := none }, accessFlags := 1, code := some k0c0 }
/-- java/lang/Object -/
def k0 : Class := { plain "java/lang/Object" none with
  accessFlags := 33
  interfaces := #[]
  cf := some (fileOf pool0 8 #[] #[{ accessFlags := 1, nameIndex := 5, descriptorIndex := 6, attributes := #[] }] 33 0 #[] #[])
  fields := #[]
  methods := #[k0m0]
  instanceTypes := #[]
  staticTypes := #[]
  resolved := Array.replicate 124 none
  statics := none }

def pool1 : Array CpInfo := pool [(2, .class_ 4), (0, .nameAndType 5 6), (0, u "java/lang/Object"), (0, u "<init>"), (0, u "()V"), (0, .class_ 8), (0, u "com/example/kern_tablet/kerntablet/storage/ColumnTally"), (0, .methodref 7 3), (0, .methodref 7 11), (0, .nameAndType 12 13), (0, u "add"), (0, u "(J)V"), (0, .methodref 7 15), (0, .nameAndType 16 13), (0, u "laidOut"), (0, .methodref 7 18), (0, .nameAndType 19 13), (0, u "remove"), (0, .methodref 21 22), (0, .class_ 23), (0, .nameAndType 24 25), (0, u "java/lang/Math"), (0, u "max"), (0, u "(JJ)J"), (0, .long 18446744073709551615), (1, .long 2), (1, .methodref 7 31), (0, .nameAndType 32 33), (0, u "values"), (0, u "()I"), (0, .methodref 7 35), (0, .nameAndType 36 37), (0, u "plainBytes"), (0, u "()J"), (0, .methodref 7 39), (0, .nameAndType 40 37), (0, u "largest"), (0, .methodref 7 42), (0, .nameAndType 16 37), (0, .methodref 7 44), (0, .nameAndType 45 37), (0, u "added"), (0, .methodref 7 47), (0, .nameAndType 48 37), (0, u "addedPlainBytes"), (0, .class_ 50), (0, u "com/example/kern_tablet/kerntablet/storage/ColumnTallyRemovePinLaw"), (2, u "law"), (0, u "(JJJI)Z")] 3

def k1m0 : Method := { name := "<init>", desc := "()V", sig := { parameters := [], returnType := none }, accessFlags := 1, code := none }
def k1c1 : Code := { maxStack := 4, maxLocals := 22, code := code, exceptionTable := #[], attributes := #[] }
def k1m1 : Method := { name := "law", desc := "(JJJI)Z", sig := { parameters := [.long, .long, .long, .int], returnType := some .boolean }, accessFlags := 9, code := some k1c1 }
/-- com/example/kern_tablet/kerntablet/storage/ColumnTallyRemovePinLaw -/
def k1 : Class := { plain "com/example/kern_tablet/kerntablet/storage/ColumnTallyRemovePinLaw" (some 0) with
  accessFlags := 49
  interfaces := #[]
  cf := some (fileOf pool1 49 #[] #[{ accessFlags := 1, nameIndex := 5, descriptorIndex := 6, attributes := #[] }, { accessFlags := 9, nameIndex := 53, descriptorIndex := 54, attributes := #[] }] 49 2 #[] #[])
  fields := #[]
  methods := #[k1m0, k1m1]
  instanceTypes := #[]
  staticTypes := #[]
  resolved := Array.replicate 58 none
  statics := none }

def pool2 : Array CpInfo := pool [(1, .methodref 2 3), (0, .class_ 4), (0, .nameAndType 5 6), (0, u "java/lang/Object"), (0, u "<init>"), (0, u "()V"), (0, .class_ 8), (0, u "com/example/kern_tablet/kerntablet/storage/ColumnTally"), (0, .long 18446744073709551615), (1, .fieldref 7 12), (0, .nameAndType 13 14), (0, u "laidOut"), (0, u "J"), (0, .fieldref 7 16), (0, .nameAndType 17 18), (0, u "values"), (0, u "I"), (0, .fieldref 7 20), (0, .nameAndType 21 14), (0, u "plainBytes"), (0, .fieldref 7 23), (0, .nameAndType 24 14), (0, u "largest"), (0, .methodref 26 27), (0, .class_ 28), (0, .nameAndType 29 30), (0, u "java/lang/Math"), (0, u "max"), (0, u "(JJ)J"), (0, .fieldref 7 32), (0, .nameAndType 33 14), (0, u "added"), (0, .fieldref 7 35), (0, .nameAndType 36 14), (0, u "addedPlainBytes"), (0, u "NONE"), (3, u "add"), (0, u "(J)V"), (0, u "remove"), (3, u "()I"), (0, u "()J")] 2

def k2c0 : Code := { maxStack := 3, maxLocals := 1, code := prog_32_method_1_code, exceptionTable := #[], attributes := #[] }
def k2m0 : Method := { name := "<init>", desc := "()V", sig := { parameters := [], returnType := none }, accessFlags := 0, code := some k2c0 }
def k2c1 : Code := { maxStack := 5, maxLocals := 3, code := prog_32_method_2_code, exceptionTable := #[], attributes := #[] }
def k2m1 : Method := { name := "add", desc := "(J)V", sig := { parameters := [.long], returnType := none }, accessFlags := 0, code := some k2c1 }
def k2c2 : Code := { maxStack := 5, maxLocals := 3, code := prog_32_method_3_code, exceptionTable := #[], attributes := #[] }
def k2m2 : Method := { name := "remove", desc := "(J)V", sig := { parameters := [.long], returnType := none }, accessFlags := 0, code := some k2c2 }
def k2c3 : Code := { maxStack := 3, maxLocals := 3, code := prog_32_method_4_code, exceptionTable := #[], attributes := #[] }
def k2m3 : Method := { name := "laidOut", desc := "(J)V", sig := { parameters := [.long], returnType := none }, accessFlags := 0, code := some k2c3 }
def k2c4 : Code := { maxStack := 1, maxLocals := 1, code := prog_32_method_6_code, exceptionTable := #[], attributes := #[] }
def k2m4 : Method := { name := "values", desc := "()I", sig := { parameters := [], returnType := some .int }, accessFlags := 0, code := some k2c4 }
def k2c5 : Code := { maxStack := 2, maxLocals := 1, code := prog_32_method_7_code, exceptionTable := #[], attributes := #[] }
def k2m5 : Method := { name := "plainBytes", desc := "()J", sig := { parameters := [], returnType := some .long }, accessFlags := 0, code := some k2c5 }
def k2c6 : Code := { maxStack := 2, maxLocals := 1, code := prog_32_method_8_code, exceptionTable := #[], attributes := #[] }
def k2m6 : Method := { name := "largest", desc := "()J", sig := { parameters := [], returnType := some .long }, accessFlags := 0, code := some k2c6 }
def k2c7 : Code := { maxStack := 2, maxLocals := 1, code := prog_32_method_9_code, exceptionTable := #[], attributes := #[] }
def k2m7 : Method := { name := "laidOut", desc := "()J", sig := { parameters := [], returnType := some .long }, accessFlags := 0, code := some k2c7 }
def k2c8 : Code := { maxStack := 2, maxLocals := 1, code := prog_32_method_10_code, exceptionTable := #[], attributes := #[] }
def k2m8 : Method := { name := "added", desc := "()J", sig := { parameters := [], returnType := some .long }, accessFlags := 0, code := some k2c8 }
def k2c9 : Code := { maxStack := 2, maxLocals := 1, code := prog_32_method_11_code, exceptionTable := #[], attributes := #[] }
def k2m9 : Method := { name := "addedPlainBytes", desc := "()J", sig := { parameters := [], returnType := some .long }, accessFlags := 0, code := some k2c9 }
/-- com/example/kern_tablet/kerntablet/storage/ColumnTally -/
def k2 : Class := { plain "com/example/kern_tablet/kerntablet/storage/ColumnTally" (some 0) with
  accessFlags := 32
  interfaces := #[]
  cf := some (fileOf pool2 7 #[] #[{ accessFlags := 0, nameIndex := 5, descriptorIndex := 6, attributes := #[] }, { accessFlags := 0, nameIndex := 41, descriptorIndex := 42, attributes := #[] }, { accessFlags := 0, nameIndex := 43, descriptorIndex := 42, attributes := #[] }, { accessFlags := 0, nameIndex := 13, descriptorIndex := 42, attributes := #[] }, { accessFlags := 0, nameIndex := 17, descriptorIndex := 47, attributes := #[] }, { accessFlags := 0, nameIndex := 21, descriptorIndex := 48, attributes := #[] }, { accessFlags := 0, nameIndex := 24, descriptorIndex := 48, attributes := #[] }, { accessFlags := 0, nameIndex := 13, descriptorIndex := 48, attributes := #[] }, { accessFlags := 0, nameIndex := 33, descriptorIndex := 48, attributes := #[] }, { accessFlags := 0, nameIndex := 36, descriptorIndex := 48, attributes := #[] }] 32 2 #[] #[{ accessFlags := 26, nameIndex := 37, descriptorIndex := 14, attributes := #[] }, { accessFlags := 2, nameIndex := 17, descriptorIndex := 18, attributes := #[] }, { accessFlags := 2, nameIndex := 21, descriptorIndex := 14, attributes := #[] }, { accessFlags := 2, nameIndex := 24, descriptorIndex := 14, attributes := #[] }, { accessFlags := 2, nameIndex := 13, descriptorIndex := 14, attributes := #[] }, { accessFlags := 2, nameIndex := 33, descriptorIndex := 14, attributes := #[] }, { accessFlags := 2, nameIndex := 36, descriptorIndex := 14, attributes := #[] }])
  fields := #[{ name := "NONE", type := .long, accessFlags := 26, slot := 0, constantValue := 0 }, { name := "values", type := .int, accessFlags := 2, slot := 0, constantValue := 0 }, { name := "plainBytes", type := .long, accessFlags := 2, slot := 1, constantValue := 0 }, { name := "largest", type := .long, accessFlags := 2, slot := 2, constantValue := 0 }, { name := "laidOut", type := .long, accessFlags := 2, slot := 3, constantValue := 0 }, { name := "added", type := .long, accessFlags := 2, slot := 4, constantValue := 0 }, { name := "addedPlainBytes", type := .long, accessFlags := 2, slot := 5, constantValue := 0 }]
  methods := #[k2m0, k2m1, k2m2, k2m3, k2m4, k2m5, k2m6, k2m7, k2m8, k2m9]
  instanceTypes := #[.int, .long, .long, .long, .long, .long]
  staticTypes := #[.long]
  resolved := Array.replicate 51 none
  statics := none }

def pool3 : Array CpInfo := pool [(1, .class_ 2), (0, u "java/lang/Math"), (1, .class_ 6), (1, u "java/lang/Object"), (0, u "<init>"), (0, u "()V"), (89, .class_ 100), (1, u "java/lang/Math$RandomNumberGeneratorHolder"), (20, u "(JJ)J"), (50, u "negativeZeroFloatBits"), (0, u "J"), (2, u "negativeZeroDoubleBits"), (21, u "max"), (46, u "$assertionsDisabled"), (0, u "Z"), (91, u "twoToTheDoubleScaleDown"), (0, u "D"), (4, u "twoToTheDoubleScaleUp"), (9, u "E"), (3, u "PI"), (2, u "TAU"), (2, u "DEGREES_TO_RADIANS"), (0, u "RADIANS_TO_DEGREES")] 94

def k3m0 : Method := { name := "<init>", desc := "()V", sig := { parameters := [], returnType := none }, accessFlags := 2, code := none }
def k3c1 : Code := { maxStack := 4, maxLocals := 4, code := jdk_29_method_66_code, exceptionTable := #[], attributes := #[] }
def k3m1 : Method := { name := "max", desc := "(JJ)J", sig := { parameters := [.long, .long], returnType := some .long }, accessFlags := 9, code := some k3c1 }
/-- java/lang/Math -/
def k3 : Class := { plain "java/lang/Math" (some 0) with
  accessFlags := 49
  interfaces := #[]
  cf := some (fileOf pool3 1 #[.nestMembers #[98]] #[{ accessFlags := 2, nameIndex := 7, descriptorIndex := 8, attributes := #[] }, { accessFlags := 9, nameIndex := 198, descriptorIndex := 121, attributes := #[] }] 49 4 #[] #[{ accessFlags := 25, nameIndex := 354, descriptorIndex := 339, attributes := #[] }, { accessFlags := 25, nameIndex := 358, descriptorIndex := 339, attributes := #[] }, { accessFlags := 25, nameIndex := 361, descriptorIndex := 339, attributes := #[] }, { accessFlags := 26, nameIndex := 364, descriptorIndex := 339, attributes := #[] }, { accessFlags := 26, nameIndex := 365, descriptorIndex := 339, attributes := #[] }, { accessFlags := 26, nameIndex := 172, descriptorIndex := 173, attributes := #[] }, { accessFlags := 26, nameIndex := 176, descriptorIndex := 173, attributes := #[] }, { accessFlags := 8, nameIndex := 344, descriptorIndex := 339, attributes := #[] }, { accessFlags := 8, nameIndex := 338, descriptorIndex := 339, attributes := #[] }, { accessFlags := 4120, nameIndex := 245, descriptorIndex := 246, attributes := #[] }])
  fields := #[{ name := "E", type := .double, accessFlags := 25, slot := 0, constantValue := 0 }, { name := "PI", type := .double, accessFlags := 25, slot := 1, constantValue := 0 }, { name := "TAU", type := .double, accessFlags := 25, slot := 2, constantValue := 0 }, { name := "DEGREES_TO_RADIANS", type := .double, accessFlags := 26, slot := 3, constantValue := 0 }, { name := "RADIANS_TO_DEGREES", type := .double, accessFlags := 26, slot := 4, constantValue := 0 }, { name := "negativeZeroFloatBits", type := .long, accessFlags := 26, slot := 5, constantValue := 0 }, { name := "negativeZeroDoubleBits", type := .long, accessFlags := 26, slot := 6, constantValue := 0 }, { name := "twoToTheDoubleScaleUp", type := .double, accessFlags := 8, slot := 7, constantValue := 0 }, { name := "twoToTheDoubleScaleDown", type := .double, accessFlags := 8, slot := 8, constantValue := 0 }, { name := "$assertionsDisabled", type := .boolean, accessFlags := 4120, slot := 9, constantValue := 0 }]
  methods := #[k3m0, k3m1]
  instanceTypes := #[]
  staticTypes := #[.double, .double, .double, .double, .double, .long, .long, .double, .double, .boolean]
  resolved := Array.replicate 460 none
  statics := none }

def pool4 : Array CpInfo := pool [(1, u "java/lang/Cloneable"), (0, .class_ 1), (0, u "java/lang/Object"), (0, .class_ 3)] 3

/-- java/lang/Cloneable -/
def k4 : Class := { plain "java/lang/Cloneable" (some 0) with
  accessFlags := 1537
  interfaces := #[]
  cf := some (fileOf pool4 2 #[] #[] 1537 4 #[] #[])
  fields := #[]
  methods := #[]
  instanceTypes := #[]
  staticTypes := #[]
  resolved := Array.replicate 8 none
  statics := none }

def pool5 : Array CpInfo := pool [(1, u "java/io/Serializable"), (0, .class_ 1), (0, u "java/lang/Object"), (0, .class_ 3)] 3

/-- java/io/Serializable -/
def k5 : Class := { plain "java/io/Serializable" (some 0) with
  accessFlags := 1537
  interfaces := #[]
  cf := some (fileOf pool5 2 #[] #[] 1537 4 #[] #[])
  fields := #[]
  methods := #[]
  instanceTypes := #[]
  staticTypes := #[]
  resolved := Array.replicate 8 none
  statics := none }

/-- the primitive byte -/
def k6 : Class := { plain "byte" none with kind := .primitive 'B', accessFlags := 0x411 }
/-- [B -/
def k7 : Class := { plain "[B" (some 0) with kind := .array 6 .byte, interfaces := #[4, 5], accessFlags := 1041 }

/-- the primitive int -/
def k8 : Class := { plain "int" none with kind := .primitive 'I', accessFlags := 0x411 }
/-- [I -/
def k9 : Class := { plain "[I" (some 0) with kind := .array 8 .int, interfaces := #[4, 5], accessFlags := 1041 }

def heap : Heap := #[]
def classes : Array Class := #[k0, k1, k2, k3, k4, k5, k6, k7, k8, k9]
def interned : List (Array UInt16 × Addr) := []
def slotsUsed : Nat := 0
def theMethod : MethodId := ⟨1, 1⟩
def args0 : Array Value := #[.long 7, .long 7, .long 7, .int 5]
def aboutOver (below : List Frame) : State where
  vm := { classes := classes, interned := interned.toArray }
  heap := heap
  slotsUsed := slotsUsed
  threads := #[{ frames := .invoking theMethod args0 :: below }]
def below0 : List Frame := [.native { method := ⟨0, 0⟩, args := #[] }]
def about1 : State := aboutOver below0
def p0 : Program := .bare "" "" ""
def e0 : Env := launch0.env 0 0 0
theorem w_frames : about1.frames = Frame.invoking theMethod args0 :: below0 := rfl
set_option maxRecDepth 65536 in
theorem w_args : argsFit about1.vm theMethod args0 = true := by decide +kernel
set_option maxRecDepth 65536 in
theorem w_heap : heapFits about1 = true := by decide +kernel
set_option maxRecDepth 65536 in
theorem w_runnable : about1.curStatus? = some .runnable := by decide +kernel
set_option maxRecDepth 65536 in
theorem w_alone : about1.alone = true := by decide +kernel
set_option maxRecDepth 65536 in
theorem w_named : about1.methodNamed? x = some theMethod := by decide +kernel
set_option maxRecDepth 65536 in
theorem w_hears : about1.hears theMethod below0 = true := by decide +kernel
set_option maxRecDepth 65536 in
theorem w_ripe : about1.ripe theMethod args0 below0 = true := by decide +kernel
theorem w_running : about1.status = .running := rfl
set_option maxRecDepth 65536 in
theorem w_room : about1.hasRoom e0.platform room_1 = true :=
  launch0.hasRoom_least _ room_1 (by decide +kernel) (by decide +kernel) (by decide +kernel) (by decide +kernel) (by decide +kernel) (by decide +kernel)
theorem allAtoms_all (ts : List Jvm.Cond) (a : Array Jvm.Value) (st : Jvm.State) : (allAtoms ts).before a st = ts.all (fun c => c.before a st) := by
  induction ts with
  | nil => rfl
  | cons c t ih =>
    show (Jvm.Cond.and c (allAtoms t)).before a st = _
    rw [Jvm.Cond.before_and, ih, List.all_cons]
def words1 : List Jvm.Cond := Jvm.Cond.code x code maxLocals ret :: tables_1
/-- a 'code' word, met by the world's own term for the bytes: nothing is compared byte by byte -/
theorem code_word {y : MethodName} {bytes : ByteArray} {mx : Nat} {rt : Option FieldType} {a : Array Value} {s : State} {m : MethodId} {meth : Method} {c : Code} (h1 : s.methodNamed? y = some m) (h2 : s.vm.method? m = some meth) (h3 : meth.code = some c) (h4 : c.code = bytes)
    (h5 : (c.maxLocals == mx && c.exceptionTable.isEmpty && decide (c.maxStack ≤ mostOperands) && decide (meth.sig.returnType = rt) && !meth.locks && decide (parseMethodDescriptor y.desc = some meth.sig)) = true) : (Jvm.Cond.code y bytes mx rt).before a s = true := by
  simp only [Bool.and_eq_true, beq_iff_eq, Bool.not_eq_true', decide_eq_true_eq] at h5
  obtain ⟨⟨⟨⟨⟨g1, g2⟩, g3⟩, g4⟩, g5⟩, g6⟩ := h5
  simp [Cond.before, Cond.holds, Cond.value, h1, h2, h3, h4, g1, g2, g3, g4, g5, g6]
def isCode : Jvm.Cond → Bool
  | .code _ _ _ _ => true
  | _ => false
theorem all_split {L : List Jvm.Cond} {P : Jvm.Cond → Bool} (h1 : L.all (fun c => isCode c || P c) = true) (h2 : ∀ c ∈ L.filter isCode, P c = true) : L.all P = true := by
  refine List.all_eq_true.mpr fun c hc => ?_
  have h := List.all_eq_true.mp h1 c hc
  rcases Bool.eq_false_or_eq_true (isCode c) with hi | hi
  · exact h2 c (List.mem_filter.mpr ⟨hc, hi⟩)
  · simpa [hi] using h
set_option maxRecDepth 65536 in
theorem w_c0 : (Jvm.Cond.code x code maxLocals ret).before args0 about1 = true := code_word (m := ⟨1, 1⟩) (meth := k1m1) (c := k1c1) (by decide +kernel) rfl rfl rfl (by decide +kernel)
set_option maxRecDepth 65536 in
theorem w_c1 : (Jvm.Cond.code ({ cls := "com/example/kern_tablet/kerntablet/storage/ColumnTally", name := "<init>", desc := "()V" } : Jvm.MethodName) prog_32_method_1_code (1 : Nat) (Option.none : Option Jvm.ClassFile.FieldType)).before args0 about1 = true := code_word (m := ⟨2, 0⟩) (meth := k2m0) (c := k2c0) (by decide +kernel) rfl rfl rfl (by decide +kernel)
set_option maxRecDepth 65536 in
theorem w_c2 : (Jvm.Cond.code ({ cls := "java/lang/Object", name := "<init>", desc := "()V" } : Jvm.MethodName) object_method_1_code (1 : Nat) (Option.none : Option Jvm.ClassFile.FieldType)).before args0 about1 = true := code_word (m := ⟨0, 0⟩) (meth := k0m0) (c := k0c0) (by decide +kernel) rfl rfl rfl (by decide +kernel)
set_option maxRecDepth 65536 in
theorem w_c3 : (Jvm.Cond.code ({ cls := "com/example/kern_tablet/kerntablet/storage/ColumnTally", name := "add", desc := "(J)V" } : Jvm.MethodName) prog_32_method_2_code (3 : Nat) (Option.none : Option Jvm.ClassFile.FieldType)).before args0 about1 = true := code_word (m := ⟨2, 1⟩) (meth := k2m1) (c := k2c1) (by decide +kernel) rfl rfl rfl (by decide +kernel)
set_option maxRecDepth 65536 in
theorem w_c4 : (Jvm.Cond.code ({ cls := "java/lang/Math", name := "max", desc := "(JJ)J" } : Jvm.MethodName) jdk_29_method_66_code (4 : Nat) (Option.some Jvm.ClassFile.FieldType.long)).before args0 about1 = true := code_word (m := ⟨3, 1⟩) (meth := k3m1) (c := k3c1) (by decide +kernel) rfl rfl rfl (by decide +kernel)
set_option maxRecDepth 65536 in
theorem w_c5 : (Jvm.Cond.code ({ cls := "com/example/kern_tablet/kerntablet/storage/ColumnTally", name := "remove", desc := "(J)V" } : Jvm.MethodName) prog_32_method_3_code (3 : Nat) (Option.none : Option Jvm.ClassFile.FieldType)).before args0 about1 = true := code_word (m := ⟨2, 2⟩) (meth := k2m2) (c := k2c2) (by decide +kernel) rfl rfl rfl (by decide +kernel)
set_option maxRecDepth 65536 in
theorem w_c6 : (Jvm.Cond.code ({ cls := "com/example/kern_tablet/kerntablet/storage/ColumnTally", name := "values", desc := "()I" } : Jvm.MethodName) prog_32_method_6_code (1 : Nat) (Option.some Jvm.ClassFile.FieldType.int)).before args0 about1 = true := code_word (m := ⟨2, 4⟩) (meth := k2m4) (c := k2c4) (by decide +kernel) rfl rfl rfl (by decide +kernel)
set_option maxRecDepth 65536 in
theorem w_c7 : (Jvm.Cond.code ({ cls := "com/example/kern_tablet/kerntablet/storage/ColumnTally", name := "plainBytes", desc := "()J" } : Jvm.MethodName) prog_32_method_7_code (1 : Nat) (Option.some Jvm.ClassFile.FieldType.long)).before args0 about1 = true := code_word (m := ⟨2, 5⟩) (meth := k2m5) (c := k2c5) (by decide +kernel) rfl rfl rfl (by decide +kernel)
set_option maxRecDepth 65536 in
theorem w_c8 : (Jvm.Cond.code ({ cls := "com/example/kern_tablet/kerntablet/storage/ColumnTally", name := "largest", desc := "()J" } : Jvm.MethodName) prog_32_method_8_code (1 : Nat) (Option.some Jvm.ClassFile.FieldType.long)).before args0 about1 = true := code_word (m := ⟨2, 6⟩) (meth := k2m6) (c := k2c6) (by decide +kernel) rfl rfl rfl (by decide +kernel)
set_option maxRecDepth 65536 in
theorem w_c9 : (Jvm.Cond.code ({ cls := "com/example/kern_tablet/kerntablet/storage/ColumnTally", name := "laidOut", desc := "()J" } : Jvm.MethodName) prog_32_method_9_code (1 : Nat) (Option.some Jvm.ClassFile.FieldType.long)).before args0 about1 = true := code_word (m := ⟨2, 7⟩) (meth := k2m7) (c := k2c7) (by decide +kernel) rfl rfl rfl (by decide +kernel)
set_option maxRecDepth 65536 in
theorem w_c10 : (Jvm.Cond.code ({ cls := "com/example/kern_tablet/kerntablet/storage/ColumnTally", name := "added", desc := "()J" } : Jvm.MethodName) prog_32_method_10_code (1 : Nat) (Option.some Jvm.ClassFile.FieldType.long)).before args0 about1 = true := code_word (m := ⟨2, 8⟩) (meth := k2m8) (c := k2c8) (by decide +kernel) rfl rfl rfl (by decide +kernel)
set_option maxRecDepth 65536 in
theorem w_c11 : (Jvm.Cond.code ({ cls := "com/example/kern_tablet/kerntablet/storage/ColumnTally", name := "addedPlainBytes", desc := "()J" } : Jvm.MethodName) prog_32_method_11_code (1 : Nat) (Option.some Jvm.ClassFile.FieldType.long)).before args0 about1 = true := code_word (m := ⟨2, 9⟩) (meth := k2m9) (c := k2c9) (by decide +kernel) rfl rfl rfl (by decide +kernel)
set_option maxRecDepth 65536 in
theorem w_c12 : (Jvm.Cond.code ({ cls := "com/example/kern_tablet/kerntablet/storage/ColumnTally", name := "laidOut", desc := "(J)V" } : Jvm.MethodName) prog_32_method_4_code (3 : Nat) (Option.none : Option Jvm.ClassFile.FieldType)).before args0 about1 = true := code_word (m := ⟨2, 3⟩) (meth := k2m3) (c := k2c3) (by decide +kernel) rfl rfl rfl (by decide +kernel)
def codes1 : List Jvm.Cond := [Jvm.Cond.code x code maxLocals ret, Jvm.Cond.code ({ cls := "com/example/kern_tablet/kerntablet/storage/ColumnTally", name := "<init>", desc := "()V" } : Jvm.MethodName) prog_32_method_1_code (1 : Nat) (Option.none : Option Jvm.ClassFile.FieldType), Jvm.Cond.code ({ cls := "java/lang/Object", name := "<init>", desc := "()V" } : Jvm.MethodName) object_method_1_code (1 : Nat) (Option.none : Option Jvm.ClassFile.FieldType), Jvm.Cond.code ({ cls := "com/example/kern_tablet/kerntablet/storage/ColumnTally", name := "add", desc := "(J)V" } : Jvm.MethodName) prog_32_method_2_code (3 : Nat) (Option.none : Option Jvm.ClassFile.FieldType), Jvm.Cond.code ({ cls := "java/lang/Math", name := "max", desc := "(JJ)J" } : Jvm.MethodName) jdk_29_method_66_code (4 : Nat) (Option.some Jvm.ClassFile.FieldType.long), Jvm.Cond.code ({ cls := "com/example/kern_tablet/kerntablet/storage/ColumnTally", name := "remove", desc := "(J)V" } : Jvm.MethodName) prog_32_method_3_code (3 : Nat) (Option.none : Option Jvm.ClassFile.FieldType), Jvm.Cond.code ({ cls := "com/example/kern_tablet/kerntablet/storage/ColumnTally", name := "values", desc := "()I" } : Jvm.MethodName) prog_32_method_6_code (1 : Nat) (Option.some Jvm.ClassFile.FieldType.int), Jvm.Cond.code ({ cls := "com/example/kern_tablet/kerntablet/storage/ColumnTally", name := "plainBytes", desc := "()J" } : Jvm.MethodName) prog_32_method_7_code (1 : Nat) (Option.some Jvm.ClassFile.FieldType.long), Jvm.Cond.code ({ cls := "com/example/kern_tablet/kerntablet/storage/ColumnTally", name := "largest", desc := "()J" } : Jvm.MethodName) prog_32_method_8_code (1 : Nat) (Option.some Jvm.ClassFile.FieldType.long), Jvm.Cond.code ({ cls := "com/example/kern_tablet/kerntablet/storage/ColumnTally", name := "laidOut", desc := "()J" } : Jvm.MethodName) prog_32_method_9_code (1 : Nat) (Option.some Jvm.ClassFile.FieldType.long), Jvm.Cond.code ({ cls := "com/example/kern_tablet/kerntablet/storage/ColumnTally", name := "added", desc := "()J" } : Jvm.MethodName) prog_32_method_10_code (1 : Nat) (Option.some Jvm.ClassFile.FieldType.long), Jvm.Cond.code ({ cls := "com/example/kern_tablet/kerntablet/storage/ColumnTally", name := "addedPlainBytes", desc := "()J" } : Jvm.MethodName) prog_32_method_11_code (1 : Nat) (Option.some Jvm.ClassFile.FieldType.long), Jvm.Cond.code ({ cls := "com/example/kern_tablet/kerntablet/storage/ColumnTally", name := "laidOut", desc := "(J)V" } : Jvm.MethodName) prog_32_method_4_code (3 : Nat) (Option.none : Option Jvm.ClassFile.FieldType)]
set_option maxRecDepth 65536 in
theorem codes_eq : words1.filter isCode = codes1 := rfl
theorem w_codes : ∀ c ∈ words1.filter isCode, c.before args0 about1 = true := by
  rw [codes_eq]
  intro c hc
  simp only [codes1, List.mem_cons, List.not_mem_nil, or_false] at hc
  rcases hc with rfl | rfl | rfl | rfl | rfl | rfl | rfl | rfl | rfl | rfl | rfl | rfl | rfl
  · exact w_c0
  · exact w_c1
  · exact w_c2
  · exact w_c3
  · exact w_c4
  · exact w_c5
  · exact w_c6
  · exact w_c7
  · exact w_c8
  · exact w_c9
  · exact w_c10
  · exact w_c11
  · exact w_c12
set_option maxRecDepth 65536 in
theorem w_t1 : (words1.take 24).all (fun c => isCode c || c.before args0 about1) = true := by decide +kernel
set_option maxRecDepth 65536 in
theorem w_t2 : ((words1.drop 24).take 24).all (fun c => isCode c || c.before args0 about1) = true := by decide +kernel
set_option maxRecDepth 65536 in
theorem w_t3 : (((words1.drop 24).drop 24).take 24).all (fun c => isCode c || c.before args0 about1) = true := by decide +kernel
set_option maxRecDepth 65536 in
theorem w_t4 : (((words1.drop 24).drop 24).drop 24).all (fun c => isCode c || c.before args0 about1) = true := by decide +kernel
theorem w_tables : (allAtoms (Jvm.Cond.code x code maxLocals ret :: tables_1)).before args0 about1 = true := by
  rw [allAtoms_all]
  show words1.all (fun c => c.before args0 about1) = true
  refine all_split ?_ w_codes
  rw [← List.take_append_drop 24 words1, List.all_append, w_t1, ← List.take_append_drop 24 (words1.drop 24), List.all_append, w_t2, ← List.take_append_drop 24 ((words1.drop 24).drop 24), List.all_append, w_t3, w_t4]
  rfl
set_option maxRecDepth 65536 in
theorem w_case : (Jvm.Cond.and given_1 narrow_1).before args0 about1 = true := by decide +kernel
theorem w_applies : (headSpec (Jvm.Cond.code x code maxLocals ret :: tables_1) room_1).applies x e0.platform about1 = true :=
  (Spec.applies_iff w_frames).mpr ⟨w_running, w_runnable, w_alone, w_named, w_hears, w_ripe, w_room, w_tables⟩
theorem atStart : AtStart classFile x code maxLocals ret World_1 tables_1 room_1 Calls_1 rest_1 Pre_1 launch0 p0 e0 about1 theMethod args0 below0 :=
  ⟨lists_1, trivial, launch0.admits_env _ _ _, launch0.least_env, fairChoices_fair.cas, fairChoices_fair.clock, w_frames, w_args, w_heap, w_applies, trivial, trivial, w_case⟩
end start1
theorem witness_1 : WitnessClaimed_1 := ⟨start1.p0, start1.e0, start1.about1, start1.theMethod, start1.args0, start1.below0, start1.atStart⟩
end Jvm.Pilot.@@N@@
