import JvmDerived
import JvmDerived.Pilot.@@N@@Statement
import JvmDerived.Pilot.@@N@@Code
set_option linter.unusedVariables false
set_option linter.unusedSimpArgs false
namespace Jvm.Pilot.@@N@@
open Jvm Jvm.ClassFile Sem Op Lib Jvm.Free Jvm.Stand Jvm.LawKit Jvm.RoadKit Bundle Jvm.Pilot.@@N@@.Jvm.D
/-! Own kit. own_Fin: from this frame the run comes to the method's end, and Q holds of what it leaves. -/
def own_Fin (p : Program) (e : Env) (below : List Frame) (s : State) (Q : Option Value → Heap → List Loc → Prop) (cl sl : Nat) (T : State) (f : JFrame) : Prop :=
  ∃ s₂ o, Steps p.tables e below (T.setTop f) s₂ ∧ s₂.status = .running ∧ Ended s₂ below o ∧ (∃ v L, o = .returned v ∧ Q v s₂.heap L ∧ FrameEnd s o s₂ L cl sl)
section OwnKit
variable {p : Program} {l : Launch} {e : Env} {R : Room} {s : State} {m : MethodId} {args : Array Value} {below : List Frame} {meth : Method} {c : Code} {T : State} {locs : List Loc} {cells slots : Nat} {Q : Option Value → Heap → List Loc → Prop} {cl sl : Nat} {Z : State} {a0 : Array Value} {h h' : Heap} {a b : Addr}
theorem own_step {T' : State} {f f' : JFrame} (k : ∀ t, Steps p.tables e below (T'.setTop f') t → Steps p.tables e below (T.setTop f) t) (r : own_Fin p e below s Q cl sl T' f') : own_Fin p e below s Q cl sl T f := by
  obtain ⟨s₂, o, h1, h2⟩ := r
  exact ⟨s₂, o, k _ h1, h2⟩
theorem own_stepT {T' : State} {f f' : JFrame} (k : Steps p.tables e below (T.setTop f) (T'.setTop f')) (r : own_Fin p e below s Q cl sl T' f') : own_Fin p e below s Q cl sl T f := by
  obtain ⟨s₂, o, h1, h2⟩ := r
  exact ⟨s₂, o, k.trans h1, h2⟩
theorem own_retZ (X : Stand p l e R s m args below meth c T locs cells slots) (hx : p.tables.exec = Jvm.exec) (hlocks : meth.locks = false) (hret : meth.sig.returnType = some .boolean) {pc : Nat} {Ls : Array Slot} {z z' : Int32} {rest : List Value} (hd : decode c.code pc = .ok (.ireturn, 1))
    (hn : nar .boolean z = z') (hc : cells ≤ cl) (hs : slots ≤ sl) (hT : T.heap = h) (hq : Q (some (.int z')) h locs) : own_Fin p e below s Q cl sl T (mkF m pc Ls (.int z :: rest)) := by
  subst hn hT
  obtain ⟨fs, hr, hrun, hended, hW, hsame⟩ := X.leave (v := some (.int (nar .boolean z))) (fun h => by rw [hret] at h; cases h)
  exact ⟨_, _, retN X hx hret (by simp) hd hr, hrun, hended, _, _, rfl, hq, ⟨_, rfl⟩, hW, hsame.mono hc hs⟩
theorem own_retI (X : Stand p l e R s m args below meth c T locs cells slots) (hx : p.tables.exec = Jvm.exec) (hlocks : meth.locks = false) (hret : meth.sig.returnType = some .int) {pc : Nat} {Ls : Array Slot} {z : Int32} {rest : List Value} (hd : decode c.code pc = .ok (.ireturn, 1))
    (hc : cells ≤ cl) (hs : slots ≤ sl) (hT : T.heap = h) (hq : Q (some (.int z)) h locs) : own_Fin p e below s Q cl sl T (mkF m pc Ls (.int z :: rest)) := by
  subst hT
  obtain ⟨fs, hr, hrun, hended, hW, hsame⟩ := X.leave (v := some (.int z)) (fun h => by rw [hret] at h; cases h)
  refine ⟨_, _, ?_, hrun, hended, _, _, rfl, hq, ⟨_, rfl⟩, hW, hsame.mono hc hs⟩
  have hm' : T.vm.method? m = some meth := X.method'
  have hn : narrow .int (.int z) = .int z := rfl
  show Steps p.tables e below (T.setTop { method := m, pc := pc, locals := Ls, stack := _ :: rest, locked := none }) _
  jvm_step X.here [X.here.top, hx, hd, hm', hret, hn]
  first | (intro acts; rw [hr _ acts rfl rfl rfl]) | rw [hr _ _ rfl rfl rfl]
  exact Steps.refl _
theorem own_retJ (X : Stand p l e R s m args below meth c T locs cells slots) (hx : p.tables.exec = Jvm.exec) (hlocks : meth.locks = false) (hret : meth.sig.returnType = some .long) {pc : Nat} {Ls : Array Slot} {z : Int64} (hd : decode c.code pc = .ok (.lreturn, 1))
    (hc : cells ≤ cl) (hs : slots ≤ sl) (hT : T.heap = h) (hq : Q (some (.long z)) h locs) : own_Fin p e below s Q cl sl T (mkF m pc Ls [.long z]) := by
  subst hT
  obtain ⟨fs, hr, hrun, hended, hW, hsame⟩ := X.leave (v := some (.long z)) (fun h => by rw [hret] at h; cases h)
  exact ⟨_, _, X.lreturnOut hx hret hd hr, hrun, hended, _, _, rfl, hq, ⟨_, rfl⟩, hW, hsame.mono hc hs⟩
theorem own_retV (X : Stand p l e R s m args below meth c T locs cells slots) (hx : p.tables.exec = Jvm.exec) (hlocks : meth.locks = false) (hret : meth.sig.returnType = none) {pc : Nat} {Ls : Array Slot} (hd : decode c.code pc = .ok (.return_, 1))
    (hc : cells ≤ cl) (hs : slots ≤ sl) (hT : T.heap = h) (hq : Q none h locs) : own_Fin p e below s Q cl sl T (mkF m pc Ls []) := by
  subst hT
  obtain ⟨fs, hr, hrun, hended, hW, hsame⟩ := X.leave (v := none) (fun _ => rfl)
  exact ⟨_, _, X.returnOut hx hret hd hr, hrun, hended, _, _, rfl, hq, ⟨_, rfl⟩, hW, hsame.mono hc hs⟩
theorem own_retR (X : Stand p l e R s m args below meth c T locs cells slots) (hx : p.tables.exec = Jvm.exec) (hlocks : meth.locks = false) {t : FieldType} (hret : meth.sig.returnType = some t) (ht : t.isReference = true) {pc : Nat} {Ls : Array Slot} {z : Value} (hz : z.isRef = true) (hd : decode c.code pc = .ok (.areturn, 1))
    (hc : cells ≤ cl) (hs : slots ≤ sl) (hT : T.heap = h) (hq : Q (some z) h locs) : own_Fin p e below s Q cl sl T (mkF m pc Ls [z]) := by
  subst hT
  obtain ⟨fs, hr, hrun, hended, hW, hsame⟩ := X.leave (v := some z) (fun h => by rw [hret] at h; cases h)
  refine ⟨_, _, ?_, hrun, hended, _, _, rfl, hq, ⟨_, rfl⟩, hW, hsame.mono hc hs⟩
  have hm' : T.vm.method? m = some meth := X.method'
  jvm_step X.here [X.here.top, hx, hd, hm', hret, ht, hz]
  first | (intro acts; rw [hr _ acts rfl rfl rfl]) | rw [hr _ _ rfl rfl rfl]
  exact Steps.refl _
/-! comparisons, said over Int -/
theorem own_cl {x y : Int32} {a b : Int} (ha : x.toInt = a) (hb : y.toInt = b) (h : a < b) : if_icmp.holds .lt x y = true ∧ if_icmp.holds .ge x y = false ∧ if_icmp.holds .gt y x = true ∧ if_icmp.holds .le y x = false := tlt (by rw [Int32.lt_iff_toInt_lt, ha, hb]; exact h)
theorem own_cn {x y : Int32} {a b : Int} (ha : x.toInt = a) (hb : y.toInt = b) (h : ¬ a < b) : if_icmp.holds .lt x y = false ∧ if_icmp.holds .ge x y = true ∧ if_icmp.holds .gt y x = false ∧ if_icmp.holds .le y x = true := flt (by rw [Int32.lt_iff_toInt_lt, ha, hb]; exact h)
theorem own_ce {x y : Int32} {a b : Int} (ha : x.toInt = a) (hb : y.toInt = b) (h : a = b) : if_icmp.holds .eq x y = true ∧ if_icmp.holds .ne x y = false := teq (by rw [← Int32.toInt_inj, ha, hb]; exact h)
theorem own_cu {x y : Int32} {a b : Int} (ha : x.toInt = a) (hb : y.toInt = b) (h : ¬ a = b) : if_icmp.holds .eq x y = false ∧ if_icmp.holds .ne x y = true := feq (by rw [← Int32.toInt_inj, ha, hb]; exact h)
theorem own_ll {x y : Int64} {a b : Int} (ha : x.toInt = a) (hb : y.toInt = b) (h : a < b) : ifCond.holds .lt (lcmpW x y) = true ∧ ifCond.holds .ge (lcmpW x y) = false ∧ ifCond.holds .gt (lcmpW y x) = true ∧ ifCond.holds .le (lcmpW y x) = false := by
  have q : x < y := by rw [Int64.lt_iff_toInt_lt, ha, hb]; exact h
  have h1 := tlt ((lw_lt x y).mpr q)
  have h2 := tlt ((lw_gt y x).mpr q)
  exact ⟨(if0 _ _).trans h1.1, (if0 _ _).trans h1.2.1, (if0 _ _).trans h2.2.2.1, (if0 _ _).trans h2.2.2.2⟩
theorem own_ln {x y : Int64} {a b : Int} (ha : x.toInt = a) (hb : y.toInt = b) (h : ¬ a < b) : ifCond.holds .lt (lcmpW x y) = false ∧ ifCond.holds .ge (lcmpW x y) = true ∧ ifCond.holds .gt (lcmpW y x) = false ∧ ifCond.holds .le (lcmpW y x) = true := by
  have q : ¬ x < y := by rw [Int64.lt_iff_toInt_lt, ha, hb]; exact h
  have h1 := flt (fun r => q ((lw_lt x y).mp r))
  have h2 := flt (fun r => q ((lw_gt y x).mp r))
  exact ⟨(if0 _ _).trans h1.1, (if0 _ _).trans h1.2.1, (if0 _ _).trans h2.2.2.1, (if0 _ _).trans h2.2.2.2⟩
theorem own_le {x y : Int64} {a b : Int} (ha : x.toInt = a) (hb : y.toInt = b) (h : a = b) : ifCond.holds .eq (lcmpW x y) = true ∧ ifCond.holds .ne (lcmpW x y) = false := by
  have q : x = y := by rw [← Int64.toInt_inj, ha, hb]; exact h
  have h1 := teq ((lw_eq x y).mpr q)
  exact ⟨(if0 _ _).trans h1.1, (if0 _ _).trans h1.2⟩
theorem own_lu {x y : Int64} {a b : Int} (ha : x.toInt = a) (hb : y.toInt = b) (h : ¬ a = b) : ifCond.holds .eq (lcmpW x y) = false ∧ ifCond.holds .ne (lcmpW x y) = true := by
  have q : ¬ x = y := by rw [← Int64.toInt_inj, ha, hb]; exact h
  have h1 := feq (fun r => q ((lw_eq x y).mp r))
  exact ⟨(if0 _ _).trans h1.1, (if0 _ _).trans h1.2⟩
/-! a boolean as an int -/
abbrev own_B (r : Int32) (P : Prop) : Prop := (r.toInt = 1 ∧ P) ∨ (r.toInt = 0 ∧ ¬ P)
theorem own_B1 {P : Prop} (h : P) : own_B 1 P := Or.inl ⟨rfl, h⟩
theorem own_B0 {P : Prop} (h : ¬ P) : own_B 0 P := Or.inr ⟨rfl, h⟩
theorem own_B.lit {r : Int32} {P : Prop} (H : own_B r P) : (r = 1 ∧ P) ∨ (r = 0 ∧ ¬ P) := by
  rcases H with ⟨q, h⟩ | ⟨q, h⟩
  · exact Or.inl ⟨Int32.toInt_inj.mp q, h⟩
  · exact Or.inr ⟨Int32.toInt_inj.mp q, h⟩
/-! arrays: their length and what each place holds -/
def own_A (Z : State) (h : Heap) (a : Addr) (ty : FieldType) (n : Nat) (f : Nat → Value) : Prop := ∃ c : Cell, Arr Z h a c ty ∧ c.slots.size = n ∧ ∀ i, i < n → c.slots[i]? = some (f i)
def own_AI (Z : State) (h : Heap) (a : Addr) (ty : FieldType) (n : Nat) (f : Nat → Int32) : Prop := own_A Z h a ty n (fun i => .int (f i))
def own_AJ (Z : State) (h : Heap) (a : Addr) (n : Nat) (f : Nat → Int64) : Prop := own_A Z h a .long n (fun i => .long (f i))
variable {ty : FieldType} {n : Nat} {fv : Nat → Value} {fi : Nat → Int32} {fj : Nat → Int64}
theorem own_A.lt (F : own_A Z h a ty n fv) : a < h.size := by obtain ⟨c, A, -⟩ := F; exact A.lt
theorem own_A.ext (F : own_A Z h a ty n fv) (E : Ext h h') : own_A Z h' a ty n fv := by obtain ⟨c, A, r⟩ := F; exact ⟨c, A.ext E, r⟩
theorem own_A.other {sl : Nat} {v : Value} (F : own_A Z h a ty n fv) (W : Wr h h' b sl v) (q : a ≠ b) : own_A Z h' a ty n fv := by obtain ⟨c, A, r⟩ := F; exact ⟨c, A.other W q, r⟩
theorem own_A.keep {ws : List Addr} (F : own_A Z h a ty n fv) (K : Keep h h' ws) (q : a ∉ ws) : own_A Z h' a ty n fv := by obtain ⟨c, A, r⟩ := F; exact ⟨c, ⟨K.2.1 a c A.1 q, A.2⟩, r⟩
theorem own_A.congr {gv : Nat → Value} (F : own_A Z h a ty n fv) (q : ∀ i, i < n → fv i = gv i) : own_A Z h a ty n gv := by obtain ⟨c, A, r, t⟩ := F; exact ⟨c, A, r, fun i hi => by rw [t i hi, q i hi]⟩
theorem own_A.set {j : Nat} {v : Value} (F : own_A Z h a ty n fv) (W : Wr h h' a j v) : own_A Z h' a ty n (fun i => if i = j then v else fv i) := by
  obtain ⟨c, A, r, t⟩ := F
  have W0 := W
  obtain ⟨c2, h1, -, h3, -⟩ := W0
  have ec : c2 = c := Option.some.inj (h1.symm.trans A.1)
  subst ec
  refine ⟨_, A.same W, by rw [sz_set]; exact r, fun i hi => ?_⟩
  by_cases q : i = j
  · subst q; simp [Cell.setSlot, h3]
  · simp only [q, if_false]; rw [← t i hi]; simp only [Cell.setSlot]; exact Array.getElem?_setIfInBounds_ne fun z => q z.symm
theorem own_A.new {k : ClassId} {z : Int32} (A : Arr Z h a (newA k ty z) ty) (q : z.toNatClampNeg = n) : own_A Z h a ty n (fun _ => defaultValue ty) := by
  subst q
  exact ⟨_, A, sz_new _ _ _, fun i hi => by simp [newA, hi]⟩
theorem own_AI.lt (F : own_AI Z h a ty n fi) : a < h.size := own_A.lt F
theorem own_AI.ext (F : own_AI Z h a ty n fi) (E : Ext h h') : own_AI Z h' a ty n fi := own_A.ext F E
theorem own_AI.other {sl : Nat} {v : Value} (F : own_AI Z h a ty n fi) (W : Wr h h' b sl v) (q : a ≠ b) : own_AI Z h' a ty n fi := own_A.other F W q
theorem own_AI.keep {ws : List Addr} (F : own_AI Z h a ty n fi) (K : Keep h h' ws) (q : a ∉ ws) : own_AI Z h' a ty n fi := own_A.keep F K q
theorem own_AI.congr {gi : Nat → Int32} (F : own_AI Z h a ty n fi) (q : ∀ i, i < n → fi i = gi i) : own_AI Z h a ty n gi := own_A.congr F fun i hi => by rw [q i hi]
theorem own_AI.set {j : Nat} {x : Int32} (F : own_AI Z h a ty n fi) (W : Wr h h' a j (.int x)) : own_AI Z h' a ty n (fun i => if i = j then x else fi i) := (own_A.set F W).congr fun i _ => by by_cases q : i = j <;> simp [q]
theorem own_AI.newI {k : ClassId} {z : Int32} (A : Arr Z h a (newA k .int z) .int) (q : z.toNatClampNeg = n) : own_AI Z h a .int n (fun _ => 0) := own_A.new A q
theorem own_AI.newB {k : ClassId} {z : Int32} (A : Arr Z h a (newA k .byte z) .byte) (q : z.toNatClampNeg = n) : own_AI Z h a .byte n (fun _ => 0) := own_A.new A q
theorem own_AJ.lt (F : own_AJ Z h a n fj) : a < h.size := own_A.lt F
theorem own_AJ.ext (F : own_AJ Z h a n fj) (E : Ext h h') : own_AJ Z h' a n fj := own_A.ext F E
theorem own_AJ.other {sl : Nat} {v : Value} (F : own_AJ Z h a n fj) (W : Wr h h' b sl v) (q : a ≠ b) : own_AJ Z h' a n fj := own_A.other F W q
theorem own_AJ.keep {ws : List Addr} (F : own_AJ Z h a n fj) (K : Keep h h' ws) (q : a ∉ ws) : own_AJ Z h' a n fj := own_A.keep F K q
theorem own_AJ.congr {gj : Nat → Int64} (F : own_AJ Z h a n fj) (q : ∀ i, i < n → fj i = gj i) : own_AJ Z h a n gj := own_A.congr F fun i hi => by rw [q i hi]
theorem own_AJ.set {j : Nat} {x : Int64} (F : own_AJ Z h a n fj) (W : Wr h h' a j (.long x)) : own_AJ Z h' a n (fun i => if i = j then x else fj i) := (own_A.set F W).congr fun i _ => by by_cases q : i = j <;> simp [q]
theorem own_AJ.new {k : ClassId} {z : Int32} (A : Arr Z h a (newA k .long z) .long) (q : z.toNatClampNeg = n) : own_AJ Z h a n (fun _ => 0) := own_A.new A q
theorem own_in {j : Int32} {k n : Nat} (hj : j.toInt = (k : Int)) (hk : k < n) : j.toNatClampNeg = k ∧ ¬ (j < 0 ∨ n ≤ j.toNatClampNeg) := by
  have q : j.toNatClampNeg = k := by simp only [Int32.toNatClampNeg, hj]; omega
  refine ⟨q, fun z => ?_⟩
  rcases z with z | z
  · rw [Int32.lt_iff_toInt_lt, hj] at z
    have : (0 : Int32).toInt = 0 := rfl
    omega
  · omega
theorem own_iaload (X : Stand p l e R s m args below meth c T locs cells slots) (hx : p.tables.exec = Jvm.exec) (hZ : Z.Warmed39 s.vm) (eT : T.heap = h) (F : own_AI Z h a .int n fi) {j : Int32} {k : Nat} (hj : j.toInt = (k : Int)) (hk : k < n) {v : Int32} (hv : fi k = v) {pc pc' : Nat} {Ls : Array Slot} {rest : List Value}
    (hd : decode c.code pc = .ok (.iaload, 1)) (hp : pc + 1 = pc') (r : own_Fin p e below s Q cl sl T (mkF m pc' Ls (.int v :: rest))) : own_Fin p e below s Q cl sl T (mkF m pc Ls (.int j :: .ref a :: rest)) := by
  obtain ⟨cc, A, h1, h2⟩ := F
  obtain ⟨q1, q2⟩ := own_in hj hk
  subst hp hv
  exact own_step (fun t k' => X.iaload hx (j := j) (v := .int (fi k)) (by rw [eT]; exact A.1) (State.isArrayOf_alike hZ.alike A.2.1) A.2.2 (by rw [h1]; exact q2) (by rw [q1]; exact h2 k hk) (g := mkF m pc Ls (.int j :: .ref a :: rest)) rfl rfl hd _ k') r
theorem own_baload (X : Stand p l e R s m args below meth c T locs cells slots) (hx : p.tables.exec = Jvm.exec) (hZ : Z.Warmed39 s.vm) (eT : T.heap = h) (F : own_AI Z h a .byte n fi) {j : Int32} {k : Nat} (hj : j.toInt = (k : Int)) (hk : k < n) {v : Int32} (hv : fi k = v) {pc pc' : Nat} {Ls : Array Slot} {rest : List Value}
    (hd : decode c.code pc = .ok (.baload, 1)) (hp : pc + 1 = pc') (r : own_Fin p e below s Q cl sl T (mkF m pc' Ls (.int v :: rest))) : own_Fin p e below s Q cl sl T (mkF m pc Ls (.int j :: .ref a :: rest)) := by
  obtain ⟨cc, A, h1, h2⟩ := F
  obtain ⟨q1, q2⟩ := own_in hj hk
  subst hp hv
  exact own_step (fun t k' => X.baloadBytes hx (j := j) (v := .int (fi k)) (by rw [eT]; exact A.1) (State.isArrayOf_alike hZ.alike A.2.1) A.2.2 (by rw [h1]; exact q2) (by rw [q1]; exact h2 k hk) (g := mkF m pc Ls (.int j :: .ref a :: rest)) rfl rfl hd _ k') r
theorem own_laload (X : Stand p l e R s m args below meth c T locs cells slots) (hx : p.tables.exec = Jvm.exec) (hZ : Z.Warmed39 s.vm) (eT : T.heap = h) (F : own_AJ Z h a n fj) {j : Int32} {k : Nat} (hj : j.toInt = (k : Int)) (hk : k < n) {v : Int64} (hv : fj k = v) {pc pc' : Nat} {Ls : Array Slot} {rest : List Value}
    (hd : decode c.code pc = .ok (.laload, 1)) (hp : pc + 1 = pc') (r : own_Fin p e below s Q cl sl T (mkF m pc' Ls (.long v :: rest))) : own_Fin p e below s Q cl sl T (mkF m pc Ls (.int j :: .ref a :: rest)) := by
  obtain ⟨cc, A, h1, h2⟩ := F
  obtain ⟨q1, q2⟩ := own_in hj hk
  subst hp hv
  exact own_step (fun t k' => X.laload hx (j := j) (v := .long (fj k)) (by rw [eT]; exact A.1) (State.isArrayOf_alike hZ.alike A.2.1) A.2.2 (by rw [h1]; exact q2) (by rw [q1]; exact h2 k hk) (g := mkF m pc Ls (.int j :: .ref a :: rest)) rfl rfl hd _ k') r
theorem own_arrlen (X : Stand p l e R s m args below meth c T locs cells slots) (hx : p.tables.exec = Jvm.exec) (hZ : Z.Warmed39 s.vm) (eT : T.heap = h) (F : own_A Z h a ty n fv) {z : Int32} (hz : n.toInt32 = z) {pc pc' : Nat} {Ls : Array Slot} {rest : List Value}
    (hd : decode c.code pc = .ok (.arraylength, 1)) (hp : pc + 1 = pc') (r : own_Fin p e below s Q cl sl T (mkF m pc' Ls (.int z :: rest))) : own_Fin p e below s Q cl sl T (mkF m pc Ls (.ref a :: rest)) := by
  obtain ⟨cc, A, h1, h2⟩ := F
  subst hp hz
  exact own_step (fun t k' => X.arraylength hx (by rw [eT]; exact A.1) (State.isArrayOf_alike hZ.alike A.2.1) (g := mkF m pc Ls (.ref a :: rest)) rfl rfl hd _ (by rw [h1]; exact k')) r
theorem own_iastore (X : Stand p l e R s m args below meth c T locs cells slots) (hx : p.tables.exec = Jvm.exec) (hZ : Z.Warmed39 s.vm) (eT : T.heap = h) (F : own_AI Z h a .int n fi) {j : Int32} {k : Nat} (hj : j.toInt = (k : Int)) (hk : k < n) {x : Int32} {pc pc' : Nat} {Ls : Array Slot} {rest : List Value}
    (hd : decode c.code pc = .ok (.iastore, 1)) (hp : pc + 1 = pc') :
    ∃ T' h', Stand p l e R s m args below meth c T' (locs ++ [⟨a, k⟩]) cells slots ∧ T'.heap = h' ∧ Wr h h' a k (.int x) ∧ own_AI Z h' a .int n (fun i => if i = k then x else fi i) ∧ ∀ t, Steps p.tables e below (T'.setTop (mkF m pc' Ls rest)) t → Steps p.tables e below (T.setTop (mkF m pc Ls (.int x :: .int j :: .ref a :: rest))) t := by
  obtain ⟨q1, q2⟩ := own_in hj hk
  have F' := F
  obtain ⟨cc, A, h1, h2⟩ := F
  subst hp q1
  obtain ⟨T', h', X', e', W', st⟩ := stI X hx hZ eT A (j := j) (x := x) (by rw [h1]; exact q2) (g := mkF m pc Ls (.int x :: .int j :: .ref a :: rest)) rfl rfl hd
  exact ⟨T', h', X', e', W', F'.set W', st⟩
theorem own_bastore (X : Stand p l e R s m args below meth c T locs cells slots) (hx : p.tables.exec = Jvm.exec) (hZ : Z.Warmed39 s.vm) (eT : T.heap = h) (F : own_AI Z h a .byte n fi) {j : Int32} {k : Nat} (hj : j.toInt = (k : Int)) (hk : k < n) {x y : Int32} (hn : nar .byte x = y) {pc pc' : Nat} {Ls : Array Slot} {rest : List Value}
    (hd : decode c.code pc = .ok (.bastore, 1)) (hp : pc + 1 = pc') :
    ∃ T' h', Stand p l e R s m args below meth c T' (locs ++ [⟨a, k⟩]) cells slots ∧ T'.heap = h' ∧ Wr h h' a k (.int y) ∧ own_AI Z h' a .byte n (fun i => if i = k then y else fi i) ∧ ∀ t, Steps p.tables e below (T'.setTop (mkF m pc' Ls rest)) t → Steps p.tables e below (T.setTop (mkF m pc Ls (.int x :: .int j :: .ref a :: rest))) t := by
  obtain ⟨q1, q2⟩ := own_in hj hk
  have F' := F
  obtain ⟨cc, A, h1, h2⟩ := F
  subst hp q1 hn
  obtain ⟨T', h', X', e', W', st⟩ := stB X hx hZ eT A (j := j) (x := x) (by rw [h1]; exact q2) (g := mkF m pc Ls (.int x :: .int j :: .ref a :: rest)) rfl rfl hd
  exact ⟨T', h', X', e', W', F'.set W', st⟩
theorem own_lastore (X : Stand p l e R s m args below meth c T locs cells slots) (hx : p.tables.exec = Jvm.exec) (hZ : Z.Warmed39 s.vm) (eT : T.heap = h) (F : own_AJ Z h a n fj) {j : Int32} {k : Nat} (hj : j.toInt = (k : Int)) (hk : k < n) {x : Int64} {pc pc' : Nat} {Ls : Array Slot} {rest : List Value}
    (hd : decode c.code pc = .ok (.lastore, 1)) (hp : pc + 1 = pc') :
    ∃ T' h', Stand p l e R s m args below meth c T' (locs ++ [⟨a, k⟩]) cells slots ∧ T'.heap = h' ∧ Wr h h' a k (.long x) ∧ own_AJ Z h' a n (fun i => if i = k then x else fj i) ∧ ∀ t, Steps p.tables e below (T'.setTop (mkF m pc' Ls rest)) t → Steps p.tables e below (T.setTop (mkF m pc Ls (.long x :: .int j :: .ref a :: rest))) t := by
  obtain ⟨q1, q2⟩ := own_in hj hk
  have F' := F
  obtain ⟨cc, A, h1, h2⟩ := F
  subst hp q1
  obtain ⟨T', h', X', e', W', st⟩ := stJ X hx hZ eT A (j := j) (x := x) (by rw [h1]; exact q2) (g := mkF m pc Ls (.long x :: .int j :: .ref a :: rest)) rfl rfl hd
  exact ⟨T', h', X', e', W', F'.set W', st⟩
theorem own_nar8 (x : Int32) : nar .byte x.toInt8.toInt32 = x.toInt8.toInt32 := by
  show (x.toInt8.toInt32).toInt8.toInt32 = x.toInt8.toInt32
  simp
end OwnKit
theorem d1_0 : decode prog_22_method_3_code 0 = .ok (.iload_n 0, 1) := by decide +kernel
theorem d1_1 : decode prog_22_method_3_code 1 = .ok (.bipush 9, 2) := by decide +kernel
theorem d1_3 : decode prog_22_method_3_code 3 = .ok (.if_icmp .eq 45, 3) := by decide +kernel
theorem d1_6 : decode prog_22_method_3_code 6 = .ok (.iload_n 0, 1) := by decide +kernel
theorem d1_7 : decode prog_22_method_3_code 7 = .ok (.bipush 10, 2) := by decide +kernel
theorem d1_9 : decode prog_22_method_3_code 9 = .ok (.if_icmp .eq 39, 3) := by decide +kernel
theorem d1_12 : decode prog_22_method_3_code 12 = .ok (.iload_n 0, 1) := by decide +kernel
theorem d1_13 : decode prog_22_method_3_code 13 = .ok (.bipush 13, 2) := by decide +kernel
theorem d1_15 : decode prog_22_method_3_code 15 = .ok (.if_icmp .eq 33, 3) := by decide +kernel
theorem d1_18 : decode prog_22_method_3_code 18 = .ok (.iload_n 0, 1) := by decide +kernel
theorem d1_19 : decode prog_22_method_3_code 19 = .ok (.bipush 32, 2) := by decide +kernel
theorem d1_21 : decode prog_22_method_3_code 21 = .ok (.if_icmp .lt 9, 3) := by decide +kernel
theorem d1_24 : decode prog_22_method_3_code 24 = .ok (.iload_n 0, 1) := by decide +kernel
theorem d1_25 : decode prog_22_method_3_code 25 = .ok (.ldc 29, 2) := by decide +kernel
theorem d1_27 : decode prog_22_method_3_code 27 = .ok (.if_icmp .le 21, 3) := by decide +kernel
theorem d1_30 : decode prog_22_method_3_code 30 = .ok (.iload_n 0, 1) := by decide +kernel
theorem d1_31 : decode prog_22_method_3_code 31 = .ok (.ldc 30, 2) := by decide +kernel
theorem d1_33 : decode prog_22_method_3_code 33 = .ok (.if_icmp .lt 9, 3) := by decide +kernel
theorem d1_36 : decode prog_22_method_3_code 36 = .ok (.iload_n 0, 1) := by decide +kernel
theorem d1_37 : decode prog_22_method_3_code 37 = .ok (.ldc 31, 2) := by decide +kernel
theorem d1_39 : decode prog_22_method_3_code 39 = .ok (.if_icmp .le 9, 3) := by decide +kernel
theorem d1_42 : decode prog_22_method_3_code 42 = .ok (.iload_n 0, 1) := by decide +kernel
theorem d1_43 : decode prog_22_method_3_code 43 = .ok (.ldc 32, 2) := by decide +kernel
theorem d1_45 : decode prog_22_method_3_code 45 = .ok (.if_icmp .lt 7, 3) := by decide +kernel
theorem d1_48 : decode prog_22_method_3_code 48 = .ok (.iconst 1, 1) := by decide +kernel
theorem d1_49 : decode prog_22_method_3_code 49 = .ok (.goto 4, 3) := by decide +kernel
theorem d1_52 : decode prog_22_method_3_code 52 = .ok (.iconst 0, 1) := by decide +kernel
theorem d1_53 : decode prog_22_method_3_code 53 = .ok (.ireturn, 1) := by decide +kernel
theorem own_pn_1 : plainName "com/example/tributary/tributary/cli/Markup" = true := by first | (simp [plainName, overriddenIn]; done) | decide +kernel
theorem own_ef_1 (m : MethodId) (p1 : Int32) : entryFrame m #[(.int p1)] 1 = mkF m 0 #[.val (.int p1)] [] := by first | (simp [entryFrame, mkF, argsToLocals, Value.category]; done) | rfl
abbrev own_R1 : Room := { frames := 0, cells := 0, slots := 0, locals := 0 }
def own_Q1 (Z : State) (p1 : Int32) (h0 : Heap) (n0 : Nat) (v : Option Value) (h : Heap) (L : List Loc) : Prop := ∃ r : Int32, v = some (.int r) ∧ own_B r (p1.toInt = 9 ∨ p1.toInt = 10 ∨ p1.toInt = 13 ∨ (32 ≤ p1.toInt ∧ p1.toInt ≤ 55295) ∨ (57344 ≤ p1.toInt ∧ p1.toInt ≤ 65533) ∨ 65536 ≤ p1.toInt) ∧ Fr n0 L ∧ h = h0
set_option maxRecDepth 65536 in
set_option maxHeartbeats 40000000 in
theorem rm1 (l : Launch) (Z : State) (a0 : Array Value) (hw : ∀ d ∈ tables_1, d.before a0 Z = true) (ws : List Jvm.Cond) (p1 : Int32) (h0 : Heap) (n0 : Nat) (Z0 : n0 ≤ h0.size) :
    MetFree l (⟨"com/example/tributary/tributary/cli/Markup", "isXmlCharacter", "(I)Z"⟩ : MethodName) (head1 (Jvm.Cond.code (⟨"com/example/tributary/tributary/cli/Markup", "isXmlCharacter", "(I)Z"⟩ : MethodName) prog_22_method_3_code 1 (some .boolean) :: ws) own_R1) (fun a U => a = #[(.int p1)] ∧ Z.Warmed39 U.vm ∧ U.heap = h0) (fun _ _ _ _ _ => True) (fun _ U o U' => ∃ v L, o = .returned v ∧ own_Q1 Z p1 h0 n0 v U'.heap L ∧ FrameEnd U o U' L own_R1.cells own_R1.slots) := by
  refine MetFree.of_bodySF (plainFor_of_name own_pn_1) hisR ?_
  intro p e s m args below meth c s₁ Bd hml0 hP hK
  obtain ⟨rfl, hZ, hh⟩ := hP
  have hx := Bd.exec
  have hby := Bd.bytes
  have hlk := BodyLoose.notSynchronized Bd
  have hml : c.maxLocals = 1 := hml0
  have hown : s.vm.findClass "com/example/tributary/tributary/cli/Markup" = some m.cls := (findClass_of_methodNamed Bd.named : s.vm.findClass (⟨"com/example/tributary/tributary/cli/Markup", "isXmlCharacter", "(I)Z"⟩ : MethodName).cls = some m.cls)
  have hnm := (name_of_methodNamed Bd.named Bd.method).1
  have X0 : Stand p l e own_R1 s m #[(.int p1)] below meth c s₁ [] 0 0 := Stand.of_body Bd
  have e0 : s₁.heap = h0 := by rw [← hh, Bd.state]; rfl
  have Nf := Fr.nil n0
  have Zs := Z0
  show own_Fin p e below s (own_Q1 Z p1 h0 n0) 0 0 s₁ (entryFrame m #[(.int p1)] 1)
  rw [own_ef_1 m p1]
  show own_Fin _ _ _ _ _ _ _ _ (mkF m 0 #[.val (.int p1)] [])
  have j48 : (p1.toInt = 9 ∨ p1.toInt = 10 ∨ p1.toInt = 13 ∨ (32 ≤ p1.toInt ∧ p1.toInt ≤ 55295) ∨ (57344 ≤ p1.toInt ∧ p1.toInt ≤ 65533) ∨ 65536 ≤ p1.toInt) → own_Fin p e below s (own_Q1 Z p1 h0 n0) 0 0 s₁ (mkF m 48 #[.val (.int p1)] []) := by
    intro hJ
    refine own_step (fun t k => XS.iconst X0.here hx rfl (hb hby d1_48) k) ?_
    show own_Fin _ _ _ _ _ _ _ _ (mkF m 49 #[.val (.int p1)] [(.int (1 : Int32))])
    refine own_step (fun t k => XS.goto X0.here hx rfl (pc0 := 49) (pc' := 53) rfl (hb hby d1_49) (by decide) (by decide) k) ?_
    show own_Fin _ _ _ _ _ _ _ _ (mkF m 53 #[.val (.int p1)] [(.int (1 : Int32))])
    refine own_retZ X0 hx hlk Bd.returns (hb hby d1_53) (z' := (1 : Int32)) (by decide) (by decide) (by decide) e0 ?_
    exact ⟨_, rfl, own_B1 (by omega), Nf, rfl⟩
  have j52 : (¬ (p1.toInt = 9 ∨ p1.toInt = 10 ∨ p1.toInt = 13 ∨ (32 ≤ p1.toInt ∧ p1.toInt ≤ 55295) ∨ (57344 ≤ p1.toInt ∧ p1.toInt ≤ 65533) ∨ 65536 ≤ p1.toInt)) → own_Fin p e below s (own_Q1 Z p1 h0 n0) 0 0 s₁ (mkF m 52 #[.val (.int p1)] []) := by
    intro hJ
    refine own_step (fun t k => XS.iconst X0.here hx rfl (hb hby d1_52) k) ?_
    show own_Fin _ _ _ _ _ _ _ _ (mkF m 53 #[.val (.int p1)] [(.int (0 : Int32))])
    refine own_retZ X0 hx hlk Bd.returns (hb hby d1_53) (z' := (0 : Int32)) (by decide) (by decide) (by decide) e0 ?_
    exact ⟨_, rfl, own_B0 (by omega), Nf, rfl⟩
  refine own_step (fun t k => XS.iloadN X0.here hx rfl (hb hby d1_0) rfl k) ?_
  show own_Fin _ _ _ _ _ _ _ _ (mkF m 1 #[.val (.int p1)] [(.int p1)])
  refine own_step (fun t k => XS.bipush X0.here hx rfl (hb hby d1_1) k) ?_
  show own_Fin _ _ _ _ _ _ _ _ (mkF m 3 #[.val (.int p1)] [(.int (9 : Int32)), (.int p1)])
  by_cases hc1 : (p1).toInt = 9
  · skip
    refine own_step (fun t k => XS.icmpYes X0.here hx rfl (pc0 := 3) (pc' := 48) rfl (hb hby d1_3) rfl (own_ce (x := p1) (y := (9 : Int32)) rfl rfl hc1).1 (by decide) (by decide) k) ?_
    show own_Fin _ _ _ _ _ _ _ _ (mkF m 48 #[.val (.int p1)] [])
    exact j48 (by omega)
  · skip
    refine own_step (fun t k => XS.icmpNo X0.here hx rfl (hb hby d1_3) rfl (own_cu (x := p1) (y := (9 : Int32)) rfl rfl hc1).1 k) ?_
    show own_Fin _ _ _ _ _ _ _ _ (mkF m 6 #[.val (.int p1)] [])
    refine own_step (fun t k => XS.iloadN X0.here hx rfl (hb hby d1_6) rfl k) ?_
    show own_Fin _ _ _ _ _ _ _ _ (mkF m 7 #[.val (.int p1)] [(.int p1)])
    refine own_step (fun t k => XS.bipush X0.here hx rfl (hb hby d1_7) k) ?_
    show own_Fin _ _ _ _ _ _ _ _ (mkF m 9 #[.val (.int p1)] [(.int (10 : Int32)), (.int p1)])
    by_cases hc2 : (p1).toInt = 10
    · skip
      refine own_step (fun t k => XS.icmpYes X0.here hx rfl (pc0 := 9) (pc' := 48) rfl (hb hby d1_9) rfl (own_ce (x := p1) (y := (10 : Int32)) rfl rfl hc2).1 (by decide) (by decide) k) ?_
      show own_Fin _ _ _ _ _ _ _ _ (mkF m 48 #[.val (.int p1)] [])
      exact j48 (by omega)
    · skip
      refine own_step (fun t k => XS.icmpNo X0.here hx rfl (hb hby d1_9) rfl (own_cu (x := p1) (y := (10 : Int32)) rfl rfl hc2).1 k) ?_
      show own_Fin _ _ _ _ _ _ _ _ (mkF m 12 #[.val (.int p1)] [])
      refine own_step (fun t k => XS.iloadN X0.here hx rfl (hb hby d1_12) rfl k) ?_
      show own_Fin _ _ _ _ _ _ _ _ (mkF m 13 #[.val (.int p1)] [(.int p1)])
      refine own_step (fun t k => XS.bipush X0.here hx rfl (hb hby d1_13) k) ?_
      show own_Fin _ _ _ _ _ _ _ _ (mkF m 15 #[.val (.int p1)] [(.int (13 : Int32)), (.int p1)])
      by_cases hc3 : (p1).toInt = 13
      · skip
        refine own_step (fun t k => XS.icmpYes X0.here hx rfl (pc0 := 15) (pc' := 48) rfl (hb hby d1_15) rfl (own_ce (x := p1) (y := (13 : Int32)) rfl rfl hc3).1 (by decide) (by decide) k) ?_
        show own_Fin _ _ _ _ _ _ _ _ (mkF m 48 #[.val (.int p1)] [])
        exact j48 (by omega)
      · skip
        refine own_step (fun t k => XS.icmpNo X0.here hx rfl (hb hby d1_15) rfl (own_cu (x := p1) (y := (13 : Int32)) rfl rfl hc3).1 k) ?_
        show own_Fin _ _ _ _ _ _ _ _ (mkF m 18 #[.val (.int p1)] [])
        refine own_step (fun t k => XS.iloadN X0.here hx rfl (hb hby d1_18) rfl k) ?_
        show own_Fin _ _ _ _ _ _ _ _ (mkF m 19 #[.val (.int p1)] [(.int p1)])
        refine own_step (fun t k => XS.bipush X0.here hx rfl (hb hby d1_19) k) ?_
        show own_Fin _ _ _ _ _ _ _ _ (mkF m 21 #[.val (.int p1)] [(.int (32 : Int32)), (.int p1)])
        by_cases hc4 : (p1).toInt < 32
        · skip
          refine own_step (fun t k => XS.icmpYes X0.here hx rfl (pc0 := 21) (pc' := 30) rfl (hb hby d1_21) rfl (own_cl (x := p1) (y := (32 : Int32)) rfl rfl hc4).1 (by decide) (by decide) k) ?_
          show own_Fin _ _ _ _ _ _ _ _ (mkF m 30 #[.val (.int p1)] [])
          refine own_step (fun t k => XS.iloadN X0.here hx rfl (hb hby d1_30) rfl k) ?_
          show own_Fin _ _ _ _ _ _ _ _ (mkF m 31 #[.val (.int p1)] [(.int p1)])
          refine own_step (fun t k => X0.ldcInt hx hown (mvT hZ (hw _ (List.mem_of_getElem? (i := 9) rfl))) (g := (mkF m 31 #[.val (.int p1)] [(.int p1)])) rfl (hb hby d1_31) _ k) ?_
          show own_Fin _ _ _ _ _ _ _ _ (mkF m 33 #[.val (.int p1)] [(.int (57344 : Int32)), (.int p1)])
          by_cases hc5 : (p1).toInt < 57344
          · skip
            refine own_step (fun t k => XS.icmpYes X0.here hx rfl (pc0 := 33) (pc' := 42) rfl (hb hby d1_33) rfl (own_cl (x := p1) (y := (57344 : Int32)) rfl rfl hc5).1 (by decide) (by decide) k) ?_
            show own_Fin _ _ _ _ _ _ _ _ (mkF m 42 #[.val (.int p1)] [])
            refine own_step (fun t k => XS.iloadN X0.here hx rfl (hb hby d1_42) rfl k) ?_
            show own_Fin _ _ _ _ _ _ _ _ (mkF m 43 #[.val (.int p1)] [(.int p1)])
            refine own_step (fun t k => X0.ldcInt hx hown (mvT hZ (hw _ (List.mem_of_getElem? (i := 10) rfl))) (g := (mkF m 43 #[.val (.int p1)] [(.int p1)])) rfl (hb hby d1_43) _ k) ?_
            show own_Fin _ _ _ _ _ _ _ _ (mkF m 45 #[.val (.int p1)] [(.int (65536 : Int32)), (.int p1)])
            by_cases hc6 : (p1).toInt < 65536
            · skip
              refine own_step (fun t k => XS.icmpYes X0.here hx rfl (pc0 := 45) (pc' := 52) rfl (hb hby d1_45) rfl (own_cl (x := p1) (y := (65536 : Int32)) rfl rfl hc6).1 (by decide) (by decide) k) ?_
              show own_Fin _ _ _ _ _ _ _ _ (mkF m 52 #[.val (.int p1)] [])
              exact j52 (by omega)
            · skip
              refine own_step (fun t k => XS.icmpNo X0.here hx rfl (hb hby d1_45) rfl (own_cn (x := p1) (y := (65536 : Int32)) rfl rfl hc6).1 k) ?_
              show own_Fin _ _ _ _ _ _ _ _ (mkF m 48 #[.val (.int p1)] [])
              exact j48 (by omega)
          · skip
            refine own_step (fun t k => XS.icmpNo X0.here hx rfl (hb hby d1_33) rfl (own_cn (x := p1) (y := (57344 : Int32)) rfl rfl hc5).1 k) ?_
            show own_Fin _ _ _ _ _ _ _ _ (mkF m 36 #[.val (.int p1)] [])
            refine own_step (fun t k => XS.iloadN X0.here hx rfl (hb hby d1_36) rfl k) ?_
            show own_Fin _ _ _ _ _ _ _ _ (mkF m 37 #[.val (.int p1)] [(.int p1)])
            refine own_step (fun t k => X0.ldcInt hx hown (mvT hZ (hw _ (List.mem_of_getElem? (i := 13) rfl))) (g := (mkF m 37 #[.val (.int p1)] [(.int p1)])) rfl (hb hby d1_37) _ k) ?_
            show own_Fin _ _ _ _ _ _ _ _ (mkF m 39 #[.val (.int p1)] [(.int (65533 : Int32)), (.int p1)])
            by_cases hc7 : 65533 < (p1).toInt
            · skip
              refine own_step (fun t k => XS.icmpNo X0.here hx rfl (hb hby d1_39) rfl (own_cl (x := (65533 : Int32)) (y := p1) rfl rfl hc7).2.2.2 k) ?_
              show own_Fin _ _ _ _ _ _ _ _ (mkF m 42 #[.val (.int p1)] [])
              refine own_step (fun t k => XS.iloadN X0.here hx rfl (hb hby d1_42) rfl k) ?_
              show own_Fin _ _ _ _ _ _ _ _ (mkF m 43 #[.val (.int p1)] [(.int p1)])
              refine own_step (fun t k => X0.ldcInt hx hown (mvT hZ (hw _ (List.mem_of_getElem? (i := 10) rfl))) (g := (mkF m 43 #[.val (.int p1)] [(.int p1)])) rfl (hb hby d1_43) _ k) ?_
              show own_Fin _ _ _ _ _ _ _ _ (mkF m 45 #[.val (.int p1)] [(.int (65536 : Int32)), (.int p1)])
              by_cases hc8 : (p1).toInt < 65536
              · skip
                refine own_step (fun t k => XS.icmpYes X0.here hx rfl (pc0 := 45) (pc' := 52) rfl (hb hby d1_45) rfl (own_cl (x := p1) (y := (65536 : Int32)) rfl rfl hc8).1 (by decide) (by decide) k) ?_
                show own_Fin _ _ _ _ _ _ _ _ (mkF m 52 #[.val (.int p1)] [])
                exact j52 (by omega)
              · skip
                refine own_step (fun t k => XS.icmpNo X0.here hx rfl (hb hby d1_45) rfl (own_cn (x := p1) (y := (65536 : Int32)) rfl rfl hc8).1 k) ?_
                show own_Fin _ _ _ _ _ _ _ _ (mkF m 48 #[.val (.int p1)] [])
                exact j48 (by omega)
            · skip
              refine own_step (fun t k => XS.icmpYes X0.here hx rfl (pc0 := 39) (pc' := 48) rfl (hb hby d1_39) rfl (own_cn (x := (65533 : Int32)) (y := p1) rfl rfl hc7).2.2.2 (by decide) (by decide) k) ?_
              show own_Fin _ _ _ _ _ _ _ _ (mkF m 48 #[.val (.int p1)] [])
              exact j48 (by omega)
        · skip
          refine own_step (fun t k => XS.icmpNo X0.here hx rfl (hb hby d1_21) rfl (own_cn (x := p1) (y := (32 : Int32)) rfl rfl hc4).1 k) ?_
          show own_Fin _ _ _ _ _ _ _ _ (mkF m 24 #[.val (.int p1)] [])
          refine own_step (fun t k => XS.iloadN X0.here hx rfl (hb hby d1_24) rfl k) ?_
          show own_Fin _ _ _ _ _ _ _ _ (mkF m 25 #[.val (.int p1)] [(.int p1)])
          refine own_step (fun t k => X0.ldcInt hx hown (mvT hZ (hw _ (List.mem_of_getElem? (i := 11) rfl))) (g := (mkF m 25 #[.val (.int p1)] [(.int p1)])) rfl (hb hby d1_25) _ k) ?_
          show own_Fin _ _ _ _ _ _ _ _ (mkF m 27 #[.val (.int p1)] [(.int (55295 : Int32)), (.int p1)])
          by_cases hc9 : 55295 < (p1).toInt
          · skip
            refine own_step (fun t k => XS.icmpNo X0.here hx rfl (hb hby d1_27) rfl (own_cl (x := (55295 : Int32)) (y := p1) rfl rfl hc9).2.2.2 k) ?_
            show own_Fin _ _ _ _ _ _ _ _ (mkF m 30 #[.val (.int p1)] [])
            refine own_step (fun t k => XS.iloadN X0.here hx rfl (hb hby d1_30) rfl k) ?_
            show own_Fin _ _ _ _ _ _ _ _ (mkF m 31 #[.val (.int p1)] [(.int p1)])
            refine own_step (fun t k => X0.ldcInt hx hown (mvT hZ (hw _ (List.mem_of_getElem? (i := 9) rfl))) (g := (mkF m 31 #[.val (.int p1)] [(.int p1)])) rfl (hb hby d1_31) _ k) ?_
            show own_Fin _ _ _ _ _ _ _ _ (mkF m 33 #[.val (.int p1)] [(.int (57344 : Int32)), (.int p1)])
            by_cases hc10 : (p1).toInt < 57344
            · skip
              refine own_step (fun t k => XS.icmpYes X0.here hx rfl (pc0 := 33) (pc' := 42) rfl (hb hby d1_33) rfl (own_cl (x := p1) (y := (57344 : Int32)) rfl rfl hc10).1 (by decide) (by decide) k) ?_
              show own_Fin _ _ _ _ _ _ _ _ (mkF m 42 #[.val (.int p1)] [])
              refine own_step (fun t k => XS.iloadN X0.here hx rfl (hb hby d1_42) rfl k) ?_
              show own_Fin _ _ _ _ _ _ _ _ (mkF m 43 #[.val (.int p1)] [(.int p1)])
              refine own_step (fun t k => X0.ldcInt hx hown (mvT hZ (hw _ (List.mem_of_getElem? (i := 10) rfl))) (g := (mkF m 43 #[.val (.int p1)] [(.int p1)])) rfl (hb hby d1_43) _ k) ?_
              show own_Fin _ _ _ _ _ _ _ _ (mkF m 45 #[.val (.int p1)] [(.int (65536 : Int32)), (.int p1)])
              by_cases hc11 : (p1).toInt < 65536
              · skip
                refine own_step (fun t k => XS.icmpYes X0.here hx rfl (pc0 := 45) (pc' := 52) rfl (hb hby d1_45) rfl (own_cl (x := p1) (y := (65536 : Int32)) rfl rfl hc11).1 (by decide) (by decide) k) ?_
                show own_Fin _ _ _ _ _ _ _ _ (mkF m 52 #[.val (.int p1)] [])
                exact j52 (by omega)
              · skip
                refine own_step (fun t k => XS.icmpNo X0.here hx rfl (hb hby d1_45) rfl (own_cn (x := p1) (y := (65536 : Int32)) rfl rfl hc11).1 k) ?_
                show own_Fin _ _ _ _ _ _ _ _ (mkF m 48 #[.val (.int p1)] [])
                exact j48 (by omega)
            · skip
              refine own_step (fun t k => XS.icmpNo X0.here hx rfl (hb hby d1_33) rfl (own_cn (x := p1) (y := (57344 : Int32)) rfl rfl hc10).1 k) ?_
              show own_Fin _ _ _ _ _ _ _ _ (mkF m 36 #[.val (.int p1)] [])
              refine own_step (fun t k => XS.iloadN X0.here hx rfl (hb hby d1_36) rfl k) ?_
              show own_Fin _ _ _ _ _ _ _ _ (mkF m 37 #[.val (.int p1)] [(.int p1)])
              refine own_step (fun t k => X0.ldcInt hx hown (mvT hZ (hw _ (List.mem_of_getElem? (i := 13) rfl))) (g := (mkF m 37 #[.val (.int p1)] [(.int p1)])) rfl (hb hby d1_37) _ k) ?_
              show own_Fin _ _ _ _ _ _ _ _ (mkF m 39 #[.val (.int p1)] [(.int (65533 : Int32)), (.int p1)])
              by_cases hc12 : 65533 < (p1).toInt
              · skip
                refine own_step (fun t k => XS.icmpNo X0.here hx rfl (hb hby d1_39) rfl (own_cl (x := (65533 : Int32)) (y := p1) rfl rfl hc12).2.2.2 k) ?_
                show own_Fin _ _ _ _ _ _ _ _ (mkF m 42 #[.val (.int p1)] [])
                refine own_step (fun t k => XS.iloadN X0.here hx rfl (hb hby d1_42) rfl k) ?_
                show own_Fin _ _ _ _ _ _ _ _ (mkF m 43 #[.val (.int p1)] [(.int p1)])
                refine own_step (fun t k => X0.ldcInt hx hown (mvT hZ (hw _ (List.mem_of_getElem? (i := 10) rfl))) (g := (mkF m 43 #[.val (.int p1)] [(.int p1)])) rfl (hb hby d1_43) _ k) ?_
                show own_Fin _ _ _ _ _ _ _ _ (mkF m 45 #[.val (.int p1)] [(.int (65536 : Int32)), (.int p1)])
                by_cases hc13 : (p1).toInt < 65536
                · skip
                  refine own_step (fun t k => XS.icmpYes X0.here hx rfl (pc0 := 45) (pc' := 52) rfl (hb hby d1_45) rfl (own_cl (x := p1) (y := (65536 : Int32)) rfl rfl hc13).1 (by decide) (by decide) k) ?_
                  show own_Fin _ _ _ _ _ _ _ _ (mkF m 52 #[.val (.int p1)] [])
                  exact j52 (by omega)
                · skip
                  refine own_step (fun t k => XS.icmpNo X0.here hx rfl (hb hby d1_45) rfl (own_cn (x := p1) (y := (65536 : Int32)) rfl rfl hc13).1 k) ?_
                  show own_Fin _ _ _ _ _ _ _ _ (mkF m 48 #[.val (.int p1)] [])
                  exact j48 (by omega)
              · skip
                refine own_step (fun t k => XS.icmpYes X0.here hx rfl (pc0 := 39) (pc' := 48) rfl (hb hby d1_39) rfl (own_cn (x := (65533 : Int32)) (y := p1) rfl rfl hc12).2.2.2 (by decide) (by decide) k) ?_
                show own_Fin _ _ _ _ _ _ _ _ (mkF m 48 #[.val (.int p1)] [])
                exact j48 (by omega)
          · skip
            refine own_step (fun t k => XS.icmpYes X0.here hx rfl (pc0 := 27) (pc' := 48) rfl (hb hby d1_27) rfl (own_cn (x := (55295 : Int32)) (y := p1) rfl rfl hc9).2.2.2 (by decide) (by decide) k) ?_
            show own_Fin _ _ _ _ _ _ _ _ (mkF m 48 #[.val (.int p1)] [])
            exact j48 (by omega)
theorem own_rng (x q : Int32) (h : (x &&& (2147483647 : Int32)) % (1114112 : Int32) = q) : 0 ≤ q.toInt ∧ q.toInt < 1114112 := by
  have h0 : (x &&& 2147483647).toInt = x.toInt % (2 ^ 31 : Nat) := c_mask x 2147483647 31 (by decide) (by decide)
  have h1 := (c_irem (x &&& 2147483647) 1114112 1114112 (by decide)).1 (by omega)
  rw [h] at h1
  omega
theorem own_pd_0 : parseMethodDescriptor "(I)Z" = some ⟨[.int], some .boolean⟩ := by decide +kernel
theorem own_pn_0 : plainName "com/example/tributary/tributary/cli/MarkupIsXmlCharacterPinLaw" = true := by first | (simp [plainName, overriddenIn]; done) | decide +kernel
theorem own_ef_0 (m : MethodId) (p1 : Int32) : entryFrame m #[(.int p1)] maxLocals = mkF m 0 #[.val (.int p1), .unset, .unset, .unset, .unset, .unset] [] := by first | (simp [entryFrame, mkF, argsToLocals, Value.category, maxLocals]; done) | rfl
def own_Q0 (Z : State) (p1 : Int32) (h0 : Heap) (n0 : Nat) (v : Option Value) (h : Heap) (L : List Loc) : Prop := v = some (.int 1) ∧ Fr n0 L
set_option maxRecDepth 65536 in
set_option maxHeartbeats 40000000 in
theorem rm0 (l : Launch) (Z : State) (a0 : Array Value) (hw : ∀ d ∈ tables_1, d.before a0 Z = true) (ws : List Jvm.Cond) (p1 : Int32) (h0 : Heap) (n0 : Nat) (Z0 : n0 ≤ h0.size) :
    MetFree l x (head1 (Jvm.Cond.code x code maxLocals ret :: ws) room_1) (fun a U => a = #[(.int p1)] ∧ Z.Warmed39 U.vm ∧ U.heap = h0) (fun _ _ _ _ _ => True) (fun _ U o U' => ∃ v L, o = .returned v ∧ own_Q0 Z p1 h0 n0 v U'.heap L ∧ FrameEnd U o U' L 0 0) := by
  refine MetFree.of_bodySF (plainFor_of_name own_pn_0) hisR ?_
  intro p e s m args below meth c s₁ Bd hml0 hP hK
  obtain ⟨rfl, hZ, hh⟩ := hP
  have hx := Bd.exec
  have hby := Bd.bytes
  have hlk := BodyLoose.notSynchronized Bd
  have hml : c.maxLocals = 6 := hml0
  have hown : s.vm.findClass "com/example/tributary/tributary/cli/MarkupIsXmlCharacterPinLaw" = some m.cls := (findClass_of_methodNamed Bd.named : s.vm.findClass x.cls = some m.cls)
  have hnm := (name_of_methodNamed Bd.named Bd.method).1
  have X0 : Stand p l e room_1 s m #[(.int p1)] below meth c s₁ [] 0 0 := Stand.of_body Bd
  have e0 : s₁.heap = h0 := by rw [← hh, Bd.state]; rfl
  have Nf := Fr.nil n0
  have Zs := Z0
  show own_Fin p e below s (own_Q0 Z p1 h0 n0) 0 0 s₁ (entryFrame m #[(.int p1)] maxLocals)
  rw [own_ef_0 m p1]
  show own_Fin _ _ _ _ _ _ _ _ (mkF m 0 #[.val (.int p1), .unset, .unset, .unset, .unset, .unset] [])
  refine own_step (fun t k => XS.iloadN X0.here hx rfl (hb hby at_0) rfl k) ?_
  show own_Fin _ _ _ _ _ _ _ _ (mkF m 1 #[.val (.int p1), .unset, .unset, .unset, .unset, .unset] [(.int p1)])
  refine own_step (fun t k => X0.ldcInt hx hown (mvT hZ (hw _ (List.mem_of_getElem? (i := 0) rfl))) (g := (mkF m 1 #[.val (.int p1), .unset, .unset, .unset, .unset, .unset] [(.int p1)])) rfl (hb hby at_1) _ k) ?_
  show own_Fin _ _ _ _ _ _ _ _ (mkF m 3 #[.val (.int p1), .unset, .unset, .unset, .unset, .unset] [(.int (2147483647 : Int32)), (.int p1)])
  refine own_step (fun t k => XS.iand X0.here hx rfl (hb hby at_3) rfl k) ?_
  show own_Fin _ _ _ _ _ _ _ _ (mkF m 4 #[.val (.int p1), .unset, .unset, .unset, .unset, .unset] [(.int (p1 &&& (2147483647 : Int32)))])
  refine own_step (fun t k => X0.ldcInt hx hown (mvT hZ (hw _ (List.mem_of_getElem? (i := 1) rfl))) (g := (mkF m 4 #[.val (.int p1), .unset, .unset, .unset, .unset, .unset] [(.int (p1 &&& (2147483647 : Int32)))])) rfl (hb hby at_4) _ k) ?_
  show own_Fin _ _ _ _ _ _ _ _ (mkF m 6 #[.val (.int p1), .unset, .unset, .unset, .unset, .unset] [(.int (1114112 : Int32)), (.int (p1 &&& (2147483647 : Int32)))])
  refine own_step (fun t k => iremM X0 hx rfl (hb hby at_6) rfl (by decide) k) ?_
  show own_Fin _ _ _ _ _ _ _ _ (mkF m 7 #[.val (.int p1), .unset, .unset, .unset, .unset, .unset] [(.int ((p1 &&& (2147483647 : Int32)) % (1114112 : Int32)))])
  generalize hpp : ((p1 &&& (2147483647 : Int32)) % (1114112 : Int32)) = pp
  refine own_step (fun t k => XS.istoreN X0.here hx rfl (hb hby at_7) rfl (l' := #[.val (.int p1), .val (.int pp), .unset, .unset, .unset, .unset]) rfl k) ?_
  show own_Fin _ _ _ _ _ _ _ _ (mkF m 8 #[.val (.int p1), .val (.int pp), .unset, .unset, .unset, .unset] [])
  have hr := own_rng p1 pp hpp
  have j37 : ∀ bb1 : Int32, own_B bb1 ((pp.toInt < 32 ∧ ¬ pp.toInt = 9 ∧ ¬ pp.toInt = 10 ∧ ¬ pp.toInt = 13)) → own_Fin p e below s (own_Q0 Z p1 h0 n0) 0 0 s₁ (mkF m 37 #[.val (.int p1), .val (.int pp), .unset, .unset, .unset, .unset] [(.int bb1)]) := by
    intro bb1 hbb1
    refine own_step (fun t k => XS.istoreN X0.here hx rfl (hb hby at_37) rfl (l' := #[.val (.int p1), .val (.int pp), .val (.int bb1), .unset, .unset, .unset]) rfl k) ?_
    show own_Fin _ _ _ _ _ _ _ _ (mkF m 38 #[.val (.int p1), .val (.int pp), .val (.int bb1), .unset, .unset, .unset] [])
    have j55 : ∀ bb2 : Int32, own_B bb2 ((55296 ≤ pp.toInt ∧ pp.toInt ≤ 57343)) → own_Fin p e below s (own_Q0 Z p1 h0 n0) 0 0 s₁ (mkF m 55 #[.val (.int p1), .val (.int pp), .val (.int bb1), .unset, .unset, .unset] [(.int bb2)]) := by
      intro bb2 hbb2
      refine own_step (fun t k => XS.istoreN X0.here hx rfl (hb hby at_55) rfl (l' := #[.val (.int p1), .val (.int pp), .val (.int bb1), .val (.int bb2), .unset, .unset]) rfl k) ?_
      show own_Fin _ _ _ _ _ _ _ _ (mkF m 56 #[.val (.int p1), .val (.int pp), .val (.int bb1), .val (.int bb2), .unset, .unset] [])
      have j73 : ∀ bb3 : Int32, own_B bb3 ((pp.toInt = 65534 ∨ pp.toInt = 65535)) → own_Fin p e below s (own_Q0 Z p1 h0 n0) 0 0 s₁ (mkF m 73 #[.val (.int p1), .val (.int pp), .val (.int bb1), .val (.int bb2), .unset, .unset] [(.int bb3)]) := by
        intro bb3 hbb3
        refine own_step (fun t k => XS.istore X0.here hx rfl (hb hby at_73) rfl (l' := #[.val (.int p1), .val (.int pp), .val (.int bb1), .val (.int bb2), .val (.int bb3), .unset]) rfl k) ?_
        show own_Fin _ _ _ _ _ _ _ _ (mkF m 75 #[.val (.int p1), .val (.int pp), .val (.int bb1), .val (.int bb2), .val (.int bb3), .unset] [])
        have j93 : ∀ bb4 : Int32, own_B bb4 (¬ ((pp.toInt < 32 ∧ ¬ pp.toInt = 9 ∧ ¬ pp.toInt = 10 ∧ ¬ pp.toInt = 13) ∨ (55296 ≤ pp.toInt ∧ pp.toInt ≤ 57343) ∨ (pp.toInt = 65534 ∨ pp.toInt = 65535))) → own_Fin p e below s (own_Q0 Z p1 h0 n0) 0 0 s₁ (mkF m 93 #[.val (.int p1), .val (.int pp), .val (.int bb1), .val (.int bb2), .val (.int bb3), .unset] [(.int bb4)]) := by
          intro bb4 hbb4
          refine own_step (fun t k => XS.istore X0.here hx rfl (hb hby at_93) rfl (l' := #[.val (.int p1), .val (.int pp), .val (.int bb1), .val (.int bb2), .val (.int bb3), .val (.int bb4)]) rfl k) ?_
          show own_Fin _ _ _ _ _ _ _ _ (mkF m 95 #[.val (.int p1), .val (.int pp), .val (.int bb1), .val (.int bb2), .val (.int bb3), .val (.int bb4)] [])
          refine own_step (fun t k => XS.iloadN X0.here hx rfl (hb hby at_95) rfl k) ?_
          show own_Fin _ _ _ _ _ _ _ _ (mkF m 96 #[.val (.int p1), .val (.int pp), .val (.int bb1), .val (.int bb2), .val (.int bb3), .val (.int bb4)] [(.int pp)])
          obtain ⟨_, _, ⟨T5, L5, k5, n5⟩, -, X5, ⟨Lc5, hQ5, l5, y5, z5⟩, st5⟩ := Jvm.LawKit.callS X0 hx (y := (⟨"com/example/tributary/tributary/cli/Markup", "isXmlCharacter", "(I)Z"⟩ : MethodName)) hown (mvT hZ (hw _ (List.mem_of_getElem? (i := 5) rfl))) (mvT hZ (hw _ (List.mem_of_getElem? (i := 6) rfl))) (mvT hZ (hw _ (List.mem_of_getElem? (i := 7) rfl))) (mvT hZ (hw _ (List.mem_of_getElem? (i := 8) rfl))) (by decide) (backOf (W := 0) (rm1 l Z a0 hw [] pp h0 n0 Zs) hZ (hw _ (List.mem_of_getElem? (i := 8) rfl)) (hw _ (List.mem_of_getElem? (i := 7) rfl)) (by decide) (by decide)) (g := (mkF m 96 #[.val (.int p1), .val (.int pp), .val (.int bb1), .val (.int bb2), .val (.int bb3), .val (.int bb4)] [(.int pp)])) rfl (by rw [hml]; rfl) (argsL := [(.int pp)]) (rest := []) (lenOf own_pd_0 rfl) rfl (by show 2 * 0 + _ ≤ _; exact Nat.le_of_eq rfl) (hb hby at_96) (fun _ _ => ⟨rfl, e0, (by decide : 0 + 0 ≤ _), (by decide : 0 + 0 ≤ _)⟩)
          dsimp only [Pt.U, Pt.locs, Pt.cells, Pt.slots] at X5 l5 y5 z5 st5 hQ5
          subst l5 y5 z5
          obtain ⟨r5, rfl, hB5, Nq5, hh5⟩ := hQ5
          replace Nf := Fr.app Nf Nq5
          refine own_step st5 ?_
          show own_Fin _ _ _ _ _ _ _ _ (mkF m 99 #[.val (.int p1), .val (.int pp), .val (.int bb1), .val (.int bb2), .val (.int bb3), .val (.int bb4)] [(.int r5)])
          refine own_step (fun t k => XS.iload X5.here hx rfl (hb hby at_99) rfl k) ?_
          show own_Fin _ _ _ _ _ _ _ _ (mkF m 101 #[.val (.int p1), .val (.int pp), .val (.int bb1), .val (.int bb2), .val (.int bb3), .val (.int bb4)] [(.int bb4), (.int r5)])
          have hc6 : (r5).toInt = (bb4).toInt := by omega
          refine own_step (fun t k => XS.icmpNo X5.here hx rfl (hb hby at_101) rfl (own_ce (x := r5) (y := bb4) rfl rfl hc6).2 k) ?_
          show own_Fin _ _ _ _ _ _ _ _ (mkF m 104 #[.val (.int p1), .val (.int pp), .val (.int bb1), .val (.int bb2), .val (.int bb3), .val (.int bb4)] [])
          refine own_step (fun t k => XS.iconst X5.here hx rfl (hb hby at_104) k) ?_
          show own_Fin _ _ _ _ _ _ _ _ (mkF m 105 #[.val (.int p1), .val (.int pp), .val (.int bb1), .val (.int bb2), .val (.int bb3), .val (.int bb4)] [(.int (1 : Int32))])
          refine own_step (fun t k => XS.goto X5.here hx rfl (pc0 := 105) (pc' := 109) rfl (hb hby at_105) (by decide) (by decide) k) ?_
          show own_Fin _ _ _ _ _ _ _ _ (mkF m 109 #[.val (.int p1), .val (.int pp), .val (.int bb1), .val (.int bb2), .val (.int bb3), .val (.int bb4)] [(.int (1 : Int32))])
          refine own_retZ X5 hx hlk Bd.returns (hb hby at_109) (z' := (1 : Int32)) (by decide) (by decide) (by decide) hh5 ?_
          exact ⟨rfl, Nf⟩
        refine own_step (fun t k => XS.iloadN X0.here hx rfl (hb hby at_75) rfl k) ?_
        show own_Fin _ _ _ _ _ _ _ _ (mkF m 76 #[.val (.int p1), .val (.int pp), .val (.int bb1), .val (.int bb2), .val (.int bb3), .unset] [(.int bb1)])
        by_cases hc7 : (bb1).toInt = 0
        · skip
          refine own_step (fun t k => XS.ifNo X0.here hx rfl (hb hby at_76) rfl ((if0 _ _).trans (own_ce (x := bb1) (y := (0 : Int32)) rfl rfl hc7).2) k) ?_
          show own_Fin _ _ _ _ _ _ _ _ (mkF m 79 #[.val (.int p1), .val (.int pp), .val (.int bb1), .val (.int bb2), .val (.int bb3), .unset] [])
          refine own_step (fun t k => XS.iloadN X0.here hx rfl (hb hby at_79) rfl k) ?_
          show own_Fin _ _ _ _ _ _ _ _ (mkF m 80 #[.val (.int p1), .val (.int pp), .val (.int bb1), .val (.int bb2), .val (.int bb3), .unset] [(.int bb2)])
          by_cases hc8 : (bb2).toInt = 0
          · skip
            refine own_step (fun t k => XS.ifNo X0.here hx rfl (hb hby at_80) rfl ((if0 _ _).trans (own_ce (x := bb2) (y := (0 : Int32)) rfl rfl hc8).2) k) ?_
            show own_Fin _ _ _ _ _ _ _ _ (mkF m 83 #[.val (.int p1), .val (.int pp), .val (.int bb1), .val (.int bb2), .val (.int bb3), .unset] [])
            refine own_step (fun t k => XS.iload X0.here hx rfl (hb hby at_83) rfl k) ?_
            show own_Fin _ _ _ _ _ _ _ _ (mkF m 85 #[.val (.int p1), .val (.int pp), .val (.int bb1), .val (.int bb2), .val (.int bb3), .unset] [(.int bb3)])
            by_cases hc9 : (bb3).toInt = 0
            · skip
              refine own_step (fun t k => XS.ifNo X0.here hx rfl (hb hby at_85) rfl ((if0 _ _).trans (own_ce (x := bb3) (y := (0 : Int32)) rfl rfl hc9).2) k) ?_
              show own_Fin _ _ _ _ _ _ _ _ (mkF m 88 #[.val (.int p1), .val (.int pp), .val (.int bb1), .val (.int bb2), .val (.int bb3), .unset] [])
              refine own_step (fun t k => XS.iconst X0.here hx rfl (hb hby at_88) k) ?_
              show own_Fin _ _ _ _ _ _ _ _ (mkF m 89 #[.val (.int p1), .val (.int pp), .val (.int bb1), .val (.int bb2), .val (.int bb3), .unset] [(.int (1 : Int32))])
              refine own_step (fun t k => XS.goto X0.here hx rfl (pc0 := 89) (pc' := 93) rfl (hb hby at_89) (by decide) (by decide) k) ?_
              show own_Fin _ _ _ _ _ _ _ _ (mkF m 93 #[.val (.int p1), .val (.int pp), .val (.int bb1), .val (.int bb2), .val (.int bb3), .unset] [(.int (1 : Int32))])
              exact j93 _ (own_B1 (by omega))
            · skip
              refine own_step (fun t k => XS.ifYes X0.here hx rfl (pc0 := 85) (pc' := 92) rfl (hb hby at_85) rfl ((if0 _ _).trans (own_cu (x := bb3) (y := (0 : Int32)) rfl rfl hc9).2) (by decide) (by decide) k) ?_
              show own_Fin _ _ _ _ _ _ _ _ (mkF m 92 #[.val (.int p1), .val (.int pp), .val (.int bb1), .val (.int bb2), .val (.int bb3), .unset] [])
              refine own_step (fun t k => XS.iconst X0.here hx rfl (hb hby at_92) k) ?_
              show own_Fin _ _ _ _ _ _ _ _ (mkF m 93 #[.val (.int p1), .val (.int pp), .val (.int bb1), .val (.int bb2), .val (.int bb3), .unset] [(.int (0 : Int32))])
              exact j93 _ (own_B0 (by omega))
          · skip
            refine own_step (fun t k => XS.ifYes X0.here hx rfl (pc0 := 80) (pc' := 92) rfl (hb hby at_80) rfl ((if0 _ _).trans (own_cu (x := bb2) (y := (0 : Int32)) rfl rfl hc8).2) (by decide) (by decide) k) ?_
            show own_Fin _ _ _ _ _ _ _ _ (mkF m 92 #[.val (.int p1), .val (.int pp), .val (.int bb1), .val (.int bb2), .val (.int bb3), .unset] [])
            refine own_step (fun t k => XS.iconst X0.here hx rfl (hb hby at_92) k) ?_
            show own_Fin _ _ _ _ _ _ _ _ (mkF m 93 #[.val (.int p1), .val (.int pp), .val (.int bb1), .val (.int bb2), .val (.int bb3), .unset] [(.int (0 : Int32))])
            exact j93 _ (own_B0 (by omega))
        · skip
          refine own_step (fun t k => XS.ifYes X0.here hx rfl (pc0 := 76) (pc' := 92) rfl (hb hby at_76) rfl ((if0 _ _).trans (own_cu (x := bb1) (y := (0 : Int32)) rfl rfl hc7).2) (by decide) (by decide) k) ?_
          show own_Fin _ _ _ _ _ _ _ _ (mkF m 92 #[.val (.int p1), .val (.int pp), .val (.int bb1), .val (.int bb2), .val (.int bb3), .unset] [])
          refine own_step (fun t k => XS.iconst X0.here hx rfl (hb hby at_92) k) ?_
          show own_Fin _ _ _ _ _ _ _ _ (mkF m 93 #[.val (.int p1), .val (.int pp), .val (.int bb1), .val (.int bb2), .val (.int bb3), .unset] [(.int (0 : Int32))])
          exact j93 _ (own_B0 (by omega))
      refine own_step (fun t k => XS.iloadN X0.here hx rfl (hb hby at_56) rfl k) ?_
      show own_Fin _ _ _ _ _ _ _ _ (mkF m 57 #[.val (.int p1), .val (.int pp), .val (.int bb1), .val (.int bb2), .unset, .unset] [(.int pp)])
      refine own_step (fun t k => X0.ldcInt hx hown (mvT hZ (hw _ (List.mem_of_getElem? (i := 3) rfl))) (g := (mkF m 57 #[.val (.int p1), .val (.int pp), .val (.int bb1), .val (.int bb2), .unset, .unset] [(.int pp)])) rfl (hb hby at_57) _ k) ?_
      show own_Fin _ _ _ _ _ _ _ _ (mkF m 59 #[.val (.int p1), .val (.int pp), .val (.int bb1), .val (.int bb2), .unset, .unset] [(.int (65534 : Int32)), (.int pp)])
      by_cases hc10 : (pp).toInt = 65534
      · skip
        refine own_step (fun t k => XS.icmpYes X0.here hx rfl (pc0 := 59) (pc' := 68) rfl (hb hby at_59) rfl (own_ce (x := pp) (y := (65534 : Int32)) rfl rfl hc10).1 (by decide) (by decide) k) ?_
        show own_Fin _ _ _ _ _ _ _ _ (mkF m 68 #[.val (.int p1), .val (.int pp), .val (.int bb1), .val (.int bb2), .unset, .unset] [])
        refine own_step (fun t k => XS.iconst X0.here hx rfl (hb hby at_68) k) ?_
        show own_Fin _ _ _ _ _ _ _ _ (mkF m 69 #[.val (.int p1), .val (.int pp), .val (.int bb1), .val (.int bb2), .unset, .unset] [(.int (1 : Int32))])
        refine own_step (fun t k => XS.goto X0.here hx rfl (pc0 := 69) (pc' := 73) rfl (hb hby at_69) (by decide) (by decide) k) ?_
        show own_Fin _ _ _ _ _ _ _ _ (mkF m 73 #[.val (.int p1), .val (.int pp), .val (.int bb1), .val (.int bb2), .unset, .unset] [(.int (1 : Int32))])
        exact j73 _ (own_B1 (by omega))
      · skip
        refine own_step (fun t k => XS.icmpNo X0.here hx rfl (hb hby at_59) rfl (own_cu (x := pp) (y := (65534 : Int32)) rfl rfl hc10).1 k) ?_
        show own_Fin _ _ _ _ _ _ _ _ (mkF m 62 #[.val (.int p1), .val (.int pp), .val (.int bb1), .val (.int bb2), .unset, .unset] [])
        refine own_step (fun t k => XS.iloadN X0.here hx rfl (hb hby at_62) rfl k) ?_
        show own_Fin _ _ _ _ _ _ _ _ (mkF m 63 #[.val (.int p1), .val (.int pp), .val (.int bb1), .val (.int bb2), .unset, .unset] [(.int pp)])
        refine own_step (fun t k => X0.ldcInt hx hown (mvT hZ (hw _ (List.mem_of_getElem? (i := 4) rfl))) (g := (mkF m 63 #[.val (.int p1), .val (.int pp), .val (.int bb1), .val (.int bb2), .unset, .unset] [(.int pp)])) rfl (hb hby at_63) _ k) ?_
        show own_Fin _ _ _ _ _ _ _ _ (mkF m 65 #[.val (.int p1), .val (.int pp), .val (.int bb1), .val (.int bb2), .unset, .unset] [(.int (65535 : Int32)), (.int pp)])
        by_cases hc11 : (pp).toInt = 65535
        · skip
          refine own_step (fun t k => XS.icmpNo X0.here hx rfl (hb hby at_65) rfl (own_ce (x := pp) (y := (65535 : Int32)) rfl rfl hc11).2 k) ?_
          show own_Fin _ _ _ _ _ _ _ _ (mkF m 68 #[.val (.int p1), .val (.int pp), .val (.int bb1), .val (.int bb2), .unset, .unset] [])
          refine own_step (fun t k => XS.iconst X0.here hx rfl (hb hby at_68) k) ?_
          show own_Fin _ _ _ _ _ _ _ _ (mkF m 69 #[.val (.int p1), .val (.int pp), .val (.int bb1), .val (.int bb2), .unset, .unset] [(.int (1 : Int32))])
          refine own_step (fun t k => XS.goto X0.here hx rfl (pc0 := 69) (pc' := 73) rfl (hb hby at_69) (by decide) (by decide) k) ?_
          show own_Fin _ _ _ _ _ _ _ _ (mkF m 73 #[.val (.int p1), .val (.int pp), .val (.int bb1), .val (.int bb2), .unset, .unset] [(.int (1 : Int32))])
          exact j73 _ (own_B1 (by omega))
        · skip
          refine own_step (fun t k => XS.icmpYes X0.here hx rfl (pc0 := 65) (pc' := 72) rfl (hb hby at_65) rfl (own_cu (x := pp) (y := (65535 : Int32)) rfl rfl hc11).2 (by decide) (by decide) k) ?_
          show own_Fin _ _ _ _ _ _ _ _ (mkF m 72 #[.val (.int p1), .val (.int pp), .val (.int bb1), .val (.int bb2), .unset, .unset] [])
          refine own_step (fun t k => XS.iconst X0.here hx rfl (hb hby at_72) k) ?_
          show own_Fin _ _ _ _ _ _ _ _ (mkF m 73 #[.val (.int p1), .val (.int pp), .val (.int bb1), .val (.int bb2), .unset, .unset] [(.int (0 : Int32))])
          exact j73 _ (own_B0 (by omega))
    refine own_step (fun t k => XS.iloadN X0.here hx rfl (hb hby at_38) rfl k) ?_
    show own_Fin _ _ _ _ _ _ _ _ (mkF m 39 #[.val (.int p1), .val (.int pp), .val (.int bb1), .unset, .unset, .unset] [(.int pp)])
    refine own_step (fun t k => X0.ldcInt hx hown (mvT hZ (hw _ (List.mem_of_getElem? (i := 2) rfl))) (g := (mkF m 39 #[.val (.int p1), .val (.int pp), .val (.int bb1), .unset, .unset, .unset] [(.int pp)])) rfl (hb hby at_39) _ k) ?_
    show own_Fin _ _ _ _ _ _ _ _ (mkF m 41 #[.val (.int p1), .val (.int pp), .val (.int bb1), .unset, .unset, .unset] [(.int (55296 : Int32)), (.int pp)])
    by_cases hc12 : (pp).toInt < 55296
    · skip
      refine own_step (fun t k => XS.icmpYes X0.here hx rfl (pc0 := 41) (pc' := 54) rfl (hb hby at_41) rfl (own_cl (x := pp) (y := (55296 : Int32)) rfl rfl hc12).1 (by decide) (by decide) k) ?_
      show own_Fin _ _ _ _ _ _ _ _ (mkF m 54 #[.val (.int p1), .val (.int pp), .val (.int bb1), .unset, .unset, .unset] [])
      refine own_step (fun t k => XS.iconst X0.here hx rfl (hb hby at_54) k) ?_
      show own_Fin _ _ _ _ _ _ _ _ (mkF m 55 #[.val (.int p1), .val (.int pp), .val (.int bb1), .unset, .unset, .unset] [(.int (0 : Int32))])
      exact j55 _ (own_B0 (by omega))
    · skip
      refine own_step (fun t k => XS.icmpNo X0.here hx rfl (hb hby at_41) rfl (own_cn (x := pp) (y := (55296 : Int32)) rfl rfl hc12).1 k) ?_
      show own_Fin _ _ _ _ _ _ _ _ (mkF m 44 #[.val (.int p1), .val (.int pp), .val (.int bb1), .unset, .unset, .unset] [])
      refine own_step (fun t k => XS.iloadN X0.here hx rfl (hb hby at_44) rfl k) ?_
      show own_Fin _ _ _ _ _ _ _ _ (mkF m 45 #[.val (.int p1), .val (.int pp), .val (.int bb1), .unset, .unset, .unset] [(.int pp)])
      refine own_step (fun t k => X0.ldcInt hx hown (mvT hZ (hw _ (List.mem_of_getElem? (i := 12) rfl))) (g := (mkF m 45 #[.val (.int p1), .val (.int pp), .val (.int bb1), .unset, .unset, .unset] [(.int pp)])) rfl (hb hby at_45) _ k) ?_
      show own_Fin _ _ _ _ _ _ _ _ (mkF m 47 #[.val (.int p1), .val (.int pp), .val (.int bb1), .unset, .unset, .unset] [(.int (57343 : Int32)), (.int pp)])
      by_cases hc13 : 57343 < (pp).toInt
      · skip
        refine own_step (fun t k => XS.icmpYes X0.here hx rfl (pc0 := 47) (pc' := 54) rfl (hb hby at_47) rfl (own_cl (x := (57343 : Int32)) (y := pp) rfl rfl hc13).2.2.1 (by decide) (by decide) k) ?_
        show own_Fin _ _ _ _ _ _ _ _ (mkF m 54 #[.val (.int p1), .val (.int pp), .val (.int bb1), .unset, .unset, .unset] [])
        refine own_step (fun t k => XS.iconst X0.here hx rfl (hb hby at_54) k) ?_
        show own_Fin _ _ _ _ _ _ _ _ (mkF m 55 #[.val (.int p1), .val (.int pp), .val (.int bb1), .unset, .unset, .unset] [(.int (0 : Int32))])
        exact j55 _ (own_B0 (by omega))
      · skip
        refine own_step (fun t k => XS.icmpNo X0.here hx rfl (hb hby at_47) rfl (own_cn (x := (57343 : Int32)) (y := pp) rfl rfl hc13).2.2.1 k) ?_
        show own_Fin _ _ _ _ _ _ _ _ (mkF m 50 #[.val (.int p1), .val (.int pp), .val (.int bb1), .unset, .unset, .unset] [])
        refine own_step (fun t k => XS.iconst X0.here hx rfl (hb hby at_50) k) ?_
        show own_Fin _ _ _ _ _ _ _ _ (mkF m 51 #[.val (.int p1), .val (.int pp), .val (.int bb1), .unset, .unset, .unset] [(.int (1 : Int32))])
        refine own_step (fun t k => XS.goto X0.here hx rfl (pc0 := 51) (pc' := 55) rfl (hb hby at_51) (by decide) (by decide) k) ?_
        show own_Fin _ _ _ _ _ _ _ _ (mkF m 55 #[.val (.int p1), .val (.int pp), .val (.int bb1), .unset, .unset, .unset] [(.int (1 : Int32))])
        exact j55 _ (own_B1 (by omega))
  refine own_step (fun t k => XS.iloadN X0.here hx rfl (hb hby at_8) rfl k) ?_
  show own_Fin _ _ _ _ _ _ _ _ (mkF m 9 #[.val (.int p1), .val (.int pp), .unset, .unset, .unset, .unset] [(.int pp)])
  refine own_step (fun t k => XS.bipush X0.here hx rfl (hb hby at_9) k) ?_
  show own_Fin _ _ _ _ _ _ _ _ (mkF m 11 #[.val (.int p1), .val (.int pp), .unset, .unset, .unset, .unset] [(.int (32 : Int32)), (.int pp)])
  by_cases hc14 : (pp).toInt < 32
  · skip
    refine own_step (fun t k => XS.icmpNo X0.here hx rfl (hb hby at_11) rfl (own_cl (x := pp) (y := (32 : Int32)) rfl rfl hc14).2.1 k) ?_
    show own_Fin _ _ _ _ _ _ _ _ (mkF m 14 #[.val (.int p1), .val (.int pp), .unset, .unset, .unset, .unset] [])
    refine own_step (fun t k => XS.iloadN X0.here hx rfl (hb hby at_14) rfl k) ?_
    show own_Fin _ _ _ _ _ _ _ _ (mkF m 15 #[.val (.int p1), .val (.int pp), .unset, .unset, .unset, .unset] [(.int pp)])
    refine own_step (fun t k => XS.bipush X0.here hx rfl (hb hby at_15) k) ?_
    show own_Fin _ _ _ _ _ _ _ _ (mkF m 17 #[.val (.int p1), .val (.int pp), .unset, .unset, .unset, .unset] [(.int (9 : Int32)), (.int pp)])
    by_cases hc15 : (pp).toInt = 9
    · skip
      refine own_step (fun t k => XS.icmpYes X0.here hx rfl (pc0 := 17) (pc' := 36) rfl (hb hby at_17) rfl (own_ce (x := pp) (y := (9 : Int32)) rfl rfl hc15).1 (by decide) (by decide) k) ?_
      show own_Fin _ _ _ _ _ _ _ _ (mkF m 36 #[.val (.int p1), .val (.int pp), .unset, .unset, .unset, .unset] [])
      refine own_step (fun t k => XS.iconst X0.here hx rfl (hb hby at_36) k) ?_
      show own_Fin _ _ _ _ _ _ _ _ (mkF m 37 #[.val (.int p1), .val (.int pp), .unset, .unset, .unset, .unset] [(.int (0 : Int32))])
      exact j37 _ (own_B0 (by omega))
    · skip
      refine own_step (fun t k => XS.icmpNo X0.here hx rfl (hb hby at_17) rfl (own_cu (x := pp) (y := (9 : Int32)) rfl rfl hc15).1 k) ?_
      show own_Fin _ _ _ _ _ _ _ _ (mkF m 20 #[.val (.int p1), .val (.int pp), .unset, .unset, .unset, .unset] [])
      refine own_step (fun t k => XS.iloadN X0.here hx rfl (hb hby at_20) rfl k) ?_
      show own_Fin _ _ _ _ _ _ _ _ (mkF m 21 #[.val (.int p1), .val (.int pp), .unset, .unset, .unset, .unset] [(.int pp)])
      refine own_step (fun t k => XS.bipush X0.here hx rfl (hb hby at_21) k) ?_
      show own_Fin _ _ _ _ _ _ _ _ (mkF m 23 #[.val (.int p1), .val (.int pp), .unset, .unset, .unset, .unset] [(.int (10 : Int32)), (.int pp)])
      by_cases hc16 : (pp).toInt = 10
      · skip
        refine own_step (fun t k => XS.icmpYes X0.here hx rfl (pc0 := 23) (pc' := 36) rfl (hb hby at_23) rfl (own_ce (x := pp) (y := (10 : Int32)) rfl rfl hc16).1 (by decide) (by decide) k) ?_
        show own_Fin _ _ _ _ _ _ _ _ (mkF m 36 #[.val (.int p1), .val (.int pp), .unset, .unset, .unset, .unset] [])
        refine own_step (fun t k => XS.iconst X0.here hx rfl (hb hby at_36) k) ?_
        show own_Fin _ _ _ _ _ _ _ _ (mkF m 37 #[.val (.int p1), .val (.int pp), .unset, .unset, .unset, .unset] [(.int (0 : Int32))])
        exact j37 _ (own_B0 (by omega))
      · skip
        refine own_step (fun t k => XS.icmpNo X0.here hx rfl (hb hby at_23) rfl (own_cu (x := pp) (y := (10 : Int32)) rfl rfl hc16).1 k) ?_
        show own_Fin _ _ _ _ _ _ _ _ (mkF m 26 #[.val (.int p1), .val (.int pp), .unset, .unset, .unset, .unset] [])
        refine own_step (fun t k => XS.iloadN X0.here hx rfl (hb hby at_26) rfl k) ?_
        show own_Fin _ _ _ _ _ _ _ _ (mkF m 27 #[.val (.int p1), .val (.int pp), .unset, .unset, .unset, .unset] [(.int pp)])
        refine own_step (fun t k => XS.bipush X0.here hx rfl (hb hby at_27) k) ?_
        show own_Fin _ _ _ _ _ _ _ _ (mkF m 29 #[.val (.int p1), .val (.int pp), .unset, .unset, .unset, .unset] [(.int (13 : Int32)), (.int pp)])
        by_cases hc17 : (pp).toInt = 13
        · skip
          refine own_step (fun t k => XS.icmpYes X0.here hx rfl (pc0 := 29) (pc' := 36) rfl (hb hby at_29) rfl (own_ce (x := pp) (y := (13 : Int32)) rfl rfl hc17).1 (by decide) (by decide) k) ?_
          show own_Fin _ _ _ _ _ _ _ _ (mkF m 36 #[.val (.int p1), .val (.int pp), .unset, .unset, .unset, .unset] [])
          refine own_step (fun t k => XS.iconst X0.here hx rfl (hb hby at_36) k) ?_
          show own_Fin _ _ _ _ _ _ _ _ (mkF m 37 #[.val (.int p1), .val (.int pp), .unset, .unset, .unset, .unset] [(.int (0 : Int32))])
          exact j37 _ (own_B0 (by omega))
        · skip
          refine own_step (fun t k => XS.icmpNo X0.here hx rfl (hb hby at_29) rfl (own_cu (x := pp) (y := (13 : Int32)) rfl rfl hc17).1 k) ?_
          show own_Fin _ _ _ _ _ _ _ _ (mkF m 32 #[.val (.int p1), .val (.int pp), .unset, .unset, .unset, .unset] [])
          refine own_step (fun t k => XS.iconst X0.here hx rfl (hb hby at_32) k) ?_
          show own_Fin _ _ _ _ _ _ _ _ (mkF m 33 #[.val (.int p1), .val (.int pp), .unset, .unset, .unset, .unset] [(.int (1 : Int32))])
          refine own_step (fun t k => XS.goto X0.here hx rfl (pc0 := 33) (pc' := 37) rfl (hb hby at_33) (by decide) (by decide) k) ?_
          show own_Fin _ _ _ _ _ _ _ _ (mkF m 37 #[.val (.int p1), .val (.int pp), .unset, .unset, .unset, .unset] [(.int (1 : Int32))])
          exact j37 _ (own_B1 (by omega))
  · skip
    refine own_step (fun t k => XS.icmpYes X0.here hx rfl (pc0 := 11) (pc' := 36) rfl (hb hby at_11) rfl (own_cn (x := pp) (y := (32 : Int32)) rfl rfl hc14).2.1 (by decide) (by decide) k) ?_
    show own_Fin _ _ _ _ _ _ _ _ (mkF m 36 #[.val (.int p1), .val (.int pp), .unset, .unset, .unset, .unset] [])
    refine own_step (fun t k => XS.iconst X0.here hx rfl (hb hby at_36) k) ?_
    show own_Fin _ _ _ _ _ _ _ _ (mkF m 37 #[.val (.int p1), .val (.int pp), .unset, .unset, .unset, .unset] [(.int (0 : Int32))])
    exact j37 _ (own_B0 (by omega))
set_option maxRecDepth 65536 in
set_option maxHeartbeats 40000000 in
theorem comes_1 {Post : Tables → Env → Array Value → State → Outcome → State → Prop} (hpost : ∀ tb e args s v u, (limb_1_1.after args s (.returned v) u = true ∧ limb_1_2.after args s (.returned v) u = true ∧ True) → FrameEnd s (.returned v) u (Jvm.fieldLocs frame_1_writes args s ++ Jvm.arrayLocs frame_1_arrays args s ++ Jvm.staticLocs frame_1_statics s) 0 0 → Post tb e args s (.returned v) u) :
    ArmFor flags0 classFile x code maxLocals ret World_1 tables_1 room_1 Calls_1 rest_1 Pre_1 Post := by
  intro l hfl _ _ p e ha hc hk s m args below hf hA hF happ hP
  obtain ⟨hcalls, hrest, hpre⟩ := hP
  obtain ⟨-, -, -, hnamed, -, -, -, hat⟩ := (Spec.applies_iff hf).mp happ
  obtain ⟨hg, hn⟩ := and_e (Cond.before_iff.mp (show (Jvm.Cond.and given_1 narrow_1).before args s = true from hpre))
  obtain ⟨g1, g2⟩ := and_e hg
  obtain ⟨w0, rfl⟩ : ∃ w0 : Value, args = #[w0] := by
    have hs : args.size = 1 := by simpa [Cond.value, given_1] using g1
    obtain ⟨L⟩ := args
    match L, hs with
    | [w0], _ => exact ⟨w0, rfl⟩
  have hw := fun d (hd : d ∈ tables_1) => atoms_spec (ws := Jvm.Cond.code x code maxLocals ret :: tables_1) hat d (List.mem_cons_of_mem _ hd)
  obtain ⟨i0, ei0⟩ := is_v g2
  obtain rfl : w0 = (.int i0) := Option.some.inj ei0
  obtain ⟨n, o, h1, h2, h3, _, L, rfl, ⟨rfl, N⟩, hq⟩ := rm0 l s _ hw tables_1 i0 s.heap s.heap.size (Nat.le_refl _) p e ha hc hk s m _ below hf ((Spec.applies_iff_loose hf).mp happ).1 ⟨rfl, State.Warmed39.refl s, rfl⟩ trivial
  refine ⟨n, _, h1, h2, h3, hpost _ _ _ _ _ _ ⟨Cond.after_iff.mpr rfl, Cond.after_iff.mpr (eq_i res_at (Term.int_eval (1)) rfl), trivial⟩ ⟨hq.1, hq.2.1, (hq.2.2.sift fun y hy => Or.inr (N y hy)).mono (by decide) (by decide)⟩⟩
theorem main_1_1 : Claimed_1_1 := comes_1 fun _ _ _ _ _ _ h hF => ⟨h.1, hF⟩
theorem main_1_2 : Claimed_1_2 := comes_1 fun _ _ _ _ _ _ h hF => ⟨h.2.1, hF⟩
end Jvm.Pilot.@@N@@
namespace Jvm.Pilot.@@N@@
open Jvm Jvm.ClassFile Sem Op Lib Jvm.Free Jvm.Stand Jvm.Pilot.@@N@@.Jvm.D
/-! MADE BY PROGRAM (witnessworld.py) out of the Statement's table words and the real class files: 9 classes; the members and pool entries that the words name. The judged class is class 1, her method 1. -/
namespace start1
open Jvm.ClassFile
def u (s : String) : CpInfo := .utf8 (stringToUtf16 s)
/-- a pool by its gaps: so many unusable entries, then the entry; so many at the end -/
def gap : Nat → List CpInfo → List CpInfo
  | 0, r => r
  | n + 1, r => .unusable :: gap n r
def poolList (es : List (Nat × CpInfo)) (last : Nat) : List CpInfo := es.foldr (fun e r => gap e.1 (e.2 :: r)) (gap last [])
def pool (es : List (Nat × CpInfo)) (last : Nat) : Array CpInfo := ⟨poolList es last⟩
def fileOf (pool : Array CpInfo) (this : Nat) (attrs : Array Attribute := #[]) (ms : Array MethodInfo := #[]) (fl : Nat := 33) (sup : Nat := 0) (ifs : Array Nat := #[]) (fds : Array FieldInfo := #[]) : ClassFile where
  minorVersion := 0
  majorVersion := 65
  constantPool := pool
  accessFlags := fl
  thisClass := this
  superClass := sup
  interfaces := ifs
  fields := fds
  methods := ms
  attributes := attrs
def plain (name : String) (sup : Option ClassId) : Class where
  name := name
  kind := .ordinary
  loader := none
  accessFlags := 33
  super := sup
  interfaces := #[]
  cf := none
  fields := #[]
  methods := #[]
  instanceTypes := #[]
  staticTypes := #[]
  resolved := #[]
  callSites := []
  init := .initialized
  statics := none
  mirror := none

def pool0 : Array CpInfo := pool [(5, u "<init>"), (0, u "()V"), (1, .class_ 10), (1, u "java/lang/Object")] 113

def k0m0 : Method := { name := "<init>", desc := "()V", sig := { parameters := [], returnType := none }, accessFlags := 1, code := none }
/-- java/lang/Object -/
def k0 : Class := { plain "java/lang/Object" none with
  accessFlags := 33
  interfaces := #[]
  cf := some (fileOf pool0 8 #[] #[{ accessFlags := 1, nameIndex := 5, descriptorIndex := 6, attributes := #[] }] 33 0 #[] #[])
  fields := #[]
  methods := #[k0m0]
  instanceTypes := #[]
  staticTypes := #[]
  resolved := Array.replicate 124 none
  statics := none }

def pool1 : Array CpInfo := pool [(2, .class_ 4), (1, u "java/lang/Object"), (0, u "<init>"), (0, u "()V"), (0, .integer 2147483647), (0, .integer 1114112), (0, .integer 55296), (0, .integer 57343), (0, .integer 65534), (0, .integer 65535), (0, .methodref 14 15), (0, .class_ 16), (0, .nameAndType 17 18), (0, u "com/example/tributary/tributary/cli/Markup"), (0, u "isXmlCharacter"), (0, u "(I)Z"), (0, .class_ 20), (0, u "com/example/tributary/tributary/cli/MarkupIsXmlCharacterPinLaw"), (2, u "law")] 3

def k1m0 : Method := { name := "<init>", desc := "()V", sig := { parameters := [], returnType := none }, accessFlags := 2, code := none }
def k1c1 : Code := { maxStack := 2, maxLocals := 6, code := code, exceptionTable := #[], attributes := #[] }
def k1m1 : Method := { name := "law", desc := "(I)Z", sig := { parameters := [.int], returnType := some .boolean }, accessFlags := 9, code := some k1c1 }
/-- com/example/tributary/tributary/cli/MarkupIsXmlCharacterPinLaw -/
def k1 : Class := { plain "com/example/tributary/tributary/cli/MarkupIsXmlCharacterPinLaw" (some 0) with
  accessFlags := 49
  interfaces := #[]
  cf := some (fileOf pool1 19 #[] #[{ accessFlags := 2, nameIndex := 5, descriptorIndex := 6, attributes := #[] }, { accessFlags := 9, nameIndex := 23, descriptorIndex := 18, attributes := #[] }] 49 2 #[] #[])
  fields := #[]
  methods := #[k1m0, k1m1]
  instanceTypes := #[]
  staticTypes := #[]
  resolved := Array.replicate 27 none
  statics := none }

def pool2 : Array CpInfo := pool [(2, .class_ 4), (1, u "java/lang/Object"), (0, u "<init>"), (0, u "()V"), (22, .integer 55295), (0, .integer 57344), (0, .integer 65533), (0, .integer 65536), (0, .class_ 34), (0, u "com/example/tributary/tributary/cli/Markup"), (4, u "isXmlCharacter"), (0, u "(I)Z")] 3

def k2m0 : Method := { name := "<init>", desc := "()V", sig := { parameters := [], returnType := none }, accessFlags := 2, code := none }
def k2c1 : Code := { maxStack := 2, maxLocals := 1, code := prog_22_method_3_code, exceptionTable := #[], attributes := #[] }
def k2m1 : Method := { name := "isXmlCharacter", desc := "(I)Z", sig := { parameters := [.int], returnType := some .boolean }, accessFlags := 8, code := some k2c1 }
/-- com/example/tributary/tributary/cli/Markup -/
def k2 : Class := { plain "com/example/tributary/tributary/cli/Markup" (some 0) with
  accessFlags := 48
  interfaces := #[]
  cf := some (fileOf pool2 33 #[] #[{ accessFlags := 2, nameIndex := 5, descriptorIndex := 6, attributes := #[] }, { accessFlags := 8, nameIndex := 39, descriptorIndex := 40, attributes := #[] }] 48 2 #[] #[])
  fields := #[]
  methods := #[k2m0, k2m1]
  instanceTypes := #[]
  staticTypes := #[]
  resolved := Array.replicate 44 none
  statics := none }

def pool3 : Array CpInfo := pool [(1, u "java/lang/Cloneable"), (0, .class_ 1), (0, u "java/lang/Object"), (0, .class_ 3)] 3

/-- java/lang/Cloneable -/
def k3 : Class := { plain "java/lang/Cloneable" (some 0) with
  accessFlags := 1537
  interfaces := #[]
  cf := some (fileOf pool3 2 #[] #[] 1537 4 #[] #[])
  fields := #[]
  methods := #[]
  instanceTypes := #[]
  staticTypes := #[]
  resolved := Array.replicate 8 none
  statics := none }

def pool4 : Array CpInfo := pool [(1, u "java/io/Serializable"), (0, .class_ 1), (0, u "java/lang/Object"), (0, .class_ 3)] 3

/-- java/io/Serializable -/
def k4 : Class := { plain "java/io/Serializable" (some 0) with
  accessFlags := 1537
  interfaces := #[]
  cf := some (fileOf pool4 2 #[] #[] 1537 4 #[] #[])
  fields := #[]
  methods := #[]
  instanceTypes := #[]
  staticTypes := #[]
  resolved := Array.replicate 8 none
  statics := none }

/-- the primitive byte -/
def k5 : Class := { plain "byte" none with kind := .primitive 'B', accessFlags := 0x411 }
/-- [B -/
def k6 : Class := { plain "[B" (some 0) with kind := .array 5 .byte, interfaces := #[3, 4], accessFlags := 1041 }

/-- the primitive int -/
def k7 : Class := { plain "int" none with kind := .primitive 'I', accessFlags := 0x411 }
/-- [I -/
def k8 : Class := { plain "[I" (some 0) with kind := .array 7 .int, interfaces := #[3, 4], accessFlags := 1041 }

def heap : Heap := #[]
def classes : Array Class := #[k0, k1, k2, k3, k4, k5, k6, k7, k8]
def interned : List (Array UInt16 × Addr) := []
def slotsUsed : Nat := 0
def theMethod : MethodId := ⟨1, 1⟩
def args0 : Array Value := #[.int 5]
def aboutOver (below : List Frame) : State where
  vm := { classes := classes, interned := interned.toArray }
  heap := heap
  slotsUsed := slotsUsed
  threads := #[{ frames := .invoking theMethod args0 :: below }]
def below0 : List Frame := [.native { method := ⟨0, 0⟩, args := #[] }]
def about1 : State := aboutOver below0
def p0 : Program := .bare "" "" ""
def e0 : Env := launch0.env 0 0 0
theorem w_frames : about1.frames = Frame.invoking theMethod args0 :: below0 := rfl
set_option maxRecDepth 65536 in
theorem w_args : argsFit about1.vm theMethod args0 = true := by decide +kernel
set_option maxRecDepth 65536 in
theorem w_heap : heapFits about1 = true := by decide +kernel
set_option maxRecDepth 65536 in
theorem w_runnable : about1.curStatus? = some .runnable := by decide +kernel
set_option maxRecDepth 65536 in
theorem w_alone : about1.alone = true := by decide +kernel
set_option maxRecDepth 65536 in
theorem w_named : about1.methodNamed? x = some theMethod := by decide +kernel
set_option maxRecDepth 65536 in
theorem w_hears : about1.hears theMethod below0 = true := by decide +kernel
set_option maxRecDepth 65536 in
theorem w_ripe : about1.ripe theMethod args0 below0 = true := by decide +kernel
theorem w_running : about1.status = .running := rfl
set_option maxRecDepth 65536 in
theorem w_room : about1.hasRoom e0.platform room_1 = true :=
  launch0.hasRoom_least _ room_1 (by decide +kernel) (by decide +kernel) (by decide +kernel) (by decide +kernel) (by decide +kernel) (by decide +kernel)
theorem allAtoms_all (ts : List Jvm.Cond) (a : Array Jvm.Value) (st : Jvm.State) : (allAtoms ts).before a st = ts.all (fun c => c.before a st) := by
  induction ts with
  | nil => rfl
  | cons c t ih =>
    show (Jvm.Cond.and c (allAtoms t)).before a st = _
    rw [Jvm.Cond.before_and, ih, List.all_cons]
def words1 : List Jvm.Cond := Jvm.Cond.code x code maxLocals ret :: tables_1
/-- a 'code' word, met by the world's own term for the bytes: nothing is compared byte by byte -/
theorem code_word {y : MethodName} {bytes : ByteArray} {mx : Nat} {rt : Option FieldType} {a : Array Value} {s : State} {m : MethodId} {meth : Method} {c : Code} (h1 : s.methodNamed? y = some m) (h2 : s.vm.method? m = some meth) (h3 : meth.code = some c) (h4 : c.code = bytes)
    (h5 : (c.maxLocals == mx && c.exceptionTable.isEmpty && decide (c.maxStack ≤ mostOperands) && decide (meth.sig.returnType = rt) && !meth.locks && decide (parseMethodDescriptor y.desc = some meth.sig)) = true) : (Jvm.Cond.code y bytes mx rt).before a s = true := by
  simp only [Bool.and_eq_true, beq_iff_eq, Bool.not_eq_true', decide_eq_true_eq] at h5
  obtain ⟨⟨⟨⟨⟨g1, g2⟩, g3⟩, g4⟩, g5⟩, g6⟩ := h5
  simp [Cond.before, Cond.holds, Cond.value, h1, h2, h3, h4, g1, g2, g3, g4, g5, g6]
def isCode : Jvm.Cond → Bool
  | .code _ _ _ _ => true
  | _ => false
theorem all_split {L : List Jvm.Cond} {P : Jvm.Cond → Bool} (h1 : L.all (fun c => isCode c || P c) = true) (h2 : ∀ c ∈ L.filter isCode, P c = true) : L.all P = true := by
  refine List.all_eq_true.mpr fun c hc => ?_
  have h := List.all_eq_true.mp h1 c hc
  rcases Bool.eq_false_or_eq_true (isCode c) with hi | hi
  · exact h2 c (List.mem_filter.mpr ⟨hc, hi⟩)
  · simpa [hi] using h
set_option maxRecDepth 65536 in
theorem w_c0 : (Jvm.Cond.code x code maxLocals ret).before args0 about1 = true := code_word (m := ⟨1, 1⟩) (meth := k1m1) (c := k1c1) (by decide +kernel) rfl rfl rfl (by decide +kernel)
set_option maxRecDepth 65536 in
theorem w_c1 : (Jvm.Cond.code ({ cls := "com/example/tributary/tributary/cli/Markup", name := "isXmlCharacter", desc := "(I)Z" } : Jvm.MethodName) prog_22_method_3_code (1 : Nat) (Option.some Jvm.ClassFile.FieldType.boolean)).before args0 about1 = true := code_word (m := ⟨2, 1⟩) (meth := k2m1) (c := k2c1) (by decide +kernel) rfl rfl rfl (by decide +kernel)
def codes1 : List Jvm.Cond := [Jvm.Cond.code x code maxLocals ret, Jvm.Cond.code ({ cls := "com/example/tributary/tributary/cli/Markup", name := "isXmlCharacter", desc := "(I)Z" } : Jvm.MethodName) prog_22_method_3_code (1 : Nat) (Option.some Jvm.ClassFile.FieldType.boolean)]
set_option maxRecDepth 65536 in
theorem codes_eq : words1.filter isCode = codes1 := rfl
theorem w_codes : ∀ c ∈ words1.filter isCode, c.before args0 about1 = true := by
  rw [codes_eq]
  intro c hc
  simp only [codes1, List.mem_cons, List.not_mem_nil, or_false] at hc
  rcases hc with rfl | rfl
  · exact w_c0
  · exact w_c1
set_option maxRecDepth 65536 in
theorem w_t1 : words1.all (fun c => isCode c || c.before args0 about1) = true := by decide +kernel
theorem w_tables : (allAtoms (Jvm.Cond.code x code maxLocals ret :: tables_1)).before args0 about1 = true := by
  rw [allAtoms_all]
  show words1.all (fun c => c.before args0 about1) = true
  refine all_split ?_ w_codes
  rw [w_t1]
set_option maxRecDepth 65536 in
theorem w_case : (Jvm.Cond.and given_1 narrow_1).before args0 about1 = true := by decide +kernel
theorem w_applies : (headSpec (Jvm.Cond.code x code maxLocals ret :: tables_1) room_1).applies x e0.platform about1 = true :=
  (Spec.applies_iff w_frames).mpr ⟨w_running, w_runnable, w_alone, w_named, w_hears, w_ripe, w_room, w_tables⟩
theorem atStart : AtStart classFile x code maxLocals ret World_1 tables_1 room_1 Calls_1 rest_1 Pre_1 launch0 p0 e0 about1 theMethod args0 below0 :=
  ⟨lists_1, trivial, launch0.admits_env _ _ _, launch0.least_env, fairChoices_fair.cas, fairChoices_fair.clock, w_frames, w_args, w_heap, w_applies, trivial, trivial, w_case⟩
end start1
theorem witness_1 : WitnessClaimed_1 := ⟨start1.p0, start1.e0, start1.about1, start1.theMethod, start1.args0, start1.below0, start1.atStart⟩
end Jvm.Pilot.@@N@@
