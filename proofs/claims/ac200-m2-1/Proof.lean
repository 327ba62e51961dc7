import JvmDerived
import JvmDerived.Pilot.@@N@@Statement
import JvmDerived.Pilot.@@N@@Code
set_option linter.unusedVariables false
set_option linter.unusedSimpArgs false
namespace Jvm.Pilot.@@N@@
open Jvm Jvm.ClassFile Sem Op Lib Jvm.Free Jvm.Stand Jvm.LawKit Jvm.RoadKit Bundle Jvm.Pilot.@@N@@.Jvm.D
/-! Own kit. own_Fin: from this frame the run comes to the method's end, and Q holds of what it leaves. -/
def own_Fin (p : Program) (e : Env) (below : List Frame) (s : State) (Q : Option Value → Heap → List Loc → Prop) (cl sl : Nat) (T : State) (f : JFrame) : Prop :=
  ∃ s₂ o, Steps p.tables e below (T.setTop f) s₂ ∧ s₂.status = .running ∧ Ended s₂ below o ∧ (∃ v L, o = .returned v ∧ Q v s₂.heap L ∧ FrameEnd s o s₂ L cl sl)
section OwnKit
variable {p : Program} {l : Launch} {e : Env} {R : Room} {s : State} {m : MethodId} {args : Array Value} {below : List Frame} {meth : Method} {c : Code} {T : State} {locs : List Loc} {cells slots : Nat} {Q : Option Value → Heap → List Loc → Prop} {cl sl : Nat} {Z : State} {a0 : Array Value} {h h' : Heap} {a b : Addr}
theorem own_step {T' : State} {f f' : JFrame} (k : ∀ t, Steps p.tables e below (T'.setTop f') t → Steps p.tables e below (T.setTop f) t) (r : own_Fin p e below s Q cl sl T' f') : own_Fin p e below s Q cl sl T f := by
  obtain ⟨s₂, o, h1, h2⟩ := r
  exact ⟨s₂, o, k _ h1, h2⟩
theorem own_stepT {T' : State} {f f' : JFrame} (k : Steps p.tables e below (T.setTop f) (T'.setTop f')) (r : own_Fin p e below s Q cl sl T' f') : own_Fin p e below s Q cl sl T f := by
  obtain ⟨s₂, o, h1, h2⟩ := r
  exact ⟨s₂, o, k.trans h1, h2⟩
theorem own_retZ (X : Stand p l e R s m args below meth c T locs cells slots) (hx : p.tables.exec = Jvm.exec) (hlocks : meth.locks = false) (hret : meth.sig.returnType = some .boolean) {pc : Nat} {Ls : Array Slot} {z z' : Int32} {rest : List Value} (hd : decode c.code pc = .ok (.ireturn, 1))
    (hn : nar .boolean z = z') (hc : cells ≤ cl) (hs : slots ≤ sl) (hT : T.heap = h) (hq : Q (some (.int z')) h locs) : own_Fin p e below s Q cl sl T (mkF m pc Ls (.int z :: rest)) := by
  subst hn hT
  obtain ⟨fs, hr, hrun, hended, hW, hsame⟩ := X.leave (v := some (.int (nar .boolean z))) (fun h => by rw [hret] at h; cases h)
  exact ⟨_, _, retN X hx hret (by simp) hd hr, hrun, hended, _, _, rfl, hq, ⟨_, rfl⟩, hW, hsame.mono hc hs⟩
theorem own_retI (X : Stand p l e R s m args below meth c T locs cells slots) (hx : p.tables.exec = Jvm.exec) (hlocks : meth.locks = false) (hret : meth.sig.returnType = some .int) {pc : Nat} {Ls : Array Slot} {z : Int32} {rest : List Value} (hd : decode c.code pc = .ok (.ireturn, 1))
    (hc : cells ≤ cl) (hs : slots ≤ sl) (hT : T.heap = h) (hq : Q (some (.int z)) h locs) : own_Fin p e below s Q cl sl T (mkF m pc Ls (.int z :: rest)) := by
  subst hT
  obtain ⟨fs, hr, hrun, hended, hW, hsame⟩ := X.leave (v := some (.int z)) (fun h => by rw [hret] at h; cases h)
  refine ⟨_, _, ?_, hrun, hended, _, _, rfl, hq, ⟨_, rfl⟩, hW, hsame.mono hc hs⟩
  have hm' : T.vm.method? m = some meth := X.method'
  have hn : narrow .int (.int z) = .int z := rfl
  show Steps p.tables e below (T.setTop { method := m, pc := pc, locals := Ls, stack := _ :: rest, locked := none }) _
  jvm_step X.here [X.here.top, hx, hd, hm', hret, hn]
  first | (intro acts; rw [hr _ acts rfl rfl rfl]) | rw [hr _ _ rfl rfl rfl]
  exact Steps.refl _
theorem own_retJ (X : Stand p l e R s m args below meth c T locs cells slots) (hx : p.tables.exec = Jvm.exec) (hlocks : meth.locks = false) (hret : meth.sig.returnType = some .long) {pc : Nat} {Ls : Array Slot} {z : Int64} (hd : decode c.code pc = .ok (.lreturn, 1))
    (hc : cells ≤ cl) (hs : slots ≤ sl) (hT : T.heap = h) (hq : Q (some (.long z)) h locs) : own_Fin p e below s Q cl sl T (mkF m pc Ls [.long z]) := by
  subst hT
  obtain ⟨fs, hr, hrun, hended, hW, hsame⟩ := X.leave (v := some (.long z)) (fun h => by rw [hret] at h; cases h)
  exact ⟨_, _, X.lreturnOut hx hret hd hr, hrun, hended, _, _, rfl, hq, ⟨_, rfl⟩, hW, hsame.mono hc hs⟩
theorem own_retV (X : Stand p l e R s m args below meth c T locs cells slots) (hx : p.tables.exec = Jvm.exec) (hlocks : meth.locks = false) (hret : meth.sig.returnType = none) {pc : Nat} {Ls : Array Slot} (hd : decode c.code pc = .ok (.return_, 1))
    (hc : cells ≤ cl) (hs : slots ≤ sl) (hT : T.heap = h) (hq : Q none h locs) : own_Fin p e below s Q cl sl T (mkF m pc Ls []) := by
  subst hT
  obtain ⟨fs, hr, hrun, hended, hW, hsame⟩ := X.leave (v := none) (fun _ => rfl)
  exact ⟨_, _, X.returnOut hx hret hd hr, hrun, hended, _, _, rfl, hq, ⟨_, rfl⟩, hW, hsame.mono hc hs⟩
theorem own_retR (X : Stand p l e R s m args below meth c T locs cells slots) (hx : p.tables.exec = Jvm.exec) (hlocks : meth.locks = false) {t : FieldType} (hret : meth.sig.returnType = some t) (ht : t.isReference = true) {pc : Nat} {Ls : Array Slot} {z : Value} (hz : z.isRef = true) (hd : decode c.code pc = .ok (.areturn, 1))
    (hc : cells ≤ cl) (hs : slots ≤ sl) (hT : T.heap = h) (hq : Q (some z) h locs) : own_Fin p e below s Q cl sl T (mkF m pc Ls [z]) := by
  subst hT
  obtain ⟨fs, hr, hrun, hended, hW, hsame⟩ := X.leave (v := some z) (fun h => by rw [hret] at h; cases h)
  refine ⟨_, _, ?_, hrun, hended, _, _, rfl, hq, ⟨_, rfl⟩, hW, hsame.mono hc hs⟩
  have hm' : T.vm.method? m = some meth := X.method'
  jvm_step X.here [X.here.top, hx, hd, hm', hret, ht, hz]
  first | (intro acts; rw [hr _ acts rfl rfl rfl]) | rw [hr _ _ rfl rfl rfl]
  exact Steps.refl _
/-! comparisons, said over Int -/
theorem own_cl {x y : Int32} {a b : Int} (ha : x.toInt = a) (hb : y.toInt = b) (h : a < b) : if_icmp.holds .lt x y = true ∧ if_icmp.holds .ge x y = false ∧ if_icmp.holds .gt y x = true ∧ if_icmp.holds .le y x = false := tlt (by rw [Int32.lt_iff_toInt_lt, ha, hb]; exact h)
theorem own_cn {x y : Int32} {a b : Int} (ha : x.toInt = a) (hb : y.toInt = b) (h : ¬ a < b) : if_icmp.holds .lt x y = false ∧ if_icmp.holds .ge x y = true ∧ if_icmp.holds .gt y x = false ∧ if_icmp.holds .le y x = true := flt (by rw [Int32.lt_iff_toInt_lt, ha, hb]; exact h)
theorem own_ce {x y : Int32} {a b : Int} (ha : x.toInt = a) (hb : y.toInt = b) (h : a = b) : if_icmp.holds .eq x y = true ∧ if_icmp.holds .ne x y = false := teq (by rw [← Int32.toInt_inj, ha, hb]; exact h)
theorem own_cu {x y : Int32} {a b : Int} (ha : x.toInt = a) (hb : y.toInt = b) (h : ¬ a = b) : if_icmp.holds .eq x y = false ∧ if_icmp.holds .ne x y = true := feq (by rw [← Int32.toInt_inj, ha, hb]; exact h)
theorem own_ll {x y : Int64} {a b : Int} (ha : x.toInt = a) (hb : y.toInt = b) (h : a < b) : ifCond.holds .lt (lcmpW x y) = true ∧ ifCond.holds .ge (lcmpW x y) = false ∧ ifCond.holds .gt (lcmpW y x) = true ∧ ifCond.holds .le (lcmpW y x) = false := by
  have q : x < y := by rw [Int64.lt_iff_toInt_lt, ha, hb]; exact h
  have h1 := tlt ((lw_lt x y).mpr q)
  have h2 := tlt ((lw_gt y x).mpr q)
  exact ⟨(if0 _ _).trans h1.1, (if0 _ _).trans h1.2.1, (if0 _ _).trans h2.2.2.1, (if0 _ _).trans h2.2.2.2⟩
theorem own_ln {x y : Int64} {a b : Int} (ha : x.toInt = a) (hb : y.toInt = b) (h : ¬ a < b) : ifCond.holds .lt (lcmpW x y) = false ∧ ifCond.holds .ge (lcmpW x y) = true ∧ ifCond.holds .gt (lcmpW y x) = false ∧ ifCond.holds .le (lcmpW y x) = true := by
  have q : ¬ x < y := by rw [Int64.lt_iff_toInt_lt, ha, hb]; exact h
  have h1 := flt (fun r => q ((lw_lt x y).mp r))
  have h2 := flt (fun r => q ((lw_gt y x).mp r))
  exact ⟨(if0 _ _).trans h1.1, (if0 _ _).trans h1.2.1, (if0 _ _).trans h2.2.2.1, (if0 _ _).trans h2.2.2.2⟩
theorem own_le {x y : Int64} {a b : Int} (ha : x.toInt = a) (hb : y.toInt = b) (h : a = b) : ifCond.holds .eq (lcmpW x y) = true ∧ ifCond.holds .ne (lcmpW x y) = false := by
  have q : x = y := by rw [← Int64.toInt_inj, ha, hb]; exact h
  have h1 := teq ((lw_eq x y).mpr q)
  exact ⟨(if0 _ _).trans h1.1, (if0 _ _).trans h1.2⟩
theorem own_lu {x y : Int64} {a b : Int} (ha : x.toInt = a) (hb : y.toInt = b) (h : ¬ a = b) : ifCond.holds .eq (lcmpW x y) = false ∧ ifCond.holds .ne (lcmpW x y) = true := by
  have q : ¬ x = y := by rw [← Int64.toInt_inj, ha, hb]; exact h
  have h1 := feq (fun r => q ((lw_eq x y).mp r))
  exact ⟨(if0 _ _).trans h1.1, (if0 _ _).trans h1.2⟩
/-! a boolean as an int -/
abbrev own_B (r : Int32) (P : Prop) : Prop := (r.toInt = 1 ∧ P) ∨ (r.toInt = 0 ∧ ¬ P)
theorem own_B1 {P : Prop} (h : P) : own_B 1 P := Or.inl ⟨rfl, h⟩
theorem own_B0 {P : Prop} (h : ¬ P) : own_B 0 P := Or.inr ⟨rfl, h⟩
theorem own_B.lit {r : Int32} {P : Prop} (H : own_B r P) : (r = 1 ∧ P) ∨ (r = 0 ∧ ¬ P) := by
  rcases H with ⟨q, h⟩ | ⟨q, h⟩
  · exact Or.inl ⟨Int32.toInt_inj.mp q, h⟩
  · exact Or.inr ⟨Int32.toInt_inj.mp q, h⟩
/-! arrays: their length and what each place holds -/
def own_A (Z : State) (h : Heap) (a : Addr) (ty : FieldType) (n : Nat) (f : Nat → Value) : Prop := ∃ c : Cell, Arr Z h a c ty ∧ c.slots.size = n ∧ ∀ i, i < n → c.slots[i]? = some (f i)
def own_AI (Z : State) (h : Heap) (a : Addr) (ty : FieldType) (n : Nat) (f : Nat → Int32) : Prop := own_A Z h a ty n (fun i => .int (f i))
def own_AJ (Z : State) (h : Heap) (a : Addr) (n : Nat) (f : Nat → Int64) : Prop := own_A Z h a .long n (fun i => .long (f i))
variable {ty : FieldType} {n : Nat} {fv : Nat → Value} {fi : Nat → Int32} {fj : Nat → Int64}
theorem own_A.lt (F : own_A Z h a ty n fv) : a < h.size := by obtain ⟨c, A, -⟩ := F; exact A.lt
theorem own_A.ext (F : own_A Z h a ty n fv) (E : Ext h h') : own_A Z h' a ty n fv := by obtain ⟨c, A, r⟩ := F; exact ⟨c, A.ext E, r⟩
theorem own_A.other {sl : Nat} {v : Value} (F : own_A Z h a ty n fv) (W : Wr h h' b sl v) (q : a ≠ b) : own_A Z h' a ty n fv := by obtain ⟨c, A, r⟩ := F; exact ⟨c, A.other W q, r⟩
theorem own_A.keep {ws : List Addr} (F : own_A Z h a ty n fv) (K : Keep h h' ws) (q : a ∉ ws) : own_A Z h' a ty n fv := by obtain ⟨c, A, r⟩ := F; exact ⟨c, ⟨K.2.1 a c A.1 q, A.2⟩, r⟩
theorem own_A.congr {gv : Nat → Value} (F : own_A Z h a ty n fv) (q : ∀ i, i < n → fv i = gv i) : own_A Z h a ty n gv := by obtain ⟨c, A, r, t⟩ := F; exact ⟨c, A, r, fun i hi => by rw [t i hi, q i hi]⟩
theorem own_A.set {j : Nat} {v : Value} (F : own_A Z h a ty n fv) (W : Wr h h' a j v) : own_A Z h' a ty n (fun i => if i = j then v else fv i) := by
  obtain ⟨c, A, r, t⟩ := F
  have W0 := W
  obtain ⟨c2, h1, -, h3, -⟩ := W0
  have ec : c2 = c := Option.some.inj (h1.symm.trans A.1)
  subst ec
  refine ⟨_, A.same W, by rw [sz_set]; exact r, fun i hi => ?_⟩
  by_cases q : i = j
  · subst q; simp [Cell.setSlot, h3]
  · simp only [q, if_false]; rw [← t i hi]; simp only [Cell.setSlot]; exact Array.getElem?_setIfInBounds_ne fun z => q z.symm
theorem own_A.new {k : ClassId} {z : Int32} (A : Arr Z h a (newA k ty z) ty) (q : z.toNatClampNeg = n) : own_A Z h a ty n (fun _ => defaultValue ty) := by
  subst q
  exact ⟨_, A, sz_new _ _ _, fun i hi => by simp [newA, hi]⟩
theorem own_AI.lt (F : own_AI Z h a ty n fi) : a < h.size := own_A.lt F
theorem own_AI.ext (F : own_AI Z h a ty n fi) (E : Ext h h') : own_AI Z h' a ty n fi := own_A.ext F E
theorem own_AI.other {sl : Nat} {v : Value} (F : own_AI Z h a ty n fi) (W : Wr h h' b sl v) (q : a ≠ b) : own_AI Z h' a ty n fi := own_A.other F W q
theorem own_AI.keep {ws : List Addr} (F : own_AI Z h a ty n fi) (K : Keep h h' ws) (q : a ∉ ws) : own_AI Z h' a ty n fi := own_A.keep F K q
theorem own_AI.congr {gi : Nat → Int32} (F : own_AI Z h a ty n fi) (q : ∀ i, i < n → fi i = gi i) : own_AI Z h a ty n gi := own_A.congr F fun i hi => by rw [q i hi]
theorem own_AI.set {j : Nat} {x : Int32} (F : own_AI Z h a ty n fi) (W : Wr h h' a j (.int x)) : own_AI Z h' a ty n (fun i => if i = j then x else fi i) := (own_A.set F W).congr fun i _ => by by_cases q : i = j <;> simp [q]
theorem own_AI.newI {k : ClassId} {z : Int32} (A : Arr Z h a (newA k .int z) .int) (q : z.toNatClampNeg = n) : own_AI Z h a .int n (fun _ => 0) := own_A.new A q
theorem own_AI.newB {k : ClassId} {z : Int32} (A : Arr Z h a (newA k .byte z) .byte) (q : z.toNatClampNeg = n) : own_AI Z h a .byte n (fun _ => 0) := own_A.new A q
theorem own_AJ.lt (F : own_AJ Z h a n fj) : a < h.size := own_A.lt F
theorem own_AJ.ext (F : own_AJ Z h a n fj) (E : Ext h h') : own_AJ Z h' a n fj := own_A.ext F E
theorem own_AJ.other {sl : Nat} {v : Value} (F : own_AJ Z h a n fj) (W : Wr h h' b sl v) (q : a ≠ b) : own_AJ Z h' a n fj := own_A.other F W q
theorem own_AJ.keep {ws : List Addr} (F : own_AJ Z h a n fj) (K : Keep h h' ws) (q : a ∉ ws) : own_AJ Z h' a n fj := own_A.keep F K q
theorem own_AJ.congr {gj : Nat → Int64} (F : own_AJ Z h a n fj) (q : ∀ i, i < n → fj i = gj i) : own_AJ Z h a n gj := own_A.congr F fun i hi => by rw [q i hi]
theorem own_AJ.set {j : Nat} {x : Int64} (F : own_AJ Z h a n fj) (W : Wr h h' a j (.long x)) : own_AJ Z h' a n (fun i => if i = j then x else fj i) := (own_A.set F W).congr fun i _ => by by_cases q : i = j <;> simp [q]
theorem own_AJ.new {k : ClassId} {z : Int32} (A : Arr Z h a (newA k .long z) .long) (q : z.toNatClampNeg = n) : own_AJ Z h a n (fun _ => 0) := own_A.new A q
theorem own_in {j : Int32} {k n : Nat} (hj : j.toInt = (k : Int)) (hk : k < n) : j.toNatClampNeg = k ∧ ¬ (j < 0 ∨ n ≤ j.toNatClampNeg) := by
  have q : j.toNatClampNeg = k := by simp only [Int32.toNatClampNeg, hj]; omega
  refine ⟨q, fun z => ?_⟩
  rcases z with z | z
  · rw [Int32.lt_iff_toInt_lt, hj] at z
    have : (0 : Int32).toInt = 0 := rfl
    omega
  · omega
theorem own_iaload (X : Stand p l e R s m args below meth c T locs cells slots) (hx : p.tables.exec = Jvm.exec) (hZ : Z.Warmed39 s.vm) (eT : T.heap = h) (F : own_AI Z h a .int n fi) {j : Int32} {k : Nat} (hj : j.toInt = (k : Int)) (hk : k < n) {v : Int32} (hv : fi k = v) {pc pc' : Nat} {Ls : Array Slot} {rest : List Value}
    (hd : decode c.code pc = .ok (.iaload, 1)) (hp : pc + 1 = pc') (r : own_Fin p e below s Q cl sl T (mkF m pc' Ls (.int v :: rest))) : own_Fin p e below s Q cl sl T (mkF m pc Ls (.int j :: .ref a :: rest)) := by
  obtain ⟨cc, A, h1, h2⟩ := F
  obtain ⟨q1, q2⟩ := own_in hj hk
  subst hp hv
  exact own_step (fun t k' => X.iaload hx (j := j) (v := .int (fi k)) (by rw [eT]; exact A.1) (State.isArrayOf_alike hZ.alike A.2.1) A.2.2 (by rw [h1]; exact q2) (by rw [q1]; exact h2 k hk) (g := mkF m pc Ls (.int j :: .ref a :: rest)) rfl rfl hd _ k') r
theorem own_baload (X : Stand p l e R s m args below meth c T locs cells slots) (hx : p.tables.exec = Jvm.exec) (hZ : Z.Warmed39 s.vm) (eT : T.heap = h) (F : own_AI Z h a .byte n fi) {j : Int32} {k : Nat} (hj : j.toInt = (k : Int)) (hk : k < n) {v : Int32} (hv : fi k = v) {pc pc' : Nat} {Ls : Array Slot} {rest : List Value}
    (hd : decode c.code pc = .ok (.baload, 1)) (hp : pc + 1 = pc') (r : own_Fin p e below s Q cl sl T (mkF m pc' Ls (.int v :: rest))) : own_Fin p e below s Q cl sl T (mkF m pc Ls (.int j :: .ref a :: rest)) := by
  obtain ⟨cc, A, h1, h2⟩ := F
  obtain ⟨q1, q2⟩ := own_in hj hk
  subst hp hv
  exact own_step (fun t k' => X.baloadBytes hx (j := j) (v := .int (fi k)) (by rw [eT]; exact A.1) (State.isArrayOf_alike hZ.alike A.2.1) A.2.2 (by rw [h1]; exact q2) (by rw [q1]; exact h2 k hk) (g := mkF m pc Ls (.int j :: .ref a :: rest)) rfl rfl hd _ k') r
theorem own_laload (X : Stand p l e R s m args below meth c T locs cells slots) (hx : p.tables.exec = Jvm.exec) (hZ : Z.Warmed39 s.vm) (eT : T.heap = h) (F : own_AJ Z h a n fj) {j : Int32} {k : Nat} (hj : j.toInt = (k : Int)) (hk : k < n) {v : Int64} (hv : fj k = v) {pc pc' : Nat} {Ls : Array Slot} {rest : List Value}
    (hd : decode c.code pc = .ok (.laload, 1)) (hp : pc + 1 = pc') (r : own_Fin p e below s Q cl sl T (mkF m pc' Ls (.long v :: rest))) : own_Fin p e below s Q cl sl T (mkF m pc Ls (.int j :: .ref a :: rest)) := by
  obtain ⟨cc, A, h1, h2⟩ := F
  obtain ⟨q1, q2⟩ := own_in hj hk
  subst hp hv
  exact own_step (fun t k' => X.laload hx (j := j) (v := .long (fj k)) (by rw [eT]; exact A.1) (State.isArrayOf_alike hZ.alike A.2.1) A.2.2 (by rw [h1]; exact q2) (by rw [q1]; exact h2 k hk) (g := mkF m pc Ls (.int j :: .ref a :: rest)) rfl rfl hd _ k') r
theorem own_arrlen (X : Stand p l e R s m args below meth c T locs cells slots) (hx : p.tables.exec = Jvm.exec) (hZ : Z.Warmed39 s.vm) (eT : T.heap = h) (F : own_A Z h a ty n fv) {z : Int32} (hz : n.toInt32 = z) {pc pc' : Nat} {Ls : Array Slot} {rest : List Value}
    (hd : decode c.code pc = .ok (.arraylength, 1)) (hp : pc + 1 = pc') (r : own_Fin p e below s Q cl sl T (mkF m pc' Ls (.int z :: rest))) : own_Fin p e below s Q cl sl T (mkF m pc Ls (.ref a :: rest)) := by
  obtain ⟨cc, A, h1, h2⟩ := F
  subst hp hz
  exact own_step (fun t k' => X.arraylength hx (by rw [eT]; exact A.1) (State.isArrayOf_alike hZ.alike A.2.1) (g := mkF m pc Ls (.ref a :: rest)) rfl rfl hd _ (by rw [h1]; exact k')) r
theorem own_iastore (X : Stand p l e R s m args below meth c T locs cells slots) (hx : p.tables.exec = Jvm.exec) (hZ : Z.Warmed39 s.vm) (eT : T.heap = h) (F : own_AI Z h a .int n fi) {j : Int32} {k : Nat} (hj : j.toInt = (k : Int)) (hk : k < n) {x : Int32} {pc pc' : Nat} {Ls : Array Slot} {rest : List Value}
    (hd : decode c.code pc = .ok (.iastore, 1)) (hp : pc + 1 = pc') :
    ∃ T' h', Stand p l e R s m args below meth c T' (locs ++ [⟨a, k⟩]) cells slots ∧ T'.heap = h' ∧ Wr h h' a k (.int x) ∧ own_AI Z h' a .int n (fun i => if i = k then x else fi i) ∧ ∀ t, Steps p.tables e below (T'.setTop (mkF m pc' Ls rest)) t → Steps p.tables e below (T.setTop (mkF m pc Ls (.int x :: .int j :: .ref a :: rest))) t := by
  obtain ⟨q1, q2⟩ := own_in hj hk
  have F' := F
  obtain ⟨cc, A, h1, h2⟩ := F
  subst hp q1
  obtain ⟨T', h', X', e', W', st⟩ := stI X hx hZ eT A (j := j) (x := x) (by rw [h1]; exact q2) (g := mkF m pc Ls (.int x :: .int j :: .ref a :: rest)) rfl rfl hd
  exact ⟨T', h', X', e', W', F'.set W', st⟩
theorem own_bastore (X : Stand p l e R s m args below meth c T locs cells slots) (hx : p.tables.exec = Jvm.exec) (hZ : Z.Warmed39 s.vm) (eT : T.heap = h) (F : own_AI Z h a .byte n fi) {j : Int32} {k : Nat} (hj : j.toInt = (k : Int)) (hk : k < n) {x y : Int32} (hn : nar .byte x = y) {pc pc' : Nat} {Ls : Array Slot} {rest : List Value}
    (hd : decode c.code pc = .ok (.bastore, 1)) (hp : pc + 1 = pc') :
    ∃ T' h', Stand p l e R s m args below meth c T' (locs ++ [⟨a, k⟩]) cells slots ∧ T'.heap = h' ∧ Wr h h' a k (.int y) ∧ own_AI Z h' a .byte n (fun i => if i = k then y else fi i) ∧ ∀ t, Steps p.tables e below (T'.setTop (mkF m pc' Ls rest)) t → Steps p.tables e below (T.setTop (mkF m pc Ls (.int x :: .int j :: .ref a :: rest))) t := by
  obtain ⟨q1, q2⟩ := own_in hj hk
  have F' := F
  obtain ⟨cc, A, h1, h2⟩ := F
  subst hp q1 hn
  obtain ⟨T', h', X', e', W', st⟩ := stB X hx hZ eT A (j := j) (x := x) (by rw [h1]; exact q2) (g := mkF m pc Ls (.int x :: .int j :: .ref a :: rest)) rfl rfl hd
  exact ⟨T', h', X', e', W', F'.set W', st⟩
theorem own_lastore (X : Stand p l e R s m args below meth c T locs cells slots) (hx : p.tables.exec = Jvm.exec) (hZ : Z.Warmed39 s.vm) (eT : T.heap = h) (F : own_AJ Z h a n fj) {j : Int32} {k : Nat} (hj : j.toInt = (k : Int)) (hk : k < n) {x : Int64} {pc pc' : Nat} {Ls : Array Slot} {rest : List Value}
    (hd : decode c.code pc = .ok (.lastore, 1)) (hp : pc + 1 = pc') :
    ∃ T' h', Stand p l e R s m args below meth c T' (locs ++ [⟨a, k⟩]) cells slots ∧ T'.heap = h' ∧ Wr h h' a k (.long x) ∧ own_AJ Z h' a n (fun i => if i = k then x else fj i) ∧ ∀ t, Steps p.tables e below (T'.setTop (mkF m pc' Ls rest)) t → Steps p.tables e below (T.setTop (mkF m pc Ls (.long x :: .int j :: .ref a :: rest))) t := by
  obtain ⟨q1, q2⟩ := own_in hj hk
  have F' := F
  obtain ⟨cc, A, h1, h2⟩ := F
  subst hp q1
  obtain ⟨T', h', X', e', W', st⟩ := stJ X hx hZ eT A (j := j) (x := x) (by rw [h1]; exact q2) (g := mkF m pc Ls (.long x :: .int j :: .ref a :: rest)) rfl rfl hd
  exact ⟨T', h', X', e', W', F'.set W', st⟩
theorem own_nar8 (x : Int32) : nar .byte x.toInt8.toInt32 = x.toInt8.toInt32 := by
  show (x.toInt8.toInt32).toInt8.toInt32 = x.toInt8.toInt32
  simp
end OwnKit
def own_s30 (z : Int64) : Int64 := z ^^^ ((z.toUInt64 >>> ((30 : Int32) &&& 0x3f).toInt64.toUInt64).toInt64)
def own_s27 (z : Int64) : Int64 := z ^^^ ((z.toUInt64 >>> ((27 : Int32) &&& 0x3f).toInt64.toUInt64).toInt64)
def own_s31 (z : Int64) : Int64 := z ^^^ ((z.toUInt64 >>> ((31 : Int32) &&& 0x3f).toInt64.toUInt64).toInt64)
def own_t30 (z : Int64) : Int64 := (z ^^^ ((z.toUInt64 >>> ((30 : Int32) &&& 0x3f).toInt64.toUInt64).toInt64)) ^^^ ((z.toUInt64 >>> ((60 : Int32) &&& 0x3f).toInt64.toUInt64).toInt64)
def own_t27 (z : Int64) : Int64 := (z ^^^ ((z.toUInt64 >>> ((27 : Int32) &&& 0x3f).toInt64.toUInt64).toInt64)) ^^^ ((z.toUInt64 >>> ((54 : Int32) &&& 0x3f).toInt64.toUInt64).toInt64)
def own_t31 (z : Int64) : Int64 := (z ^^^ ((z.toUInt64 >>> ((31 : Int32) &&& 0x3f).toInt64.toUInt64).toInt64)) ^^^ ((z.toUInt64 >>> ((62 : Int32) &&& 0x3f).toInt64.toUInt64).toInt64)
def own_mix (z : Int64) : Int64 := own_s31 (own_s27 (own_s30 z * (-4658895280553007687 : Int64)) * (-7723592293110705685 : Int64))
def own_nw (a x : Int64) : Int64 := x * ((2 : Int64) - a * x)
def own_inv (a : Int64) : Int64 := own_nw a (own_nw a (own_nw a (own_nw a (own_nw a a))))
def own_unmix (r : Int64) : Int64 := own_t30 (own_t27 (own_t31 r * own_inv (-7723592293110705685 : Int64)) * own_inv (-4658895280553007687 : Int64))
theorem own_ST (y : BitVec 64) (j : Nat) (h : 64 ≤ j + (j + j)) : ((y ^^^ y >>> j) ^^^ (y ^^^ y >>> j) >>> j) ^^^ (y ^^^ y >>> j) >>> (j + j) = y := by
  have e1 : (y ^^^ y >>> j) >>> j = y >>> j ^^^ y >>> (j + j) := by rw [BitVec.ushiftRight_xor_distrib, ← BitVec.shiftRight_add]
  have e2 : (y ^^^ y >>> j) >>> (j + j) = y >>> (j + j) ^^^ 0#64 := by rw [BitVec.ushiftRight_xor_distrib, ← BitVec.shiftRight_add, BitVec.ushiftRight_eq_zero h]
  rw [e1, e2]
  generalize y >>> j = b
  generalize y >>> (j + j) = c
  apply BitVec.eq_of_getLsbD_eq
  intro i hi
  simp only [BitVec.getLsbD_xor, BitVec.getLsbD_zero]
  cases y.getLsbD i <;> cases b.getLsbD i <;> cases c.getLsbD i <;> rfl
theorem own_ts30 (y : Int64) : own_t30 (own_s30 y) = y := by
  apply Int64.toBitVec_inj.mp
  exact own_ST y.toBitVec 30 (by decide)
theorem own_ts27 (y : Int64) : own_t27 (own_s27 y) = y := by
  apply Int64.toBitVec_inj.mp
  exact own_ST y.toBitVec 27 (by decide)
theorem own_ts31 (y : Int64) : own_t31 (own_s31 y) = y := by
  apply Int64.toBitVec_inj.mp
  exact own_ST y.toBitVec 31 (by decide)
theorem own_back (z : Int64) : own_unmix (own_mix z) = z := by
  have a1 : (-4658895280553007687 : Int64) * own_inv (-4658895280553007687 : Int64) = 1 := by decide +kernel
  have a2 : (-7723592293110705685 : Int64) * own_inv (-7723592293110705685 : Int64) = 1 := by decide +kernel
  unfold own_unmix own_mix
  rw [own_ts31, Int64.mul_assoc, a2, Int64.mul_one, own_ts27, Int64.mul_assoc, a1, Int64.mul_one, own_ts30]
theorem d1_0 : decode prog_2_method_1_code 0 = .ok (.aload_n 0, 1) := by decide +kernel
theorem d1_1 : decode prog_2_method_1_code 1 = .ok (.invokespecial 1, 3) := by decide +kernel
theorem d1_4 : decode prog_2_method_1_code 4 = .ok (.aload_n 0, 1) := by decide +kernel
theorem d1_5 : decode prog_2_method_1_code 5 = .ok (.lload_n 1, 1) := by decide +kernel
theorem d1_6 : decode prog_2_method_1_code 6 = .ok (.putfield 7, 3) := by decide +kernel
theorem d1_9 : decode prog_2_method_1_code 9 = .ok (.return_, 1) := by decide +kernel
theorem own_pn_1 : plainName "com/example/tributary/tributary/benchmark/Draws" = true := by first | (simp [plainName, overriddenIn]; done) | decide +kernel
theorem own_ef_1 (m : MethodId) (a1 : Addr) (q2 : Int64) : entryFrame m #[(.ref a1), (.long q2)] 3 = mkF m 0 #[.val (.ref a1), .val (.long q2), .second] [] := by first | (simp [entryFrame, mkF, argsToLocals, Value.category]; done) | rfl
abbrev own_R1 : Room := { frames := 1, cells := 0, slots := 0, locals := 12 }
def own_Q1 (Z : State) (a1 : Addr) (q2 : Int64) (h0 : Heap) (n0 : Nat) (v : Option Value) (h : Heap) (L : List Loc) : Prop := v = none ∧ Fr n0 L ∧ Keep h0 h [a1] ∧ Exa Z h a1 "com/example/tributary/tributary/benchmark/Draws" ∧ Fld Z h a1 "com/example/tributary/tributary/benchmark/Draws" "state" "J" (.long q2)
set_option maxRecDepth 65536 in
set_option maxHeartbeats 40000000 in
theorem rm1 (l : Launch) (Z : State) (a0 : Array Value) (hw : ∀ d ∈ tables_1, d.before a0 Z = true) (ws : List Jvm.Cond) (a1 : Addr) (q2 : Int64) (h0 : Heap) (n0 : Nat) (Z0 : n0 ≤ h0.size) (E_a1 : Exa Z h0 a1 "com/example/tributary/tributary/benchmark/Draws") (F_state_a1 : Fld Z h0 a1 "com/example/tributary/tributary/benchmark/Draws" "state" "J" (.long (0 : Int64))) (g_a1 : n0 ≤ a1) :
    MetFree l (⟨"com/example/tributary/tributary/benchmark/Draws", "<init>", "(J)V"⟩ : MethodName) (head1 (Jvm.Cond.code (⟨"com/example/tributary/tributary/benchmark/Draws", "<init>", "(J)V"⟩ : MethodName) prog_2_method_1_code 3 none :: ws) own_R1) (fun a U => a = #[(.ref a1), (.long q2)] ∧ Z.Warmed39 U.vm ∧ U.heap = h0) (fun _ _ _ _ _ => True) (fun _ U o U' => ∃ v L, o = .returned v ∧ own_Q1 Z a1 q2 h0 n0 v U'.heap L ∧ FrameEnd U o U' L own_R1.cells own_R1.slots) := by
  refine MetFree.of_bodySF (plainFor_of_name own_pn_1) hisR ?_
  intro p e s m args below meth c s₁ Bd hml0 hP hK
  obtain ⟨rfl, hZ, hh⟩ := hP
  have hx := Bd.exec
  have hby := Bd.bytes
  have hlk := BodyLoose.notSynchronized Bd
  have hml : c.maxLocals = 3 := hml0
  have hown : s.vm.findClass "com/example/tributary/tributary/benchmark/Draws" = some m.cls := (findClass_of_methodNamed Bd.named : s.vm.findClass (⟨"com/example/tributary/tributary/benchmark/Draws", "<init>", "(J)V"⟩ : MethodName).cls = some m.cls)
  have hnm := (name_of_methodNamed Bd.named Bd.method).1
  have X0 : Stand p l e own_R1 s m #[(.ref a1), (.long q2)] below meth c s₁ [] 0 0 := Stand.of_body Bd
  have e0 : s₁.heap = h0 := by rw [← hh, Bd.state]; rfl
  have Nf := Fr.nil n0
  have Zs := Z0
  have K : Keep h0 h0 [a1] := Keep.refl _ _
  show own_Fin p e below s (own_Q1 Z a1 q2 h0 n0) 0 0 s₁ (entryFrame m #[(.ref a1), (.long q2)] 3)
  rw [own_ef_1 m a1 q2]
  show own_Fin _ _ _ _ _ _ _ _ (mkF m 0 #[.val (.ref a1), .val (.long q2), .second] [])
  refine own_step (fun t k => XS.aloadN X0.here hx rfl (hb hby d1_0) rfl rfl k) ?_
  show own_Fin _ _ _ _ _ _ _ _ (mkF m 1 #[.val (.ref a1), .val (.long q2), .second] [(.ref a1)])
  obtain ⟨T1, X1, e1, st1⟩ := initO X0 hx hZ hown (hw _ (List.mem_of_getElem? (i := 7) rfl)) (hw _ (List.mem_of_getElem? (i := 8) rfl)) (hw _ (List.mem_of_getElem? (i := 9) rfl)) e0 (g := (mkF m 1 #[.val (.ref a1), .val (.long q2), .second] [(.ref a1)])) rfl (by rw [hml]; rfl) rfl (hb hby d1_1) (by decide) (W := 0) (by show 2 * 0 + _ ≤ _; exact Nat.le_of_eq rfl) (by decide)
  refine own_step st1 ?_
  show own_Fin _ _ _ _ _ _ _ _ (mkF m 4 #[.val (.ref a1), .val (.long q2), .second] [])
  refine own_step (fun t k => XS.aloadN X1.here hx rfl (hb hby d1_4) rfl rfl k) ?_
  show own_Fin _ _ _ _ _ _ _ _ (mkF m 5 #[.val (.ref a1), .val (.long q2), .second] [(.ref a1)])
  refine own_step (fun t k => XS.lloadN X1.here hx rfl (hb hby d1_5) rfl k) ?_
  show own_Fin _ _ _ _ _ _ _ _ (mkF m 6 #[.val (.ref a1), .val (.long q2), .second] [(.long q2), (.ref a1)])
  obtain ⟨T2, h2, X2, e2, W2, st2⟩ := putF X1 hx hZ hown (host := "") (Or.inl (hw _ (List.mem_of_getElem? (i := 10) rfl))) Via.refl e1 F_state_a1 E_a1 (Or.inl (hw _ (List.mem_of_getElem? (i := 11) rfl))) (hw _ (List.mem_of_getElem? (i := 2) rfl)) (ty := .long) (by decide) rfl rfl (g := (mkF m 6 #[.val (.ref a1), .val (.long q2), .second] [(.long q2), (.ref a1)])) rfl rfl (hb hby d1_6)
  refine own_step st2 ?_
  replace E_a1 := E_a1.wr W2
  replace F_state_a1 := F_state_a1.same W2
  replace Zs : n0 ≤ h2.size := by rw [W2.size]; exact Zs
  replace K := K.wr W2 (Or.inl (by simp))
  replace Nf := Fr.snoc X2 Nf g_a1
  show own_Fin _ _ _ _ _ _ _ _ (mkF m 9 #[.val (.ref a1), .val (.long q2), .second] [])
  refine own_retV X2 hx hlk Bd.returns (hb hby d1_9) (by decide) (by decide) e2 ?_
  exact ⟨rfl, Nf, K, E_a1, F_state_a1⟩
theorem d2_0 : decode prog_2_method_2_code 0 = .ok (.aload_n 0, 1) := by decide +kernel
theorem d2_1 : decode prog_2_method_2_code 1 = .ok (.dup, 1) := by decide +kernel
theorem d2_2 : decode prog_2_method_2_code 2 = .ok (.getfield 7, 3) := by decide +kernel
theorem d2_5 : decode prog_2_method_2_code 5 = .ok (.ldc2_w 13, 3) := by decide +kernel
theorem d2_8 : decode prog_2_method_2_code 8 = .ok (.ladd, 1) := by decide +kernel
theorem d2_9 : decode prog_2_method_2_code 9 = .ok (.putfield 7, 3) := by decide +kernel
theorem d2_12 : decode prog_2_method_2_code 12 = .ok (.aload_n 0, 1) := by decide +kernel
theorem d2_13 : decode prog_2_method_2_code 13 = .ok (.getfield 7, 3) := by decide +kernel
theorem d2_16 : decode prog_2_method_2_code 16 = .ok (.lstore_n 1, 1) := by decide +kernel
theorem d2_17 : decode prog_2_method_2_code 17 = .ok (.lload_n 1, 1) := by decide +kernel
theorem d2_18 : decode prog_2_method_2_code 18 = .ok (.lload_n 1, 1) := by decide +kernel
theorem d2_19 : decode prog_2_method_2_code 19 = .ok (.bipush 30, 2) := by decide +kernel
theorem d2_21 : decode prog_2_method_2_code 21 = .ok (.lushr, 1) := by decide +kernel
theorem d2_22 : decode prog_2_method_2_code 22 = .ok (.lxor, 1) := by decide +kernel
theorem d2_23 : decode prog_2_method_2_code 23 = .ok (.ldc2_w 15, 3) := by decide +kernel
theorem d2_26 : decode prog_2_method_2_code 26 = .ok (.lmul, 1) := by decide +kernel
theorem d2_27 : decode prog_2_method_2_code 27 = .ok (.lstore_n 1, 1) := by decide +kernel
theorem d2_28 : decode prog_2_method_2_code 28 = .ok (.lload_n 1, 1) := by decide +kernel
theorem d2_29 : decode prog_2_method_2_code 29 = .ok (.lload_n 1, 1) := by decide +kernel
theorem d2_30 : decode prog_2_method_2_code 30 = .ok (.bipush 27, 2) := by decide +kernel
theorem d2_32 : decode prog_2_method_2_code 32 = .ok (.lushr, 1) := by decide +kernel
theorem d2_33 : decode prog_2_method_2_code 33 = .ok (.lxor, 1) := by decide +kernel
theorem d2_34 : decode prog_2_method_2_code 34 = .ok (.ldc2_w 17, 3) := by decide +kernel
theorem d2_37 : decode prog_2_method_2_code 37 = .ok (.lmul, 1) := by decide +kernel
theorem d2_38 : decode prog_2_method_2_code 38 = .ok (.lstore_n 1, 1) := by decide +kernel
theorem d2_39 : decode prog_2_method_2_code 39 = .ok (.lload_n 1, 1) := by decide +kernel
theorem d2_40 : decode prog_2_method_2_code 40 = .ok (.lload_n 1, 1) := by decide +kernel
theorem d2_41 : decode prog_2_method_2_code 41 = .ok (.bipush 31, 2) := by decide +kernel
theorem d2_43 : decode prog_2_method_2_code 43 = .ok (.lushr, 1) := by decide +kernel
theorem d2_44 : decode prog_2_method_2_code 44 = .ok (.lxor, 1) := by decide +kernel
theorem d2_45 : decode prog_2_method_2_code 45 = .ok (.lreturn, 1) := by decide +kernel
theorem own_pn_2 : plainName "com/example/tributary/tributary/benchmark/Draws" = true := by first | (simp [plainName, overriddenIn]; done) | decide +kernel
theorem own_ef_2 (m : MethodId) (a1 : Addr) : entryFrame m #[(.ref a1)] 3 = mkF m 0 #[.val (.ref a1), .unset, .unset] [] := by first | (simp [entryFrame, mkF, argsToLocals, Value.category]; done) | rfl
abbrev own_R2 : Room := { frames := 0, cells := 0, slots := 0, locals := 0 }
def own_Q2 (Z : State) (a1 : Addr) (w1 : Int64) (h0 : Heap) (n0 : Nat) (v : Option Value) (h : Heap) (L : List Loc) : Prop := v = some (.long (own_mix (w1 + (-7046029254386353131 : Int64)))) ∧ Fr n0 L ∧ Keep h0 h [a1] ∧ Exa Z h a1 "com/example/tributary/tributary/benchmark/Draws" ∧ Fld Z h a1 "com/example/tributary/tributary/benchmark/Draws" "state" "J" (.long (w1 + (-7046029254386353131 : Int64)))
set_option maxRecDepth 65536 in
set_option maxHeartbeats 40000000 in
theorem rm2 (l : Launch) (Z : State) (a0 : Array Value) (hw : ∀ d ∈ tables_1, d.before a0 Z = true) (ws : List Jvm.Cond) (a1 : Addr) (w1 : Int64) (h0 : Heap) (n0 : Nat) (Z0 : n0 ≤ h0.size) (E_a1 : Exa Z h0 a1 "com/example/tributary/tributary/benchmark/Draws") (F_state_a1 : Fld Z h0 a1 "com/example/tributary/tributary/benchmark/Draws" "state" "J" (.long w1)) (g_a1 : n0 ≤ a1) :
    MetFree l (⟨"com/example/tributary/tributary/benchmark/Draws", "next", "()J"⟩ : MethodName) (head1 (Jvm.Cond.code (⟨"com/example/tributary/tributary/benchmark/Draws", "next", "()J"⟩ : MethodName) prog_2_method_2_code 3 (some .long) :: ws) own_R2) (fun a U => a = #[(.ref a1)] ∧ Z.Warmed39 U.vm ∧ U.heap = h0) (fun _ _ _ _ _ => True) (fun _ U o U' => ∃ v L, o = .returned v ∧ own_Q2 Z a1 w1 h0 n0 v U'.heap L ∧ FrameEnd U o U' L own_R2.cells own_R2.slots) := by
  refine MetFree.of_bodySF (plainFor_of_name own_pn_2) hisR ?_
  intro p e s m args below meth c s₁ Bd hml0 hP hK
  obtain ⟨rfl, hZ, hh⟩ := hP
  have hx := Bd.exec
  have hby := Bd.bytes
  have hlk := BodyLoose.notSynchronized Bd
  have hml : c.maxLocals = 3 := hml0
  have hown : s.vm.findClass "com/example/tributary/tributary/benchmark/Draws" = some m.cls := (findClass_of_methodNamed Bd.named : s.vm.findClass (⟨"com/example/tributary/tributary/benchmark/Draws", "next", "()J"⟩ : MethodName).cls = some m.cls)
  have hnm := (name_of_methodNamed Bd.named Bd.method).1
  have X0 : Stand p l e own_R2 s m #[(.ref a1)] below meth c s₁ [] 0 0 := Stand.of_body Bd
  have e0 : s₁.heap = h0 := by rw [← hh, Bd.state]; rfl
  have Nf := Fr.nil n0
  have Zs := Z0
  have K : Keep h0 h0 [a1] := Keep.refl _ _
  show own_Fin p e below s (own_Q2 Z a1 w1 h0 n0) 0 0 s₁ (entryFrame m #[(.ref a1)] 3)
  rw [own_ef_2 m a1]
  show own_Fin _ _ _ _ _ _ _ _ (mkF m 0 #[.val (.ref a1), .unset, .unset] [])
  refine own_step (fun t k => XS.aloadN X0.here hx rfl (hb hby d2_0) rfl rfl k) ?_
  show own_Fin _ _ _ _ _ _ _ _ (mkF m 1 #[.val (.ref a1), .unset, .unset] [(.ref a1)])
  refine own_step (fun t k => XS.dup X0.here hx rfl (hb hby d2_1) rfl rfl k) ?_
  show own_Fin _ _ _ _ _ _ _ _ (mkF m 2 #[.val (.ref a1), .unset, .unset] [(.ref a1), (.ref a1)])
  obtain ⟨T1, X1, e1, st1⟩ := getF X0 hx hZ hown (host := "") (Or.inl (hw _ (List.mem_of_getElem? (i := 10) rfl))) Via.refl e0 F_state_a1 (g := (mkF m 2 #[.val (.ref a1), .unset, .unset] [(.ref a1), (.ref a1)])) rfl rfl (hb hby d2_2)
  refine own_step st1 ?_
  show own_Fin _ _ _ _ _ _ _ _ (mkF m 5 #[.val (.ref a1), .unset, .unset] [(.long w1), (.ref a1)])
  refine own_step (fun t k => X1.ldc2Long hx hown (mvT hZ (hw _ (List.mem_of_getElem? (i := 17) rfl))) (g := (mkF m 5 #[.val (.ref a1), .unset, .unset] [(.long w1), (.ref a1)])) rfl (hb hby d2_5) _ k) ?_
  show own_Fin _ _ _ _ _ _ _ _ (mkF m 8 #[.val (.ref a1), .unset, .unset] [(.long (-7046029254386353131 : Int64)), (.long w1), (.ref a1)])
  refine own_step (fun t k => XS.ladd X1.here hx rfl (hb hby d2_8) rfl k) ?_
  show own_Fin _ _ _ _ _ _ _ _ (mkF m 9 #[.val (.ref a1), .unset, .unset] [(.long (w1 + (-7046029254386353131 : Int64))), (.ref a1)])
  obtain ⟨T2, h2, X2, e2, W2, st2⟩ := putF X1 hx hZ hown (host := "") (Or.inl (hw _ (List.mem_of_getElem? (i := 10) rfl))) Via.refl e1 F_state_a1 E_a1 (Or.inl (hw _ (List.mem_of_getElem? (i := 11) rfl))) (hw _ (List.mem_of_getElem? (i := 2) rfl)) (ty := .long) (by decide) rfl rfl (g := (mkF m 9 #[.val (.ref a1), .unset, .unset] [(.long (w1 + (-7046029254386353131 : Int64))), (.ref a1)])) rfl rfl (hb hby d2_9)
  refine own_step st2 ?_
  replace E_a1 := E_a1.wr W2
  replace F_state_a1 := F_state_a1.same W2
  replace Zs : n0 ≤ h2.size := by rw [W2.size]; exact Zs
  replace K := K.wr W2 (Or.inl (by simp))
  replace Nf := Fr.snoc X2 Nf g_a1
  show own_Fin _ _ _ _ _ _ _ _ (mkF m 12 #[.val (.ref a1), .unset, .unset] [])
  refine own_step (fun t k => XS.aloadN X2.here hx rfl (hb hby d2_12) rfl rfl k) ?_
  show own_Fin _ _ _ _ _ _ _ _ (mkF m 13 #[.val (.ref a1), .unset, .unset] [(.ref a1)])
  obtain ⟨T3, X3, e3, st3⟩ := getF X2 hx hZ hown (host := "") (Or.inl (hw _ (List.mem_of_getElem? (i := 10) rfl))) Via.refl e2 F_state_a1 (g := (mkF m 13 #[.val (.ref a1), .unset, .unset] [(.ref a1)])) rfl rfl (hb hby d2_13)
  refine own_step st3 ?_
  show own_Fin _ _ _ _ _ _ _ _ (mkF m 16 #[.val (.ref a1), .unset, .unset] [(.long (w1 + (-7046029254386353131 : Int64)))])
  generalize hz0 : (w1 + (-7046029254386353131 : Int64)) = z0
  refine own_step (fun t k => XS.lstoreN X3.here hx rfl (hb hby d2_16) rfl (l' := #[.val (.ref a1), .val (.long z0), .second]) rfl k) ?_
  show own_Fin _ _ _ _ _ _ _ _ (mkF m 17 #[.val (.ref a1), .val (.long z0), .second] [])
  refine own_step (fun t k => XS.lloadN X3.here hx rfl (hb hby d2_17) rfl k) ?_
  show own_Fin _ _ _ _ _ _ _ _ (mkF m 18 #[.val (.ref a1), .val (.long z0), .second] [(.long z0)])
  refine own_step (fun t k => XS.lloadN X3.here hx rfl (hb hby d2_18) rfl k) ?_
  show own_Fin _ _ _ _ _ _ _ _ (mkF m 19 #[.val (.ref a1), .val (.long z0), .second] [(.long z0), (.long z0)])
  refine own_step (fun t k => XS.bipush X3.here hx rfl (hb hby d2_19) k) ?_
  show own_Fin _ _ _ _ _ _ _ _ (mkF m 21 #[.val (.ref a1), .val (.long z0), .second] [(.int (30 : Int32)), (.long z0), (.long z0)])
  refine own_step (fun t k => XS.lushr X3.here hx rfl (hb hby d2_21) rfl k) ?_
  show own_Fin _ _ _ _ _ _ _ _ (mkF m 22 #[.val (.ref a1), .val (.long z0), .second] [(.long ((z0.toUInt64 >>> ((30 : Int32) &&& 0x3f).toInt64.toUInt64).toInt64)), (.long z0)])
  refine own_step (fun t k => XS.lxor X3.here hx rfl (hb hby d2_22) rfl k) ?_
  show own_Fin _ _ _ _ _ _ _ _ (mkF m 23 #[.val (.ref a1), .val (.long z0), .second] [(.long (z0 ^^^ ((z0.toUInt64 >>> ((30 : Int32) &&& 0x3f).toInt64.toUInt64).toInt64)))])
  refine own_step (fun t k => X3.ldc2Long hx hown (mvT hZ (hw _ (List.mem_of_getElem? (i := 18) rfl))) (g := (mkF m 23 #[.val (.ref a1), .val (.long z0), .second] [(.long (z0 ^^^ ((z0.toUInt64 >>> ((30 : Int32) &&& 0x3f).toInt64.toUInt64).toInt64)))])) rfl (hb hby d2_23) _ k) ?_
  show own_Fin _ _ _ _ _ _ _ _ (mkF m 26 #[.val (.ref a1), .val (.long z0), .second] [(.long (-4658895280553007687 : Int64)), (.long (z0 ^^^ ((z0.toUInt64 >>> ((30 : Int32) &&& 0x3f).toInt64.toUInt64).toInt64)))])
  refine own_step (fun t k => XS.lmul X3.here hx rfl (hb hby d2_26) rfl k) ?_
  show own_Fin _ _ _ _ _ _ _ _ (mkF m 27 #[.val (.ref a1), .val (.long z0), .second] [(.long ((z0 ^^^ ((z0.toUInt64 >>> ((30 : Int32) &&& 0x3f).toInt64.toUInt64).toInt64)) * (-4658895280553007687 : Int64)))])
  generalize hz1 : ((z0 ^^^ ((z0.toUInt64 >>> ((30 : Int32) &&& 0x3f).toInt64.toUInt64).toInt64)) * (-4658895280553007687 : Int64)) = z1
  refine own_step (fun t k => XS.lstoreN X3.here hx rfl (hb hby d2_27) rfl (l' := #[.val (.ref a1), .val (.long z1), .second]) rfl k) ?_
  show own_Fin _ _ _ _ _ _ _ _ (mkF m 28 #[.val (.ref a1), .val (.long z1), .second] [])
  refine own_step (fun t k => XS.lloadN X3.here hx rfl (hb hby d2_28) rfl k) ?_
  show own_Fin _ _ _ _ _ _ _ _ (mkF m 29 #[.val (.ref a1), .val (.long z1), .second] [(.long z1)])
  refine own_step (fun t k => XS.lloadN X3.here hx rfl (hb hby d2_29) rfl k) ?_
  show own_Fin _ _ _ _ _ _ _ _ (mkF m 30 #[.val (.ref a1), .val (.long z1), .second] [(.long z1), (.long z1)])
  refine own_step (fun t k => XS.bipush X3.here hx rfl (hb hby d2_30) k) ?_
  show own_Fin _ _ _ _ _ _ _ _ (mkF m 32 #[.val (.ref a1), .val (.long z1), .second] [(.int (27 : Int32)), (.long z1), (.long z1)])
  refine own_step (fun t k => XS.lushr X3.here hx rfl (hb hby d2_32) rfl k) ?_
  show own_Fin _ _ _ _ _ _ _ _ (mkF m 33 #[.val (.ref a1), .val (.long z1), .second] [(.long ((z1.toUInt64 >>> ((27 : Int32) &&& 0x3f).toInt64.toUInt64).toInt64)), (.long z1)])
  refine own_step (fun t k => XS.lxor X3.here hx rfl (hb hby d2_33) rfl k) ?_
  show own_Fin _ _ _ _ _ _ _ _ (mkF m 34 #[.val (.ref a1), .val (.long z1), .second] [(.long (z1 ^^^ ((z1.toUInt64 >>> ((27 : Int32) &&& 0x3f).toInt64.toUInt64).toInt64)))])
  refine own_step (fun t k => X3.ldc2Long hx hown (mvT hZ (hw _ (List.mem_of_getElem? (i := 19) rfl))) (g := (mkF m 34 #[.val (.ref a1), .val (.long z1), .second] [(.long (z1 ^^^ ((z1.toUInt64 >>> ((27 : Int32) &&& 0x3f).toInt64.toUInt64).toInt64)))])) rfl (hb hby d2_34) _ k) ?_
  show own_Fin _ _ _ _ _ _ _ _ (mkF m 37 #[.val (.ref a1), .val (.long z1), .second] [(.long (-7723592293110705685 : Int64)), (.long (z1 ^^^ ((z1.toUInt64 >>> ((27 : Int32) &&& 0x3f).toInt64.toUInt64).toInt64)))])
  refine own_step (fun t k => XS.lmul X3.here hx rfl (hb hby d2_37) rfl k) ?_
  show own_Fin _ _ _ _ _ _ _ _ (mkF m 38 #[.val (.ref a1), .val (.long z1), .second] [(.long ((z1 ^^^ ((z1.toUInt64 >>> ((27 : Int32) &&& 0x3f).toInt64.toUInt64).toInt64)) * (-7723592293110705685 : Int64)))])
  generalize hz2 : ((z1 ^^^ ((z1.toUInt64 >>> ((27 : Int32) &&& 0x3f).toInt64.toUInt64).toInt64)) * (-7723592293110705685 : Int64)) = z2
  refine own_step (fun t k => XS.lstoreN X3.here hx rfl (hb hby d2_38) rfl (l' := #[.val (.ref a1), .val (.long z2), .second]) rfl k) ?_
  show own_Fin _ _ _ _ _ _ _ _ (mkF m 39 #[.val (.ref a1), .val (.long z2), .second] [])
  refine own_step (fun t k => XS.lloadN X3.here hx rfl (hb hby d2_39) rfl k) ?_
  show own_Fin _ _ _ _ _ _ _ _ (mkF m 40 #[.val (.ref a1), .val (.long z2), .second] [(.long z2)])
  refine own_step (fun t k => XS.lloadN X3.here hx rfl (hb hby d2_40) rfl k) ?_
  show own_Fin _ _ _ _ _ _ _ _ (mkF m 41 #[.val (.ref a1), .val (.long z2), .second] [(.long z2), (.long z2)])
  refine own_step (fun t k => XS.bipush X3.here hx rfl (hb hby d2_41) k) ?_
  show own_Fin _ _ _ _ _ _ _ _ (mkF m 43 #[.val (.ref a1), .val (.long z2), .second] [(.int (31 : Int32)), (.long z2), (.long z2)])
  refine own_step (fun t k => XS.lushr X3.here hx rfl (hb hby d2_43) rfl k) ?_
  show own_Fin _ _ _ _ _ _ _ _ (mkF m 44 #[.val (.ref a1), .val (.long z2), .second] [(.long ((z2.toUInt64 >>> ((31 : Int32) &&& 0x3f).toInt64.toUInt64).toInt64)), (.long z2)])
  refine own_step (fun t k => XS.lxor X3.here hx rfl (hb hby d2_44) rfl k) ?_
  show own_Fin _ _ _ _ _ _ _ _ (mkF m 45 #[.val (.ref a1), .val (.long z2), .second] [(.long (z2 ^^^ ((z2.toUInt64 >>> ((31 : Int32) &&& 0x3f).toInt64.toUInt64).toInt64)))])
  refine own_retJ X3 hx hlk Bd.returns (hb hby d2_45) (by decide) (by decide) e3 ?_
  subst hz2 hz1 hz0; exact ⟨rfl, Nf, K, E_a1, F_state_a1⟩
theorem d3_0 : decode method_3_code 0 = .ok (.lload_n 0, 1) := by decide +kernel
theorem d3_1 : decode method_3_code 1 = .ok (.lstore_n 2, 1) := by decide +kernel
theorem d3_2 : decode method_3_code 2 = .ok (.lload_n 2, 1) := by decide +kernel
theorem d3_3 : decode method_3_code 3 = .ok (.ldc2_w 24, 3) := by decide +kernel
theorem d3_6 : decode method_3_code 6 = .ok (.lload_n 0, 1) := by decide +kernel
theorem d3_7 : decode method_3_code 7 = .ok (.lload_n 2, 1) := by decide +kernel
theorem d3_8 : decode method_3_code 8 = .ok (.lmul, 1) := by decide +kernel
theorem d3_9 : decode method_3_code 9 = .ok (.lsub, 1) := by decide +kernel
theorem d3_10 : decode method_3_code 10 = .ok (.lmul, 1) := by decide +kernel
theorem d3_11 : decode method_3_code 11 = .ok (.lstore_n 2, 1) := by decide +kernel
theorem d3_12 : decode method_3_code 12 = .ok (.lload_n 2, 1) := by decide +kernel
theorem d3_13 : decode method_3_code 13 = .ok (.ldc2_w 24, 3) := by decide +kernel
theorem d3_16 : decode method_3_code 16 = .ok (.lload_n 0, 1) := by decide +kernel
theorem d3_17 : decode method_3_code 17 = .ok (.lload_n 2, 1) := by decide +kernel
theorem d3_18 : decode method_3_code 18 = .ok (.lmul, 1) := by decide +kernel
theorem d3_19 : decode method_3_code 19 = .ok (.lsub, 1) := by decide +kernel
theorem d3_20 : decode method_3_code 20 = .ok (.lmul, 1) := by decide +kernel
theorem d3_21 : decode method_3_code 21 = .ok (.lstore_n 2, 1) := by decide +kernel
theorem d3_22 : decode method_3_code 22 = .ok (.lload_n 2, 1) := by decide +kernel
theorem d3_23 : decode method_3_code 23 = .ok (.ldc2_w 24, 3) := by decide +kernel
theorem d3_26 : decode method_3_code 26 = .ok (.lload_n 0, 1) := by decide +kernel
theorem d3_27 : decode method_3_code 27 = .ok (.lload_n 2, 1) := by decide +kernel
theorem d3_28 : decode method_3_code 28 = .ok (.lmul, 1) := by decide +kernel
theorem d3_29 : decode method_3_code 29 = .ok (.lsub, 1) := by decide +kernel
theorem d3_30 : decode method_3_code 30 = .ok (.lmul, 1) := by decide +kernel
theorem d3_31 : decode method_3_code 31 = .ok (.lstore_n 2, 1) := by decide +kernel
theorem d3_32 : decode method_3_code 32 = .ok (.lload_n 2, 1) := by decide +kernel
theorem d3_33 : decode method_3_code 33 = .ok (.ldc2_w 24, 3) := by decide +kernel
theorem d3_36 : decode method_3_code 36 = .ok (.lload_n 0, 1) := by decide +kernel
theorem d3_37 : decode method_3_code 37 = .ok (.lload_n 2, 1) := by decide +kernel
theorem d3_38 : decode method_3_code 38 = .ok (.lmul, 1) := by decide +kernel
theorem d3_39 : decode method_3_code 39 = .ok (.lsub, 1) := by decide +kernel
theorem d3_40 : decode method_3_code 40 = .ok (.lmul, 1) := by decide +kernel
theorem d3_41 : decode method_3_code 41 = .ok (.lstore_n 2, 1) := by decide +kernel
theorem d3_42 : decode method_3_code 42 = .ok (.lload_n 2, 1) := by decide +kernel
theorem d3_43 : decode method_3_code 43 = .ok (.ldc2_w 24, 3) := by decide +kernel
theorem d3_46 : decode method_3_code 46 = .ok (.lload_n 0, 1) := by decide +kernel
theorem d3_47 : decode method_3_code 47 = .ok (.lload_n 2, 1) := by decide +kernel
theorem d3_48 : decode method_3_code 48 = .ok (.lmul, 1) := by decide +kernel
theorem d3_49 : decode method_3_code 49 = .ok (.lsub, 1) := by decide +kernel
theorem d3_50 : decode method_3_code 50 = .ok (.lmul, 1) := by decide +kernel
theorem d3_51 : decode method_3_code 51 = .ok (.lstore_n 2, 1) := by decide +kernel
theorem d3_52 : decode method_3_code 52 = .ok (.lload_n 2, 1) := by decide +kernel
theorem d3_53 : decode method_3_code 53 = .ok (.lreturn, 1) := by decide +kernel
theorem own_pn_3 : plainName "com/example/tributary/tributary/benchmark/DrawsNextPinLaw" = true := by first | (simp [plainName, overriddenIn]; done) | decide +kernel
theorem own_ef_3 (m : MethodId) (q1 : Int64) : entryFrame m #[(.long q1)] 4 = mkF m 0 #[.val (.long q1), .second, .unset, .unset] [] := by first | (simp [entryFrame, mkF, argsToLocals, Value.category]; done) | rfl
abbrev own_R3 : Room := { frames := 0, cells := 0, slots := 0, locals := 0 }
def own_Q3 (Z : State) (q1 : Int64) (h0 : Heap) (n0 : Nat) (v : Option Value) (h : Heap) (L : List Loc) : Prop := v = some (.long (own_inv q1)) ∧ Fr n0 L ∧ h = h0
set_option maxRecDepth 65536 in
set_option maxHeartbeats 40000000 in
theorem rm3 (l : Launch) (Z : State) (a0 : Array Value) (hw : ∀ d ∈ tables_1, d.before a0 Z = true) (ws : List Jvm.Cond) (q1 : Int64) (h0 : Heap) (n0 : Nat) (Z0 : n0 ≤ h0.size) :
    MetFree l (⟨"com/example/tributary/tributary/benchmark/DrawsNextPinLaw", "inverse", "(J)J"⟩ : MethodName) (head1 (Jvm.Cond.code (⟨"com/example/tributary/tributary/benchmark/DrawsNextPinLaw", "inverse", "(J)J"⟩ : MethodName) method_3_code 4 (some .long) :: ws) own_R3) (fun a U => a = #[(.long q1)] ∧ Z.Warmed39 U.vm ∧ U.heap = h0) (fun _ _ _ _ _ => True) (fun _ U o U' => ∃ v L, o = .returned v ∧ own_Q3 Z q1 h0 n0 v U'.heap L ∧ FrameEnd U o U' L own_R3.cells own_R3.slots) := by
  refine MetFree.of_bodySF (plainFor_of_name own_pn_3) hisR ?_
  intro p e s m args below meth c s₁ Bd hml0 hP hK
  obtain ⟨rfl, hZ, hh⟩ := hP
  have hx := Bd.exec
  have hby := Bd.bytes
  have hlk := BodyLoose.notSynchronized Bd
  have hml : c.maxLocals = 4 := hml0
  have hown : s.vm.findClass "com/example/tributary/tributary/benchmark/DrawsNextPinLaw" = some m.cls := (findClass_of_methodNamed Bd.named : s.vm.findClass (⟨"com/example/tributary/tributary/benchmark/DrawsNextPinLaw", "inverse", "(J)J"⟩ : MethodName).cls = some m.cls)
  have hnm := (name_of_methodNamed Bd.named Bd.method).1
  have X0 : Stand p l e own_R3 s m #[(.long q1)] below meth c s₁ [] 0 0 := Stand.of_body Bd
  have e0 : s₁.heap = h0 := by rw [← hh, Bd.state]; rfl
  have Nf := Fr.nil n0
  have Zs := Z0
  show own_Fin p e below s (own_Q3 Z q1 h0 n0) 0 0 s₁ (entryFrame m #[(.long q1)] 4)
  rw [own_ef_3 m q1]
  show own_Fin _ _ _ _ _ _ _ _ (mkF m 0 #[.val (.long q1), .second, .unset, .unset] [])
  refine own_step (fun t k => XS.lloadN X0.here hx rfl (hb hby d3_0) rfl k) ?_
  show own_Fin _ _ _ _ _ _ _ _ (mkF m 1 #[.val (.long q1), .second, .unset, .unset] [(.long q1)])
  refine own_step (fun t k => XS.lstoreN X0.here hx rfl (hb hby d3_1) rfl (l' := #[.val (.long q1), .second, .val (.long q1), .second]) rfl k) ?_
  show own_Fin _ _ _ _ _ _ _ _ (mkF m 2 #[.val (.long q1), .second, .val (.long q1), .second] [])
  refine own_step (fun t k => XS.lloadN X0.here hx rfl (hb hby d3_2) rfl k) ?_
  show own_Fin _ _ _ _ _ _ _ _ (mkF m 3 #[.val (.long q1), .second, .val (.long q1), .second] [(.long q1)])
  refine own_step (fun t k => X0.ldc2Long hx hown (mvT hZ (hw _ (List.mem_of_getElem? (i := 29) rfl))) (g := (mkF m 3 #[.val (.long q1), .second, .val (.long q1), .second] [(.long q1)])) rfl (hb hby d3_3) _ k) ?_
  show own_Fin _ _ _ _ _ _ _ _ (mkF m 6 #[.val (.long q1), .second, .val (.long q1), .second] [(.long (2 : Int64)), (.long q1)])
  refine own_step (fun t k => XS.lloadN X0.here hx rfl (hb hby d3_6) rfl k) ?_
  show own_Fin _ _ _ _ _ _ _ _ (mkF m 7 #[.val (.long q1), .second, .val (.long q1), .second] [(.long q1), (.long (2 : Int64)), (.long q1)])
  refine own_step (fun t k => XS.lloadN X0.here hx rfl (hb hby d3_7) rfl k) ?_
  show own_Fin _ _ _ _ _ _ _ _ (mkF m 8 #[.val (.long q1), .second, .val (.long q1), .second] [(.long q1), (.long q1), (.long (2 : Int64)), (.long q1)])
  refine own_step (fun t k => XS.lmul X0.here hx rfl (hb hby d3_8) rfl k) ?_
  show own_Fin _ _ _ _ _ _ _ _ (mkF m 9 #[.val (.long q1), .second, .val (.long q1), .second] [(.long (q1 * q1)), (.long (2 : Int64)), (.long q1)])
  refine own_step (fun t k => XS.lsub X0.here hx rfl (hb hby d3_9) rfl k) ?_
  show own_Fin _ _ _ _ _ _ _ _ (mkF m 10 #[.val (.long q1), .second, .val (.long q1), .second] [(.long ((2 : Int64) - (q1 * q1))), (.long q1)])
  refine own_step (fun t k => XS.lmul X0.here hx rfl (hb hby d3_10) rfl k) ?_
  show own_Fin _ _ _ _ _ _ _ _ (mkF m 11 #[.val (.long q1), .second, .val (.long q1), .second] [(.long (q1 * ((2 : Int64) - (q1 * q1))))])
  generalize hx1 : (q1 * ((2 : Int64) - (q1 * q1))) = x1
  refine own_step (fun t k => XS.lstoreN X0.here hx rfl (hb hby d3_11) rfl (l' := #[.val (.long q1), .second, .val (.long x1), .second]) rfl k) ?_
  show own_Fin _ _ _ _ _ _ _ _ (mkF m 12 #[.val (.long q1), .second, .val (.long x1), .second] [])
  refine own_step (fun t k => XS.lloadN X0.here hx rfl (hb hby d3_12) rfl k) ?_
  show own_Fin _ _ _ _ _ _ _ _ (mkF m 13 #[.val (.long q1), .second, .val (.long x1), .second] [(.long x1)])
  refine own_step (fun t k => X0.ldc2Long hx hown (mvT hZ (hw _ (List.mem_of_getElem? (i := 29) rfl))) (g := (mkF m 13 #[.val (.long q1), .second, .val (.long x1), .second] [(.long x1)])) rfl (hb hby d3_13) _ k) ?_
  show own_Fin _ _ _ _ _ _ _ _ (mkF m 16 #[.val (.long q1), .second, .val (.long x1), .second] [(.long (2 : Int64)), (.long x1)])
  refine own_step (fun t k => XS.lloadN X0.here hx rfl (hb hby d3_16) rfl k) ?_
  show own_Fin _ _ _ _ _ _ _ _ (mkF m 17 #[.val (.long q1), .second, .val (.long x1), .second] [(.long q1), (.long (2 : Int64)), (.long x1)])
  refine own_step (fun t k => XS.lloadN X0.here hx rfl (hb hby d3_17) rfl k) ?_
  show own_Fin _ _ _ _ _ _ _ _ (mkF m 18 #[.val (.long q1), .second, .val (.long x1), .second] [(.long x1), (.long q1), (.long (2 : Int64)), (.long x1)])
  refine own_step (fun t k => XS.lmul X0.here hx rfl (hb hby d3_18) rfl k) ?_
  show own_Fin _ _ _ _ _ _ _ _ (mkF m 19 #[.val (.long q1), .second, .val (.long x1), .second] [(.long (q1 * x1)), (.long (2 : Int64)), (.long x1)])
  refine own_step (fun t k => XS.lsub X0.here hx rfl (hb hby d3_19) rfl k) ?_
  show own_Fin _ _ _ _ _ _ _ _ (mkF m 20 #[.val (.long q1), .second, .val (.long x1), .second] [(.long ((2 : Int64) - (q1 * x1))), (.long x1)])
  refine own_step (fun t k => XS.lmul X0.here hx rfl (hb hby d3_20) rfl k) ?_
  show own_Fin _ _ _ _ _ _ _ _ (mkF m 21 #[.val (.long q1), .second, .val (.long x1), .second] [(.long (x1 * ((2 : Int64) - (q1 * x1))))])
  generalize hx2 : (x1 * ((2 : Int64) - (q1 * x1))) = x2
  refine own_step (fun t k => XS.lstoreN X0.here hx rfl (hb hby d3_21) rfl (l' := #[.val (.long q1), .second, .val (.long x2), .second]) rfl k) ?_
  show own_Fin _ _ _ _ _ _ _ _ (mkF m 22 #[.val (.long q1), .second, .val (.long x2), .second] [])
  refine own_step (fun t k => XS.lloadN X0.here hx rfl (hb hby d3_22) rfl k) ?_
  show own_Fin _ _ _ _ _ _ _ _ (mkF m 23 #[.val (.long q1), .second, .val (.long x2), .second] [(.long x2)])
  refine own_step (fun t k => X0.ldc2Long hx hown (mvT hZ (hw _ (List.mem_of_getElem? (i := 29) rfl))) (g := (mkF m 23 #[.val (.long q1), .second, .val (.long x2), .second] [(.long x2)])) rfl (hb hby d3_23) _ k) ?_
  show own_Fin _ _ _ _ _ _ _ _ (mkF m 26 #[.val (.long q1), .second, .val (.long x2), .second] [(.long (2 : Int64)), (.long x2)])
  refine own_step (fun t k => XS.lloadN X0.here hx rfl (hb hby d3_26) rfl k) ?_
  show own_Fin _ _ _ _ _ _ _ _ (mkF m 27 #[.val (.long q1), .second, .val (.long x2), .second] [(.long q1), (.long (2 : Int64)), (.long x2)])
  refine own_step (fun t k => XS.lloadN X0.here hx rfl (hb hby d3_27) rfl k) ?_
  show own_Fin _ _ _ _ _ _ _ _ (mkF m 28 #[.val (.long q1), .second, .val (.long x2), .second] [(.long x2), (.long q1), (.long (2 : Int64)), (.long x2)])
  refine own_step (fun t k => XS.lmul X0.here hx rfl (hb hby d3_28) rfl k) ?_
  show own_Fin _ _ _ _ _ _ _ _ (mkF m 29 #[.val (.long q1), .second, .val (.long x2), .second] [(.long (q1 * x2)), (.long (2 : Int64)), (.long x2)])
  refine own_step (fun t k => XS.lsub X0.here hx rfl (hb hby d3_29) rfl k) ?_
  show own_Fin _ _ _ _ _ _ _ _ (mkF m 30 #[.val (.long q1), .second, .val (.long x2), .second] [(.long ((2 : Int64) - (q1 * x2))), (.long x2)])
  refine own_step (fun t k => XS.lmul X0.here hx rfl (hb hby d3_30) rfl k) ?_
  show own_Fin _ _ _ _ _ _ _ _ (mkF m 31 #[.val (.long q1), .second, .val (.long x2), .second] [(.long (x2 * ((2 : Int64) - (q1 * x2))))])
  generalize hx3 : (x2 * ((2 : Int64) - (q1 * x2))) = x3
  refine own_step (fun t k => XS.lstoreN X0.here hx rfl (hb hby d3_31) rfl (l' := #[.val (.long q1), .second, .val (.long x3), .second]) rfl k) ?_
  show own_Fin _ _ _ _ _ _ _ _ (mkF m 32 #[.val (.long q1), .second, .val (.long x3), .second] [])
  refine own_step (fun t k => XS.lloadN X0.here hx rfl (hb hby d3_32) rfl k) ?_
  show own_Fin _ _ _ _ _ _ _ _ (mkF m 33 #[.val (.long q1), .second, .val (.long x3), .second] [(.long x3)])
  refine own_step (fun t k => X0.ldc2Long hx hown (mvT hZ (hw _ (List.mem_of_getElem? (i := 29) rfl))) (g := (mkF m 33 #[.val (.long q1), .second, .val (.long x3), .second] [(.long x3)])) rfl (hb hby d3_33) _ k) ?_
  show own_Fin _ _ _ _ _ _ _ _ (mkF m 36 #[.val (.long q1), .second, .val (.long x3), .second] [(.long (2 : Int64)), (.long x3)])
  refine own_step (fun t k => XS.lloadN X0.here hx rfl (hb hby d3_36) rfl k) ?_
  show own_Fin _ _ _ _ _ _ _ _ (mkF m 37 #[.val (.long q1), .second, .val (.long x3), .second] [(.long q1), (.long (2 : Int64)), (.long x3)])
  refine own_step (fun t k => XS.lloadN X0.here hx rfl (hb hby d3_37) rfl k) ?_
  show own_Fin _ _ _ _ _ _ _ _ (mkF m 38 #[.val (.long q1), .second, .val (.long x3), .second] [(.long x3), (.long q1), (.long (2 : Int64)), (.long x3)])
  refine own_step (fun t k => XS.lmul X0.here hx rfl (hb hby d3_38) rfl k) ?_
  show own_Fin _ _ _ _ _ _ _ _ (mkF m 39 #[.val (.long q1), .second, .val (.long x3), .second] [(.long (q1 * x3)), (.long (2 : Int64)), (.long x3)])
  refine own_step (fun t k => XS.lsub X0.here hx rfl (hb hby d3_39) rfl k) ?_
  show own_Fin _ _ _ _ _ _ _ _ (mkF m 40 #[.val (.long q1), .second, .val (.long x3), .second] [(.long ((2 : Int64) - (q1 * x3))), (.long x3)])
  refine own_step (fun t k => XS.lmul X0.here hx rfl (hb hby d3_40) rfl k) ?_
  show own_Fin _ _ _ _ _ _ _ _ (mkF m 41 #[.val (.long q1), .second, .val (.long x3), .second] [(.long (x3 * ((2 : Int64) - (q1 * x3))))])
  generalize hx4 : (x3 * ((2 : Int64) - (q1 * x3))) = x4
  refine own_step (fun t k => XS.lstoreN X0.here hx rfl (hb hby d3_41) rfl (l' := #[.val (.long q1), .second, .val (.long x4), .second]) rfl k) ?_
  show own_Fin _ _ _ _ _ _ _ _ (mkF m 42 #[.val (.long q1), .second, .val (.long x4), .second] [])
  refine own_step (fun t k => XS.lloadN X0.here hx rfl (hb hby d3_42) rfl k) ?_
  show own_Fin _ _ _ _ _ _ _ _ (mkF m 43 #[.val (.long q1), .second, .val (.long x4), .second] [(.long x4)])
  refine own_step (fun t k => X0.ldc2Long hx hown (mvT hZ (hw _ (List.mem_of_getElem? (i := 29) rfl))) (g := (mkF m 43 #[.val (.long q1), .second, .val (.long x4), .second] [(.long x4)])) rfl (hb hby d3_43) _ k) ?_
  show own_Fin _ _ _ _ _ _ _ _ (mkF m 46 #[.val (.long q1), .second, .val (.long x4), .second] [(.long (2 : Int64)), (.long x4)])
  refine own_step (fun t k => XS.lloadN X0.here hx rfl (hb hby d3_46) rfl k) ?_
  show own_Fin _ _ _ _ _ _ _ _ (mkF m 47 #[.val (.long q1), .second, .val (.long x4), .second] [(.long q1), (.long (2 : Int64)), (.long x4)])
  refine own_step (fun t k => XS.lloadN X0.here hx rfl (hb hby d3_47) rfl k) ?_
  show own_Fin _ _ _ _ _ _ _ _ (mkF m 48 #[.val (.long q1), .second, .val (.long x4), .second] [(.long x4), (.long q1), (.long (2 : Int64)), (.long x4)])
  refine own_step (fun t k => XS.lmul X0.here hx rfl (hb hby d3_48) rfl k) ?_
  show own_Fin _ _ _ _ _ _ _ _ (mkF m 49 #[.val (.long q1), .second, .val (.long x4), .second] [(.long (q1 * x4)), (.long (2 : Int64)), (.long x4)])
  refine own_step (fun t k => XS.lsub X0.here hx rfl (hb hby d3_49) rfl k) ?_
  show own_Fin _ _ _ _ _ _ _ _ (mkF m 50 #[.val (.long q1), .second, .val (.long x4), .second] [(.long ((2 : Int64) - (q1 * x4))), (.long x4)])
  refine own_step (fun t k => XS.lmul X0.here hx rfl (hb hby d3_50) rfl k) ?_
  show own_Fin _ _ _ _ _ _ _ _ (mkF m 51 #[.val (.long q1), .second, .val (.long x4), .second] [(.long (x4 * ((2 : Int64) - (q1 * x4))))])
  generalize hx5 : (x4 * ((2 : Int64) - (q1 * x4))) = x5
  refine own_step (fun t k => XS.lstoreN X0.here hx rfl (hb hby d3_51) rfl (l' := #[.val (.long q1), .second, .val (.long x5), .second]) rfl k) ?_
  show own_Fin _ _ _ _ _ _ _ _ (mkF m 52 #[.val (.long q1), .second, .val (.long x5), .second] [])
  refine own_step (fun t k => XS.lloadN X0.here hx rfl (hb hby d3_52) rfl k) ?_
  show own_Fin _ _ _ _ _ _ _ _ (mkF m 53 #[.val (.long q1), .second, .val (.long x5), .second] [(.long x5)])
  refine own_retJ X0 hx hlk Bd.returns (hb hby d3_53) (by decide) (by decide) e0 ?_
  subst hx5 hx4 hx3 hx2 hx1; exact ⟨rfl, Nf, rfl⟩
theorem own_pd_0 : parseMethodDescriptor "(J)J" = some ⟨[.long], some .long⟩ := by decide +kernel
theorem d4_0 : decode method_4_code 0 = .ok (.ldc2_w 26, 3) := by decide +kernel
theorem d4_3 : decode method_4_code 3 = .ok (.lstore_n 2, 1) := by decide +kernel
theorem d4_4 : decode method_4_code 4 = .ok (.ldc2_w 28, 3) := by decide +kernel
theorem d4_7 : decode method_4_code 7 = .ok (.lstore 4, 2) := by decide +kernel
theorem d4_9 : decode method_4_code 9 = .ok (.lload_n 0, 1) := by decide +kernel
theorem d4_10 : decode method_4_code 10 = .ok (.lload_n 0, 1) := by decide +kernel
theorem d4_11 : decode method_4_code 11 = .ok (.bipush 31, 2) := by decide +kernel
theorem d4_13 : decode method_4_code 13 = .ok (.lushr, 1) := by decide +kernel
theorem d4_14 : decode method_4_code 14 = .ok (.lxor, 1) := by decide +kernel
theorem d4_15 : decode method_4_code 15 = .ok (.lload_n 0, 1) := by decide +kernel
theorem d4_16 : decode method_4_code 16 = .ok (.bipush 62, 2) := by decide +kernel
theorem d4_18 : decode method_4_code 18 = .ok (.lushr, 1) := by decide +kernel
theorem d4_19 : decode method_4_code 19 = .ok (.lxor, 1) := by decide +kernel
theorem d4_20 : decode method_4_code 20 = .ok (.lstore 6, 2) := by decide +kernel
theorem d4_22 : decode method_4_code 22 = .ok (.lload 6, 2) := by decide +kernel
theorem d4_24 : decode method_4_code 24 = .ok (.lload 4, 2) := by decide +kernel
theorem d4_26 : decode method_4_code 26 = .ok (.invokestatic 30, 3) := by decide +kernel
theorem d4_29 : decode method_4_code 29 = .ok (.lmul, 1) := by decide +kernel
theorem d4_30 : decode method_4_code 30 = .ok (.lstore 6, 2) := by decide +kernel
theorem d4_32 : decode method_4_code 32 = .ok (.lload 6, 2) := by decide +kernel
theorem d4_34 : decode method_4_code 34 = .ok (.lload 6, 2) := by decide +kernel
theorem d4_36 : decode method_4_code 36 = .ok (.bipush 27, 2) := by decide +kernel
theorem d4_38 : decode method_4_code 38 = .ok (.lushr, 1) := by decide +kernel
theorem d4_39 : decode method_4_code 39 = .ok (.lxor, 1) := by decide +kernel
theorem d4_40 : decode method_4_code 40 = .ok (.lload 6, 2) := by decide +kernel
theorem d4_42 : decode method_4_code 42 = .ok (.bipush 54, 2) := by decide +kernel
theorem d4_44 : decode method_4_code 44 = .ok (.lushr, 1) := by decide +kernel
theorem d4_45 : decode method_4_code 45 = .ok (.lxor, 1) := by decide +kernel
theorem d4_46 : decode method_4_code 46 = .ok (.lstore 6, 2) := by decide +kernel
theorem d4_48 : decode method_4_code 48 = .ok (.lload 6, 2) := by decide +kernel
theorem d4_50 : decode method_4_code 50 = .ok (.lload_n 2, 1) := by decide +kernel
theorem d4_51 : decode method_4_code 51 = .ok (.invokestatic 30, 3) := by decide +kernel
theorem d4_54 : decode method_4_code 54 = .ok (.lmul, 1) := by decide +kernel
theorem d4_55 : decode method_4_code 55 = .ok (.lstore 6, 2) := by decide +kernel
theorem d4_57 : decode method_4_code 57 = .ok (.lload 6, 2) := by decide +kernel
theorem d4_59 : decode method_4_code 59 = .ok (.lload 6, 2) := by decide +kernel
theorem d4_61 : decode method_4_code 61 = .ok (.bipush 30, 2) := by decide +kernel
theorem d4_63 : decode method_4_code 63 = .ok (.lushr, 1) := by decide +kernel
theorem d4_64 : decode method_4_code 64 = .ok (.lxor, 1) := by decide +kernel
theorem d4_65 : decode method_4_code 65 = .ok (.lload 6, 2) := by decide +kernel
theorem d4_67 : decode method_4_code 67 = .ok (.bipush 60, 2) := by decide +kernel
theorem d4_69 : decode method_4_code 69 = .ok (.lushr, 1) := by decide +kernel
theorem d4_70 : decode method_4_code 70 = .ok (.lxor, 1) := by decide +kernel
theorem d4_71 : decode method_4_code 71 = .ok (.lstore 6, 2) := by decide +kernel
theorem d4_73 : decode method_4_code 73 = .ok (.lload 6, 2) := by decide +kernel
theorem d4_75 : decode method_4_code 75 = .ok (.lreturn, 1) := by decide +kernel
theorem own_pn_4 : plainName "com/example/tributary/tributary/benchmark/DrawsNextPinLaw" = true := by first | (simp [plainName, overriddenIn]; done) | decide +kernel
theorem own_ef_4 (m : MethodId) (q1 : Int64) : entryFrame m #[(.long q1)] 8 = mkF m 0 #[.val (.long q1), .second, .unset, .unset, .unset, .unset, .unset, .unset] [] := by first | (simp [entryFrame, mkF, argsToLocals, Value.category]; done) | rfl
abbrev own_R4 : Room := { frames := 1, cells := 0, slots := 0, locals := 17 }
def own_Q4 (Z : State) (q1 : Int64) (h0 : Heap) (n0 : Nat) (v : Option Value) (h : Heap) (L : List Loc) : Prop := v = some (.long (own_unmix q1)) ∧ Fr n0 L ∧ h = h0
set_option maxRecDepth 65536 in
set_option maxHeartbeats 40000000 in
theorem rm4 (l : Launch) (Z : State) (a0 : Array Value) (hw : ∀ d ∈ tables_1, d.before a0 Z = true) (ws : List Jvm.Cond) (q1 : Int64) (h0 : Heap) (n0 : Nat) (Z0 : n0 ≤ h0.size) :
    MetFree l (⟨"com/example/tributary/tributary/benchmark/DrawsNextPinLaw", "unmix", "(J)J"⟩ : MethodName) (head1 (Jvm.Cond.code (⟨"com/example/tributary/tributary/benchmark/DrawsNextPinLaw", "unmix", "(J)J"⟩ : MethodName) method_4_code 8 (some .long) :: ws) own_R4) (fun a U => a = #[(.long q1)] ∧ Z.Warmed39 U.vm ∧ U.heap = h0) (fun _ _ _ _ _ => True) (fun _ U o U' => ∃ v L, o = .returned v ∧ own_Q4 Z q1 h0 n0 v U'.heap L ∧ FrameEnd U o U' L own_R4.cells own_R4.slots) := by
  refine MetFree.of_bodySF (plainFor_of_name own_pn_4) hisR ?_
  intro p e s m args below meth c s₁ Bd hml0 hP hK
  obtain ⟨rfl, hZ, hh⟩ := hP
  have hx := Bd.exec
  have hby := Bd.bytes
  have hlk := BodyLoose.notSynchronized Bd
  have hml : c.maxLocals = 8 := hml0
  have hown : s.vm.findClass "com/example/tributary/tributary/benchmark/DrawsNextPinLaw" = some m.cls := (findClass_of_methodNamed Bd.named : s.vm.findClass (⟨"com/example/tributary/tributary/benchmark/DrawsNextPinLaw", "unmix", "(J)J"⟩ : MethodName).cls = some m.cls)
  have hnm := (name_of_methodNamed Bd.named Bd.method).1
  have X0 : Stand p l e own_R4 s m #[(.long q1)] below meth c s₁ [] 0 0 := Stand.of_body Bd
  have e0 : s₁.heap = h0 := by rw [← hh, Bd.state]; rfl
  have Nf := Fr.nil n0
  have Zs := Z0
  show own_Fin p e below s (own_Q4 Z q1 h0 n0) 0 0 s₁ (entryFrame m #[(.long q1)] 8)
  rw [own_ef_4 m q1]
  show own_Fin _ _ _ _ _ _ _ _ (mkF m 0 #[.val (.long q1), .second, .unset, .unset, .unset, .unset, .unset, .unset] [])
  refine own_step (fun t k => X0.ldc2Long hx hown (mvT hZ (hw _ (List.mem_of_getElem? (i := 24) rfl))) (g := (mkF m 0 #[.val (.long q1), .second, .unset, .unset, .unset, .unset, .unset, .unset] [])) rfl (hb hby d4_0) _ k) ?_
  show own_Fin _ _ _ _ _ _ _ _ (mkF m 3 #[.val (.long q1), .second, .unset, .unset, .unset, .unset, .unset, .unset] [(.long (-4658895280553007687 : Int64))])
  refine own_step (fun t k => XS.lstoreN X0.here hx rfl (hb hby d4_3) rfl (l' := #[.val (.long q1), .second, .val (.long (-4658895280553007687 : Int64)), .second, .unset, .unset, .unset, .unset]) rfl k) ?_
  show own_Fin _ _ _ _ _ _ _ _ (mkF m 4 #[.val (.long q1), .second, .val (.long (-4658895280553007687 : Int64)), .second, .unset, .unset, .unset, .unset] [])
  refine own_step (fun t k => X0.ldc2Long hx hown (mvT hZ (hw _ (List.mem_of_getElem? (i := 25) rfl))) (g := (mkF m 4 #[.val (.long q1), .second, .val (.long (-4658895280553007687 : Int64)), .second, .unset, .unset, .unset, .unset] [])) rfl (hb hby d4_4) _ k) ?_
  show own_Fin _ _ _ _ _ _ _ _ (mkF m 7 #[.val (.long q1), .second, .val (.long (-4658895280553007687 : Int64)), .second, .unset, .unset, .unset, .unset] [(.long (-7723592293110705685 : Int64))])
  refine own_step (fun t k => XS.lstore X0.here hx rfl (hb hby d4_7) rfl (l' := #[.val (.long q1), .second, .val (.long (-4658895280553007687 : Int64)), .second, .val (.long (-7723592293110705685 : Int64)), .second, .unset, .unset]) rfl k) ?_
  show own_Fin _ _ _ _ _ _ _ _ (mkF m 9 #[.val (.long q1), .second, .val (.long (-4658895280553007687 : Int64)), .second, .val (.long (-7723592293110705685 : Int64)), .second, .unset, .unset] [])
  refine own_step (fun t k => XS.lloadN X0.here hx rfl (hb hby d4_9) rfl k) ?_
  show own_Fin _ _ _ _ _ _ _ _ (mkF m 10 #[.val (.long q1), .second, .val (.long (-4658895280553007687 : Int64)), .second, .val (.long (-7723592293110705685 : Int64)), .second, .unset, .unset] [(.long q1)])
  refine own_step (fun t k => XS.lloadN X0.here hx rfl (hb hby d4_10) rfl k) ?_
  show own_Fin _ _ _ _ _ _ _ _ (mkF m 11 #[.val (.long q1), .second, .val (.long (-4658895280553007687 : Int64)), .second, .val (.long (-7723592293110705685 : Int64)), .second, .unset, .unset] [(.long q1), (.long q1)])
  refine own_step (fun t k => XS.bipush X0.here hx rfl (hb hby d4_11) k) ?_
  show own_Fin _ _ _ _ _ _ _ _ (mkF m 13 #[.val (.long q1), .second, .val (.long (-4658895280553007687 : Int64)), .second, .val (.long (-7723592293110705685 : Int64)), .second, .unset, .unset] [(.int (31 : Int32)), (.long q1), (.long q1)])
  refine own_step (fun t k => XS.lushr X0.here hx rfl (hb hby d4_13) rfl k) ?_
  show own_Fin _ _ _ _ _ _ _ _ (mkF m 14 #[.val (.long q1), .second, .val (.long (-4658895280553007687 : Int64)), .second, .val (.long (-7723592293110705685 : Int64)), .second, .unset, .unset] [(.long ((q1.toUInt64 >>> ((31 : Int32) &&& 0x3f).toInt64.toUInt64).toInt64)), (.long q1)])
  refine own_step (fun t k => XS.lxor X0.here hx rfl (hb hby d4_14) rfl k) ?_
  show own_Fin _ _ _ _ _ _ _ _ (mkF m 15 #[.val (.long q1), .second, .val (.long (-4658895280553007687 : Int64)), .second, .val (.long (-7723592293110705685 : Int64)), .second, .unset, .unset] [(.long (q1 ^^^ ((q1.toUInt64 >>> ((31 : Int32) &&& 0x3f).toInt64.toUInt64).toInt64)))])
  refine own_step (fun t k => XS.lloadN X0.here hx rfl (hb hby d4_15) rfl k) ?_
  show own_Fin _ _ _ _ _ _ _ _ (mkF m 16 #[.val (.long q1), .second, .val (.long (-4658895280553007687 : Int64)), .second, .val (.long (-7723592293110705685 : Int64)), .second, .unset, .unset] [(.long q1), (.long (q1 ^^^ ((q1.toUInt64 >>> ((31 : Int32) &&& 0x3f).toInt64.toUInt64).toInt64)))])
  refine own_step (fun t k => XS.bipush X0.here hx rfl (hb hby d4_16) k) ?_
  show own_Fin _ _ _ _ _ _ _ _ (mkF m 18 #[.val (.long q1), .second, .val (.long (-4658895280553007687 : Int64)), .second, .val (.long (-7723592293110705685 : Int64)), .second, .unset, .unset] [(.int (62 : Int32)), (.long q1), (.long (q1 ^^^ ((q1.toUInt64 >>> ((31 : Int32) &&& 0x3f).toInt64.toUInt64).toInt64)))])
  refine own_step (fun t k => XS.lushr X0.here hx rfl (hb hby d4_18) rfl k) ?_
  show own_Fin _ _ _ _ _ _ _ _ (mkF m 19 #[.val (.long q1), .second, .val (.long (-4658895280553007687 : Int64)), .second, .val (.long (-7723592293110705685 : Int64)), .second, .unset, .unset] [(.long ((q1.toUInt64 >>> ((62 : Int32) &&& 0x3f).toInt64.toUInt64).toInt64)), (.long (q1 ^^^ ((q1.toUInt64 >>> ((31 : Int32) &&& 0x3f).toInt64.toUInt64).toInt64)))])
  refine own_step (fun t k => XS.lxor X0.here hx rfl (hb hby d4_19) rfl k) ?_
  show own_Fin _ _ _ _ _ _ _ _ (mkF m 20 #[.val (.long q1), .second, .val (.long (-4658895280553007687 : Int64)), .second, .val (.long (-7723592293110705685 : Int64)), .second, .unset, .unset] [(.long ((q1 ^^^ ((q1.toUInt64 >>> ((31 : Int32) &&& 0x3f).toInt64.toUInt64).toInt64)) ^^^ ((q1.toUInt64 >>> ((62 : Int32) &&& 0x3f).toInt64.toUInt64).toInt64)))])
  generalize hz0 : ((q1 ^^^ ((q1.toUInt64 >>> ((31 : Int32) &&& 0x3f).toInt64.toUInt64).toInt64)) ^^^ ((q1.toUInt64 >>> ((62 : Int32) &&& 0x3f).toInt64.toUInt64).toInt64)) = z0
  refine own_step (fun t k => XS.lstore X0.here hx rfl (hb hby d4_20) rfl (l' := #[.val (.long q1), .second, .val (.long (-4658895280553007687 : Int64)), .second, .val (.long (-7723592293110705685 : Int64)), .second, .val (.long z0), .second]) rfl k) ?_
  show own_Fin _ _ _ _ _ _ _ _ (mkF m 22 #[.val (.long q1), .second, .val (.long (-4658895280553007687 : Int64)), .second, .val (.long (-7723592293110705685 : Int64)), .second, .val (.long z0), .second] [])
  refine own_step (fun t k => XS.lload X0.here hx rfl (hb hby d4_22) rfl k) ?_
  show own_Fin _ _ _ _ _ _ _ _ (mkF m 24 #[.val (.long q1), .second, .val (.long (-4658895280553007687 : Int64)), .second, .val (.long (-7723592293110705685 : Int64)), .second, .val (.long z0), .second] [(.long z0)])
  refine own_step (fun t k => XS.lload X0.here hx rfl (hb hby d4_24) rfl k) ?_
  show own_Fin _ _ _ _ _ _ _ _ (mkF m 26 #[.val (.long q1), .second, .val (.long (-4658895280553007687 : Int64)), .second, .val (.long (-7723592293110705685 : Int64)), .second, .val (.long z0), .second] [(.long (-7723592293110705685 : Int64)), (.long z0)])
  obtain ⟨_, _, ⟨T1, L1, k1, n1⟩, -, X1, ⟨Lc1, hQ1, l1, y1, z1⟩, st1⟩ := Jvm.LawKit.callS X0 hx (y := (⟨"com/example/tributary/tributary/benchmark/DrawsNextPinLaw", "inverse", "(J)J"⟩ : MethodName)) hown (mvT hZ (hw _ (List.mem_of_getElem? (i := 26) rfl))) (mvT hZ (hw _ (List.mem_of_getElem? (i := 27) rfl))) (mvT hZ (hw _ (List.mem_of_getElem? (i := 22) rfl))) (mvT hZ (hw _ (List.mem_of_getElem? (i := 28) rfl))) (by decide) (backOf (W := 2) (rm3 l Z a0 hw [] (-7723592293110705685 : Int64) h0 n0 Zs) hZ (hw _ (List.mem_of_getElem? (i := 28) rfl)) (hw _ (List.mem_of_getElem? (i := 22) rfl)) (by decide) (by decide)) (g := (mkF m 26 #[.val (.long q1), .second, .val (.long (-4658895280553007687 : Int64)), .second, .val (.long (-7723592293110705685 : Int64)), .second, .val (.long z0), .second] [(.long (-7723592293110705685 : Int64)), (.long z0)])) rfl (by rw [hml]; rfl) (argsL := [(.long (-7723592293110705685 : Int64))]) (rest := [(.long z0)]) (lenOf own_pd_0 rfl) rfl (by show 2 * 0 + _ ≤ _; exact Nat.le_of_eq rfl) (hb hby d4_26) (fun _ _ => ⟨rfl, e0, (by decide : 0 + 0 ≤ _), (by decide : 0 + 0 ≤ _)⟩)
  dsimp only [Pt.U, Pt.locs, Pt.cells, Pt.slots] at X1 l1 y1 z1 st1 hQ1
  subst l1 y1 z1
  obtain ⟨rfl, Nq1, hh1⟩ := hQ1
  replace Nf := Fr.app Nf Nq1
  refine own_step st1 ?_
  show own_Fin _ _ _ _ _ _ _ _ (mkF m 29 #[.val (.long q1), .second, .val (.long (-4658895280553007687 : Int64)), .second, .val (.long (-7723592293110705685 : Int64)), .second, .val (.long z0), .second] [(.long (own_inv (-7723592293110705685 : Int64))), (.long z0)])
  refine own_step (fun t k => XS.lmul X1.here hx rfl (hb hby d4_29) rfl k) ?_
  show own_Fin _ _ _ _ _ _ _ _ (mkF m 30 #[.val (.long q1), .second, .val (.long (-4658895280553007687 : Int64)), .second, .val (.long (-7723592293110705685 : Int64)), .second, .val (.long z0), .second] [(.long (z0 * (own_inv (-7723592293110705685 : Int64))))])
  generalize hz1 : (z0 * (own_inv (-7723592293110705685 : Int64))) = z1
  refine own_step (fun t k => XS.lstore X1.here hx rfl (hb hby d4_30) rfl (l' := #[.val (.long q1), .second, .val (.long (-4658895280553007687 : Int64)), .second, .val (.long (-7723592293110705685 : Int64)), .second, .val (.long z1), .second]) rfl k) ?_
  show own_Fin _ _ _ _ _ _ _ _ (mkF m 32 #[.val (.long q1), .second, .val (.long (-4658895280553007687 : Int64)), .second, .val (.long (-7723592293110705685 : Int64)), .second, .val (.long z1), .second] [])
  refine own_step (fun t k => XS.lload X1.here hx rfl (hb hby d4_32) rfl k) ?_
  show own_Fin _ _ _ _ _ _ _ _ (mkF m 34 #[.val (.long q1), .second, .val (.long (-4658895280553007687 : Int64)), .second, .val (.long (-7723592293110705685 : Int64)), .second, .val (.long z1), .second] [(.long z1)])
  refine own_step (fun t k => XS.lload X1.here hx rfl (hb hby d4_34) rfl k) ?_
  show own_Fin _ _ _ _ _ _ _ _ (mkF m 36 #[.val (.long q1), .second, .val (.long (-4658895280553007687 : Int64)), .second, .val (.long (-7723592293110705685 : Int64)), .second, .val (.long z1), .second] [(.long z1), (.long z1)])
  refine own_step (fun t k => XS.bipush X1.here hx rfl (hb hby d4_36) k) ?_
  show own_Fin _ _ _ _ _ _ _ _ (mkF m 38 #[.val (.long q1), .second, .val (.long (-4658895280553007687 : Int64)), .second, .val (.long (-7723592293110705685 : Int64)), .second, .val (.long z1), .second] [(.int (27 : Int32)), (.long z1), (.long z1)])
  refine own_step (fun t k => XS.lushr X1.here hx rfl (hb hby d4_38) rfl k) ?_
  show own_Fin _ _ _ _ _ _ _ _ (mkF m 39 #[.val (.long q1), .second, .val (.long (-4658895280553007687 : Int64)), .second, .val (.long (-7723592293110705685 : Int64)), .second, .val (.long z1), .second] [(.long ((z1.toUInt64 >>> ((27 : Int32) &&& 0x3f).toInt64.toUInt64).toInt64)), (.long z1)])
  refine own_step (fun t k => XS.lxor X1.here hx rfl (hb hby d4_39) rfl k) ?_
  show own_Fin _ _ _ _ _ _ _ _ (mkF m 40 #[.val (.long q1), .second, .val (.long (-4658895280553007687 : Int64)), .second, .val (.long (-7723592293110705685 : Int64)), .second, .val (.long z1), .second] [(.long (z1 ^^^ ((z1.toUInt64 >>> ((27 : Int32) &&& 0x3f).toInt64.toUInt64).toInt64)))])
  refine own_step (fun t k => XS.lload X1.here hx rfl (hb hby d4_40) rfl k) ?_
  show own_Fin _ _ _ _ _ _ _ _ (mkF m 42 #[.val (.long q1), .second, .val (.long (-4658895280553007687 : Int64)), .second, .val (.long (-7723592293110705685 : Int64)), .second, .val (.long z1), .second] [(.long z1), (.long (z1 ^^^ ((z1.toUInt64 >>> ((27 : Int32) &&& 0x3f).toInt64.toUInt64).toInt64)))])
  refine own_step (fun t k => XS.bipush X1.here hx rfl (hb hby d4_42) k) ?_
  show own_Fin _ _ _ _ _ _ _ _ (mkF m 44 #[.val (.long q1), .second, .val (.long (-4658895280553007687 : Int64)), .second, .val (.long (-7723592293110705685 : Int64)), .second, .val (.long z1), .second] [(.int (54 : Int32)), (.long z1), (.long (z1 ^^^ ((z1.toUInt64 >>> ((27 : Int32) &&& 0x3f).toInt64.toUInt64).toInt64)))])
  refine own_step (fun t k => XS.lushr X1.here hx rfl (hb hby d4_44) rfl k) ?_
  show own_Fin _ _ _ _ _ _ _ _ (mkF m 45 #[.val (.long q1), .second, .val (.long (-4658895280553007687 : Int64)), .second, .val (.long (-7723592293110705685 : Int64)), .second, .val (.long z1), .second] [(.long ((z1.toUInt64 >>> ((54 : Int32) &&& 0x3f).toInt64.toUInt64).toInt64)), (.long (z1 ^^^ ((z1.toUInt64 >>> ((27 : Int32) &&& 0x3f).toInt64.toUInt64).toInt64)))])
  refine own_step (fun t k => XS.lxor X1.here hx rfl (hb hby d4_45) rfl k) ?_
  show own_Fin _ _ _ _ _ _ _ _ (mkF m 46 #[.val (.long q1), .second, .val (.long (-4658895280553007687 : Int64)), .second, .val (.long (-7723592293110705685 : Int64)), .second, .val (.long z1), .second] [(.long ((z1 ^^^ ((z1.toUInt64 >>> ((27 : Int32) &&& 0x3f).toInt64.toUInt64).toInt64)) ^^^ ((z1.toUInt64 >>> ((54 : Int32) &&& 0x3f).toInt64.toUInt64).toInt64)))])
  generalize hz2 : ((z1 ^^^ ((z1.toUInt64 >>> ((27 : Int32) &&& 0x3f).toInt64.toUInt64).toInt64)) ^^^ ((z1.toUInt64 >>> ((54 : Int32) &&& 0x3f).toInt64.toUInt64).toInt64)) = z2
  refine own_step (fun t k => XS.lstore X1.here hx rfl (hb hby d4_46) rfl (l' := #[.val (.long q1), .second, .val (.long (-4658895280553007687 : Int64)), .second, .val (.long (-7723592293110705685 : Int64)), .second, .val (.long z2), .second]) rfl k) ?_
  show own_Fin _ _ _ _ _ _ _ _ (mkF m 48 #[.val (.long q1), .second, .val (.long (-4658895280553007687 : Int64)), .second, .val (.long (-7723592293110705685 : Int64)), .second, .val (.long z2), .second] [])
  refine own_step (fun t k => XS.lload X1.here hx rfl (hb hby d4_48) rfl k) ?_
  show own_Fin _ _ _ _ _ _ _ _ (mkF m 50 #[.val (.long q1), .second, .val (.long (-4658895280553007687 : Int64)), .second, .val (.long (-7723592293110705685 : Int64)), .second, .val (.long z2), .second] [(.long z2)])
  refine own_step (fun t k => XS.lloadN X1.here hx rfl (hb hby d4_50) rfl k) ?_
  show own_Fin _ _ _ _ _ _ _ _ (mkF m 51 #[.val (.long q1), .second, .val (.long (-4658895280553007687 : Int64)), .second, .val (.long (-7723592293110705685 : Int64)), .second, .val (.long z2), .second] [(.long (-4658895280553007687 : Int64)), (.long z2)])
  obtain ⟨_, _, ⟨T2, L2, k2, n2⟩, -, X2, ⟨Lc2, hQ2, l2, y2, z2⟩, st2⟩ := Jvm.LawKit.callS X1 hx (y := (⟨"com/example/tributary/tributary/benchmark/DrawsNextPinLaw", "inverse", "(J)J"⟩ : MethodName)) hown (mvT hZ (hw _ (List.mem_of_getElem? (i := 26) rfl))) (mvT hZ (hw _ (List.mem_of_getElem? (i := 27) rfl))) (mvT hZ (hw _ (List.mem_of_getElem? (i := 22) rfl))) (mvT hZ (hw _ (List.mem_of_getElem? (i := 28) rfl))) (by decide) (backOf (W := 2) (rm3 l Z a0 hw [] (-4658895280553007687 : Int64) h0 n0 Zs) hZ (hw _ (List.mem_of_getElem? (i := 28) rfl)) (hw _ (List.mem_of_getElem? (i := 22) rfl)) (by decide) (by decide)) (g := (mkF m 51 #[.val (.long q1), .second, .val (.long (-4658895280553007687 : Int64)), .second, .val (.long (-7723592293110705685 : Int64)), .second, .val (.long z2), .second] [(.long (-4658895280553007687 : Int64)), (.long z2)])) rfl (by rw [hml]; rfl) (argsL := [(.long (-4658895280553007687 : Int64))]) (rest := [(.long z2)]) (lenOf own_pd_0 rfl) rfl (by show 2 * 0 + _ ≤ _; exact Nat.le_of_eq rfl) (hb hby d4_51) (fun _ _ => ⟨rfl, hh1, (by decide : 0 + 0 ≤ _), (by decide : 0 + 0 ≤ _)⟩)
  dsimp only [Pt.U, Pt.locs, Pt.cells, Pt.slots] at X2 l2 y2 z2 st2 hQ2
  subst l2 y2 z2
  obtain ⟨rfl, Nq2, hh2⟩ := hQ2
  replace Nf := Fr.app Nf Nq2
  refine own_step st2 ?_
  show own_Fin _ _ _ _ _ _ _ _ (mkF m 54 #[.val (.long q1), .second, .val (.long (-4658895280553007687 : Int64)), .second, .val (.long (-7723592293110705685 : Int64)), .second, .val (.long z2), .second] [(.long (own_inv (-4658895280553007687 : Int64))), (.long z2)])
  refine own_step (fun t k => XS.lmul X2.here hx rfl (hb hby d4_54) rfl k) ?_
  show own_Fin _ _ _ _ _ _ _ _ (mkF m 55 #[.val (.long q1), .second, .val (.long (-4658895280553007687 : Int64)), .second, .val (.long (-7723592293110705685 : Int64)), .second, .val (.long z2), .second] [(.long (z2 * (own_inv (-4658895280553007687 : Int64))))])
  generalize hz3 : (z2 * (own_inv (-4658895280553007687 : Int64))) = z3
  refine own_step (fun t k => XS.lstore X2.here hx rfl (hb hby d4_55) rfl (l' := #[.val (.long q1), .second, .val (.long (-4658895280553007687 : Int64)), .second, .val (.long (-7723592293110705685 : Int64)), .second, .val (.long z3), .second]) rfl k) ?_
  show own_Fin _ _ _ _ _ _ _ _ (mkF m 57 #[.val (.long q1), .second, .val (.long (-4658895280553007687 : Int64)), .second, .val (.long (-7723592293110705685 : Int64)), .second, .val (.long z3), .second] [])
  refine own_step (fun t k => XS.lload X2.here hx rfl (hb hby d4_57) rfl k) ?_
  show own_Fin _ _ _ _ _ _ _ _ (mkF m 59 #[.val (.long q1), .second, .val (.long (-4658895280553007687 : Int64)), .second, .val (.long (-7723592293110705685 : Int64)), .second, .val (.long z3), .second] [(.long z3)])
  refine own_step (fun t k => XS.lload X2.here hx rfl (hb hby d4_59) rfl k) ?_
  show own_Fin _ _ _ _ _ _ _ _ (mkF m 61 #[.val (.long q1), .second, .val (.long (-4658895280553007687 : Int64)), .second, .val (.long (-7723592293110705685 : Int64)), .second, .val (.long z3), .second] [(.long z3), (.long z3)])
  refine own_step (fun t k => XS.bipush X2.here hx rfl (hb hby d4_61) k) ?_
  show own_Fin _ _ _ _ _ _ _ _ (mkF m 63 #[.val (.long q1), .second, .val (.long (-4658895280553007687 : Int64)), .second, .val (.long (-7723592293110705685 : Int64)), .second, .val (.long z3), .second] [(.int (30 : Int32)), (.long z3), (.long z3)])
  refine own_step (fun t k => XS.lushr X2.here hx rfl (hb hby d4_63) rfl k) ?_
  show own_Fin _ _ _ _ _ _ _ _ (mkF m 64 #[.val (.long q1), .second, .val (.long (-4658895280553007687 : Int64)), .second, .val (.long (-7723592293110705685 : Int64)), .second, .val (.long z3), .second] [(.long ((z3.toUInt64 >>> ((30 : Int32) &&& 0x3f).toInt64.toUInt64).toInt64)), (.long z3)])
  refine own_step (fun t k => XS.lxor X2.here hx rfl (hb hby d4_64) rfl k) ?_
  show own_Fin _ _ _ _ _ _ _ _ (mkF m 65 #[.val (.long q1), .second, .val (.long (-4658895280553007687 : Int64)), .second, .val (.long (-7723592293110705685 : Int64)), .second, .val (.long z3), .second] [(.long (z3 ^^^ ((z3.toUInt64 >>> ((30 : Int32) &&& 0x3f).toInt64.toUInt64).toInt64)))])
  refine own_step (fun t k => XS.lload X2.here hx rfl (hb hby d4_65) rfl k) ?_
  show own_Fin _ _ _ _ _ _ _ _ (mkF m 67 #[.val (.long q1), .second, .val (.long (-4658895280553007687 : Int64)), .second, .val (.long (-7723592293110705685 : Int64)), .second, .val (.long z3), .second] [(.long z3), (.long (z3 ^^^ ((z3.toUInt64 >>> ((30 : Int32) &&& 0x3f).toInt64.toUInt64).toInt64)))])
  refine own_step (fun t k => XS.bipush X2.here hx rfl (hb hby d4_67) k) ?_
  show own_Fin _ _ _ _ _ _ _ _ (mkF m 69 #[.val (.long q1), .second, .val (.long (-4658895280553007687 : Int64)), .second, .val (.long (-7723592293110705685 : Int64)), .second, .val (.long z3), .second] [(.int (60 : Int32)), (.long z3), (.long (z3 ^^^ ((z3.toUInt64 >>> ((30 : Int32) &&& 0x3f).toInt64.toUInt64).toInt64)))])
  refine own_step (fun t k => XS.lushr X2.here hx rfl (hb hby d4_69) rfl k) ?_
  show own_Fin _ _ _ _ _ _ _ _ (mkF m 70 #[.val (.long q1), .second, .val (.long (-4658895280553007687 : Int64)), .second, .val (.long (-7723592293110705685 : Int64)), .second, .val (.long z3), .second] [(.long ((z3.toUInt64 >>> ((60 : Int32) &&& 0x3f).toInt64.toUInt64).toInt64)), (.long (z3 ^^^ ((z3.toUInt64 >>> ((30 : Int32) &&& 0x3f).toInt64.toUInt64).toInt64)))])
  refine own_step (fun t k => XS.lxor X2.here hx rfl (hb hby d4_70) rfl k) ?_
  show own_Fin _ _ _ _ _ _ _ _ (mkF m 71 #[.val (.long q1), .second, .val (.long (-4658895280553007687 : Int64)), .second, .val (.long (-7723592293110705685 : Int64)), .second, .val (.long z3), .second] [(.long ((z3 ^^^ ((z3.toUInt64 >>> ((30 : Int32) &&& 0x3f).toInt64.toUInt64).toInt64)) ^^^ ((z3.toUInt64 >>> ((60 : Int32) &&& 0x3f).toInt64.toUInt64).toInt64)))])
  refine own_step (fun t k => XS.lstore X2.here hx rfl (hb hby d4_71) rfl (l' := #[.val (.long q1), .second, .val (.long (-4658895280553007687 : Int64)), .second, .val (.long (-7723592293110705685 : Int64)), .second, .val (.long ((z3 ^^^ ((z3.toUInt64 >>> ((30 : Int32) &&& 0x3f).toInt64.toUInt64).toInt64)) ^^^ ((z3.toUInt64 >>> ((60 : Int32) &&& 0x3f).toInt64.toUInt64).toInt64))), .second]) rfl k) ?_
  show own_Fin _ _ _ _ _ _ _ _ (mkF m 73 #[.val (.long q1), .second, .val (.long (-4658895280553007687 : Int64)), .second, .val (.long (-7723592293110705685 : Int64)), .second, .val (.long ((z3 ^^^ ((z3.toUInt64 >>> ((30 : Int32) &&& 0x3f).toInt64.toUInt64).toInt64)) ^^^ ((z3.toUInt64 >>> ((60 : Int32) &&& 0x3f).toInt64.toUInt64).toInt64))), .second] [])
  refine own_step (fun t k => XS.lload X2.here hx rfl (hb hby d4_73) rfl k) ?_
  show own_Fin _ _ _ _ _ _ _ _ (mkF m 75 #[.val (.long q1), .second, .val (.long (-4658895280553007687 : Int64)), .second, .val (.long (-7723592293110705685 : Int64)), .second, .val (.long ((z3 ^^^ ((z3.toUInt64 >>> ((30 : Int32) &&& 0x3f).toInt64.toUInt64).toInt64)) ^^^ ((z3.toUInt64 >>> ((60 : Int32) &&& 0x3f).toInt64.toUInt64).toInt64))), .second] [(.long ((z3 ^^^ ((z3.toUInt64 >>> ((30 : Int32) &&& 0x3f).toInt64.toUInt64).toInt64)) ^^^ ((z3.toUInt64 >>> ((60 : Int32) &&& 0x3f).toInt64.toUInt64).toInt64)))])
  refine own_retJ X2 hx hlk Bd.returns (hb hby d4_75) (by decide) (by decide) hh2 ?_
  subst hz3 hz2 hz1 hz0; exact ⟨rfl, Nf, rfl⟩
theorem own_pd_1 : parseMethodDescriptor "(J)V" = some ⟨[.long], none⟩ := by decide +kernel
theorem own_pd_2 : parseMethodDescriptor "()J" = some ⟨[], some .long⟩ := by decide +kernel
theorem own_pn_0 : plainName "com/example/tributary/tributary/benchmark/DrawsNextPinLaw" = true := by first | (simp [plainName, overriddenIn]; done) | decide +kernel
theorem own_ef_0 (m : MethodId) (q1 : Int64) : entryFrame m #[(.long q1)] maxLocals = mkF m 0 #[.val (.long q1), .second, .unset, .unset, .unset, .unset, .unset, .unset, .unset] [] := by first | (simp [entryFrame, mkF, argsToLocals, Value.category, maxLocals]; done) | rfl
def own_Q0 (Z : State) (q1 : Int64) (h0 : Heap) (n0 : Nat) (v : Option Value) (h : Heap) (L : List Loc) : Prop := v = some (.int 1) ∧ Fr n0 L
set_option maxRecDepth 65536 in
set_option maxHeartbeats 40000000 in
theorem rm0 (l : Launch) (Z : State) (a0 : Array Value) (hw : ∀ d ∈ tables_1, d.before a0 Z = true) (ws : List Jvm.Cond) (q1 : Int64) (h0 : Heap) (n0 : Nat) (Z0 : n0 ≤ h0.size) :
    MetFree l x (head1 (Jvm.Cond.code x code maxLocals ret :: ws) room_1) (fun a U => a = #[(.long q1)] ∧ Z.Warmed39 U.vm ∧ U.heap = h0) (fun _ _ _ _ _ => True) (fun _ U o U' => ∃ v L, o = .returned v ∧ own_Q0 Z q1 h0 n0 v U'.heap L ∧ FrameEnd U o U' L 16 128) := by
  refine MetFree.of_bodySF (plainFor_of_name own_pn_0) hisR ?_
  intro p e s m args below meth c s₁ Bd hml0 hP hK
  obtain ⟨rfl, hZ, hh⟩ := hP
  have hx := Bd.exec
  have hby := Bd.bytes
  have hlk := BodyLoose.notSynchronized Bd
  have hml : c.maxLocals = 9 := hml0
  have hown : s.vm.findClass "com/example/tributary/tributary/benchmark/DrawsNextPinLaw" = some m.cls := (findClass_of_methodNamed Bd.named : s.vm.findClass x.cls = some m.cls)
  have hnm := (name_of_methodNamed Bd.named Bd.method).1
  have X0 : Stand p l e room_1 s m #[(.long q1)] below meth c s₁ [] 0 0 := Stand.of_body Bd
  have e0 : s₁.heap = h0 := by rw [← hh, Bd.state]; rfl
  have Nf := Fr.nil n0
  have Zs := Z0
  show own_Fin p e below s (own_Q0 Z q1 h0 n0) 16 128 s₁ (entryFrame m #[(.long q1)] maxLocals)
  rw [own_ef_0 m q1]
  show own_Fin _ _ _ _ _ _ _ _ (mkF m 0 #[.val (.long q1), .second, .unset, .unset, .unset, .unset, .unset, .unset, .unset] [])
  refine own_step (fun t k => X0.ldc2Long hx hown (mvT hZ (hw _ (List.mem_of_getElem? (i := 0) rfl))) (g := (mkF m 0 #[.val (.long q1), .second, .unset, .unset, .unset, .unset, .unset, .unset, .unset] [])) rfl (hb hby at_0) _ k) ?_
  show own_Fin _ _ _ _ _ _ _ _ (mkF m 3 #[.val (.long q1), .second, .unset, .unset, .unset, .unset, .unset, .unset, .unset] [(.long (-7046029254386353131 : Int64))])
  refine own_step (fun t k => XS.lstoreN X0.here hx rfl (hb hby at_3) rfl (l' := #[.val (.long q1), .second, .val (.long (-7046029254386353131 : Int64)), .second, .unset, .unset, .unset, .unset, .unset]) rfl k) ?_
  show own_Fin _ _ _ _ _ _ _ _ (mkF m 4 #[.val (.long q1), .second, .val (.long (-7046029254386353131 : Int64)), .second, .unset, .unset, .unset, .unset, .unset] [])
  obtain ⟨T1, h1, X1, e1, E1, A1, D1, -, st1⟩ := newO X0 hx hZ hown (hw _ (List.mem_of_getElem? (i := 1) rfl)) (hw _ (List.mem_of_getElem? (i := 2) rfl)) (hw _ (List.mem_of_getElem? (i := 3) rfl)) e0 (g := (mkF m 4 #[.val (.long q1), .second, .val (.long (-7046029254386353131 : Int64)), .second, .unset, .unset, .unset, .unset, .unset] [])) rfl (hb hby at_4) (by decide) (by decide)
  obtain ⟨b1, g1⟩ : ∃ z, z = h0.size := ⟨_, rfl⟩
  rw [← g1] at A1 D1 st1
  refine own_step st1 ?_
  have g_b1 : n0 ≤ b1 := Nat.le_trans Zs (Nat.le_of_eq g1.symm)
  replace Zs := Nat.le_trans Zs E1.1
  have E_b1 := A1
  have F_state_b1 : Fld Z h1 b1 "com/example/tributary/tributary/benchmark/Draws" "state" "J" (.long (0 : Int64)) := D1 (Or.inl (hw _ (List.mem_of_getElem? (i := 11) rfl))) (ty := .long) (by decide)
  show own_Fin _ _ _ _ _ _ _ _ (mkF m 7 #[.val (.long q1), .second, .val (.long (-7046029254386353131 : Int64)), .second, .unset, .unset, .unset, .unset, .unset] [(.ref b1)])
  refine own_step (fun t k => XS.dup X1.here hx rfl (hb hby at_7) rfl rfl k) ?_
  show own_Fin _ _ _ _ _ _ _ _ (mkF m 8 #[.val (.long q1), .second, .val (.long (-7046029254386353131 : Int64)), .second, .unset, .unset, .unset, .unset, .unset] [(.ref b1), (.ref b1)])
  refine own_step (fun t k => XS.lloadN X1.here hx rfl (hb hby at_8) rfl k) ?_
  show own_Fin _ _ _ _ _ _ _ _ (mkF m 9 #[.val (.long q1), .second, .val (.long (-7046029254386353131 : Int64)), .second, .unset, .unset, .unset, .unset, .unset] [(.long q1), (.ref b1), (.ref b1)])
  obtain ⟨_, _, ⟨T2, L2, k2, n2⟩, -, X2, ⟨Lc2, hQ2, l2, y2, z2⟩, st2⟩ := X1.specialBack hx (y := (⟨"com/example/tributary/tributary/benchmark/Draws", "<init>", "(J)V"⟩ : MethodName)) rfl hown (mvT hZ (hw _ (List.mem_of_getElem? (i := 4) rfl))) (mvT hZ (hw _ (List.mem_of_getElem? (i := 5) rfl))) (mvT hZ (hw _ (List.mem_of_getElem? (i := 6) rfl))) (by decide) (backOf (W := 1) (rm1 l Z a0 hw [] b1 q1 h1 n0 Zs E_b1 F_state_b1 g_b1) hZ (hw _ (List.mem_of_getElem? (i := 6) rfl)) (hw _ (List.mem_of_getElem? (i := 3) rfl)) (by decide) (by decide)) (g := (mkF m 9 #[.val (.long q1), .second, .val (.long (-7046029254386353131 : Int64)), .second, .unset, .unset, .unset, .unset, .unset] [(.long q1), (.ref b1), (.ref b1)])) rfl (by rw [hml]; rfl) (Steps.refl _) (a := b1) (argsL := [(.long q1)]) (rest := [(.ref b1)]) (lenOf own_pd_1 rfl) rfl (by show 2 * 0 + _ ≤ _; exact Nat.le_of_eq rfl) (hb hby at_9) (fun _ _ => ⟨rfl, e1, (by decide : 1 + 0 ≤ _), (by decide : 1 + 0 ≤ _)⟩)
  dsimp only [Pt.U, Pt.locs, Pt.cells, Pt.slots] at X2 l2 y2 z2 st2 hQ2
  subst l2 y2 z2
  obtain ⟨rfl, Nq2, Kq2, P2_0, P2_1⟩ := hQ2
  replace Nf := Fr.app Nf Nq2
  replace E_b1 := P2_0
  replace F_state_b1 := P2_1
  replace Zs := Nat.le_trans Zs Kq2.1
  refine own_stepT st2 ?_
  show own_Fin _ _ _ _ _ _ _ _ (mkF m 12 #[.val (.long q1), .second, .val (.long (-7046029254386353131 : Int64)), .second, .unset, .unset, .unset, .unset, .unset] [(.ref b1)])
  refine own_step (fun t k => XS.astore X2.here hx rfl (hb hby at_12) rfl rfl (l' := #[.val (.long q1), .second, .val (.long (-7046029254386353131 : Int64)), .second, .val (.ref b1), .unset, .unset, .unset, .unset]) rfl k) ?_
  show own_Fin _ _ _ _ _ _ _ _ (mkF m 14 #[.val (.long q1), .second, .val (.long (-7046029254386353131 : Int64)), .second, .val (.ref b1), .unset, .unset, .unset, .unset] [])
  refine own_step (fun t k => XS.aload X2.here hx rfl (hb hby at_14) rfl rfl k) ?_
  show own_Fin _ _ _ _ _ _ _ _ (mkF m 16 #[.val (.long q1), .second, .val (.long (-7046029254386353131 : Int64)), .second, .val (.ref b1), .unset, .unset, .unset, .unset] [(.ref b1)])
  obtain ⟨cq3, kq3, q3a, q3b, q3c⟩ := isOf hZ rfl E_b1
  obtain ⟨_, _, ⟨T3, L3, k3, n3⟩, -, X3, ⟨Lc3, hQ3, l3, y3, z3⟩, st3⟩ := X2.virtualBack hx (y := (⟨"com/example/tributary/tributary/benchmark/Draws", "next", "()J"⟩ : MethodName)) (z := (⟨"com/example/tributary/tributary/benchmark/Draws", "next", "()J"⟩ : MethodName)) hown (mvT hZ (hw _ (List.mem_of_getElem? (i := 12) rfl))) (mvT hZ (hw _ (List.mem_of_getElem? (i := 13) rfl))) (notFace_of_selects (args := #[]) (mvT hZ (hw _ (List.mem_of_getElem? (i := 15) rfl)))) (mvT hZ (hw _ (List.mem_of_getElem? (i := 15) rfl))) (mvT hZ (hw _ (List.mem_of_getElem? (i := 14) rfl))) (by decide) (backOf (W := 0) (rm2 l Z a0 hw [] b1 _ T2.heap n0 Zs E_b1 F_state_b1 g_b1) hZ (hw _ (List.mem_of_getElem? (i := 16) rfl)) (hw _ (List.mem_of_getElem? (i := 3) rfl)) (by decide) (by decide)) q3a q3c (g := (mkF m 16 #[.val (.long q1), .second, .val (.long (-7046029254386353131 : Int64)), .second, .val (.ref b1), .unset, .unset, .unset, .unset] [(.ref b1)])) rfl (by rw [hml]; rfl) (Steps.refl _) (argsL := []) (rest := []) (lenOf own_pd_2 rfl) rfl (by show 2 * 0 + _ ≤ _; exact Nat.le_of_eq rfl) (hb hby at_16) (fun _ _ => ⟨rfl, rfl, (by decide : 1 + 0 ≤ _), (by decide : 1 + 0 ≤ _)⟩)
  dsimp only [Pt.U, Pt.locs, Pt.cells, Pt.slots] at X3 l3 y3 z3 st3 hQ3
  subst l3 y3 z3
  obtain ⟨rfl, Nq3, Kq3, P3_0, P3_1⟩ := hQ3
  replace Nf := Fr.app Nf Nq3
  replace E_b1 := P3_0
  replace F_state_b1 := P3_1
  replace Zs := Nat.le_trans Zs Kq3.1
  refine own_stepT st3 ?_
  show own_Fin _ _ _ _ _ _ _ _ (mkF m 19 #[.val (.long q1), .second, .val (.long (-7046029254386353131 : Int64)), .second, .val (.ref b1), .unset, .unset, .unset, .unset] [(.long (own_mix (q1 + (-7046029254386353131 : Int64))))])
  refine own_step (fun t k => XS.lstore X3.here hx rfl (hb hby at_19) rfl (l' := #[.val (.long q1), .second, .val (.long (-7046029254386353131 : Int64)), .second, .val (.ref b1), .val (.long (own_mix (q1 + (-7046029254386353131 : Int64)))), .second, .unset, .unset]) rfl k) ?_
  show own_Fin _ _ _ _ _ _ _ _ (mkF m 21 #[.val (.long q1), .second, .val (.long (-7046029254386353131 : Int64)), .second, .val (.ref b1), .val (.long (own_mix (q1 + (-7046029254386353131 : Int64)))), .second, .unset, .unset] [])
  refine own_step (fun t k => XS.aload X3.here hx rfl (hb hby at_21) rfl rfl k) ?_
  show own_Fin _ _ _ _ _ _ _ _ (mkF m 23 #[.val (.long q1), .second, .val (.long (-7046029254386353131 : Int64)), .second, .val (.ref b1), .val (.long (own_mix (q1 + (-7046029254386353131 : Int64)))), .second, .unset, .unset] [(.ref b1)])
  obtain ⟨cq4, kq4, q4a, q4b, q4c⟩ := isOf hZ rfl E_b1
  obtain ⟨_, _, ⟨T4, L4, k4, n4⟩, -, X4, ⟨Lc4, hQ4, l4, y4, z4⟩, st4⟩ := X3.virtualBack hx (y := (⟨"com/example/tributary/tributary/benchmark/Draws", "next", "()J"⟩ : MethodName)) (z := (⟨"com/example/tributary/tributary/benchmark/Draws", "next", "()J"⟩ : MethodName)) hown (mvT hZ (hw _ (List.mem_of_getElem? (i := 12) rfl))) (mvT hZ (hw _ (List.mem_of_getElem? (i := 13) rfl))) (notFace_of_selects (args := #[]) (mvT hZ (hw _ (List.mem_of_getElem? (i := 15) rfl)))) (mvT hZ (hw _ (List.mem_of_getElem? (i := 15) rfl))) (mvT hZ (hw _ (List.mem_of_getElem? (i := 14) rfl))) (by decide) (backOf (W := 0) (rm2 l Z a0 hw [] b1 _ T3.heap n0 Zs E_b1 F_state_b1 g_b1) hZ (hw _ (List.mem_of_getElem? (i := 16) rfl)) (hw _ (List.mem_of_getElem? (i := 3) rfl)) (by decide) (by decide)) q4a q4c (g := (mkF m 23 #[.val (.long q1), .second, .val (.long (-7046029254386353131 : Int64)), .second, .val (.ref b1), .val (.long (own_mix (q1 + (-7046029254386353131 : Int64)))), .second, .unset, .unset] [(.ref b1)])) rfl (by rw [hml]; rfl) (Steps.refl _) (argsL := []) (rest := []) (lenOf own_pd_2 rfl) rfl (by show 2 * 0 + _ ≤ _; exact Nat.le_of_eq rfl) (hb hby at_23) (fun _ _ => ⟨rfl, rfl, (by decide : 1 + 0 ≤ _), (by decide : 1 + 0 ≤ _)⟩)
  dsimp only [Pt.U, Pt.locs, Pt.cells, Pt.slots] at X4 l4 y4 z4 st4 hQ4
  subst l4 y4 z4
  obtain ⟨rfl, Nq4, Kq4, P4_0, P4_1⟩ := hQ4
  replace Nf := Fr.app Nf Nq4
  replace E_b1 := P4_0
  replace F_state_b1 := P4_1
  replace Zs := Nat.le_trans Zs Kq4.1
  refine own_stepT st4 ?_
  show own_Fin _ _ _ _ _ _ _ _ (mkF m 26 #[.val (.long q1), .second, .val (.long (-7046029254386353131 : Int64)), .second, .val (.ref b1), .val (.long (own_mix (q1 + (-7046029254386353131 : Int64)))), .second, .unset, .unset] [(.long (own_mix ((q1 + (-7046029254386353131 : Int64)) + (-7046029254386353131 : Int64))))])
  refine own_step (fun t k => XS.lstore X4.here hx rfl (hb hby at_26) rfl (l' := #[.val (.long q1), .second, .val (.long (-7046029254386353131 : Int64)), .second, .val (.ref b1), .val (.long (own_mix (q1 + (-7046029254386353131 : Int64)))), .second, .val (.long (own_mix ((q1 + (-7046029254386353131 : Int64)) + (-7046029254386353131 : Int64)))), .second]) rfl k) ?_
  show own_Fin _ _ _ _ _ _ _ _ (mkF m 28 #[.val (.long q1), .second, .val (.long (-7046029254386353131 : Int64)), .second, .val (.ref b1), .val (.long (own_mix (q1 + (-7046029254386353131 : Int64)))), .second, .val (.long (own_mix ((q1 + (-7046029254386353131 : Int64)) + (-7046029254386353131 : Int64)))), .second] [])
  refine own_step (fun t k => XS.lload X4.here hx rfl (hb hby at_28) rfl k) ?_
  show own_Fin _ _ _ _ _ _ _ _ (mkF m 30 #[.val (.long q1), .second, .val (.long (-7046029254386353131 : Int64)), .second, .val (.ref b1), .val (.long (own_mix (q1 + (-7046029254386353131 : Int64)))), .second, .val (.long (own_mix ((q1 + (-7046029254386353131 : Int64)) + (-7046029254386353131 : Int64)))), .second] [(.long (own_mix (q1 + (-7046029254386353131 : Int64))))])
  obtain ⟨_, _, ⟨T5, L5, k5, n5⟩, -, X5, ⟨Lc5, hQ5, l5, y5, z5⟩, st5⟩ := Jvm.LawKit.callS X4 hx (y := (⟨"com/example/tributary/tributary/benchmark/DrawsNextPinLaw", "unmix", "(J)J"⟩ : MethodName)) hown (mvT hZ (hw _ (List.mem_of_getElem? (i := 20) rfl))) (mvT hZ (hw _ (List.mem_of_getElem? (i := 21) rfl))) (mvT hZ (hw _ (List.mem_of_getElem? (i := 22) rfl))) (mvT hZ (hw _ (List.mem_of_getElem? (i := 23) rfl))) (by decide) (backOf (W := 0) (rm4 l Z a0 hw [] (own_mix (q1 + (-7046029254386353131 : Int64))) T4.heap n0 Zs) hZ (hw _ (List.mem_of_getElem? (i := 23) rfl)) (hw _ (List.mem_of_getElem? (i := 22) rfl)) (by decide) (by decide)) (g := (mkF m 30 #[.val (.long q1), .second, .val (.long (-7046029254386353131 : Int64)), .second, .val (.ref b1), .val (.long (own_mix (q1 + (-7046029254386353131 : Int64)))), .second, .val (.long (own_mix ((q1 + (-7046029254386353131 : Int64)) + (-7046029254386353131 : Int64)))), .second] [(.long (own_mix (q1 + (-7046029254386353131 : Int64))))])) rfl (by rw [hml]; rfl) (argsL := [(.long (own_mix (q1 + (-7046029254386353131 : Int64))))]) (rest := []) (lenOf own_pd_0 rfl) rfl (by show 2 * 0 + _ ≤ _; exact Nat.le_of_eq rfl) (hb hby at_30) (fun _ _ => ⟨rfl, rfl, (by decide : 1 + 0 ≤ _), (by decide : 1 + 0 ≤ _)⟩)
  dsimp only [Pt.U, Pt.locs, Pt.cells, Pt.slots] at X5 l5 y5 z5 st5 hQ5
  subst l5 y5 z5
  obtain ⟨rfl, Nq5, hh5⟩ := hQ5
  replace Nf := Fr.app Nf Nq5
  refine own_step st5 ?_
  show own_Fin _ _ _ _ _ _ _ _ (mkF m 33 #[.val (.long q1), .second, .val (.long (-7046029254386353131 : Int64)), .second, .val (.ref b1), .val (.long (own_mix (q1 + (-7046029254386353131 : Int64)))), .second, .val (.long (own_mix ((q1 + (-7046029254386353131 : Int64)) + (-7046029254386353131 : Int64)))), .second] [(.long (own_unmix (own_mix (q1 + (-7046029254386353131 : Int64)))))])
  refine own_step (fun t k => XS.lloadN X5.here hx rfl (hb hby at_33) rfl k) ?_
  show own_Fin _ _ _ _ _ _ _ _ (mkF m 34 #[.val (.long q1), .second, .val (.long (-7046029254386353131 : Int64)), .second, .val (.ref b1), .val (.long (own_mix (q1 + (-7046029254386353131 : Int64)))), .second, .val (.long (own_mix ((q1 + (-7046029254386353131 : Int64)) + (-7046029254386353131 : Int64)))), .second] [(.long q1), (.long (own_unmix (own_mix (q1 + (-7046029254386353131 : Int64)))))])
  refine own_step (fun t k => XS.lloadN X5.here hx rfl (hb hby at_34) rfl k) ?_
  show own_Fin _ _ _ _ _ _ _ _ (mkF m 35 #[.val (.long q1), .second, .val (.long (-7046029254386353131 : Int64)), .second, .val (.ref b1), .val (.long (own_mix (q1 + (-7046029254386353131 : Int64)))), .second, .val (.long (own_mix ((q1 + (-7046029254386353131 : Int64)) + (-7046029254386353131 : Int64)))), .second] [(.long (-7046029254386353131 : Int64)), (.long q1), (.long (own_unmix (own_mix (q1 + (-7046029254386353131 : Int64)))))])
  refine own_step (fun t k => XS.ladd X5.here hx rfl (hb hby at_35) rfl k) ?_
  show own_Fin _ _ _ _ _ _ _ _ (mkF m 36 #[.val (.long q1), .second, .val (.long (-7046029254386353131 : Int64)), .second, .val (.ref b1), .val (.long (own_mix (q1 + (-7046029254386353131 : Int64)))), .second, .val (.long (own_mix ((q1 + (-7046029254386353131 : Int64)) + (-7046029254386353131 : Int64)))), .second] [(.long (q1 + (-7046029254386353131 : Int64))), (.long (own_unmix (own_mix (q1 + (-7046029254386353131 : Int64)))))])
  refine own_step (fun t k => XS.lcmp X5.here hx rfl (hb hby at_36) rfl k) ?_
  show own_Fin _ _ _ _ _ _ _ _ (mkF m 37 #[.val (.long q1), .second, .val (.long (-7046029254386353131 : Int64)), .second, .val (.ref b1), .val (.long (own_mix (q1 + (-7046029254386353131 : Int64)))), .second, .val (.long (own_mix ((q1 + (-7046029254386353131 : Int64)) + (-7046029254386353131 : Int64)))), .second] [(.int (lcmpW (own_unmix (own_mix (q1 + (-7046029254386353131 : Int64)))) (q1 + (-7046029254386353131 : Int64))))])
  have hc6 : ((own_unmix (own_mix (q1 + (-7046029254386353131 : Int64))))).toInt = ((q1 + (-7046029254386353131 : Int64))).toInt := by rw [own_back]
  refine own_step (fun t k => XS.ifNo X5.here hx rfl (hb hby at_37) rfl (own_le (x := (own_unmix (own_mix (q1 + (-7046029254386353131 : Int64))))) (y := (q1 + (-7046029254386353131 : Int64))) rfl rfl hc6).2 k) ?_
  show own_Fin _ _ _ _ _ _ _ _ (mkF m 40 #[.val (.long q1), .second, .val (.long (-7046029254386353131 : Int64)), .second, .val (.ref b1), .val (.long (own_mix (q1 + (-7046029254386353131 : Int64)))), .second, .val (.long (own_mix ((q1 + (-7046029254386353131 : Int64)) + (-7046029254386353131 : Int64)))), .second] [])
  refine own_step (fun t k => XS.lload X5.here hx rfl (hb hby at_40) rfl k) ?_
  show own_Fin _ _ _ _ _ _ _ _ (mkF m 42 #[.val (.long q1), .second, .val (.long (-7046029254386353131 : Int64)), .second, .val (.ref b1), .val (.long (own_mix (q1 + (-7046029254386353131 : Int64)))), .second, .val (.long (own_mix ((q1 + (-7046029254386353131 : Int64)) + (-7046029254386353131 : Int64)))), .second] [(.long (own_mix ((q1 + (-7046029254386353131 : Int64)) + (-7046029254386353131 : Int64))))])
  obtain ⟨_, _, ⟨T7, L7, k7, n7⟩, -, X7, ⟨Lc7, hQ7, l7, y7, z7⟩, st7⟩ := Jvm.LawKit.callS X5 hx (y := (⟨"com/example/tributary/tributary/benchmark/DrawsNextPinLaw", "unmix", "(J)J"⟩ : MethodName)) hown (mvT hZ (hw _ (List.mem_of_getElem? (i := 20) rfl))) (mvT hZ (hw _ (List.mem_of_getElem? (i := 21) rfl))) (mvT hZ (hw _ (List.mem_of_getElem? (i := 22) rfl))) (mvT hZ (hw _ (List.mem_of_getElem? (i := 23) rfl))) (by decide) (backOf (W := 0) (rm4 l Z a0 hw [] (own_mix ((q1 + (-7046029254386353131 : Int64)) + (-7046029254386353131 : Int64))) T4.heap n0 Zs) hZ (hw _ (List.mem_of_getElem? (i := 23) rfl)) (hw _ (List.mem_of_getElem? (i := 22) rfl)) (by decide) (by decide)) (g := (mkF m 42 #[.val (.long q1), .second, .val (.long (-7046029254386353131 : Int64)), .second, .val (.ref b1), .val (.long (own_mix (q1 + (-7046029254386353131 : Int64)))), .second, .val (.long (own_mix ((q1 + (-7046029254386353131 : Int64)) + (-7046029254386353131 : Int64)))), .second] [(.long (own_mix ((q1 + (-7046029254386353131 : Int64)) + (-7046029254386353131 : Int64))))])) rfl (by rw [hml]; rfl) (argsL := [(.long (own_mix ((q1 + (-7046029254386353131 : Int64)) + (-7046029254386353131 : Int64))))]) (rest := []) (lenOf own_pd_0 rfl) rfl (by show 2 * 0 + _ ≤ _; exact Nat.le_of_eq rfl) (hb hby at_42) (fun _ _ => ⟨rfl, hh5, (by decide : 1 + 0 ≤ _), (by decide : 1 + 0 ≤ _)⟩)
  dsimp only [Pt.U, Pt.locs, Pt.cells, Pt.slots] at X7 l7 y7 z7 st7 hQ7
  subst l7 y7 z7
  obtain ⟨rfl, Nq7, hh7⟩ := hQ7
  replace Nf := Fr.app Nf Nq7
  refine own_step st7 ?_
  show own_Fin _ _ _ _ _ _ _ _ (mkF m 45 #[.val (.long q1), .second, .val (.long (-7046029254386353131 : Int64)), .second, .val (.ref b1), .val (.long (own_mix (q1 + (-7046029254386353131 : Int64)))), .second, .val (.long (own_mix ((q1 + (-7046029254386353131 : Int64)) + (-7046029254386353131 : Int64)))), .second] [(.long (own_unmix (own_mix ((q1 + (-7046029254386353131 : Int64)) + (-7046029254386353131 : Int64)))))])
  refine own_step (fun t k => XS.lloadN X7.here hx rfl (hb hby at_45) rfl k) ?_
  show own_Fin _ _ _ _ _ _ _ _ (mkF m 46 #[.val (.long q1), .second, .val (.long (-7046029254386353131 : Int64)), .second, .val (.ref b1), .val (.long (own_mix (q1 + (-7046029254386353131 : Int64)))), .second, .val (.long (own_mix ((q1 + (-7046029254386353131 : Int64)) + (-7046029254386353131 : Int64)))), .second] [(.long q1), (.long (own_unmix (own_mix ((q1 + (-7046029254386353131 : Int64)) + (-7046029254386353131 : Int64)))))])
  refine own_step (fun t k => XS.lloadN X7.here hx rfl (hb hby at_46) rfl k) ?_
  show own_Fin _ _ _ _ _ _ _ _ (mkF m 47 #[.val (.long q1), .second, .val (.long (-7046029254386353131 : Int64)), .second, .val (.ref b1), .val (.long (own_mix (q1 + (-7046029254386353131 : Int64)))), .second, .val (.long (own_mix ((q1 + (-7046029254386353131 : Int64)) + (-7046029254386353131 : Int64)))), .second] [(.long (-7046029254386353131 : Int64)), (.long q1), (.long (own_unmix (own_mix ((q1 + (-7046029254386353131 : Int64)) + (-7046029254386353131 : Int64)))))])
  refine own_step (fun t k => XS.ladd X7.here hx rfl (hb hby at_47) rfl k) ?_
  show own_Fin _ _ _ _ _ _ _ _ (mkF m 48 #[.val (.long q1), .second, .val (.long (-7046029254386353131 : Int64)), .second, .val (.ref b1), .val (.long (own_mix (q1 + (-7046029254386353131 : Int64)))), .second, .val (.long (own_mix ((q1 + (-7046029254386353131 : Int64)) + (-7046029254386353131 : Int64)))), .second] [(.long (q1 + (-7046029254386353131 : Int64))), (.long (own_unmix (own_mix ((q1 + (-7046029254386353131 : Int64)) + (-7046029254386353131 : Int64)))))])
  refine own_step (fun t k => XS.lloadN X7.here hx rfl (hb hby at_48) rfl k) ?_
  show own_Fin _ _ _ _ _ _ _ _ (mkF m 49 #[.val (.long q1), .second, .val (.long (-7046029254386353131 : Int64)), .second, .val (.ref b1), .val (.long (own_mix (q1 + (-7046029254386353131 : Int64)))), .second, .val (.long (own_mix ((q1 + (-7046029254386353131 : Int64)) + (-7046029254386353131 : Int64)))), .second] [(.long (-7046029254386353131 : Int64)), (.long (q1 + (-7046029254386353131 : Int64))), (.long (own_unmix (own_mix ((q1 + (-7046029254386353131 : Int64)) + (-7046029254386353131 : Int64)))))])
  refine own_step (fun t k => XS.ladd X7.here hx rfl (hb hby at_49) rfl k) ?_
  show own_Fin _ _ _ _ _ _ _ _ (mkF m 50 #[.val (.long q1), .second, .val (.long (-7046029254386353131 : Int64)), .second, .val (.ref b1), .val (.long (own_mix (q1 + (-7046029254386353131 : Int64)))), .second, .val (.long (own_mix ((q1 + (-7046029254386353131 : Int64)) + (-7046029254386353131 : Int64)))), .second] [(.long ((q1 + (-7046029254386353131 : Int64)) + (-7046029254386353131 : Int64))), (.long (own_unmix (own_mix ((q1 + (-7046029254386353131 : Int64)) + (-7046029254386353131 : Int64)))))])
  refine own_step (fun t k => XS.lcmp X7.here hx rfl (hb hby at_50) rfl k) ?_
  show own_Fin _ _ _ _ _ _ _ _ (mkF m 51 #[.val (.long q1), .second, .val (.long (-7046029254386353131 : Int64)), .second, .val (.ref b1), .val (.long (own_mix (q1 + (-7046029254386353131 : Int64)))), .second, .val (.long (own_mix ((q1 + (-7046029254386353131 : Int64)) + (-7046029254386353131 : Int64)))), .second] [(.int (lcmpW (own_unmix (own_mix ((q1 + (-7046029254386353131 : Int64)) + (-7046029254386353131 : Int64)))) ((q1 + (-7046029254386353131 : Int64)) + (-7046029254386353131 : Int64))))])
  have hc8 : ((own_unmix (own_mix ((q1 + (-7046029254386353131 : Int64)) + (-7046029254386353131 : Int64))))).toInt = (((q1 + (-7046029254386353131 : Int64)) + (-7046029254386353131 : Int64))).toInt := by rw [own_back]
  refine own_step (fun t k => XS.ifNo X7.here hx rfl (hb hby at_51) rfl (own_le (x := (own_unmix (own_mix ((q1 + (-7046029254386353131 : Int64)) + (-7046029254386353131 : Int64))))) (y := ((q1 + (-7046029254386353131 : Int64)) + (-7046029254386353131 : Int64))) rfl rfl hc8).2 k) ?_
  show own_Fin _ _ _ _ _ _ _ _ (mkF m 54 #[.val (.long q1), .second, .val (.long (-7046029254386353131 : Int64)), .second, .val (.ref b1), .val (.long (own_mix (q1 + (-7046029254386353131 : Int64)))), .second, .val (.long (own_mix ((q1 + (-7046029254386353131 : Int64)) + (-7046029254386353131 : Int64)))), .second] [])
  refine own_step (fun t k => XS.iconst X7.here hx rfl (hb hby at_54) k) ?_
  show own_Fin _ _ _ _ _ _ _ _ (mkF m 55 #[.val (.long q1), .second, .val (.long (-7046029254386353131 : Int64)), .second, .val (.ref b1), .val (.long (own_mix (q1 + (-7046029254386353131 : Int64)))), .second, .val (.long (own_mix ((q1 + (-7046029254386353131 : Int64)) + (-7046029254386353131 : Int64)))), .second] [(.int (1 : Int32))])
  refine own_step (fun t k => XS.goto X7.here hx rfl (pc0 := 55) (pc' := 59) rfl (hb hby at_55) (by decide) (by decide) k) ?_
  show own_Fin _ _ _ _ _ _ _ _ (mkF m 59 #[.val (.long q1), .second, .val (.long (-7046029254386353131 : Int64)), .second, .val (.ref b1), .val (.long (own_mix (q1 + (-7046029254386353131 : Int64)))), .second, .val (.long (own_mix ((q1 + (-7046029254386353131 : Int64)) + (-7046029254386353131 : Int64)))), .second] [(.int (1 : Int32))])
  refine own_retZ X7 hx hlk Bd.returns (hb hby at_59) (z' := (1 : Int32)) (by decide) (by decide) (by decide) hh7 ?_
  exact ⟨rfl, Nf⟩
set_option maxRecDepth 65536 in
set_option maxHeartbeats 40000000 in
theorem comes_1 {Post : Tables → Env → Array Value → State → Outcome → State → Prop} (hpost : ∀ tb e args s v u, (limb_1_1.after args s (.returned v) u = true ∧ limb_1_2.after args s (.returned v) u = true ∧ True) → FrameEnd s (.returned v) u (Jvm.fieldLocs frame_1_writes args s ++ Jvm.arrayLocs frame_1_arrays args s ++ Jvm.staticLocs frame_1_statics s) 16 128 → Post tb e args s (.returned v) u) :
    ArmFor flags0 classFile x code maxLocals ret World_1 tables_1 room_1 Calls_1 rest_1 Pre_1 Post := by
  intro l hfl _ _ p e ha hc hk s m args below hf hA hF happ hP
  obtain ⟨hcalls, hrest, hpre⟩ := hP
  obtain ⟨-, -, -, hnamed, -, -, -, hat⟩ := (Spec.applies_iff hf).mp happ
  obtain ⟨hg, hn⟩ := and_e (Cond.before_iff.mp (show (Jvm.Cond.and given_1 narrow_1).before args s = true from hpre))
  obtain ⟨g1, g2⟩ := and_e hg
  obtain ⟨w0, rfl⟩ : ∃ w0 : Value, args = #[w0] := by
    have hs : args.size = 1 := by simpa [Cond.value, given_1] using g1
    obtain ⟨L⟩ := args
    match L, hs with
    | [w0], _ => exact ⟨w0, rfl⟩
  have hw := fun d (hd : d ∈ tables_1) => atoms_spec (ws := Jvm.Cond.code x code maxLocals ret :: tables_1) hat d (List.mem_cons_of_mem _ hd)
  obtain ⟨i0, ei0⟩ := isL_v g2
  obtain rfl : w0 = (.long i0) := Option.some.inj ei0
  obtain ⟨n, o, h1, h2, h3, _, L, rfl, ⟨rfl, N⟩, hq⟩ := rm0 l s _ hw tables_1 i0 s.heap s.heap.size (Nat.le_refl _) p e ha hc hk s m _ below hf ((Spec.applies_iff_loose hf).mp happ).1 ⟨rfl, State.Warmed39.refl s, rfl⟩ trivial
  refine ⟨n, _, h1, h2, h3, hpost _ _ _ _ _ _ ⟨Cond.after_iff.mpr rfl, Cond.after_iff.mpr (eq_i res_at (Term.int_eval (1)) rfl), trivial⟩ ⟨hq.1, hq.2.1, (hq.2.2.sift fun y hy => Or.inr (N y hy)).mono (by decide) (by decide)⟩⟩
theorem main_1_1 : Claimed_1_1 := comes_1 fun _ _ _ _ _ _ h hF => ⟨h.1, hF⟩
theorem main_1_2 : Claimed_1_2 := comes_1 fun _ _ _ _ _ _ h hF => ⟨h.2.1, hF⟩
end Jvm.Pilot.@@N@@
namespace Jvm.Pilot.@@N@@
open Jvm Jvm.ClassFile Sem Op Lib Jvm.Free Jvm.Stand Jvm.Pilot.@@N@@.Jvm.D
/-! MADE BY PROGRAM (witnessworld.py) out of the Statement's table words and the real class files: 9 classes; the members and pool entries that the words name. The judged class is class 1, her method 1. -/
namespace start1
open Jvm.ClassFile
def u (s : String) : CpInfo := .utf8 (stringToUtf16 s)
/-- a pool by its gaps: so many unusable entries, then the entry; so many at the end -/
def gap : Nat → List CpInfo → List CpInfo
  | 0, r => r
  | n + 1, r => .unusable :: gap n r
def poolList (es : List (Nat × CpInfo)) (last : Nat) : List CpInfo := es.foldr (fun e r => gap e.1 (e.2 :: r)) (gap last [])
def pool (es : List (Nat × CpInfo)) (last : Nat) : Array CpInfo := ⟨poolList es last⟩
def fileOf (pool : Array CpInfo) (this : Nat) (attrs : Array Attribute := #[]) (ms : Array MethodInfo := #[]) (fl : Nat := 33) (sup : Nat := 0) (ifs : Array Nat := #[]) (fds : Array FieldInfo := #[]) : ClassFile where
  minorVersion := 0
  majorVersion := 65
  constantPool := pool
  accessFlags := fl
  thisClass := this
  superClass := sup
  interfaces := ifs
  fields := fds
  methods := ms
  attributes := attrs
def plain (name : String) (sup : Option ClassId) : Class where
  name := name
  kind := .ordinary
  loader := none
  accessFlags := 33
  super := sup
  interfaces := #[]
  cf := none
  fields := #[]
  methods := #[]
  instanceTypes := #[]
  staticTypes := #[]
  resolved := #[]
  callSites := []
  init := .initialized
  statics := none
  mirror := none

def pool0 : Array CpInfo := pool [(5, u "<init>"), (0, u "()V"), (1, .class_ 10), (1, u "java/lang/Object")] 113

def k0c0 : Code := { maxStack := 0, maxLocals := 1, code := object_method_1_code, exceptionTable := #[], attributes := #[] }
def k0m0 : Method := { name := "<init>", desc := "()V", sig := { parameters := [], returnType := none }, accessFlags := 1, code := some k0c0 }
/-- java/lang/Object -/
def k0 : Class := { plain "java/lang/Object" none with
  accessFlags := 33
  interfaces := #[]
  cf := some (fileOf pool0 8 #[] #[{ accessFlags := 1, nameIndex := 5, descriptorIndex := 6, attributes := #[] }] 33 0 #[] #[])
  fields := #[]
  methods := #[k0m0]
  instanceTypes := #[]
  staticTypes := #[]
  resolved := Array.replicate 124 none
  statics := none }

def pool1 : Array CpInfo := pool [(2, .class_ 4), (1, u "java/lang/Object"), (0, u "<init>"), (0, u "()V"), (0, .long 11400714819323198485), (1, .class_ 10), (0, u "com/example/tributary/tributary/benchmark/Draws"), (0, .methodref 9 12), (0, .nameAndType 5 13), (0, u "(J)V"), (0, .methodref 9 15), (0, .nameAndType 16 17), (0, u "next"), (0, u "()J"), (0, .methodref 19 20), (0, .class_ 21), (0, .nameAndType 22 23), (0, u "com/example/tributary/tributary/benchmark/DrawsNextPinLaw"), (0, u "unmix"), (0, u "(J)J"), (0, .long 2), (1, .long 13787848793156543929), (1, .long 10723151780598845931), (1, .methodref 19 31), (0, .nameAndType 32 23), (0, u "inverse"), (2, u "law"), (0, u "(J)Z")] 3

def k1m0 : Method := { name := "<init>", desc := "()V", sig := { parameters := [], returnType := none }, accessFlags := 1, code := none }
def k1c1 : Code := { maxStack := 6, maxLocals := 9, code := code, exceptionTable := #[], attributes := #[] }
def k1m1 : Method := { name := "law", desc := "(J)Z", sig := { parameters := [.long], returnType := some .boolean }, accessFlags := 9, code := some k1c1 }
def k1c2 : Code := { maxStack := 8, maxLocals := 4, code := method_3_code, exceptionTable := #[], attributes := #[] }
def k1m2 : Method := { name := "inverse", desc := "(J)J", sig := { parameters := [.long], returnType := some .long }, accessFlags := 10, code := some k1c2 }
def k1c3 : Code := { maxStack := 5, maxLocals := 8, code := method_4_code, exceptionTable := #[], attributes := #[] }
def k1m3 : Method := { name := "unmix", desc := "(J)J", sig := { parameters := [.long], returnType := some .long }, accessFlags := 10, code := some k1c3 }
/-- com/example/tributary/tributary/benchmark/DrawsNextPinLaw -/
def k1 : Class := { plain "com/example/tributary/tributary/benchmark/DrawsNextPinLaw" (some 0) with
  accessFlags := 49
  interfaces := #[]
  cf := some (fileOf pool1 19 #[] #[{ accessFlags := 1, nameIndex := 5, descriptorIndex := 6, attributes := #[] }, { accessFlags := 9, nameIndex := 35, descriptorIndex := 36, attributes := #[] }, { accessFlags := 10, nameIndex := 32, descriptorIndex := 23, attributes := #[] }, { accessFlags := 10, nameIndex := 22, descriptorIndex := 23, attributes := #[] }] 49 2 #[] #[])
  fields := #[]
  methods := #[k1m0, k1m1, k1m2, k1m3]
  instanceTypes := #[]
  staticTypes := #[]
  resolved := Array.replicate 40 none
  statics := none }

def pool2 : Array CpInfo := pool [(1, .methodref 2 3), (0, .class_ 4), (0, .nameAndType 5 6), (0, u "java/lang/Object"), (0, u "<init>"), (0, u "()V"), (0, .fieldref 8 9), (0, .class_ 10), (0, .nameAndType 11 12), (0, u "com/example/tributary/tributary/benchmark/Draws"), (0, u "state"), (0, u "J"), (0, .long 11400714819323198485), (1, .long 13787848793156543929), (1, .long 10723151780598845931), (12, u "next"), (0, u "()J"), (16, u "(J)V"), (0, u "GAMMA"), (1, u "MIX_1"), (0, u "MIX_2")] 28

def k2c0 : Code := { maxStack := 3, maxLocals := 3, code := prog_2_method_1_code, exceptionTable := #[], attributes := #[] }
def k2m0 : Method := { name := "<init>", desc := "(J)V", sig := { parameters := [.long], returnType := none }, accessFlags := 0, code := some k2c0 }
def k2c1 : Code := { maxStack := 5, maxLocals := 3, code := prog_2_method_2_code, exceptionTable := #[], attributes := #[] }
def k2m1 : Method := { name := "next", desc := "()J", sig := { parameters := [], returnType := some .long }, accessFlags := 0, code := some k2c1 }
/-- com/example/tributary/tributary/benchmark/Draws -/
def k2 : Class := { plain "com/example/tributary/tributary/benchmark/Draws" (some 0) with
  accessFlags := 48
  interfaces := #[]
  cf := some (fileOf pool2 8 #[] #[{ accessFlags := 0, nameIndex := 5, descriptorIndex := 48, attributes := #[] }, { accessFlags := 0, nameIndex := 30, descriptorIndex := 31, attributes := #[] }] 48 2 #[] #[{ accessFlags := 26, nameIndex := 49, descriptorIndex := 12, attributes := #[] }, { accessFlags := 26, nameIndex := 51, descriptorIndex := 12, attributes := #[] }, { accessFlags := 26, nameIndex := 52, descriptorIndex := 12, attributes := #[] }, { accessFlags := 2, nameIndex := 11, descriptorIndex := 12, attributes := #[] }])
  fields := #[{ name := "GAMMA", type := .long, accessFlags := 26, slot := 0, constantValue := 0 }, { name := "MIX_1", type := .long, accessFlags := 26, slot := 1, constantValue := 0 }, { name := "MIX_2", type := .long, accessFlags := 26, slot := 2, constantValue := 0 }, { name := "state", type := .long, accessFlags := 2, slot := 0, constantValue := 0 }]
  methods := #[k2m0, k2m1]
  instanceTypes := #[.long]
  staticTypes := #[.long, .long, .long]
  resolved := Array.replicate 81 none
  statics := none }

def pool3 : Array CpInfo := pool [(1, u "java/lang/Cloneable"), (0, .class_ 1), (0, u "java/lang/Object"), (0, .class_ 3)] 3

/-- java/lang/Cloneable -/
def k3 : Class := { plain "java/lang/Cloneable" (some 0) with
  accessFlags := 1537
  interfaces := #[]
  cf := some (fileOf pool3 2 #[] #[] 1537 4 #[] #[])
  fields := #[]
  methods := #[]
  instanceTypes := #[]
  staticTypes := #[]
  resolved := Array.replicate 8 none
  statics := none }

def pool4 : Array CpInfo := pool [(1, u "java/io/Serializable"), (0, .class_ 1), (0, u "java/lang/Object"), (0, .class_ 3)] 3

/-- java/io/Serializable -/
def k4 : Class := { plain "java/io/Serializable" (some 0) with
  accessFlags := 1537
  interfaces := #[]
  cf := some (fileOf pool4 2 #[] #[] 1537 4 #[] #[])
  fields := #[]
  methods := #[]
  instanceTypes := #[]
  staticTypes := #[]
  resolved := Array.replicate 8 none
  statics := none }

/-- the primitive byte -/
def k5 : Class := { plain "byte" none with kind := .primitive 'B', accessFlags := 0x411 }
/-- [B -/
def k6 : Class := { plain "[B" (some 0) with kind := .array 5 .byte, interfaces := #[3, 4], accessFlags := 1041 }

/-- the primitive int -/
def k7 : Class := { plain "int" none with kind := .primitive 'I', accessFlags := 0x411 }
/-- [I -/
def k8 : Class := { plain "[I" (some 0) with kind := .array 7 .int, interfaces := #[3, 4], accessFlags := 1041 }

def heap : Heap := #[]
def classes : Array Class := #[k0, k1, k2, k3, k4, k5, k6, k7, k8]
def interned : List (Array UInt16 × Addr) := []
def slotsUsed : Nat := 0
def theMethod : MethodId := ⟨1, 1⟩
def args0 : Array Value := #[.long 7]
def aboutOver (below : List Frame) : State where
  vm := { classes := classes, interned := interned.toArray }
  heap := heap
  slotsUsed := slotsUsed
  threads := #[{ frames := .invoking theMethod args0 :: below }]
def below0 : List Frame := [.native { method := ⟨0, 0⟩, args := #[] }]
def about1 : State := aboutOver below0
def p0 : Program := .bare "" "" ""
def e0 : Env := launch0.env 0 0 0
theorem w_frames : about1.frames = Frame.invoking theMethod args0 :: below0 := rfl
set_option maxRecDepth 65536 in
theorem w_args : argsFit about1.vm theMethod args0 = true := by decide +kernel
set_option maxRecDepth 65536 in
theorem w_heap : heapFits about1 = true := by decide +kernel
set_option maxRecDepth 65536 in
theorem w_runnable : about1.curStatus? = some .runnable := by decide +kernel
set_option maxRecDepth 65536 in
theorem w_alone : about1.alone = true := by decide +kernel
set_option maxRecDepth 65536 in
theorem w_named : about1.methodNamed? x = some theMethod := by decide +kernel
set_option maxRecDepth 65536 in
theorem w_hears : about1.hears theMethod below0 = true := by decide +kernel
set_option maxRecDepth 65536 in
theorem w_ripe : about1.ripe theMethod args0 below0 = true := by decide +kernel
theorem w_running : about1.status = .running := rfl
set_option maxRecDepth 65536 in
theorem w_room : about1.hasRoom e0.platform room_1 = true :=
  launch0.hasRoom_least _ room_1 (by decide +kernel) (by decide +kernel) (by decide +kernel) (by decide +kernel) (by decide +kernel) (by decide +kernel)
theorem allAtoms_all (ts : List Jvm.Cond) (a : Array Jvm.Value) (st : Jvm.State) : (allAtoms ts).before a st = ts.all (fun c => c.before a st) := by
  induction ts with
  | nil => rfl
  | cons c t ih =>
    show (Jvm.Cond.and c (allAtoms t)).before a st = _
    rw [Jvm.Cond.before_and, ih, List.all_cons]
def words1 : List Jvm.Cond := Jvm.Cond.code x code maxLocals ret :: tables_1
/-- a 'code' word, met by the world's own term for the bytes: nothing is compared byte by byte -/
theorem code_word {y : MethodName} {bytes : ByteArray} {mx : Nat} {rt : Option FieldType} {a : Array Value} {s : State} {m : MethodId} {meth : Method} {c : Code} (h1 : s.methodNamed? y = some m) (h2 : s.vm.method? m = some meth) (h3 : meth.code = some c) (h4 : c.code = bytes)
    (h5 : (c.maxLocals == mx && c.exceptionTable.isEmpty && decide (c.maxStack ≤ mostOperands) && decide (meth.sig.returnType = rt) && !meth.locks && decide (parseMethodDescriptor y.desc = some meth.sig)) = true) : (Jvm.Cond.code y bytes mx rt).before a s = true := by
  simp only [Bool.and_eq_true, beq_iff_eq, Bool.not_eq_true', decide_eq_true_eq] at h5
  obtain ⟨⟨⟨⟨⟨g1, g2⟩, g3⟩, g4⟩, g5⟩, g6⟩ := h5
  simp [Cond.before, Cond.holds, Cond.value, h1, h2, h3, h4, g1, g2, g3, g4, g5, g6]
def isCode : Jvm.Cond → Bool
  | .code _ _ _ _ => true
  | _ => false
theorem all_split {L : List Jvm.Cond} {P : Jvm.Cond → Bool} (h1 : L.all (fun c => isCode c || P c) = true) (h2 : ∀ c ∈ L.filter isCode, P c = true) : L.all P = true := by
  refine List.all_eq_true.mpr fun c hc => ?_
  have h := List.all_eq_true.mp h1 c hc
  rcases Bool.eq_false_or_eq_true (isCode c) with hi | hi
  · exact h2 c (List.mem_filter.mpr ⟨hc, hi⟩)
  · simpa [hi] using h
set_option maxRecDepth 65536 in
theorem w_c0 : (Jvm.Cond.code x code maxLocals ret).before args0 about1 = true := code_word (m := ⟨1, 1⟩) (meth := k1m1) (c := k1c1) (by decide +kernel) rfl rfl rfl (by decide +kernel)
set_option maxRecDepth 65536 in
theorem w_c1 : (Jvm.Cond.code ({ cls := "com/example/tributary/tributary/benchmark/Draws", name := "<init>", desc := "(J)V" } : Jvm.MethodName) prog_2_method_1_code (3 : Nat) (Option.none : Option Jvm.ClassFile.FieldType)).before args0 about1 = true := code_word (m := ⟨2, 0⟩) (meth := k2m0) (c := k2c0) (by decide +kernel) rfl rfl rfl (by decide +kernel)
set_option maxRecDepth 65536 in
theorem w_c2 : (Jvm.Cond.code ({ cls := "java/lang/Object", name := "<init>", desc := "()V" } : Jvm.MethodName) object_method_1_code (1 : Nat) (Option.none : Option Jvm.ClassFile.FieldType)).before args0 about1 = true := code_word (m := ⟨0, 0⟩) (meth := k0m0) (c := k0c0) (by decide +kernel) rfl rfl rfl (by decide +kernel)
set_option maxRecDepth 65536 in
theorem w_c3 : (Jvm.Cond.code ({ cls := "com/example/tributary/tributary/benchmark/Draws", name := "next", desc := "()J" } : Jvm.MethodName) prog_2_method_2_code (3 : Nat) (Option.some Jvm.ClassFile.FieldType.long)).before args0 about1 = true := code_word (m := ⟨2, 1⟩) (meth := k2m1) (c := k2c1) (by decide +kernel) rfl rfl rfl (by decide +kernel)
set_option maxRecDepth 65536 in
theorem w_c4 : (Jvm.Cond.code ({ cls := "com/example/tributary/tributary/benchmark/DrawsNextPinLaw", name := "unmix", desc := "(J)J" } : Jvm.MethodName) method_4_code (8 : Nat) (Option.some Jvm.ClassFile.FieldType.long)).before args0 about1 = true := code_word (m := ⟨1, 3⟩) (meth := k1m3) (c := k1c3) (by decide +kernel) rfl rfl rfl (by decide +kernel)
set_option maxRecDepth 65536 in
theorem w_c5 : (Jvm.Cond.code ({ cls := "com/example/tributary/tributary/benchmark/DrawsNextPinLaw", name := "inverse", desc := "(J)J" } : Jvm.MethodName) method_3_code (4 : Nat) (Option.some Jvm.ClassFile.FieldType.long)).before args0 about1 = true := code_word (m := ⟨1, 2⟩) (meth := k1m2) (c := k1c2) (by decide +kernel) rfl rfl rfl (by decide +kernel)
def codes1 : List Jvm.Cond := [Jvm.Cond.code x code maxLocals ret, Jvm.Cond.code ({ cls := "com/example/tributary/tributary/benchmark/Draws", name := "<init>", desc := "(J)V" } : Jvm.MethodName) prog_2_method_1_code (3 : Nat) (Option.none : Option Jvm.ClassFile.FieldType), Jvm.Cond.code ({ cls := "java/lang/Object", name := "<init>", desc := "()V" } : Jvm.MethodName) object_method_1_code (1 : Nat) (Option.none : Option Jvm.ClassFile.FieldType), Jvm.Cond.code ({ cls := "com/example/tributary/tributary/benchmark/Draws", name := "next", desc := "()J" } : Jvm.MethodName) prog_2_method_2_code (3 : Nat) (Option.some Jvm.ClassFile.FieldType.long), Jvm.Cond.code ({ cls := "com/example/tributary/tributary/benchmark/DrawsNextPinLaw", name := "unmix", desc := "(J)J" } : Jvm.MethodName) method_4_code (8 : Nat) (Option.some Jvm.ClassFile.FieldType.long), Jvm.Cond.code ({ cls := "com/example/tributary/tributary/benchmark/DrawsNextPinLaw", name := "inverse", desc := "(J)J" } : Jvm.MethodName) method_3_code (4 : Nat) (Option.some Jvm.ClassFile.FieldType.long)]
set_option maxRecDepth 65536 in
theorem codes_eq : words1.filter isCode = codes1 := rfl
theorem w_codes : ∀ c ∈ words1.filter isCode, c.before args0 about1 = true := by
  rw [codes_eq]
  intro c hc
  simp only [codes1, List.mem_cons, List.not_mem_nil, or_false] at hc
  rcases hc with rfl | rfl | rfl | rfl | rfl | rfl
  · exact w_c0
  · exact w_c1
  · exact w_c2
  · exact w_c3
  · exact w_c4
  · exact w_c5
set_option maxRecDepth 65536 in
theorem w_t1 : (words1.take 24).all (fun c => isCode c || c.before args0 about1) = true := by decide +kernel
set_option maxRecDepth 65536 in
theorem w_t2 : (words1.drop 24).all (fun c => isCode c || c.before args0 about1) = true := by decide +kernel
theorem w_tables : (allAtoms (Jvm.Cond.code x code maxLocals ret :: tables_1)).before args0 about1 = true := by
  rw [allAtoms_all]
  show words1.all (fun c => c.before args0 about1) = true
  refine all_split ?_ w_codes
  rw [← List.take_append_drop 24 words1, List.all_append, w_t1, w_t2]
  rfl
set_option maxRecDepth 65536 in
theorem w_case : (Jvm.Cond.and given_1 narrow_1).before args0 about1 = true := by decide +kernel
theorem w_applies : (headSpec (Jvm.Cond.code x code maxLocals ret :: tables_1) room_1).applies x e0.platform about1 = true :=
  (Spec.applies_iff w_frames).mpr ⟨w_running, w_runnable, w_alone, w_named, w_hears, w_ripe, w_room, w_tables⟩
theorem atStart : AtStart classFile x code maxLocals ret World_1 tables_1 room_1 Calls_1 rest_1 Pre_1 launch0 p0 e0 about1 theMethod args0 below0 :=
  ⟨lists_1, trivial, launch0.admits_env _ _ _, launch0.least_env, fairChoices_fair.cas, fairChoices_fair.clock, w_frames, w_args, w_heap, w_applies, trivial, trivial, w_case⟩
end start1
theorem witness_1 : WitnessClaimed_1 := ⟨start1.p0, start1.e0, start1.about1, start1.theMethod, start1.args0, start1.below0, start1.atStart⟩
end Jvm.Pilot.@@N@@
