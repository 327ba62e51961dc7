import JvmDerived
import JvmDerived.Pilot.@@N@@Statement
import JvmDerived.Pilot.@@N@@Code
set_option linter.unusedVariables false
set_option linter.unusedSimpArgs false
namespace Jvm.Pilot.@@N@@
open Jvm Jvm.ClassFile Sem Op Lib Jvm.Free Jvm.Stand Jvm.LawKit Jvm.RoadKit Bundle Jvm.Pilot.@@N@@.Jvm.D
/-! Own kit. own_Fin: from this frame the run comes to the method's end, and Q holds of what it leaves. -/
def own_Fin (p : Program) (e : Env) (below : List Frame) (s : State) (Q : Option Value → Heap → List Loc → Prop) (cl sl : Nat) (T : State) (f : JFrame) : Prop :=
  ∃ s₂ o, Steps p.tables e below (T.setTop f) s₂ ∧ s₂.status = .running ∧ Ended s₂ below o ∧ (∃ v L, o = .returned v ∧ Q v s₂.heap L ∧ FrameEnd s o s₂ L cl sl)
section OwnKit
variable {p : Program} {l : Launch} {e : Env} {R : Room} {s : State} {m : MethodId} {args : Array Value} {below : List Frame} {meth : Method} {c : Code} {T : State} {locs : List Loc} {cells slots : Nat} {Q : Option Value → Heap → List Loc → Prop} {cl sl : Nat} {Z : State} {a0 : Array Value} {h h' : Heap} {a b : Addr}
theorem own_step {T' : State} {f f' : JFrame} (k : ∀ t, Steps p.tables e below (T'.setTop f') t → Steps p.tables e below (T.setTop f) t) (r : own_Fin p e below s Q cl sl T' f') : own_Fin p e below s Q cl sl T f := by
  obtain ⟨s₂, o, h1, h2⟩ := r
  exact ⟨s₂, o, k _ h1, h2⟩
theorem own_stepT {T' : State} {f f' : JFrame} (k : Steps p.tables e below (T.setTop f) (T'.setTop f')) (r : own_Fin p e below s Q cl sl T' f') : own_Fin p e below s Q cl sl T f := by
  obtain ⟨s₂, o, h1, h2⟩ := r
  exact ⟨s₂, o, k.trans h1, h2⟩
theorem own_retZ (X : Stand p l e R s m args below meth c T locs cells slots) (hx : p.tables.exec = Jvm.exec) (hlocks : meth.locks = false) (hret : meth.sig.returnType = some .boolean) {pc : Nat} {Ls : Array Slot} {z z' : Int32} {rest : List Value} (hd : decode c.code pc = .ok (.ireturn, 1))
    (hn : nar .boolean z = z') (hc : cells ≤ cl) (hs : slots ≤ sl) (hT : T.heap = h) (hq : Q (some (.int z')) h locs) : own_Fin p e below s Q cl sl T (mkF m pc Ls (.int z :: rest)) := by
  subst hn hT
  obtain ⟨fs, hr, hrun, hended, hW, hsame⟩ := X.leave (v := some (.int (nar .boolean z))) (fun h => by rw [hret] at h; cases h)
  exact ⟨_, _, retN X hx hret (by simp) hd hr, hrun, hended, _, _, rfl, hq, ⟨_, rfl⟩, hW, hsame.mono hc hs⟩
theorem own_retI (X : Stand p l e R s m args below meth c T locs cells slots) (hx : p.tables.exec = Jvm.exec) (hlocks : meth.locks = false) (hret : meth.sig.returnType = some .int) {pc : Nat} {Ls : Array Slot} {z : Int32} {rest : List Value} (hd : decode c.code pc = .ok (.ireturn, 1))
    (hc : cells ≤ cl) (hs : slots ≤ sl) (hT : T.heap = h) (hq : Q (some (.int z)) h locs) : own_Fin p e below s Q cl sl T (mkF m pc Ls (.int z :: rest)) := by
  subst hT
  obtain ⟨fs, hr, hrun, hended, hW, hsame⟩ := X.leave (v := some (.int z)) (fun h => by rw [hret] at h; cases h)
  refine ⟨_, _, ?_, hrun, hended, _, _, rfl, hq, ⟨_, rfl⟩, hW, hsame.mono hc hs⟩
  have hm' : T.vm.method? m = some meth := X.method'
  have hn : narrow .int (.int z) = .int z := rfl
  show Steps p.tables e below (T.setTop { method := m, pc := pc, locals := Ls, stack := _ :: rest, locked := none }) _
  jvm_step X.here [X.here.top, hx, hd, hm', hret, hn]
  first | (intro acts; rw [hr _ acts rfl rfl rfl]) | rw [hr _ _ rfl rfl rfl]
  exact Steps.refl _
theorem own_retJ (X : Stand p l e R s m args below meth c T locs cells slots) (hx : p.tables.exec = Jvm.exec) (hlocks : meth.locks = false) (hret : meth.sig.returnType = some .long) {pc : Nat} {Ls : Array Slot} {z : Int64} (hd : decode c.code pc = .ok (.lreturn, 1))
    (hc : cells ≤ cl) (hs : slots ≤ sl) (hT : T.heap = h) (hq : Q (some (.long z)) h locs) : own_Fin p e below s Q cl sl T (mkF m pc Ls [.long z]) := by
  subst hT
  obtain ⟨fs, hr, hrun, hended, hW, hsame⟩ := X.leave (v := some (.long z)) (fun h => by rw [hret] at h; cases h)
  exact ⟨_, _, X.lreturnOut hx hret hd hr, hrun, hended, _, _, rfl, hq, ⟨_, rfl⟩, hW, hsame.mono hc hs⟩
theorem own_retV (X : Stand p l e R s m args below meth c T locs cells slots) (hx : p.tables.exec = Jvm.exec) (hlocks : meth.locks = false) (hret : meth.sig.returnType = none) {pc : Nat} {Ls : Array Slot} (hd : decode c.code pc = .ok (.return_, 1))
    (hc : cells ≤ cl) (hs : slots ≤ sl) (hT : T.heap = h) (hq : Q none h locs) : own_Fin p e below s Q cl sl T (mkF m pc Ls []) := by
  subst hT
  obtain ⟨fs, hr, hrun, hended, hW, hsame⟩ := X.leave (v := none) (fun _ => rfl)
  exact ⟨_, _, X.returnOut hx hret hd hr, hrun, hended, _, _, rfl, hq, ⟨_, rfl⟩, hW, hsame.mono hc hs⟩
theorem own_retR (X : Stand p l e R s m args below meth c T locs cells slots) (hx : p.tables.exec = Jvm.exec) (hlocks : meth.locks = false) {t : FieldType} (hret : meth.sig.returnType = some t) (ht : t.isReference = true) {pc : Nat} {Ls : Array Slot} {z : Value} (hz : z.isRef = true) (hd : decode c.code pc = .ok (.areturn, 1))
    (hc : cells ≤ cl) (hs : slots ≤ sl) (hT : T.heap = h) (hq : Q (some z) h locs) : own_Fin p e below s Q cl sl T (mkF m pc Ls [z]) := by
  subst hT
  obtain ⟨fs, hr, hrun, hended, hW, hsame⟩ := X.leave (v := some z) (fun h => by rw [hret] at h; cases h)
  refine ⟨_, _, ?_, hrun, hended, _, _, rfl, hq, ⟨_, rfl⟩, hW, hsame.mono hc hs⟩
  have hm' : T.vm.method? m = some meth := X.method'
  jvm_step X.here [X.here.top, hx, hd, hm', hret, ht, hz]
  first | (intro acts; rw [hr _ acts rfl rfl rfl]) | rw [hr _ _ rfl rfl rfl]
  exact Steps.refl _
/-! comparisons, said over Int -/
theorem own_cl {x y : Int32} {a b : Int} (ha : x.toInt = a) (hb : y.toInt = b) (h : a < b) : if_icmp.holds .lt x y = true ∧ if_icmp.holds .ge x y = false ∧ if_icmp.holds .gt y x = true ∧ if_icmp.holds .le y x = false := tlt (by rw [Int32.lt_iff_toInt_lt, ha, hb]; exact h)
theorem own_cn {x y : Int32} {a b : Int} (ha : x.toInt = a) (hb : y.toInt = b) (h : ¬ a < b) : if_icmp.holds .lt x y = false ∧ if_icmp.holds .ge x y = true ∧ if_icmp.holds .gt y x = false ∧ if_icmp.holds .le y x = true := flt (by rw [Int32.lt_iff_toInt_lt, ha, hb]; exact h)
theorem own_ce {x y : Int32} {a b : Int} (ha : x.toInt = a) (hb : y.toInt = b) (h : a = b) : if_icmp.holds .eq x y = true ∧ if_icmp.holds .ne x y = false := teq (by rw [← Int32.toInt_inj, ha, hb]; exact h)
theorem own_cu {x y : Int32} {a b : Int} (ha : x.toInt = a) (hb : y.toInt = b) (h : ¬ a = b) : if_icmp.holds .eq x y = false ∧ if_icmp.holds .ne x y = true := feq (by rw [← Int32.toInt_inj, ha, hb]; exact h)
theorem own_ll {x y : Int64} {a b : Int} (ha : x.toInt = a) (hb : y.toInt = b) (h : a < b) : ifCond.holds .lt (lcmpW x y) = true ∧ ifCond.holds .ge (lcmpW x y) = false ∧ ifCond.holds .gt (lcmpW y x) = true ∧ ifCond.holds .le (lcmpW y x) = false := by
  have q : x < y := by rw [Int64.lt_iff_toInt_lt, ha, hb]; exact h
  have h1 := tlt ((lw_lt x y).mpr q)
  have h2 := tlt ((lw_gt y x).mpr q)
  exact ⟨(if0 _ _).trans h1.1, (if0 _ _).trans h1.2.1, (if0 _ _).trans h2.2.2.1, (if0 _ _).trans h2.2.2.2⟩
theorem own_ln {x y : Int64} {a b : Int} (ha : x.toInt = a) (hb : y.toInt = b) (h : ¬ a < b) : ifCond.holds .lt (lcmpW x y) = false ∧ ifCond.holds .ge (lcmpW x y) = true ∧ ifCond.holds .gt (lcmpW y x) = false ∧ ifCond.holds .le (lcmpW y x) = true := by
  have q : ¬ x < y := by rw [Int64.lt_iff_toInt_lt, ha, hb]; exact h
  have h1 := flt (fun r => q ((lw_lt x y).mp r))
  have h2 := flt (fun r => q ((lw_gt y x).mp r))
  exact ⟨(if0 _ _).trans h1.1, (if0 _ _).trans h1.2.1, (if0 _ _).trans h2.2.2.1, (if0 _ _).trans h2.2.2.2⟩
theorem own_le {x y : Int64} {a b : Int} (ha : x.toInt = a) (hb : y.toInt = b) (h : a = b) : ifCond.holds .eq (lcmpW x y) = true ∧ ifCond.holds .ne (lcmpW x y) = false := by
  have q : x = y := by rw [← Int64.toInt_inj, ha, hb]; exact h
  have h1 := teq ((lw_eq x y).mpr q)
  exact ⟨(if0 _ _).trans h1.1, (if0 _ _).trans h1.2⟩
theorem own_lu {x y : Int64} {a b : Int} (ha : x.toInt = a) (hb : y.toInt = b) (h : ¬ a = b) : ifCond.holds .eq (lcmpW x y) = false ∧ ifCond.holds .ne (lcmpW x y) = true := by
  have q : ¬ x = y := by rw [← Int64.toInt_inj, ha, hb]; exact h
  have h1 := feq (fun r => q ((lw_eq x y).mp r))
  exact ⟨(if0 _ _).trans h1.1, (if0 _ _).trans h1.2⟩
/-! a boolean as an int -/
abbrev own_B (r : Int32) (P : Prop) : Prop := (r.toInt = 1 ∧ P) ∨ (r.toInt = 0 ∧ ¬ P)
theorem own_B1 {P : Prop} (h : P) : own_B 1 P := Or.inl ⟨rfl, h⟩
theorem own_B0 {P : Prop} (h : ¬ P) : own_B 0 P := Or.inr ⟨rfl, h⟩
theorem own_B.lit {r : Int32} {P : Prop} (H : own_B r P) : (r = 1 ∧ P) ∨ (r = 0 ∧ ¬ P) := by
  rcases H with ⟨q, h⟩ | ⟨q, h⟩
  · exact Or.inl ⟨Int32.toInt_inj.mp q, h⟩
  · exact Or.inr ⟨Int32.toInt_inj.mp q, h⟩
/-! arrays: their length and what each place holds -/
def own_A (Z : State) (h : Heap) (a : Addr) (ty : FieldType) (n : Nat) (f : Nat → Value) : Prop := ∃ c : Cell, Arr Z h a c ty ∧ c.slots.size = n ∧ ∀ i, i < n → c.slots[i]? = some (f i)
def own_AI (Z : State) (h : Heap) (a : Addr) (ty : FieldType) (n : Nat) (f : Nat → Int32) : Prop := own_A Z h a ty n (fun i => .int (f i))
def own_AJ (Z : State) (h : Heap) (a : Addr) (n : Nat) (f : Nat → Int64) : Prop := own_A Z h a .long n (fun i => .long (f i))
variable {ty : FieldType} {n : Nat} {fv : Nat → Value} {fi : Nat → Int32} {fj : Nat → Int64}
theorem own_A.lt (F : own_A Z h a ty n fv) : a < h.size := by obtain ⟨c, A, -⟩ := F; exact A.lt
theorem own_A.ext (F : own_A Z h a ty n fv) (E : Ext h h') : own_A Z h' a ty n fv := by obtain ⟨c, A, r⟩ := F; exact ⟨c, A.ext E, r⟩
theorem own_A.other {sl : Nat} {v : Value} (F : own_A Z h a ty n fv) (W : Wr h h' b sl v) (q : a ≠ b) : own_A Z h' a ty n fv := by obtain ⟨c, A, r⟩ := F; exact ⟨c, A.other W q, r⟩
theorem own_A.keep {ws : List Addr} (F : own_A Z h a ty n fv) (K : Keep h h' ws) (q : a ∉ ws) : own_A Z h' a ty n fv := by obtain ⟨c, A, r⟩ := F; exact ⟨c, ⟨K.2.1 a c A.1 q, A.2⟩, r⟩
theorem own_A.congr {gv : Nat → Value} (F : own_A Z h a ty n fv) (q : ∀ i, i < n → fv i = gv i) : own_A Z h a ty n gv := by obtain ⟨c, A, r, t⟩ := F; exact ⟨c, A, r, fun i hi => by rw [t i hi, q i hi]⟩
theorem own_A.set {j : Nat} {v : Value} (F : own_A Z h a ty n fv) (W : Wr h h' a j v) : own_A Z h' a ty n (fun i => if i = j then v else fv i) := by
  obtain ⟨c, A, r, t⟩ := F
  have W0 := W
  obtain ⟨c2, h1, -, h3, -⟩ := W0
  have ec : c2 = c := Option.some.inj (h1.symm.trans A.1)
  subst ec
  refine ⟨_, A.same W, by rw [sz_set]; exact r, fun i hi => ?_⟩
  by_cases q : i = j
  · subst q; simp [Cell.setSlot, h3]
  · simp only [q, if_false]; rw [← t i hi]; simp only [Cell.setSlot]; exact Array.getElem?_setIfInBounds_ne fun z => q z.symm
theorem own_A.new {k : ClassId} {z : Int32} (A : Arr Z h a (newA k ty z) ty) (q : z.toNatClampNeg = n) : own_A Z h a ty n (fun _ => defaultValue ty) := by
  subst q
  exact ⟨_, A, sz_new _ _ _, fun i hi => by simp [newA, hi]⟩
theorem own_AI.lt (F : own_AI Z h a ty n fi) : a < h.size := own_A.lt F
theorem own_AI.ext (F : own_AI Z h a ty n fi) (E : Ext h h') : own_AI Z h' a ty n fi := own_A.ext F E
theorem own_AI.other {sl : Nat} {v : Value} (F : own_AI Z h a ty n fi) (W : Wr h h' b sl v) (q : a ≠ b) : own_AI Z h' a ty n fi := own_A.other F W q
theorem own_AI.keep {ws : List Addr} (F : own_AI Z h a ty n fi) (K : Keep h h' ws) (q : a ∉ ws) : own_AI Z h' a ty n fi := own_A.keep F K q
theorem own_AI.congr {gi : Nat → Int32} (F : own_AI Z h a ty n fi) (q : ∀ i, i < n → fi i = gi i) : own_AI Z h a ty n gi := own_A.congr F fun i hi => by rw [q i hi]
theorem own_AI.set {j : Nat} {x : Int32} (F : own_AI Z h a ty n fi) (W : Wr h h' a j (.int x)) : own_AI Z h' a ty n (fun i => if i = j then x else fi i) := (own_A.set F W).congr fun i _ => by by_cases q : i = j <;> simp [q]
theorem own_AI.newI {k : ClassId} {z : Int32} (A : Arr Z h a (newA k .int z) .int) (q : z.toNatClampNeg = n) : own_AI Z h a .int n (fun _ => 0) := own_A.new A q
theorem own_AI.newB {k : ClassId} {z : Int32} (A : Arr Z h a (newA k .byte z) .byte) (q : z.toNatClampNeg = n) : own_AI Z h a .byte n (fun _ => 0) := own_A.new A q
theorem own_AJ.lt (F : own_AJ Z h a n fj) : a < h.size := own_A.lt F
theorem own_AJ.ext (F : own_AJ Z h a n fj) (E : Ext h h') : own_AJ Z h' a n fj := own_A.ext F E
theorem own_AJ.other {sl : Nat} {v : Value} (F : own_AJ Z h a n fj) (W : Wr h h' b sl v) (q : a ≠ b) : own_AJ Z h' a n fj := own_A.other F W q
theorem own_AJ.keep {ws : List Addr} (F : own_AJ Z h a n fj) (K : Keep h h' ws) (q : a ∉ ws) : own_AJ Z h' a n fj := own_A.keep F K q
theorem own_AJ.congr {gj : Nat → Int64} (F : own_AJ Z h a n fj) (q : ∀ i, i < n → fj i = gj i) : own_AJ Z h a n gj := own_A.congr F fun i hi => by rw [q i hi]
theorem own_AJ.set {j : Nat} {x : Int64} (F : own_AJ Z h a n fj) (W : Wr h h' a j (.long x)) : own_AJ Z h' a n (fun i => if i = j then x else fj i) := (own_A.set F W).congr fun i _ => by by_cases q : i = j <;> simp [q]
theorem own_AJ.new {k : ClassId} {z : Int32} (A : Arr Z h a (newA k .long z) .long) (q : z.toNatClampNeg = n) : own_AJ Z h a n (fun _ => 0) := own_A.new A q
theorem own_in {j : Int32} {k n : Nat} (hj : j.toInt = (k : Int)) (hk : k < n) : j.toNatClampNeg = k ∧ ¬ (j < 0 ∨ n ≤ j.toNatClampNeg) := by
  have q : j.toNatClampNeg = k := by simp only [Int32.toNatClampNeg, hj]; omega
  refine ⟨q, fun z => ?_⟩
  rcases z with z | z
  · rw [Int32.lt_iff_toInt_lt, hj] at z
    have : (0 : Int32).toInt = 0 := rfl
    omega
  · omega
theorem own_iaload (X : Stand p l e R s m args below meth c T locs cells slots) (hx : p.tables.exec = Jvm.exec) (hZ : Z.Warmed39 s.vm) (eT : T.heap = h) (F : own_AI Z h a .int n fi) {j : Int32} {k : Nat} (hj : j.toInt = (k : Int)) (hk : k < n) {v : Int32} (hv : fi k = v) {pc pc' : Nat} {Ls : Array Slot} {rest : List Value}
    (hd : decode c.code pc = .ok (.iaload, 1)) (hp : pc + 1 = pc') (r : own_Fin p e below s Q cl sl T (mkF m pc' Ls (.int v :: rest))) : own_Fin p e below s Q cl sl T (mkF m pc Ls (.int j :: .ref a :: rest)) := by
  obtain ⟨cc, A, h1, h2⟩ := F
  obtain ⟨q1, q2⟩ := own_in hj hk
  subst hp hv
  exact own_step (fun t k' => X.iaload hx (j := j) (v := .int (fi k)) (by rw [eT]; exact A.1) (State.isArrayOf_alike hZ.alike A.2.1) A.2.2 (by rw [h1]; exact q2) (by rw [q1]; exact h2 k hk) (g := mkF m pc Ls (.int j :: .ref a :: rest)) rfl rfl hd _ k') r
theorem own_baload (X : Stand p l e R s m args below meth c T locs cells slots) (hx : p.tables.exec = Jvm.exec) (hZ : Z.Warmed39 s.vm) (eT : T.heap = h) (F : own_AI Z h a .byte n fi) {j : Int32} {k : Nat} (hj : j.toInt = (k : Int)) (hk : k < n) {v : Int32} (hv : fi k = v) {pc pc' : Nat} {Ls : Array Slot} {rest : List Value}
    (hd : decode c.code pc = .ok (.baload, 1)) (hp : pc + 1 = pc') (r : own_Fin p e below s Q cl sl T (mkF m pc' Ls (.int v :: rest))) : own_Fin p e below s Q cl sl T (mkF m pc Ls (.int j :: .ref a :: rest)) := by
  obtain ⟨cc, A, h1, h2⟩ := F
  obtain ⟨q1, q2⟩ := own_in hj hk
  subst hp hv
  exact own_step (fun t k' => X.baloadBytes hx (j := j) (v := .int (fi k)) (by rw [eT]; exact A.1) (State.isArrayOf_alike hZ.alike A.2.1) A.2.2 (by rw [h1]; exact q2) (by rw [q1]; exact h2 k hk) (g := mkF m pc Ls (.int j :: .ref a :: rest)) rfl rfl hd _ k') r
theorem own_laload (X : Stand p l e R s m args below meth c T locs cells slots) (hx : p.tables.exec = Jvm.exec) (hZ : Z.Warmed39 s.vm) (eT : T.heap = h) (F : own_AJ Z h a n fj) {j : Int32} {k : Nat} (hj : j.toInt = (k : Int)) (hk : k < n) {v : Int64} (hv : fj k = v) {pc pc' : Nat} {Ls : Array Slot} {rest : List Value}
    (hd : decode c.code pc = .ok (.laload, 1)) (hp : pc + 1 = pc') (r : own_Fin p e below s Q cl sl T (mkF m pc' Ls (.long v :: rest))) : own_Fin p e below s Q cl sl T (mkF m pc Ls (.int j :: .ref a :: rest)) := by
  obtain ⟨cc, A, h1, h2⟩ := F
  obtain ⟨q1, q2⟩ := own_in hj hk
  subst hp hv
  exact own_step (fun t k' => X.laload hx (j := j) (v := .long (fj k)) (by rw [eT]; exact A.1) (State.isArrayOf_alike hZ.alike A.2.1) A.2.2 (by rw [h1]; exact q2) (by rw [q1]; exact h2 k hk) (g := mkF m pc Ls (.int j :: .ref a :: rest)) rfl rfl hd _ k') r
theorem own_arrlen (X : Stand p l e R s m args below meth c T locs cells slots) (hx : p.tables.exec = Jvm.exec) (hZ : Z.Warmed39 s.vm) (eT : T.heap = h) (F : own_A Z h a ty n fv) {z : Int32} (hz : n.toInt32 = z) {pc pc' : Nat} {Ls : Array Slot} {rest : List Value}
    (hd : decode c.code pc = .ok (.arraylength, 1)) (hp : pc + 1 = pc') (r : own_Fin p e below s Q cl sl T (mkF m pc' Ls (.int z :: rest))) : own_Fin p e below s Q cl sl T (mkF m pc Ls (.ref a :: rest)) := by
  obtain ⟨cc, A, h1, h2⟩ := F
  subst hp hz
  exact own_step (fun t k' => X.arraylength hx (by rw [eT]; exact A.1) (State.isArrayOf_alike hZ.alike A.2.1) (g := mkF m pc Ls (.ref a :: rest)) rfl rfl hd _ (by rw [h1]; exact k')) r
theorem own_iastore (X : Stand p l e R s m args below meth c T locs cells slots) (hx : p.tables.exec = Jvm.exec) (hZ : Z.Warmed39 s.vm) (eT : T.heap = h) (F : own_AI Z h a .int n fi) {j : Int32} {k : Nat} (hj : j.toInt = (k : Int)) (hk : k < n) {x : Int32} {pc pc' : Nat} {Ls : Array Slot} {rest : List Value}
    (hd : decode c.code pc = .ok (.iastore, 1)) (hp : pc + 1 = pc') :
    ∃ T' h', Stand p l e R s m args below meth c T' (locs ++ [⟨a, k⟩]) cells slots ∧ T'.heap = h' ∧ Wr h h' a k (.int x) ∧ own_AI Z h' a .int n (fun i => if i = k then x else fi i) ∧ ∀ t, Steps p.tables e below (T'.setTop (mkF m pc' Ls rest)) t → Steps p.tables e below (T.setTop (mkF m pc Ls (.int x :: .int j :: .ref a :: rest))) t := by
  obtain ⟨q1, q2⟩ := own_in hj hk
  have F' := F
  obtain ⟨cc, A, h1, h2⟩ := F
  subst hp q1
  obtain ⟨T', h', X', e', W', st⟩ := stI X hx hZ eT A (j := j) (x := x) (by rw [h1]; exact q2) (g := mkF m pc Ls (.int x :: .int j :: .ref a :: rest)) rfl rfl hd
  exact ⟨T', h', X', e', W', F'.set W', st⟩
theorem own_bastore (X : Stand p l e R s m args below meth c T locs cells slots) (hx : p.tables.exec = Jvm.exec) (hZ : Z.Warmed39 s.vm) (eT : T.heap = h) (F : own_AI Z h a .byte n fi) {j : Int32} {k : Nat} (hj : j.toInt = (k : Int)) (hk : k < n) {x y : Int32} (hn : nar .byte x = y) {pc pc' : Nat} {Ls : Array Slot} {rest : List Value}
    (hd : decode c.code pc = .ok (.bastore, 1)) (hp : pc + 1 = pc') :
    ∃ T' h', Stand p l e R s m args below meth c T' (locs ++ [⟨a, k⟩]) cells slots ∧ T'.heap = h' ∧ Wr h h' a k (.int y) ∧ own_AI Z h' a .byte n (fun i => if i = k then y else fi i) ∧ ∀ t, Steps p.tables e below (T'.setTop (mkF m pc' Ls rest)) t → Steps p.tables e below (T.setTop (mkF m pc Ls (.int x :: .int j :: .ref a :: rest))) t := by
  obtain ⟨q1, q2⟩ := own_in hj hk
  have F' := F
  obtain ⟨cc, A, h1, h2⟩ := F
  subst hp q1 hn
  obtain ⟨T', h', X', e', W', st⟩ := stB X hx hZ eT A (j := j) (x := x) (by rw [h1]; exact q2) (g := mkF m pc Ls (.int x :: .int j :: .ref a :: rest)) rfl rfl hd
  exact ⟨T', h', X', e', W', F'.set W', st⟩
theorem own_lastore (X : Stand p l e R s m args below meth c T locs cells slots) (hx : p.tables.exec = Jvm.exec) (hZ : Z.Warmed39 s.vm) (eT : T.heap = h) (F : own_AJ Z h a n fj) {j : Int32} {k : Nat} (hj : j.toInt = (k : Int)) (hk : k < n) {x : Int64} {pc pc' : Nat} {Ls : Array Slot} {rest : List Value}
    (hd : decode c.code pc = .ok (.lastore, 1)) (hp : pc + 1 = pc') :
    ∃ T' h', Stand p l e R s m args below meth c T' (locs ++ [⟨a, k⟩]) cells slots ∧ T'.heap = h' ∧ Wr h h' a k (.long x) ∧ own_AJ Z h' a n (fun i => if i = k then x else fj i) ∧ ∀ t, Steps p.tables e below (T'.setTop (mkF m pc' Ls rest)) t → Steps p.tables e below (T.setTop (mkF m pc Ls (.long x :: .int j :: .ref a :: rest))) t := by
  obtain ⟨q1, q2⟩ := own_in hj hk
  have F' := F
  obtain ⟨cc, A, h1, h2⟩ := F
  subst hp q1
  obtain ⟨T', h', X', e', W', st⟩ := stJ X hx hZ eT A (j := j) (x := x) (by rw [h1]; exact q2) (g := mkF m pc Ls (.long x :: .int j :: .ref a :: rest)) rfl rfl hd
  exact ⟨T', h', X', e', W', F'.set W', st⟩
theorem own_nar8 (x : Int32) : nar .byte x.toInt8.toInt32 = x.toInt8.toInt32 := by
  show (x.toInt8.toInt32).toInt8.toInt32 = x.toInt8.toInt32
  simp
end OwnKit
theorem d1_0 : decode jdk_30_method_1_code 0 = .ok (.aload_n 0, 1) := by decide +kernel
theorem d1_1 : decode jdk_30_method_1_code 1 = .ok (.invokespecial 1, 3) := by decide +kernel
theorem d1_4 : decode jdk_30_method_1_code 4 = .ok (.return_, 1) := by decide +kernel
theorem own_pn_1 : plainName "java/lang/Record" = true := by first | (simp [plainName, overriddenIn]; done) | decide +kernel
theorem own_ef_1 (m : MethodId) (a1 : Addr) : entryFrame m #[(.ref a1)] 1 = mkF m 0 #[.val (.ref a1)] [] := by first | (simp [entryFrame, mkF, argsToLocals, Value.category]; done) | rfl
abbrev own_R1 : Room := { frames := 1, cells := 0, slots := 0, locals := 12 }
def own_Q1 (Z : State) (a1 : Addr) (h0 : Heap) (n0 : Nat) (v : Option Value) (h : Heap) (L : List Loc) : Prop := v = none ∧ Fr n0 L ∧ h = h0
set_option maxRecDepth 65536 in
set_option maxHeartbeats 40000000 in
theorem rm1 (l : Launch) (Z : State) (a0 : Array Value) (hw : ∀ d ∈ tables_1, d.before a0 Z = true) (ws : List Jvm.Cond) (a1 : Addr) (h0 : Heap) (n0 : Nat) (Z0 : n0 ≤ h0.size) :
    MetFree l (⟨"java/lang/Record", "<init>", "()V"⟩ : MethodName) (head1 (Jvm.Cond.code (⟨"java/lang/Record", "<init>", "()V"⟩ : MethodName) jdk_30_method_1_code 1 none :: ws) own_R1) (fun a U => a = #[(.ref a1)] ∧ Z.Warmed39 U.vm ∧ U.heap = h0) (fun _ _ _ _ _ => True) (fun _ U o U' => ∃ v L, o = .returned v ∧ own_Q1 Z a1 h0 n0 v U'.heap L ∧ FrameEnd U o U' L own_R1.cells own_R1.slots) := by
  refine MetFree.of_bodySF (plainFor_of_name own_pn_1) hisR ?_
  intro p e s m args below meth c s₁ Bd hml0 hP hK
  obtain ⟨rfl, hZ, hh⟩ := hP
  have hx := Bd.exec
  have hby := Bd.bytes
  have hlk := BodyLoose.notSynchronized Bd
  have hml : c.maxLocals = 1 := hml0
  have hown : s.vm.findClass "java/lang/Record" = some m.cls := (findClass_of_methodNamed Bd.named : s.vm.findClass (⟨"java/lang/Record", "<init>", "()V"⟩ : MethodName).cls = some m.cls)
  have hnm := (name_of_methodNamed Bd.named Bd.method).1
  have X0 : Stand p l e own_R1 s m #[(.ref a1)] below meth c s₁ [] 0 0 := Stand.of_body Bd
  have e0 : s₁.heap = h0 := by rw [← hh, Bd.state]; rfl
  have Nf := Fr.nil n0
  have Zs := Z0
  show own_Fin p e below s (own_Q1 Z a1 h0 n0) 0 0 s₁ (entryFrame m #[(.ref a1)] 1)
  rw [own_ef_1 m a1]
  show own_Fin _ _ _ _ _ _ _ _ (mkF m 0 #[.val (.ref a1)] [])
  refine own_step (fun t k => XS.aloadN X0.here hx rfl (hb hby d1_0) rfl rfl k) ?_
  show own_Fin _ _ _ _ _ _ _ _ (mkF m 1 #[.val (.ref a1)] [(.ref a1)])
  obtain ⟨T1, X1, e1, st1⟩ := initO X0 hx hZ hown (hw _ (List.mem_of_getElem? (i := 11) rfl)) (hw _ (List.mem_of_getElem? (i := 12) rfl)) (hw _ (List.mem_of_getElem? (i := 13) rfl)) e0 (g := (mkF m 1 #[.val (.ref a1)] [(.ref a1)])) rfl (by rw [hml]; rfl) rfl (hb hby d1_1) (by decide) (W := 0) (by show 2 * 0 + _ ≤ _; exact Nat.le_of_eq rfl) (by decide)
  refine own_step st1 ?_
  show own_Fin _ _ _ _ _ _ _ _ (mkF m 4 #[.val (.ref a1)] [])
  refine own_retV X1 hx hlk Bd.returns (hb hby d1_4) (by decide) (by decide) e1 ?_
  exact ⟨rfl, Nf, rfl⟩
theorem own_pd_0 : parseMethodDescriptor "()V" = some ⟨[], none⟩ := by decide +kernel
theorem d2_0 : decode prog_23_method_1_code 0 = .ok (.aload_n 0, 1) := by decide +kernel
theorem d2_1 : decode prog_23_method_1_code 1 = .ok (.invokespecial 1, 3) := by decide +kernel
theorem d2_4 : decode prog_23_method_1_code 4 = .ok (.aload_n 0, 1) := by decide +kernel
theorem d2_5 : decode prog_23_method_1_code 5 = .ok (.iload_n 1, 1) := by decide +kernel
theorem d2_6 : decode prog_23_method_1_code 6 = .ok (.putfield 7, 3) := by decide +kernel
theorem d2_9 : decode prog_23_method_1_code 9 = .ok (.aload_n 0, 1) := by decide +kernel
theorem d2_10 : decode prog_23_method_1_code 10 = .ok (.iload_n 2, 1) := by decide +kernel
theorem d2_11 : decode prog_23_method_1_code 11 = .ok (.putfield 13, 3) := by decide +kernel
theorem d2_14 : decode prog_23_method_1_code 14 = .ok (.aload_n 0, 1) := by decide +kernel
theorem d2_15 : decode prog_23_method_1_code 15 = .ok (.iload_n 3, 1) := by decide +kernel
theorem d2_16 : decode prog_23_method_1_code 16 = .ok (.putfield 16, 3) := by decide +kernel
theorem d2_19 : decode prog_23_method_1_code 19 = .ok (.aload_n 0, 1) := by decide +kernel
theorem d2_20 : decode prog_23_method_1_code 20 = .ok (.lload 4, 2) := by decide +kernel
theorem d2_22 : decode prog_23_method_1_code 22 = .ok (.putfield 19, 3) := by decide +kernel
theorem d2_25 : decode prog_23_method_1_code 25 = .ok (.return_, 1) := by decide +kernel
theorem own_pn_2 : plainName "com/example/triform/triform/CborReader$Head" = true := by first | (simp [plainName, overriddenIn]; done) | decide +kernel
theorem own_ef_2 (m : MethodId) (a1 : Addr) (p2 : Int32) (p3 : Int32) (p4 : Int32) (q5 : Int64) : entryFrame m #[(.ref a1), (.int p2), (.int p3), (.int p4), (.long q5)] 6 = mkF m 0 #[.val (.ref a1), .val (.int p2), .val (.int p3), .val (.int p4), .val (.long q5), .second] [] := by first | (simp [entryFrame, mkF, argsToLocals, Value.category]; done) | rfl
abbrev own_R2 : Room := { frames := 2, cells := 0, slots := 0, locals := 24 }
def own_Q2 (Z : State) (a1 : Addr) (p2 : Int32) (p3 : Int32) (p4 : Int32) (q5 : Int64) (h0 : Heap) (n0 : Nat) (v : Option Value) (h : Heap) (L : List Loc) : Prop := v = none ∧ Fr n0 L ∧ Keep h0 h [a1] ∧ Exa Z h a1 "com/example/triform/triform/CborReader$Head" ∧ Fld Z h a1 "com/example/triform/triform/CborReader$Head" "offset" "I" (.int p2) ∧ Fld Z h a1 "com/example/triform/triform/CborReader$Head" "majorType" "I" (.int p3) ∧ Fld Z h a1 "com/example/triform/triform/CborReader$Head" "info" "I" (.int p4) ∧ Fld Z h a1 "com/example/triform/triform/CborReader$Head" "argument" "J" (.long q5)
set_option maxRecDepth 65536 in
set_option maxHeartbeats 40000000 in
theorem rm2 (l : Launch) (Z : State) (a0 : Array Value) (hw : ∀ d ∈ tables_1, d.before a0 Z = true) (ws : List Jvm.Cond) (a1 : Addr) (p2 : Int32) (p3 : Int32) (p4 : Int32) (q5 : Int64) (h0 : Heap) (n0 : Nat) (Z0 : n0 ≤ h0.size) (E_a1 : Exa Z h0 a1 "com/example/triform/triform/CborReader$Head") (F_offset_a1 : Fld Z h0 a1 "com/example/triform/triform/CborReader$Head" "offset" "I" (.int (0 : Int32))) (F_majorType_a1 : Fld Z h0 a1 "com/example/triform/triform/CborReader$Head" "majorType" "I" (.int (0 : Int32))) (F_info_a1 : Fld Z h0 a1 "com/example/triform/triform/CborReader$Head" "info" "I" (.int (0 : Int32))) (F_argument_a1 : Fld Z h0 a1 "com/example/triform/triform/CborReader$Head" "argument" "J" (.long (0 : Int64))) (g_a1 : n0 ≤ a1) :
    MetFree l (⟨"com/example/triform/triform/CborReader$Head", "<init>", "(IIIJ)V"⟩ : MethodName) (head1 (Jvm.Cond.code (⟨"com/example/triform/triform/CborReader$Head", "<init>", "(IIIJ)V"⟩ : MethodName) prog_23_method_1_code 6 none :: ws) own_R2) (fun a U => a = #[(.ref a1), (.int p2), (.int p3), (.int p4), (.long q5)] ∧ Z.Warmed39 U.vm ∧ U.heap = h0) (fun _ _ _ _ _ => True) (fun _ U o U' => ∃ v L, o = .returned v ∧ own_Q2 Z a1 p2 p3 p4 q5 h0 n0 v U'.heap L ∧ FrameEnd U o U' L own_R2.cells own_R2.slots) := by
  refine MetFree.of_bodySF (plainFor_of_name own_pn_2) hisR ?_
  intro p e s m args below meth c s₁ Bd hml0 hP hK
  obtain ⟨rfl, hZ, hh⟩ := hP
  have hx := Bd.exec
  have hby := Bd.bytes
  have hlk := BodyLoose.notSynchronized Bd
  have hml : c.maxLocals = 6 := hml0
  have hown : s.vm.findClass "com/example/triform/triform/CborReader$Head" = some m.cls := (findClass_of_methodNamed Bd.named : s.vm.findClass (⟨"com/example/triform/triform/CborReader$Head", "<init>", "(IIIJ)V"⟩ : MethodName).cls = some m.cls)
  have hnm := (name_of_methodNamed Bd.named Bd.method).1
  have X0 : Stand p l e own_R2 s m #[(.ref a1), (.int p2), (.int p3), (.int p4), (.long q5)] below meth c s₁ [] 0 0 := Stand.of_body Bd
  have e0 : s₁.heap = h0 := by rw [← hh, Bd.state]; rfl
  have Nf := Fr.nil n0
  have Zs := Z0
  have K : Keep h0 h0 [a1] := Keep.refl _ _
  show own_Fin p e below s (own_Q2 Z a1 p2 p3 p4 q5 h0 n0) 0 0 s₁ (entryFrame m #[(.ref a1), (.int p2), (.int p3), (.int p4), (.long q5)] 6)
  rw [own_ef_2 m a1 p2 p3 p4 q5]
  show own_Fin _ _ _ _ _ _ _ _ (mkF m 0 #[.val (.ref a1), .val (.int p2), .val (.int p3), .val (.int p4), .val (.long q5), .second] [])
  refine own_step (fun t k => XS.aloadN X0.here hx rfl (hb hby d2_0) rfl rfl k) ?_
  show own_Fin _ _ _ _ _ _ _ _ (mkF m 1 #[.val (.ref a1), .val (.int p2), .val (.int p3), .val (.int p4), .val (.long q5), .second] [(.ref a1)])
  obtain ⟨_, _, ⟨T1, L1, k1, n1⟩, -, X1, ⟨Lc1, hQ1, l1, y1, z1⟩, st1⟩ := X0.specialBack hx (y := (⟨"java/lang/Record", "<init>", "()V"⟩ : MethodName)) rfl hown (mvT hZ (hw _ (List.mem_of_getElem? (i := 6) rfl))) (mvT hZ (hw _ (List.mem_of_getElem? (i := 7) rfl))) (mvT hZ (hw _ (List.mem_of_getElem? (i := 10) rfl))) (by decide) (backOf (W := 0) (rm1 l Z a0 hw [] a1 h0 n0 Zs) hZ (hw _ (List.mem_of_getElem? (i := 10) rfl)) (hw _ (List.mem_of_getElem? (i := 9) rfl)) (by decide) (by decide)) (g := (mkF m 1 #[.val (.ref a1), .val (.int p2), .val (.int p3), .val (.int p4), .val (.long q5), .second] [(.ref a1)])) rfl (by rw [hml]; rfl) (Steps.refl _) (a := a1) (argsL := []) (rest := []) (lenOf own_pd_0 rfl) rfl (by show 2 * 0 + _ ≤ _; exact Nat.le_of_eq rfl) (hb hby d2_1) (fun _ _ => ⟨rfl, e0, (by decide : 0 + 0 ≤ _), (by decide : 0 + 0 ≤ _)⟩)
  dsimp only [Pt.U, Pt.locs, Pt.cells, Pt.slots] at X1 l1 y1 z1 st1 hQ1
  subst l1 y1 z1
  obtain ⟨rfl, Nq1, hh1⟩ := hQ1
  replace Nf := Fr.app Nf Nq1
  refine own_stepT st1 ?_
  show own_Fin _ _ _ _ _ _ _ _ (mkF m 4 #[.val (.ref a1), .val (.int p2), .val (.int p3), .val (.int p4), .val (.long q5), .second] [])
  refine own_step (fun t k => XS.aloadN X1.here hx rfl (hb hby d2_4) rfl rfl k) ?_
  show own_Fin _ _ _ _ _ _ _ _ (mkF m 5 #[.val (.ref a1), .val (.int p2), .val (.int p3), .val (.int p4), .val (.long q5), .second] [(.ref a1)])
  refine own_step (fun t k => XS.iloadN X1.here hx rfl (hb hby d2_5) rfl k) ?_
  show own_Fin _ _ _ _ _ _ _ _ (mkF m 6 #[.val (.ref a1), .val (.int p2), .val (.int p3), .val (.int p4), .val (.long q5), .second] [(.int p2), (.ref a1)])
  obtain ⟨T2, h2, X2, e2, W2, st2⟩ := putF X1 hx hZ hown (host := "") (Or.inl (hw _ (List.mem_of_getElem? (i := 14) rfl))) Via.refl hh1 F_offset_a1 E_a1 (Or.inr ⟨(hw _ (List.mem_of_getElem? (i := 15) rfl)), rfl, hnm⟩) (hw _ (List.mem_of_getElem? (i := 1) rfl)) (ty := .int) (by decide) rfl rfl (g := (mkF m 6 #[.val (.ref a1), .val (.int p2), .val (.int p3), .val (.int p4), .val (.long q5), .second] [(.int p2), (.ref a1)])) rfl rfl (hb hby d2_6)
  refine own_step st2 ?_
  replace E_a1 := E_a1.wr W2
  replace F_offset_a1 := F_offset_a1.same W2
  replace F_majorType_a1 := F_majorType_a1.other W2 (Or.inr (slot_ne (Or.inr (hw _ (List.mem_of_getElem? (i := 17) rfl))) (Or.inr (hw _ (List.mem_of_getElem? (i := 15) rfl))) (by decide) (t := .int) (t' := .int) (by decide) (by decide)))
  replace F_info_a1 := F_info_a1.other W2 (Or.inr (slot_ne (Or.inr (hw _ (List.mem_of_getElem? (i := 19) rfl))) (Or.inr (hw _ (List.mem_of_getElem? (i := 15) rfl))) (by decide) (t := .int) (t' := .int) (by decide) (by decide)))
  replace F_argument_a1 := F_argument_a1.other W2 (Or.inr (slot_ne (Or.inr (hw _ (List.mem_of_getElem? (i := 21) rfl))) (Or.inr (hw _ (List.mem_of_getElem? (i := 15) rfl))) (by decide) (t := .long) (t' := .int) (by decide) (by decide)))
  replace Zs : n0 ≤ h2.size := by rw [W2.size]; exact Zs
  replace K := K.wr W2 (Or.inl (by simp))
  replace Nf := Fr.snoc X2 Nf g_a1
  show own_Fin _ _ _ _ _ _ _ _ (mkF m 9 #[.val (.ref a1), .val (.int p2), .val (.int p3), .val (.int p4), .val (.long q5), .second] [])
  refine own_step (fun t k => XS.aloadN X2.here hx rfl (hb hby d2_9) rfl rfl k) ?_
  show own_Fin _ _ _ _ _ _ _ _ (mkF m 10 #[.val (.ref a1), .val (.int p2), .val (.int p3), .val (.int p4), .val (.long q5), .second] [(.ref a1)])
  refine own_step (fun t k => XS.iloadN X2.here hx rfl (hb hby d2_10) rfl k) ?_
  show own_Fin _ _ _ _ _ _ _ _ (mkF m 11 #[.val (.ref a1), .val (.int p2), .val (.int p3), .val (.int p4), .val (.long q5), .second] [(.int p3), (.ref a1)])
  obtain ⟨T3, h3, X3, e3, W3, st3⟩ := putF X2 hx hZ hown (host := "") (Or.inl (hw _ (List.mem_of_getElem? (i := 16) rfl))) Via.refl e2 F_majorType_a1 E_a1 (Or.inr ⟨(hw _ (List.mem_of_getElem? (i := 17) rfl)), rfl, hnm⟩) (hw _ (List.mem_of_getElem? (i := 1) rfl)) (ty := .int) (by decide) rfl rfl (g := (mkF m 11 #[.val (.ref a1), .val (.int p2), .val (.int p3), .val (.int p4), .val (.long q5), .second] [(.int p3), (.ref a1)])) rfl rfl (hb hby d2_11)
  refine own_step st3 ?_
  replace E_a1 := E_a1.wr W3
  replace F_offset_a1 := F_offset_a1.other W3 (Or.inr (slot_ne (Or.inr (hw _ (List.mem_of_getElem? (i := 15) rfl))) (Or.inr (hw _ (List.mem_of_getElem? (i := 17) rfl))) (by decide) (t := .int) (t' := .int) (by decide) (by decide)))
  replace F_majorType_a1 := F_majorType_a1.same W3
  replace F_info_a1 := F_info_a1.other W3 (Or.inr (slot_ne (Or.inr (hw _ (List.mem_of_getElem? (i := 19) rfl))) (Or.inr (hw _ (List.mem_of_getElem? (i := 17) rfl))) (by decide) (t := .int) (t' := .int) (by decide) (by decide)))
  replace F_argument_a1 := F_argument_a1.other W3 (Or.inr (slot_ne (Or.inr (hw _ (List.mem_of_getElem? (i := 21) rfl))) (Or.inr (hw _ (List.mem_of_getElem? (i := 17) rfl))) (by decide) (t := .long) (t' := .int) (by decide) (by decide)))
  replace Zs : n0 ≤ h3.size := by rw [W3.size]; exact Zs
  replace K := K.wr W3 (Or.inl (by simp))
  replace Nf := Fr.snoc X3 Nf g_a1
  show own_Fin _ _ _ _ _ _ _ _ (mkF m 14 #[.val (.ref a1), .val (.int p2), .val (.int p3), .val (.int p4), .val (.long q5), .second] [])
  refine own_step (fun t k => XS.aloadN X3.here hx rfl (hb hby d2_14) rfl rfl k) ?_
  show own_Fin _ _ _ _ _ _ _ _ (mkF m 15 #[.val (.ref a1), .val (.int p2), .val (.int p3), .val (.int p4), .val (.long q5), .second] [(.ref a1)])
  refine own_step (fun t k => XS.iloadN X3.here hx rfl (hb hby d2_15) rfl k) ?_
  show own_Fin _ _ _ _ _ _ _ _ (mkF m 16 #[.val (.ref a1), .val (.int p2), .val (.int p3), .val (.int p4), .val (.long q5), .second] [(.int p4), (.ref a1)])
  obtain ⟨T4, h4, X4, e4, W4, st4⟩ := putF X3 hx hZ hown (host := "") (Or.inl (hw _ (List.mem_of_getElem? (i := 18) rfl))) Via.refl e3 F_info_a1 E_a1 (Or.inr ⟨(hw _ (List.mem_of_getElem? (i := 19) rfl)), rfl, hnm⟩) (hw _ (List.mem_of_getElem? (i := 1) rfl)) (ty := .int) (by decide) rfl rfl (g := (mkF m 16 #[.val (.ref a1), .val (.int p2), .val (.int p3), .val (.int p4), .val (.long q5), .second] [(.int p4), (.ref a1)])) rfl rfl (hb hby d2_16)
  refine own_step st4 ?_
  replace E_a1 := E_a1.wr W4
  replace F_offset_a1 := F_offset_a1.other W4 (Or.inr (slot_ne (Or.inr (hw _ (List.mem_of_getElem? (i := 15) rfl))) (Or.inr (hw _ (List.mem_of_getElem? (i := 19) rfl))) (by decide) (t := .int) (t' := .int) (by decide) (by decide)))
  replace F_majorType_a1 := F_majorType_a1.other W4 (Or.inr (slot_ne (Or.inr (hw _ (List.mem_of_getElem? (i := 17) rfl))) (Or.inr (hw _ (List.mem_of_getElem? (i := 19) rfl))) (by decide) (t := .int) (t' := .int) (by decide) (by decide)))
  replace F_info_a1 := F_info_a1.same W4
  replace F_argument_a1 := F_argument_a1.other W4 (Or.inr (slot_ne (Or.inr (hw _ (List.mem_of_getElem? (i := 21) rfl))) (Or.inr (hw _ (List.mem_of_getElem? (i := 19) rfl))) (by decide) (t := .long) (t' := .int) (by decide) (by decide)))
  replace Zs : n0 ≤ h4.size := by rw [W4.size]; exact Zs
  replace K := K.wr W4 (Or.inl (by simp))
  replace Nf := Fr.snoc X4 Nf g_a1
  show own_Fin _ _ _ _ _ _ _ _ (mkF m 19 #[.val (.ref a1), .val (.int p2), .val (.int p3), .val (.int p4), .val (.long q5), .second] [])
  refine own_step (fun t k => XS.aloadN X4.here hx rfl (hb hby d2_19) rfl rfl k) ?_
  show own_Fin _ _ _ _ _ _ _ _ (mkF m 20 #[.val (.ref a1), .val (.int p2), .val (.int p3), .val (.int p4), .val (.long q5), .second] [(.ref a1)])
  refine own_step (fun t k => XS.lload X4.here hx rfl (hb hby d2_20) rfl k) ?_
  show own_Fin _ _ _ _ _ _ _ _ (mkF m 22 #[.val (.ref a1), .val (.int p2), .val (.int p3), .val (.int p4), .val (.long q5), .second] [(.long q5), (.ref a1)])
  obtain ⟨T5, h5, X5, e5, W5, st5⟩ := putF X4 hx hZ hown (host := "") (Or.inl (hw _ (List.mem_of_getElem? (i := 20) rfl))) Via.refl e4 F_argument_a1 E_a1 (Or.inr ⟨(hw _ (List.mem_of_getElem? (i := 21) rfl)), rfl, hnm⟩) (hw _ (List.mem_of_getElem? (i := 1) rfl)) (ty := .long) (by decide) rfl rfl (g := (mkF m 22 #[.val (.ref a1), .val (.int p2), .val (.int p3), .val (.int p4), .val (.long q5), .second] [(.long q5), (.ref a1)])) rfl rfl (hb hby d2_22)
  refine own_step st5 ?_
  replace E_a1 := E_a1.wr W5
  replace F_offset_a1 := F_offset_a1.other W5 (Or.inr (slot_ne (Or.inr (hw _ (List.mem_of_getElem? (i := 15) rfl))) (Or.inr (hw _ (List.mem_of_getElem? (i := 21) rfl))) (by decide) (t := .int) (t' := .long) (by decide) (by decide)))
  replace F_majorType_a1 := F_majorType_a1.other W5 (Or.inr (slot_ne (Or.inr (hw _ (List.mem_of_getElem? (i := 17) rfl))) (Or.inr (hw _ (List.mem_of_getElem? (i := 21) rfl))) (by decide) (t := .int) (t' := .long) (by decide) (by decide)))
  replace F_info_a1 := F_info_a1.other W5 (Or.inr (slot_ne (Or.inr (hw _ (List.mem_of_getElem? (i := 19) rfl))) (Or.inr (hw _ (List.mem_of_getElem? (i := 21) rfl))) (by decide) (t := .int) (t' := .long) (by decide) (by decide)))
  replace F_argument_a1 := F_argument_a1.same W5
  replace Zs : n0 ≤ h5.size := by rw [W5.size]; exact Zs
  replace K := K.wr W5 (Or.inl (by simp))
  replace Nf := Fr.snoc X5 Nf g_a1
  show own_Fin _ _ _ _ _ _ _ _ (mkF m 25 #[.val (.ref a1), .val (.int p2), .val (.int p3), .val (.int p4), .val (.long q5), .second] [])
  refine own_retV X5 hx hlk Bd.returns (hb hby d2_25) (by decide) (by decide) e5 ?_
  exact ⟨rfl, Nf, K, E_a1, F_offset_a1, F_majorType_a1, F_info_a1, F_argument_a1⟩
theorem d3_0 : decode prog_23_method_3_code 0 = .ok (.aload_n 0, 1) := by decide +kernel
theorem d3_1 : decode prog_23_method_3_code 1 = .ok (.getfield 13, 3) := by decide +kernel
theorem d3_4 : decode prog_23_method_3_code 4 = .ok (.bipush 7, 2) := by decide +kernel
theorem d3_6 : decode prog_23_method_3_code 6 = .ok (.if_icmp .ne 16, 3) := by decide +kernel
theorem d3_9 : decode prog_23_method_3_code 9 = .ok (.aload_n 0, 1) := by decide +kernel
theorem d3_10 : decode prog_23_method_3_code 10 = .ok (.getfield 16, 3) := by decide +kernel
theorem d3_13 : decode prog_23_method_3_code 13 = .ok (.bipush 31, 2) := by decide +kernel
theorem d3_15 : decode prog_23_method_3_code 15 = .ok (.if_icmp .ne 7, 3) := by decide +kernel
theorem d3_18 : decode prog_23_method_3_code 18 = .ok (.iconst 1, 1) := by decide +kernel
theorem d3_19 : decode prog_23_method_3_code 19 = .ok (.goto 4, 3) := by decide +kernel
theorem d3_22 : decode prog_23_method_3_code 22 = .ok (.iconst 0, 1) := by decide +kernel
theorem d3_23 : decode prog_23_method_3_code 23 = .ok (.ireturn, 1) := by decide +kernel
theorem own_pn_3 : plainName "com/example/triform/triform/CborReader$Head" = true := by first | (simp [plainName, overriddenIn]; done) | decide +kernel
theorem own_ef_3 (m : MethodId) (a1 : Addr) : entryFrame m #[(.ref a1)] 1 = mkF m 0 #[.val (.ref a1)] [] := by first | (simp [entryFrame, mkF, argsToLocals, Value.category]; done) | rfl
abbrev own_R3 : Room := { frames := 0, cells := 0, slots := 0, locals := 0 }
def own_Q3 (Z : State) (a1 : Addr) (w1 : Int32) (w2 : Int32) (h0 : Heap) (n0 : Nat) (v : Option Value) (h : Heap) (L : List Loc) : Prop := ∃ r : Int32, v = some (.int r) ∧ own_B r (w1.toInt = 7 ∧ w2.toInt = 31) ∧ Fr n0 L ∧ h = h0
set_option maxRecDepth 65536 in
set_option maxHeartbeats 40000000 in
theorem rm3 (l : Launch) (Z : State) (a0 : Array Value) (hw : ∀ d ∈ tables_1, d.before a0 Z = true) (ws : List Jvm.Cond) (a1 : Addr) (w1 : Int32) (w2 : Int32) (h0 : Heap) (n0 : Nat) (Z0 : n0 ≤ h0.size) (F_majorType_a1 : Fld Z h0 a1 "com/example/triform/triform/CborReader$Head" "majorType" "I" (.int w1)) (F_info_a1 : Fld Z h0 a1 "com/example/triform/triform/CborReader$Head" "info" "I" (.int w2)) :
    MetFree l (⟨"com/example/triform/triform/CborReader$Head", "isBreak", "()Z"⟩ : MethodName) (head1 (Jvm.Cond.code (⟨"com/example/triform/triform/CborReader$Head", "isBreak", "()Z"⟩ : MethodName) prog_23_method_3_code 1 (some .boolean) :: ws) own_R3) (fun a U => a = #[(.ref a1)] ∧ Z.Warmed39 U.vm ∧ U.heap = h0) (fun _ _ _ _ _ => True) (fun _ U o U' => ∃ v L, o = .returned v ∧ own_Q3 Z a1 w1 w2 h0 n0 v U'.heap L ∧ FrameEnd U o U' L own_R3.cells own_R3.slots) := by
  refine MetFree.of_bodySF (plainFor_of_name own_pn_3) hisR ?_
  intro p e s m args below meth c s₁ Bd hml0 hP hK
  obtain ⟨rfl, hZ, hh⟩ := hP
  have hx := Bd.exec
  have hby := Bd.bytes
  have hlk := BodyLoose.notSynchronized Bd
  have hml : c.maxLocals = 1 := hml0
  have hown : s.vm.findClass "com/example/triform/triform/CborReader$Head" = some m.cls := (findClass_of_methodNamed Bd.named : s.vm.findClass (⟨"com/example/triform/triform/CborReader$Head", "isBreak", "()Z"⟩ : MethodName).cls = some m.cls)
  have hnm := (name_of_methodNamed Bd.named Bd.method).1
  have X0 : Stand p l e own_R3 s m #[(.ref a1)] below meth c s₁ [] 0 0 := Stand.of_body Bd
  have e0 : s₁.heap = h0 := by rw [← hh, Bd.state]; rfl
  have Nf := Fr.nil n0
  have Zs := Z0
  show own_Fin p e below s (own_Q3 Z a1 w1 w2 h0 n0) 0 0 s₁ (entryFrame m #[(.ref a1)] 1)
  rw [own_ef_3 m a1]
  show own_Fin _ _ _ _ _ _ _ _ (mkF m 0 #[.val (.ref a1)] [])
  refine own_step (fun t k => XS.aloadN X0.here hx rfl (hb hby d3_0) rfl rfl k) ?_
  show own_Fin _ _ _ _ _ _ _ _ (mkF m 1 #[.val (.ref a1)] [(.ref a1)])
  obtain ⟨T1, X1, e1, st1⟩ := getF X0 hx hZ hown (host := "") (Or.inl (hw _ (List.mem_of_getElem? (i := 16) rfl))) Via.refl e0 F_majorType_a1 (g := (mkF m 1 #[.val (.ref a1)] [(.ref a1)])) rfl rfl (hb hby d3_1)
  refine own_step st1 ?_
  show own_Fin _ _ _ _ _ _ _ _ (mkF m 4 #[.val (.ref a1)] [(.int w1)])
  refine own_step (fun t k => XS.bipush X1.here hx rfl (hb hby d3_4) k) ?_
  show own_Fin _ _ _ _ _ _ _ _ (mkF m 6 #[.val (.ref a1)] [(.int (7 : Int32)), (.int w1)])
  by_cases hc2 : (w1).toInt = 7
  · skip
    refine own_step (fun t k => XS.icmpNo X1.here hx rfl (hb hby d3_6) rfl (own_ce (x := w1) (y := (7 : Int32)) rfl rfl hc2).2 k) ?_
    show own_Fin _ _ _ _ _ _ _ _ (mkF m 9 #[.val (.ref a1)] [])
    refine own_step (fun t k => XS.aloadN X1.here hx rfl (hb hby d3_9) rfl rfl k) ?_
    show own_Fin _ _ _ _ _ _ _ _ (mkF m 10 #[.val (.ref a1)] [(.ref a1)])
    obtain ⟨T3, X3, e3, st3⟩ := getF X1 hx hZ hown (host := "") (Or.inl (hw _ (List.mem_of_getElem? (i := 18) rfl))) Via.refl e1 F_info_a1 (g := (mkF m 10 #[.val (.ref a1)] [(.ref a1)])) rfl rfl (hb hby d3_10)
    refine own_step st3 ?_
    show own_Fin _ _ _ _ _ _ _ _ (mkF m 13 #[.val (.ref a1)] [(.int w2)])
    refine own_step (fun t k => XS.bipush X3.here hx rfl (hb hby d3_13) k) ?_
    show own_Fin _ _ _ _ _ _ _ _ (mkF m 15 #[.val (.ref a1)] [(.int (31 : Int32)), (.int w2)])
    by_cases hc4 : (w2).toInt = 31
    · skip
      refine own_step (fun t k => XS.icmpNo X3.here hx rfl (hb hby d3_15) rfl (own_ce (x := w2) (y := (31 : Int32)) rfl rfl hc4).2 k) ?_
      show own_Fin _ _ _ _ _ _ _ _ (mkF m 18 #[.val (.ref a1)] [])
      refine own_step (fun t k => XS.iconst X3.here hx rfl (hb hby d3_18) k) ?_
      show own_Fin _ _ _ _ _ _ _ _ (mkF m 19 #[.val (.ref a1)] [(.int (1 : Int32))])
      refine own_step (fun t k => XS.goto X3.here hx rfl (pc0 := 19) (pc' := 23) rfl (hb hby d3_19) (by decide) (by decide) k) ?_
      show own_Fin _ _ _ _ _ _ _ _ (mkF m 23 #[.val (.ref a1)] [(.int (1 : Int32))])
      refine own_retZ X3 hx hlk Bd.returns (hb hby d3_23) (z' := (1 : Int32)) (by decide) (by decide) (by decide) e3 ?_
      exact ⟨_, rfl, own_B1 (by omega), Nf, rfl⟩
    · skip
      refine own_step (fun t k => XS.icmpYes X3.here hx rfl (pc0 := 15) (pc' := 22) rfl (hb hby d3_15) rfl (own_cu (x := w2) (y := (31 : Int32)) rfl rfl hc4).2 (by decide) (by decide) k) ?_
      show own_Fin _ _ _ _ _ _ _ _ (mkF m 22 #[.val (.ref a1)] [])
      refine own_step (fun t k => XS.iconst X3.here hx rfl (hb hby d3_22) k) ?_
      show own_Fin _ _ _ _ _ _ _ _ (mkF m 23 #[.val (.ref a1)] [(.int (0 : Int32))])
      refine own_retZ X3 hx hlk Bd.returns (hb hby d3_23) (z' := (0 : Int32)) (by decide) (by decide) (by decide) e3 ?_
      exact ⟨_, rfl, own_B0 (by omega), Nf, rfl⟩
  · skip
    refine own_step (fun t k => XS.icmpYes X1.here hx rfl (pc0 := 6) (pc' := 22) rfl (hb hby d3_6) rfl (own_cu (x := w1) (y := (7 : Int32)) rfl rfl hc2).2 (by decide) (by decide) k) ?_
    show own_Fin _ _ _ _ _ _ _ _ (mkF m 22 #[.val (.ref a1)] [])
    refine own_step (fun t k => XS.iconst X1.here hx rfl (hb hby d3_22) k) ?_
    show own_Fin _ _ _ _ _ _ _ _ (mkF m 23 #[.val (.ref a1)] [(.int (0 : Int32))])
    refine own_retZ X1 hx hlk Bd.returns (hb hby d3_23) (z' := (0 : Int32)) (by decide) (by decide) (by decide) e1 ?_
    exact ⟨_, rfl, own_B0 (by omega), Nf, rfl⟩
theorem d4_0 : decode prog_23_method_2_code 0 = .ok (.aload_n 0, 1) := by decide +kernel
theorem d4_1 : decode prog_23_method_2_code 1 = .ok (.getfield 16, 3) := by decide +kernel
theorem d4_4 : decode prog_23_method_2_code 4 = .ok (.bipush 31, 2) := by decide +kernel
theorem d4_6 : decode prog_23_method_2_code 6 = .ok (.if_icmp .ne 7, 3) := by decide +kernel
theorem d4_9 : decode prog_23_method_2_code 9 = .ok (.iconst 1, 1) := by decide +kernel
theorem d4_10 : decode prog_23_method_2_code 10 = .ok (.goto 4, 3) := by decide +kernel
theorem d4_13 : decode prog_23_method_2_code 13 = .ok (.iconst 0, 1) := by decide +kernel
theorem d4_14 : decode prog_23_method_2_code 14 = .ok (.ireturn, 1) := by decide +kernel
theorem own_pn_4 : plainName "com/example/triform/triform/CborReader$Head" = true := by first | (simp [plainName, overriddenIn]; done) | decide +kernel
theorem own_ef_4 (m : MethodId) (a1 : Addr) : entryFrame m #[(.ref a1)] 1 = mkF m 0 #[.val (.ref a1)] [] := by first | (simp [entryFrame, mkF, argsToLocals, Value.category]; done) | rfl
abbrev own_R4 : Room := { frames := 0, cells := 0, slots := 0, locals := 0 }
def own_Q4 (Z : State) (a1 : Addr) (w2 : Int32) (h0 : Heap) (n0 : Nat) (v : Option Value) (h : Heap) (L : List Loc) : Prop := ∃ r : Int32, v = some (.int r) ∧ own_B r (w2.toInt = 31) ∧ Fr n0 L ∧ h = h0
set_option maxRecDepth 65536 in
set_option maxHeartbeats 40000000 in
theorem rm4 (l : Launch) (Z : State) (a0 : Array Value) (hw : ∀ d ∈ tables_1, d.before a0 Z = true) (ws : List Jvm.Cond) (a1 : Addr) (w2 : Int32) (h0 : Heap) (n0 : Nat) (Z0 : n0 ≤ h0.size) (F_info_a1 : Fld Z h0 a1 "com/example/triform/triform/CborReader$Head" "info" "I" (.int w2)) :
    MetFree l (⟨"com/example/triform/triform/CborReader$Head", "indefinite", "()Z"⟩ : MethodName) (head1 (Jvm.Cond.code (⟨"com/example/triform/triform/CborReader$Head", "indefinite", "()Z"⟩ : MethodName) prog_23_method_2_code 1 (some .boolean) :: ws) own_R4) (fun a U => a = #[(.ref a1)] ∧ Z.Warmed39 U.vm ∧ U.heap = h0) (fun _ _ _ _ _ => True) (fun _ U o U' => ∃ v L, o = .returned v ∧ own_Q4 Z a1 w2 h0 n0 v U'.heap L ∧ FrameEnd U o U' L own_R4.cells own_R4.slots) := by
  refine MetFree.of_bodySF (plainFor_of_name own_pn_4) hisR ?_
  intro p e s m args below meth c s₁ Bd hml0 hP hK
  obtain ⟨rfl, hZ, hh⟩ := hP
  have hx := Bd.exec
  have hby := Bd.bytes
  have hlk := BodyLoose.notSynchronized Bd
  have hml : c.maxLocals = 1 := hml0
  have hown : s.vm.findClass "com/example/triform/triform/CborReader$Head" = some m.cls := (findClass_of_methodNamed Bd.named : s.vm.findClass (⟨"com/example/triform/triform/CborReader$Head", "indefinite", "()Z"⟩ : MethodName).cls = some m.cls)
  have hnm := (name_of_methodNamed Bd.named Bd.method).1
  have X0 : Stand p l e own_R4 s m #[(.ref a1)] below meth c s₁ [] 0 0 := Stand.of_body Bd
  have e0 : s₁.heap = h0 := by rw [← hh, Bd.state]; rfl
  have Nf := Fr.nil n0
  have Zs := Z0
  show own_Fin p e below s (own_Q4 Z a1 w2 h0 n0) 0 0 s₁ (entryFrame m #[(.ref a1)] 1)
  rw [own_ef_4 m a1]
  show own_Fin _ _ _ _ _ _ _ _ (mkF m 0 #[.val (.ref a1)] [])
  refine own_step (fun t k => XS.aloadN X0.here hx rfl (hb hby d4_0) rfl rfl k) ?_
  show own_Fin _ _ _ _ _ _ _ _ (mkF m 1 #[.val (.ref a1)] [(.ref a1)])
  obtain ⟨T1, X1, e1, st1⟩ := getF X0 hx hZ hown (host := "") (Or.inl (hw _ (List.mem_of_getElem? (i := 18) rfl))) Via.refl e0 F_info_a1 (g := (mkF m 1 #[.val (.ref a1)] [(.ref a1)])) rfl rfl (hb hby d4_1)
  refine own_step st1 ?_
  show own_Fin _ _ _ _ _ _ _ _ (mkF m 4 #[.val (.ref a1)] [(.int w2)])
  refine own_step (fun t k => XS.bipush X1.here hx rfl (hb hby d4_4) k) ?_
  show own_Fin _ _ _ _ _ _ _ _ (mkF m 6 #[.val (.ref a1)] [(.int (31 : Int32)), (.int w2)])
  by_cases hc2 : (w2).toInt = 31
  · skip
    refine own_step (fun t k => XS.icmpNo X1.here hx rfl (hb hby d4_6) rfl (own_ce (x := w2) (y := (31 : Int32)) rfl rfl hc2).2 k) ?_
    show own_Fin _ _ _ _ _ _ _ _ (mkF m 9 #[.val (.ref a1)] [])
    refine own_step (fun t k => XS.iconst X1.here hx rfl (hb hby d4_9) k) ?_
    show own_Fin _ _ _ _ _ _ _ _ (mkF m 10 #[.val (.ref a1)] [(.int (1 : Int32))])
    refine own_step (fun t k => XS.goto X1.here hx rfl (pc0 := 10) (pc' := 14) rfl (hb hby d4_10) (by decide) (by decide) k) ?_
    show own_Fin _ _ _ _ _ _ _ _ (mkF m 14 #[.val (.ref a1)] [(.int (1 : Int32))])
    refine own_retZ X1 hx hlk Bd.returns (hb hby d4_14) (z' := (1 : Int32)) (by decide) (by decide) (by decide) e1 ?_
    exact ⟨_, rfl, own_B1 (by omega), Nf, rfl⟩
  · skip
    refine own_step (fun t k => XS.icmpYes X1.here hx rfl (pc0 := 6) (pc' := 13) rfl (hb hby d4_6) rfl (own_cu (x := w2) (y := (31 : Int32)) rfl rfl hc2).2 (by decide) (by decide) k) ?_
    show own_Fin _ _ _ _ _ _ _ _ (mkF m 13 #[.val (.ref a1)] [])
    refine own_step (fun t k => XS.iconst X1.here hx rfl (hb hby d4_13) k) ?_
    show own_Fin _ _ _ _ _ _ _ _ (mkF m 14 #[.val (.ref a1)] [(.int (0 : Int32))])
    refine own_retZ X1 hx hlk Bd.returns (hb hby d4_14) (z' := (0 : Int32)) (by decide) (by decide) (by decide) e1 ?_
    exact ⟨_, rfl, own_B0 (by omega), Nf, rfl⟩
theorem own_pd_1 : parseMethodDescriptor "(IIIJ)V" = some ⟨[.int, .int, .int, .long], none⟩ := by decide +kernel
theorem own_pd_2 : parseMethodDescriptor "()Z" = some ⟨[], some .boolean⟩ := by decide +kernel
theorem own_pn_0 : plainName "com/example/triform/triform/HeadIsBreakPinLaw" = true := by first | (simp [plainName, overriddenIn]; done) | decide +kernel
theorem own_ef_0 (m : MethodId) (p1 : Int32) (p2 : Int32) (p3 : Int32) (q4 : Int64) : entryFrame m #[(.int p1), (.int p2), (.int p3), (.long q4)] maxLocals = mkF m 0 #[.val (.int p1), .val (.int p2), .val (.int p3), .val (.long q4), .second, .unset, .unset, .unset, .unset, .unset, .unset] [] := by first | (simp [entryFrame, mkF, argsToLocals, Value.category, maxLocals]; done) | rfl
def own_Q0 (Z : State) (p1 : Int32) (p2 : Int32) (p3 : Int32) (q4 : Int64) (h0 : Heap) (n0 : Nat) (v : Option Value) (h : Heap) (L : List Loc) : Prop := v = some (.int 1) ∧ Fr n0 L
set_option maxRecDepth 65536 in
set_option maxHeartbeats 40000000 in
theorem rm0 (l : Launch) (Z : State) (a0 : Array Value) (hw : ∀ d ∈ tables_1, d.before a0 Z = true) (ws : List Jvm.Cond) (p1 : Int32) (p2 : Int32) (p3 : Int32) (q4 : Int64) (h0 : Heap) (n0 : Nat) (Z0 : n0 ≤ h0.size) :
    MetFree l x (head1 (Jvm.Cond.code x code maxLocals ret :: ws) room_1) (fun a U => a = #[(.int p1), (.int p2), (.int p3), (.long q4)] ∧ Z.Warmed39 U.vm ∧ U.heap = h0) (fun _ _ _ _ _ => True) (fun _ U o U' => ∃ v L, o = .returned v ∧ own_Q0 Z p1 p2 p3 q4 h0 n0 v U'.heap L ∧ FrameEnd U o U' L 16 128) := by
  refine MetFree.of_bodySF (plainFor_of_name own_pn_0) hisR ?_
  intro p e s m args below meth c s₁ Bd hml0 hP hK
  obtain ⟨rfl, hZ, hh⟩ := hP
  have hx := Bd.exec
  have hby := Bd.bytes
  have hlk := BodyLoose.notSynchronized Bd
  have hml : c.maxLocals = 11 := hml0
  have hown : s.vm.findClass "com/example/triform/triform/HeadIsBreakPinLaw" = some m.cls := (findClass_of_methodNamed Bd.named : s.vm.findClass x.cls = some m.cls)
  have hnm := (name_of_methodNamed Bd.named Bd.method).1
  have X0 : Stand p l e room_1 s m #[(.int p1), (.int p2), (.int p3), (.long q4)] below meth c s₁ [] 0 0 := Stand.of_body Bd
  have e0 : s₁.heap = h0 := by rw [← hh, Bd.state]; rfl
  have Nf := Fr.nil n0
  have Zs := Z0
  show own_Fin p e below s (own_Q0 Z p1 p2 p3 q4 h0 n0) 16 128 s₁ (entryFrame m #[(.int p1), (.int p2), (.int p3), (.long q4)] maxLocals)
  rw [own_ef_0 m p1 p2 p3 q4]
  show own_Fin _ _ _ _ _ _ _ _ (mkF m 0 #[.val (.int p1), .val (.int p2), .val (.int p3), .val (.long q4), .second, .unset, .unset, .unset, .unset, .unset, .unset] [])
  have j17 : ∀ ini : Int32, (0 ≤ ini.toInt ∧ ini.toInt ≤ 255) → own_Fin p e below s (own_Q0 Z p1 p2 p3 q4 h0 n0) 16 128 s₁ (mkF m 17 #[.val (.int p1), .val (.int p2), .val (.int p3), .val (.long q4), .second, .unset, .unset, .unset, .unset, .unset, .unset] [(.int ini)]) := by
    intro ini hJ_ini
    refine own_step (fun t k => XS.istore X0.here hx rfl (hb hby at_17) rfl (l' := #[.val (.int p1), .val (.int p2), .val (.int p3), .val (.long q4), .second, .val (.int ini), .unset, .unset, .unset, .unset, .unset]) rfl k) ?_
    show own_Fin _ _ _ _ _ _ _ _ (mkF m 19 #[.val (.int p1), .val (.int p2), .val (.int p3), .val (.long q4), .second, .val (.int ini), .unset, .unset, .unset, .unset, .unset] [])
    refine own_step (fun t k => XS.iload X0.here hx rfl (hb hby at_19) rfl k) ?_
    show own_Fin _ _ _ _ _ _ _ _ (mkF m 21 #[.val (.int p1), .val (.int p2), .val (.int p3), .val (.long q4), .second, .val (.int ini), .unset, .unset, .unset, .unset, .unset] [(.int ini)])
    refine own_step (fun t k => XS.iconst X0.here hx rfl (hb hby at_21) k) ?_
    show own_Fin _ _ _ _ _ _ _ _ (mkF m 22 #[.val (.int p1), .val (.int p2), .val (.int p3), .val (.long q4), .second, .val (.int ini), .unset, .unset, .unset, .unset, .unset] [(.int (5 : Int32)), (.int ini)])
    refine own_step (fun t k => XS.iushr X0.here hx rfl (hb hby at_22) rfl k) ?_
    show own_Fin _ _ _ _ _ _ _ _ (mkF m 23 #[.val (.int p1), .val (.int p2), .val (.int p3), .val (.long q4), .second, .val (.int ini), .unset, .unset, .unset, .unset, .unset] [(.int ((ini.toUInt32 >>> ((5 : Int32) &&& 31).toUInt32).toInt32))])
    generalize hmt : ((ini.toUInt32 >>> ((5 : Int32) &&& 31).toUInt32).toInt32) = mt
    refine own_step (fun t k => XS.istore X0.here hx rfl (hb hby at_23) rfl (l' := #[.val (.int p1), .val (.int p2), .val (.int p3), .val (.long q4), .second, .val (.int ini), .val (.int mt), .unset, .unset, .unset, .unset]) rfl k) ?_
    show own_Fin _ _ _ _ _ _ _ _ (mkF m 25 #[.val (.int p1), .val (.int p2), .val (.int p3), .val (.long q4), .second, .val (.int ini), .val (.int mt), .unset, .unset, .unset, .unset] [])
    refine own_step (fun t k => XS.iload X0.here hx rfl (hb hby at_25) rfl k) ?_
    show own_Fin _ _ _ _ _ _ _ _ (mkF m 27 #[.val (.int p1), .val (.int p2), .val (.int p3), .val (.long q4), .second, .val (.int ini), .val (.int mt), .unset, .unset, .unset, .unset] [(.int ini)])
    refine own_step (fun t k => XS.bipush X0.here hx rfl (hb hby at_27) k) ?_
    show own_Fin _ _ _ _ _ _ _ _ (mkF m 29 #[.val (.int p1), .val (.int p2), .val (.int p3), .val (.long q4), .second, .val (.int ini), .val (.int mt), .unset, .unset, .unset, .unset] [(.int (31 : Int32)), (.int ini)])
    refine own_step (fun t k => XS.iand X0.here hx rfl (hb hby at_29) rfl k) ?_
    show own_Fin _ _ _ _ _ _ _ _ (mkF m 30 #[.val (.int p1), .val (.int p2), .val (.int p3), .val (.long q4), .second, .val (.int ini), .val (.int mt), .unset, .unset, .unset, .unset] [(.int (ini &&& (31 : Int32)))])
    generalize hnf : (ini &&& (31 : Int32)) = nf
    refine own_step (fun t k => XS.istore X0.here hx rfl (hb hby at_30) rfl (l' := #[.val (.int p1), .val (.int p2), .val (.int p3), .val (.long q4), .second, .val (.int ini), .val (.int mt), .val (.int nf), .unset, .unset, .unset]) rfl k) ?_
    show own_Fin _ _ _ _ _ _ _ _ (mkF m 32 #[.val (.int p1), .val (.int p2), .val (.int p3), .val (.long q4), .second, .val (.int ini), .val (.int mt), .val (.int nf), .unset, .unset, .unset] [])
    have h1 := c_iushr ini 5 5 (by decide) (by decide)
    have h2 := c_mask ini 31 5 (by decide) (by decide)
    rw [hmt] at h1
    rw [hnf] at h2
    obtain ⟨T1, h1, X1, e1, E1, A1, D1, -, st1⟩ := newO X0 hx hZ hown (hw _ (List.mem_of_getElem? (i := 0) rfl)) (hw _ (List.mem_of_getElem? (i := 1) rfl)) (hw _ (List.mem_of_getElem? (i := 2) rfl)) e0 (g := (mkF m 32 #[.val (.int p1), .val (.int p2), .val (.int p3), .val (.long q4), .second, .val (.int ini), .val (.int mt), .val (.int nf), .unset, .unset, .unset] [])) rfl (hb hby at_32) (by decide) (by decide)
    obtain ⟨b1, g1⟩ : ∃ z, z = h0.size := ⟨_, rfl⟩
    rw [← g1] at A1 D1 st1
    refine own_step st1 ?_
    have g_b1 : n0 ≤ b1 := Nat.le_trans Zs (Nat.le_of_eq g1.symm)
    replace Zs := Nat.le_trans Zs E1.1
    have E_b1 := A1
    have F_offset_b1 : Fld Z h1 b1 "com/example/triform/triform/CborReader$Head" "offset" "I" (.int (0 : Int32)) := D1 (Or.inr (hw _ (List.mem_of_getElem? (i := 15) rfl))) (ty := .int) (by decide)
    have F_majorType_b1 : Fld Z h1 b1 "com/example/triform/triform/CborReader$Head" "majorType" "I" (.int (0 : Int32)) := D1 (Or.inr (hw _ (List.mem_of_getElem? (i := 17) rfl))) (ty := .int) (by decide)
    have F_info_b1 : Fld Z h1 b1 "com/example/triform/triform/CborReader$Head" "info" "I" (.int (0 : Int32)) := D1 (Or.inr (hw _ (List.mem_of_getElem? (i := 19) rfl))) (ty := .int) (by decide)
    have F_argument_b1 : Fld Z h1 b1 "com/example/triform/triform/CborReader$Head" "argument" "J" (.long (0 : Int64)) := D1 (Or.inr (hw _ (List.mem_of_getElem? (i := 21) rfl))) (ty := .long) (by decide)
    show own_Fin _ _ _ _ _ _ _ _ (mkF m 35 #[.val (.int p1), .val (.int p2), .val (.int p3), .val (.long q4), .second, .val (.int ini), .val (.int mt), .val (.int nf), .unset, .unset, .unset] [(.ref b1)])
    refine own_step (fun t k => XS.dup X1.here hx rfl (hb hby at_35) rfl rfl k) ?_
    show own_Fin _ _ _ _ _ _ _ _ (mkF m 36 #[.val (.int p1), .val (.int p2), .val (.int p3), .val (.long q4), .second, .val (.int ini), .val (.int mt), .val (.int nf), .unset, .unset, .unset] [(.ref b1), (.ref b1)])
    refine own_step (fun t k => XS.iloadN X1.here hx rfl (hb hby at_36) rfl k) ?_
    show own_Fin _ _ _ _ _ _ _ _ (mkF m 37 #[.val (.int p1), .val (.int p2), .val (.int p3), .val (.long q4), .second, .val (.int ini), .val (.int mt), .val (.int nf), .unset, .unset, .unset] [(.int p1), (.ref b1), (.ref b1)])
    refine own_step (fun t k => XS.iload X1.here hx rfl (hb hby at_37) rfl k) ?_
    show own_Fin _ _ _ _ _ _ _ _ (mkF m 39 #[.val (.int p1), .val (.int p2), .val (.int p3), .val (.long q4), .second, .val (.int ini), .val (.int mt), .val (.int nf), .unset, .unset, .unset] [(.int mt), (.int p1), (.ref b1), (.ref b1)])
    refine own_step (fun t k => XS.iload X1.here hx rfl (hb hby at_39) rfl k) ?_
    show own_Fin _ _ _ _ _ _ _ _ (mkF m 41 #[.val (.int p1), .val (.int p2), .val (.int p3), .val (.long q4), .second, .val (.int ini), .val (.int mt), .val (.int nf), .unset, .unset, .unset] [(.int nf), (.int mt), (.int p1), (.ref b1), (.ref b1)])
    refine own_step (fun t k => XS.lloadN X1.here hx rfl (hb hby at_41) rfl k) ?_
    show own_Fin _ _ _ _ _ _ _ _ (mkF m 42 #[.val (.int p1), .val (.int p2), .val (.int p3), .val (.long q4), .second, .val (.int ini), .val (.int mt), .val (.int nf), .unset, .unset, .unset] [(.long q4), (.int nf), (.int mt), (.int p1), (.ref b1), (.ref b1)])
    obtain ⟨_, _, ⟨T2, L2, k2, n2⟩, -, X2, ⟨Lc2, hQ2, l2, y2, z2⟩, st2⟩ := X1.specialBack hx (y := (⟨"com/example/triform/triform/CborReader$Head", "<init>", "(IIIJ)V"⟩ : MethodName)) rfl hown (mvT hZ (hw _ (List.mem_of_getElem? (i := 3) rfl))) (mvT hZ (hw _ (List.mem_of_getElem? (i := 4) rfl))) (mvT hZ (hw _ (List.mem_of_getElem? (i := 5) rfl))) (by decide) (backOf (W := 1) (rm2 l Z a0 hw [] b1 p1 mt nf q4 h1 n0 Zs E_b1 F_offset_b1 F_majorType_b1 F_info_b1 F_argument_b1 g_b1) hZ (hw _ (List.mem_of_getElem? (i := 5) rfl)) (hw _ (List.mem_of_getElem? (i := 2) rfl)) (by decide) (by decide)) (g := (mkF m 42 #[.val (.int p1), .val (.int p2), .val (.int p3), .val (.long q4), .second, .val (.int ini), .val (.int mt), .val (.int nf), .unset, .unset, .unset] [(.long q4), (.int nf), (.int mt), (.int p1), (.ref b1), (.ref b1)])) rfl (by rw [hml]; rfl) (Steps.refl _) (a := b1) (argsL := [(.int p1), (.int mt), (.int nf), (.long q4)]) (rest := [(.ref b1)]) (lenOf own_pd_1 rfl) rfl (by show 2 * 0 + _ ≤ _; exact Nat.le_of_eq rfl) (hb hby at_42) (fun _ _ => ⟨rfl, e1, (by decide : 1 + 0 ≤ _), (by decide : 4 + 0 ≤ _)⟩)
    dsimp only [Pt.U, Pt.locs, Pt.cells, Pt.slots] at X2 l2 y2 z2 st2 hQ2
    subst l2 y2 z2
    obtain ⟨rfl, Nq2, Kq2, P2_0, P2_1, P2_2, P2_3, P2_4⟩ := hQ2
    replace Nf := Fr.app Nf Nq2
    replace E_b1 := P2_0
    replace F_offset_b1 := P2_1
    replace F_majorType_b1 := P2_2
    replace F_info_b1 := P2_3
    replace F_argument_b1 := P2_4
    replace Zs := Nat.le_trans Zs Kq2.1
    refine own_stepT st2 ?_
    show own_Fin _ _ _ _ _ _ _ _ (mkF m 45 #[.val (.int p1), .val (.int p2), .val (.int p3), .val (.long q4), .second, .val (.int ini), .val (.int mt), .val (.int nf), .unset, .unset, .unset] [(.ref b1)])
    refine own_step (fun t k => XS.astore X2.here hx rfl (hb hby at_45) rfl rfl (l' := #[.val (.int p1), .val (.int p2), .val (.int p3), .val (.long q4), .second, .val (.int ini), .val (.int mt), .val (.int nf), .val (.ref b1), .unset, .unset]) rfl k) ?_
    show own_Fin _ _ _ _ _ _ _ _ (mkF m 47 #[.val (.int p1), .val (.int p2), .val (.int p3), .val (.long q4), .second, .val (.int ini), .val (.int mt), .val (.int nf), .val (.ref b1), .unset, .unset] [])
    refine own_step (fun t k => XS.aload X2.here hx rfl (hb hby at_47) rfl rfl k) ?_
    show own_Fin _ _ _ _ _ _ _ _ (mkF m 49 #[.val (.int p1), .val (.int p2), .val (.int p3), .val (.long q4), .second, .val (.int ini), .val (.int mt), .val (.int nf), .val (.ref b1), .unset, .unset] [(.ref b1)])
    obtain ⟨cq3, kq3, q3a, q3b, q3c⟩ := isOf hZ rfl E_b1
    obtain ⟨_, _, ⟨T3, L3, k3, n3⟩, -, X3, ⟨Lc3, hQ3, l3, y3, z3⟩, st3⟩ := X2.virtualBack hx (y := (⟨"com/example/triform/triform/CborReader$Head", "isBreak", "()Z"⟩ : MethodName)) (z := (⟨"com/example/triform/triform/CborReader$Head", "isBreak", "()Z"⟩ : MethodName)) hown (mvT hZ (hw _ (List.mem_of_getElem? (i := 22) rfl))) (mvT hZ (hw _ (List.mem_of_getElem? (i := 23) rfl))) (notFace_of_selects (args := #[]) (mvT hZ (hw _ (List.mem_of_getElem? (i := 25) rfl)))) (mvT hZ (hw _ (List.mem_of_getElem? (i := 25) rfl))) (mvT hZ (hw _ (List.mem_of_getElem? (i := 24) rfl))) (by decide) (backOf (W := 0) (rm3 l Z a0 hw [] b1 _ _ T2.heap n0 Zs F_majorType_b1 F_info_b1) hZ (hw _ (List.mem_of_getElem? (i := 26) rfl)) (hw _ (List.mem_of_getElem? (i := 2) rfl)) (by decide) (by decide)) q3a q3c (g := (mkF m 49 #[.val (.int p1), .val (.int p2), .val (.int p3), .val (.long q4), .second, .val (.int ini), .val (.int mt), .val (.int nf), .val (.ref b1), .unset, .unset] [(.ref b1)])) rfl (by rw [hml]; rfl) (Steps.refl _) (argsL := []) (rest := []) (lenOf own_pd_2 rfl) rfl (by show 2 * 0 + _ ≤ _; exact Nat.le_of_eq rfl) (hb hby at_49) (fun _ _ => ⟨rfl, rfl, (by decide : 1 + 0 ≤ _), (by decide : 4 + 0 ≤ _)⟩)
    dsimp only [Pt.U, Pt.locs, Pt.cells, Pt.slots] at X3 l3 y3 z3 st3 hQ3
    subst l3 y3 z3
    obtain ⟨r3, rfl, hB3, Nq3, hh3⟩ := hQ3
    replace Nf := Fr.app Nf Nq3
    refine own_stepT st3 ?_
    show own_Fin _ _ _ _ _ _ _ _ (mkF m 52 #[.val (.int p1), .val (.int p2), .val (.int p3), .val (.long q4), .second, .val (.int ini), .val (.int mt), .val (.int nf), .val (.ref b1), .unset, .unset] [(.int r3)])
    refine own_step (fun t k => XS.istore X3.here hx rfl (hb hby at_52) rfl (l' := #[.val (.int p1), .val (.int p2), .val (.int p3), .val (.long q4), .second, .val (.int ini), .val (.int mt), .val (.int nf), .val (.ref b1), .val (.int r3), .unset]) rfl k) ?_
    show own_Fin _ _ _ _ _ _ _ _ (mkF m 54 #[.val (.int p1), .val (.int p2), .val (.int p3), .val (.long q4), .second, .val (.int ini), .val (.int mt), .val (.int nf), .val (.ref b1), .val (.int r3), .unset] [])
    have j67 : ∀ bb4 : Int32, own_B bb4 (ini.toInt = 255) → own_Fin p e below s (own_Q0 Z p1 p2 p3 q4 h0 n0) 16 128 T3 (mkF m 67 #[.val (.int p1), .val (.int p2), .val (.int p3), .val (.long q4), .second, .val (.int ini), .val (.int mt), .val (.int nf), .val (.ref b1), .val (.int r3), .unset] [(.int bb4)]) := by
      intro bb4 hbb4
      refine own_step (fun t k => XS.istore X3.here hx rfl (hb hby at_67) rfl (l' := #[.val (.int p1), .val (.int p2), .val (.int p3), .val (.long q4), .second, .val (.int ini), .val (.int mt), .val (.int nf), .val (.ref b1), .val (.int r3), .val (.int bb4)]) rfl k) ?_
      show own_Fin _ _ _ _ _ _ _ _ (mkF m 69 #[.val (.int p1), .val (.int p2), .val (.int p3), .val (.long q4), .second, .val (.int ini), .val (.int mt), .val (.int nf), .val (.ref b1), .val (.int r3), .val (.int bb4)] [])
      refine own_step (fun t k => XS.iload X3.here hx rfl (hb hby at_69) rfl k) ?_
      show own_Fin _ _ _ _ _ _ _ _ (mkF m 71 #[.val (.int p1), .val (.int p2), .val (.int p3), .val (.long q4), .second, .val (.int ini), .val (.int mt), .val (.int nf), .val (.ref b1), .val (.int r3), .val (.int bb4)] [(.int r3)])
      refine own_step (fun t k => XS.iload X3.here hx rfl (hb hby at_71) rfl k) ?_
      show own_Fin _ _ _ _ _ _ _ _ (mkF m 73 #[.val (.int p1), .val (.int p2), .val (.int p3), .val (.long q4), .second, .val (.int ini), .val (.int mt), .val (.int nf), .val (.ref b1), .val (.int r3), .val (.int bb4)] [(.int bb4), (.int r3)])
      have hc5 : (r3).toInt = (bb4).toInt := by omega
      refine own_step (fun t k => XS.icmpYes X3.here hx rfl (pc0 := 73) (pc' := 78) rfl (hb hby at_73) rfl (own_ce (x := r3) (y := bb4) rfl rfl hc5).1 (by decide) (by decide) k) ?_
      show own_Fin _ _ _ _ _ _ _ _ (mkF m 78 #[.val (.int p1), .val (.int p2), .val (.int p3), .val (.long q4), .second, .val (.int ini), .val (.int mt), .val (.int nf), .val (.ref b1), .val (.int r3), .val (.int bb4)] [])
      refine own_step (fun t k => XS.iload X3.here hx rfl (hb hby at_78) rfl k) ?_
      show own_Fin _ _ _ _ _ _ _ _ (mkF m 80 #[.val (.int p1), .val (.int p2), .val (.int p3), .val (.long q4), .second, .val (.int ini), .val (.int mt), .val (.int nf), .val (.ref b1), .val (.int r3), .val (.int bb4)] [(.int r3)])
      by_cases hc6 : (r3).toInt = 0
      · skip
        refine own_step (fun t k => XS.ifYes X3.here hx rfl (pc0 := 80) (pc' := 93) rfl (hb hby at_80) rfl ((if0 _ _).trans (own_ce (x := r3) (y := (0 : Int32)) rfl rfl hc6).1) (by decide) (by decide) k) ?_
        show own_Fin _ _ _ _ _ _ _ _ (mkF m 93 #[.val (.int p1), .val (.int p2), .val (.int p3), .val (.long q4), .second, .val (.int ini), .val (.int mt), .val (.int nf), .val (.ref b1), .val (.int r3), .val (.int bb4)] [])
        refine own_step (fun t k => XS.iconst X3.here hx rfl (hb hby at_93) k) ?_
        show own_Fin _ _ _ _ _ _ _ _ (mkF m 94 #[.val (.int p1), .val (.int p2), .val (.int p3), .val (.long q4), .second, .val (.int ini), .val (.int mt), .val (.int nf), .val (.ref b1), .val (.int r3), .val (.int bb4)] [(.int (1 : Int32))])
        refine own_retZ X3 hx hlk Bd.returns (hb hby at_94) (z' := (1 : Int32)) (by decide) (by decide) (by decide) hh3 ?_
        exact ⟨rfl, Nf⟩
      · skip
        refine own_step (fun t k => XS.ifNo X3.here hx rfl (hb hby at_80) rfl ((if0 _ _).trans (own_cu (x := r3) (y := (0 : Int32)) rfl rfl hc6).1) k) ?_
        show own_Fin _ _ _ _ _ _ _ _ (mkF m 83 #[.val (.int p1), .val (.int p2), .val (.int p3), .val (.long q4), .second, .val (.int ini), .val (.int mt), .val (.int nf), .val (.ref b1), .val (.int r3), .val (.int bb4)] [])
        refine own_step (fun t k => XS.aload X3.here hx rfl (hb hby at_83) rfl rfl k) ?_
        show own_Fin _ _ _ _ _ _ _ _ (mkF m 85 #[.val (.int p1), .val (.int p2), .val (.int p3), .val (.long q4), .second, .val (.int ini), .val (.int mt), .val (.int nf), .val (.ref b1), .val (.int r3), .val (.int bb4)] [(.ref b1)])
        obtain ⟨cq7, kq7, q7a, q7b, q7c⟩ := isOf hZ hh3 E_b1
        obtain ⟨_, _, ⟨T7, L7, k7, n7⟩, -, X7, ⟨Lc7, hQ7, l7, y7, z7⟩, st7⟩ := X3.virtualBack hx (y := (⟨"com/example/triform/triform/CborReader$Head", "indefinite", "()Z"⟩ : MethodName)) (z := (⟨"com/example/triform/triform/CborReader$Head", "indefinite", "()Z"⟩ : MethodName)) hown (mvT hZ (hw _ (List.mem_of_getElem? (i := 27) rfl))) (mvT hZ (hw _ (List.mem_of_getElem? (i := 28) rfl))) (notFace_of_selects (args := #[]) (mvT hZ (hw _ (List.mem_of_getElem? (i := 30) rfl)))) (mvT hZ (hw _ (List.mem_of_getElem? (i := 30) rfl))) (mvT hZ (hw _ (List.mem_of_getElem? (i := 29) rfl))) (by decide) (backOf (W := 0) (rm4 l Z a0 hw [] b1 _ T2.heap n0 Zs F_info_b1) hZ (hw _ (List.mem_of_getElem? (i := 31) rfl)) (hw _ (List.mem_of_getElem? (i := 2) rfl)) (by decide) (by decide)) q7a q7c (g := (mkF m 85 #[.val (.int p1), .val (.int p2), .val (.int p3), .val (.long q4), .second, .val (.int ini), .val (.int mt), .val (.int nf), .val (.ref b1), .val (.int r3), .val (.int bb4)] [(.ref b1)])) rfl (by rw [hml]; rfl) (Steps.refl _) (argsL := []) (rest := []) (lenOf own_pd_2 rfl) rfl (by show 2 * 0 + _ ≤ _; exact Nat.le_of_eq rfl) (hb hby at_85) (fun _ _ => ⟨rfl, hh3, (by decide : 1 + 0 ≤ _), (by decide : 4 + 0 ≤ _)⟩)
        dsimp only [Pt.U, Pt.locs, Pt.cells, Pt.slots] at X7 l7 y7 z7 st7 hQ7
        subst l7 y7 z7
        obtain ⟨r7, rfl, hB7, Nq7, hh7⟩ := hQ7
        replace Nf := Fr.app Nf Nq7
        refine own_stepT st7 ?_
        show own_Fin _ _ _ _ _ _ _ _ (mkF m 88 #[.val (.int p1), .val (.int p2), .val (.int p3), .val (.long q4), .second, .val (.int ini), .val (.int mt), .val (.int nf), .val (.ref b1), .val (.int r3), .val (.int bb4)] [(.int r7)])
        have hc8 : ¬ ((r7).toInt = 0) := by omega
        refine own_step (fun t k => XS.ifYes X7.here hx rfl (pc0 := 88) (pc' := 93) rfl (hb hby at_88) rfl ((if0 _ _).trans (own_cu (x := r7) (y := (0 : Int32)) rfl rfl hc8).2) (by decide) (by decide) k) ?_
        show own_Fin _ _ _ _ _ _ _ _ (mkF m 93 #[.val (.int p1), .val (.int p2), .val (.int p3), .val (.long q4), .second, .val (.int ini), .val (.int mt), .val (.int nf), .val (.ref b1), .val (.int r3), .val (.int bb4)] [])
        refine own_step (fun t k => XS.iconst X7.here hx rfl (hb hby at_93) k) ?_
        show own_Fin _ _ _ _ _ _ _ _ (mkF m 94 #[.val (.int p1), .val (.int p2), .val (.int p3), .val (.long q4), .second, .val (.int ini), .val (.int mt), .val (.int nf), .val (.ref b1), .val (.int r3), .val (.int bb4)] [(.int (1 : Int32))])
        refine own_retZ X7 hx hlk Bd.returns (hb hby at_94) (z' := (1 : Int32)) (by decide) (by decide) (by decide) hh7 ?_
        exact ⟨rfl, Nf⟩
    refine own_step (fun t k => XS.iload X3.here hx rfl (hb hby at_54) rfl k) ?_
    show own_Fin _ _ _ _ _ _ _ _ (mkF m 56 #[.val (.int p1), .val (.int p2), .val (.int p3), .val (.long q4), .second, .val (.int ini), .val (.int mt), .val (.int nf), .val (.ref b1), .val (.int r3), .unset] [(.int ini)])
    refine own_step (fun t k => XS.sipush X3.here hx rfl (hb hby at_56) k) ?_
    show own_Fin _ _ _ _ _ _ _ _ (mkF m 59 #[.val (.int p1), .val (.int p2), .val (.int p3), .val (.long q4), .second, .val (.int ini), .val (.int mt), .val (.int nf), .val (.ref b1), .val (.int r3), .unset] [(.int (255 : Int32)), (.int ini)])
    by_cases hc9 : (ini).toInt = 255
    · skip
      refine own_step (fun t k => XS.icmpNo X3.here hx rfl (hb hby at_59) rfl (own_ce (x := ini) (y := (255 : Int32)) rfl rfl hc9).2 k) ?_
      show own_Fin _ _ _ _ _ _ _ _ (mkF m 62 #[.val (.int p1), .val (.int p2), .val (.int p3), .val (.long q4), .second, .val (.int ini), .val (.int mt), .val (.int nf), .val (.ref b1), .val (.int r3), .unset] [])
      refine own_step (fun t k => XS.iconst X3.here hx rfl (hb hby at_62) k) ?_
      show own_Fin _ _ _ _ _ _ _ _ (mkF m 63 #[.val (.int p1), .val (.int p2), .val (.int p3), .val (.long q4), .second, .val (.int ini), .val (.int mt), .val (.int nf), .val (.ref b1), .val (.int r3), .unset] [(.int (1 : Int32))])
      refine own_step (fun t k => XS.goto X3.here hx rfl (pc0 := 63) (pc' := 67) rfl (hb hby at_63) (by decide) (by decide) k) ?_
      show own_Fin _ _ _ _ _ _ _ _ (mkF m 67 #[.val (.int p1), .val (.int p2), .val (.int p3), .val (.long q4), .second, .val (.int ini), .val (.int mt), .val (.int nf), .val (.ref b1), .val (.int r3), .unset] [(.int (1 : Int32))])
      exact j67 _ (own_B1 (by omega))
    · skip
      refine own_step (fun t k => XS.icmpYes X3.here hx rfl (pc0 := 59) (pc' := 66) rfl (hb hby at_59) rfl (own_cu (x := ini) (y := (255 : Int32)) rfl rfl hc9).2 (by decide) (by decide) k) ?_
      show own_Fin _ _ _ _ _ _ _ _ (mkF m 66 #[.val (.int p1), .val (.int p2), .val (.int p3), .val (.long q4), .second, .val (.int ini), .val (.int mt), .val (.int nf), .val (.ref b1), .val (.int r3), .unset] [])
      refine own_step (fun t k => XS.iconst X3.here hx rfl (hb hby at_66) k) ?_
      show own_Fin _ _ _ _ _ _ _ _ (mkF m 67 #[.val (.int p1), .val (.int p2), .val (.int p3), .val (.long q4), .second, .val (.int ini), .val (.int mt), .val (.int nf), .val (.ref b1), .val (.int r3), .unset] [(.int (0 : Int32))])
      exact j67 _ (own_B0 (by omega))
  refine own_step (fun t k => XS.iloadN X0.here hx rfl (hb hby at_0) rfl k) ?_
  show own_Fin _ _ _ _ _ _ _ _ (mkF m 1 #[.val (.int p1), .val (.int p2), .val (.int p3), .val (.long q4), .second, .unset, .unset, .unset, .unset, .unset, .unset] [(.int p3)])
  refine own_step (fun t k => XS.iconst X0.here hx rfl (hb hby at_1) k) ?_
  show own_Fin _ _ _ _ _ _ _ _ (mkF m 2 #[.val (.int p1), .val (.int p2), .val (.int p3), .val (.long q4), .second, .unset, .unset, .unset, .unset, .unset, .unset] [(.int (3 : Int32)), (.int p3)])
  refine own_step (fun t k => XS.iand X0.here hx rfl (hb hby at_2) rfl k) ?_
  show own_Fin _ _ _ _ _ _ _ _ (mkF m 3 #[.val (.int p1), .val (.int p2), .val (.int p3), .val (.long q4), .second, .unset, .unset, .unset, .unset, .unset, .unset] [(.int (p3 &&& (3 : Int32)))])
  by_cases hc10 : ((p3 &&& (3 : Int32))).toInt = 0
  · skip
    refine own_step (fun t k => XS.ifNo X0.here hx rfl (hb hby at_3) rfl ((if0 _ _).trans (own_ce (x := (p3 &&& (3 : Int32))) (y := (0 : Int32)) rfl rfl hc10).2) k) ?_
    show own_Fin _ _ _ _ _ _ _ _ (mkF m 6 #[.val (.int p1), .val (.int p2), .val (.int p3), .val (.long q4), .second, .unset, .unset, .unset, .unset, .unset, .unset] [])
    refine own_step (fun t k => XS.sipush X0.here hx rfl (hb hby at_6) k) ?_
    show own_Fin _ _ _ _ _ _ _ _ (mkF m 9 #[.val (.int p1), .val (.int p2), .val (.int p3), .val (.long q4), .second, .unset, .unset, .unset, .unset, .unset, .unset] [(.int (255 : Int32))])
    refine own_step (fun t k => XS.goto X0.here hx rfl (pc0 := 9) (pc' := 17) rfl (hb hby at_9) (by decide) (by decide) k) ?_
    show own_Fin _ _ _ _ _ _ _ _ (mkF m 17 #[.val (.int p1), .val (.int p2), .val (.int p3), .val (.long q4), .second, .unset, .unset, .unset, .unset, .unset, .unset] [(.int (255 : Int32))])
    exact j17 _ (by decide)
  · skip
    refine own_step (fun t k => XS.ifYes X0.here hx rfl (pc0 := 3) (pc' := 12) rfl (hb hby at_3) rfl ((if0 _ _).trans (own_cu (x := (p3 &&& (3 : Int32))) (y := (0 : Int32)) rfl rfl hc10).2) (by decide) (by decide) k) ?_
    show own_Fin _ _ _ _ _ _ _ _ (mkF m 12 #[.val (.int p1), .val (.int p2), .val (.int p3), .val (.long q4), .second, .unset, .unset, .unset, .unset, .unset, .unset] [])
    refine own_step (fun t k => XS.iloadN X0.here hx rfl (hb hby at_12) rfl k) ?_
    show own_Fin _ _ _ _ _ _ _ _ (mkF m 13 #[.val (.int p1), .val (.int p2), .val (.int p3), .val (.long q4), .second, .unset, .unset, .unset, .unset, .unset, .unset] [(.int p2)])
    refine own_step (fun t k => XS.sipush X0.here hx rfl (hb hby at_13) k) ?_
    show own_Fin _ _ _ _ _ _ _ _ (mkF m 16 #[.val (.int p1), .val (.int p2), .val (.int p3), .val (.long q4), .second, .unset, .unset, .unset, .unset, .unset, .unset] [(.int (255 : Int32)), (.int p2)])
    refine own_step (fun t k => XS.iand X0.here hx rfl (hb hby at_16) rfl k) ?_
    show own_Fin _ _ _ _ _ _ _ _ (mkF m 17 #[.val (.int p1), .val (.int p2), .val (.int p3), .val (.long q4), .second, .unset, .unset, .unset, .unset, .unset, .unset] [(.int (p2 &&& (255 : Int32)))])
    exact j17 _ (by have q := c_mask p2 255 8 (by decide) (by decide); omega)
set_option maxRecDepth 65536 in
set_option maxHeartbeats 40000000 in
theorem comes_1 {Post : Tables → Env → Array Value → State → Outcome → State → Prop} (hpost : ∀ tb e args s v u, (limb_1_1.after args s (.returned v) u = true ∧ limb_1_2.after args s (.returned v) u = true ∧ True) → FrameEnd s (.returned v) u (Jvm.fieldLocs frame_1_writes args s ++ Jvm.arrayLocs frame_1_arrays args s ++ Jvm.staticLocs frame_1_statics s) 16 128 → Post tb e args s (.returned v) u) :
    ArmFor flags0 classFile x code maxLocals ret World_1 tables_1 room_1 Calls_1 rest_1 Pre_1 Post := by
  intro l hfl _ _ p e ha hc hk s m args below hf hA hF happ hP
  obtain ⟨hcalls, hrest, hpre⟩ := hP
  obtain ⟨-, -, -, hnamed, -, -, -, hat⟩ := (Spec.applies_iff hf).mp happ
  obtain ⟨hg, hn⟩ := and_e (Cond.before_iff.mp (show (Jvm.Cond.and given_1 narrow_1).before args s = true from hpre))
  obtain ⟨g1, g2⟩ := and_e hg
  obtain ⟨g3, g4⟩ := and_e g2
  obtain ⟨g5, g6⟩ := and_e g4
  obtain ⟨g7, g8⟩ := and_e g6
  obtain ⟨w0, w1, w2, w3, rfl⟩ : ∃ w0 w1 w2 w3 : Value, args = #[w0, w1, w2, w3] := by
    have hs : args.size = 4 := by simpa [Cond.value, given_1] using g1
    obtain ⟨L⟩ := args
    match L, hs with
    | [w0, w1, w2, w3], _ => exact ⟨w0, w1, w2, w3, rfl⟩
  have hw := fun d (hd : d ∈ tables_1) => atoms_spec (ws := Jvm.Cond.code x code maxLocals ret :: tables_1) hat d (List.mem_cons_of_mem _ hd)
  obtain ⟨i0, ei0⟩ := is_v g3
  obtain rfl : w0 = (.int i0) := Option.some.inj ei0
  obtain ⟨i1, ei1⟩ := is_v g5
  obtain rfl : w1 = (.int i1) := Option.some.inj ei1
  obtain ⟨i2, ei2⟩ := is_v g7
  obtain rfl : w2 = (.int i2) := Option.some.inj ei2
  obtain ⟨i3, ei3⟩ := isL_v g8
  obtain rfl : w3 = (.long i3) := Option.some.inj ei3
  obtain ⟨n, o, h1, h2, h3, _, L, rfl, ⟨rfl, N⟩, hq⟩ := rm0 l s _ hw tables_1 i0 i1 i2 i3 s.heap s.heap.size (Nat.le_refl _) p e ha hc hk s m _ below hf ((Spec.applies_iff_loose hf).mp happ).1 ⟨rfl, State.Warmed39.refl s, rfl⟩ trivial
  refine ⟨n, _, h1, h2, h3, hpost _ _ _ _ _ _ ⟨Cond.after_iff.mpr rfl, Cond.after_iff.mpr (eq_i res_at (Term.int_eval (1)) rfl), trivial⟩ ⟨hq.1, hq.2.1, (hq.2.2.sift fun y hy => Or.inr (N y hy)).mono (by decide) (by decide)⟩⟩
theorem main_1_1 : Claimed_1_1 := comes_1 fun _ _ _ _ _ _ h hF => ⟨h.1, hF⟩
theorem main_1_2 : Claimed_1_2 := comes_1 fun _ _ _ _ _ _ h hF => ⟨h.2.1, hF⟩
end Jvm.Pilot.@@N@@
namespace Jvm.Pilot.@@N@@
open Jvm Jvm.ClassFile Sem Op Lib Jvm.Free Jvm.Stand Jvm.Pilot.@@N@@.Jvm.D
/-! MADE BY PROGRAM (witnessworld.py) out of the Statement's table words and the real class files: 10 classes; the members and pool entries that the words name. The judged class is class 1, her method 1. -/
namespace start1
open Jvm.ClassFile
def u (s : String) : CpInfo := .utf8 (stringToUtf16 s)
/-- a pool by its gaps: so many unusable entries, then the entry; so many at the end -/
def gap : Nat → List CpInfo → List CpInfo
  | 0, r => r
  | n + 1, r => .unusable :: gap n r
def poolList (es : List (Nat × CpInfo)) (last : Nat) : List CpInfo := es.foldr (fun e r => gap e.1 (e.2 :: r)) (gap last [])
def pool (es : List (Nat × CpInfo)) (last : Nat) : Array CpInfo := ⟨poolList es last⟩
def fileOf (pool : Array CpInfo) (this : Nat) (attrs : Array Attribute := #[]) (ms : Array MethodInfo := #[]) (fl : Nat := 33) (sup : Nat := 0) (ifs : Array Nat := #[]) (fds : Array FieldInfo := #[]) : ClassFile where
  minorVersion := 0
  majorVersion := 65
  constantPool := pool
  accessFlags := fl
  thisClass := this
  superClass := sup
  interfaces := ifs
  fields := fds
  methods := ms
  attributes := attrs
def plain (name : String) (sup : Option ClassId) : Class where
  name := name
  kind := .ordinary
  loader := none
  accessFlags := 33
  super := sup
  interfaces := #[]
  cf := none
  fields := #[]
  methods := #[]
  instanceTypes := #[]
  staticTypes := #[]
  resolved := #[]
  callSites := []
  init := .initialized
  statics := none
  mirror := none

def pool0 : Array CpInfo := pool [(5, u "<init>"), (0, u "()V"), (1, .class_ 10), (1, u "java/lang/Object")] 113

def k0c0 : Code := { maxStack := 0, maxLocals := 1, code := object_method_1_code, exceptionTable := #[], attributes := #[] }
def k0m0 : Method := { name := "<init>", desc := "()V", sig := { parameters := [], returnType := none }, accessFlags := 1, code := some k0c0 }
/-- java/lang/Object -/
def k0 : Class := { plain "java/lang/Object" none with
  accessFlags := 33
  interfaces := #[]
  cf := some (fileOf pool0 8 #[] #[{ accessFlags := 1, nameIndex := 5, descriptorIndex := 6, attributes := #[] }] 33 0 #[] #[])
  fields := #[]
  methods := #[k0m0]
  instanceTypes := #[]
  staticTypes := #[]
  resolved := Array.replicate 124 none
  statics := none }

def pool1 : Array CpInfo := pool [(2, .class_ 4), (1, u "java/lang/Object"), (0, u "<init>"), (0, u "()V"), (0, .class_ 8), (0, u "com/example/triform/triform/CborReader$Head"), (0, .methodref 7 10), (0, .nameAndType 5 11), (0, u "(IIIJ)V"), (0, .methodref 7 13), (0, .nameAndType 14 15), (0, u "isBreak"), (0, u "()Z"), (0, .methodref 7 17), (0, .nameAndType 18 15), (0, u "indefinite"), (0, .class_ 20), (0, u "com/example/triform/triform/HeadIsBreakPinLaw"), (2, u "law"), (0, u "(IIIJ)Z")] 7

def k1m0 : Method := { name := "<init>", desc := "()V", sig := { parameters := [], returnType := none }, accessFlags := 1, code := none }
def k1c1 : Code := { maxStack := 7, maxLocals := 11, code := code, exceptionTable := #[], attributes := #[] }
def k1m1 : Method := { name := "law", desc := "(IIIJ)Z", sig := { parameters := [.int, .int, .int, .long], returnType := some .boolean }, accessFlags := 9, code := some k1c1 }
/-- com/example/triform/triform/HeadIsBreakPinLaw -/
def k1 : Class := { plain "com/example/triform/triform/HeadIsBreakPinLaw" (some 0) with
  accessFlags := 49
  interfaces := #[]
  cf := some (fileOf pool1 19 #[] #[{ accessFlags := 1, nameIndex := 5, descriptorIndex := 6, attributes := #[] }, { accessFlags := 9, nameIndex := 23, descriptorIndex := 24, attributes := #[] }] 49 2 #[] #[])
  fields := #[]
  methods := #[k1m0, k1m1]
  instanceTypes := #[]
  staticTypes := #[]
  resolved := Array.replicate 32 none
  statics := none }

def pool2 : Array CpInfo := pool [(1, .methodref 2 3), (0, .class_ 4), (0, .nameAndType 5 6), (0, u "java/lang/Object"), (0, u "<init>"), (0, u "()V"), (0, .class_ 8), (0, u "java/lang/Record")] 13

def k2c0 : Code := { maxStack := 1, maxLocals := 1, code := jdk_30_method_1_code, exceptionTable := #[], attributes := #[] }
def k2m0 : Method := { name := "<init>", desc := "()V", sig := { parameters := [], returnType := none }, accessFlags := 4, code := some k2c0 }
/-- java/lang/Record -/
def k2 : Class := { plain "java/lang/Record" (some 0) with
  accessFlags := 1057
  interfaces := #[]
  cf := some (fileOf pool2 7 #[] #[{ accessFlags := 4, nameIndex := 5, descriptorIndex := 6, attributes := #[] }] 1057 2 #[] #[])
  fields := #[]
  methods := #[k2m0]
  instanceTypes := #[]
  staticTypes := #[]
  resolved := Array.replicate 22 none
  statics := none }

def pool3 : Array CpInfo := pool [(1, .methodref 2 3), (0, .class_ 4), (0, .nameAndType 5 6), (0, u "java/lang/Record"), (0, u "<init>"), (0, u "()V"), (0, .fieldref 8 9), (0, .class_ 10), (0, .nameAndType 11 12), (0, u "com/example/triform/triform/CborReader$Head"), (0, u "offset"), (0, u "I"), (0, .fieldref 8 14), (0, .nameAndType 15 12), (0, u "majorType"), (0, .fieldref 8 17), (0, .nameAndType 18 12), (0, u "info"), (0, .fieldref 8 20), (0, .nameAndType 21 22), (0, u "argument"), (0, u "J"), (50, u "(IIIJ)V"), (3, u "indefinite"), (0, u "()Z"), (1, u "isBreak"), (10, .class_ 92), (0, u "com/example/triform/triform/CborReader")] 30

def k3c0 : Code := { maxStack := 3, maxLocals := 6, code := prog_23_method_1_code, exceptionTable := #[], attributes := #[] }
def k3m0 : Method := { name := "<init>", desc := "(IIIJ)V", sig := { parameters := [.int, .int, .int, .long], returnType := none }, accessFlags := 0, code := some k3c0 }
def k3c1 : Code := { maxStack := 2, maxLocals := 1, code := prog_23_method_2_code, exceptionTable := #[], attributes := #[] }
def k3m1 : Method := { name := "indefinite", desc := "()Z", sig := { parameters := [], returnType := some .boolean }, accessFlags := 0, code := some k3c1 }
def k3c2 : Code := { maxStack := 2, maxLocals := 1, code := prog_23_method_3_code, exceptionTable := #[], attributes := #[] }
def k3m2 : Method := { name := "isBreak", desc := "()Z", sig := { parameters := [], returnType := some .boolean }, accessFlags := 0, code := some k3c2 }
/-- com/example/triform/triform/CborReader$Head -/
def k3 : Class := { plain "com/example/triform/triform/CborReader$Head" (some 2) with
  accessFlags := 48
  interfaces := #[]
  cf := some (fileOf pool3 8 #[.nestHost 91] #[{ accessFlags := 0, nameIndex := 5, descriptorIndex := 73, attributes := #[] }, { accessFlags := 0, nameIndex := 77, descriptorIndex := 78, attributes := #[] }, { accessFlags := 0, nameIndex := 80, descriptorIndex := 78, attributes := #[] }] 48 2 #[] #[{ accessFlags := 18, nameIndex := 11, descriptorIndex := 12, attributes := #[] }, { accessFlags := 18, nameIndex := 15, descriptorIndex := 12, attributes := #[] }, { accessFlags := 18, nameIndex := 18, descriptorIndex := 12, attributes := #[] }, { accessFlags := 18, nameIndex := 21, descriptorIndex := 22, attributes := #[] }])
  fields := #[{ name := "offset", type := .int, accessFlags := 18, slot := 0, constantValue := 0 }, { name := "majorType", type := .int, accessFlags := 18, slot := 1, constantValue := 0 }, { name := "info", type := .int, accessFlags := 18, slot := 2, constantValue := 0 }, { name := "argument", type := .long, accessFlags := 18, slot := 3, constantValue := 0 }]
  methods := #[k3m0, k3m1, k3m2]
  instanceTypes := #[.int, .int, .int, .long]
  staticTypes := #[]
  resolved := Array.replicate 123 none
  statics := none }

def pool4 : Array CpInfo := pool [(1, u "java/lang/Cloneable"), (0, .class_ 1), (0, u "java/lang/Object"), (0, .class_ 3)] 3

/-- java/lang/Cloneable -/
def k4 : Class := { plain "java/lang/Cloneable" (some 0) with
  accessFlags := 1537
  interfaces := #[]
  cf := some (fileOf pool4 2 #[] #[] 1537 4 #[] #[])
  fields := #[]
  methods := #[]
  instanceTypes := #[]
  staticTypes := #[]
  resolved := Array.replicate 8 none
  statics := none }

def pool5 : Array CpInfo := pool [(1, u "java/io/Serializable"), (0, .class_ 1), (0, u "java/lang/Object"), (0, .class_ 3)] 3

/-- java/io/Serializable -/
def k5 : Class := { plain "java/io/Serializable" (some 0) with
  accessFlags := 1537
  interfaces := #[]
  cf := some (fileOf pool5 2 #[] #[] 1537 4 #[] #[])
  fields := #[]
  methods := #[]
  instanceTypes := #[]
  staticTypes := #[]
  resolved := Array.replicate 8 none
  statics := none }

/-- the primitive byte -/
def k6 : Class := { plain "byte" none with kind := .primitive 'B', accessFlags := 0x411 }
/-- [B -/
def k7 : Class := { plain "[B" (some 0) with kind := .array 6 .byte, interfaces := #[4, 5], accessFlags := 1041 }

/-- the primitive int -/
def k8 : Class := { plain "int" none with kind := .primitive 'I', accessFlags := 0x411 }
/-- [I -/
def k9 : Class := { plain "[I" (some 0) with kind := .array 8 .int, interfaces := #[4, 5], accessFlags := 1041 }

def heap : Heap := #[]
def classes : Array Class := #[k0, k1, k2, k3, k4, k5, k6, k7, k8, k9]
def interned : List (Array UInt16 × Addr) := []
def slotsUsed : Nat := 0
def theMethod : MethodId := ⟨1, 1⟩
def args0 : Array Value := #[.int 5, .int 5, .int 5, .long 7]
def aboutOver (below : List Frame) : State where
  vm := { classes := classes, interned := interned.toArray }
  heap := heap
  slotsUsed := slotsUsed
  threads := #[{ frames := .invoking theMethod args0 :: below }]
def below0 : List Frame := [.native { method := ⟨0, 0⟩, args := #[] }]
def about1 : State := aboutOver below0
def p0 : Program := .bare "" "" ""
def e0 : Env := launch0.env 0 0 0
theorem w_frames : about1.frames = Frame.invoking theMethod args0 :: below0 := rfl
set_option maxRecDepth 65536 in
theorem w_args : argsFit about1.vm theMethod args0 = true := by decide +kernel
set_option maxRecDepth 65536 in
theorem w_heap : heapFits about1 = true := by decide +kernel
set_option maxRecDepth 65536 in
theorem w_runnable : about1.curStatus? = some .runnable := by decide +kernel
set_option maxRecDepth 65536 in
theorem w_alone : about1.alone = true := by decide +kernel
set_option maxRecDepth 65536 in
theorem w_named : about1.methodNamed? x = some theMethod := by decide +kernel
set_option maxRecDepth 65536 in
theorem w_hears : about1.hears theMethod below0 = true := by decide +kernel
set_option maxRecDepth 65536 in
theorem w_ripe : about1.ripe theMethod args0 below0 = true := by decide +kernel
theorem w_running : about1.status = .running := rfl
set_option maxRecDepth 65536 in
theorem w_room : about1.hasRoom e0.platform room_1 = true :=
  launch0.hasRoom_least _ room_1 (by decide +kernel) (by decide +kernel) (by decide +kernel) (by decide +kernel) (by decide +kernel) (by decide +kernel)
theorem allAtoms_all (ts : List Jvm.Cond) (a : Array Jvm.Value) (st : Jvm.State) : (allAtoms ts).before a st = ts.all (fun c => c.before a st) := by
  induction ts with
  | nil => rfl
  | cons c t ih =>
    show (Jvm.Cond.and c (allAtoms t)).before a st = _
    rw [Jvm.Cond.before_and, ih, List.all_cons]
def words1 : List Jvm.Cond := Jvm.Cond.code x code maxLocals ret :: tables_1
/-- a 'code' word, met by the world's own term for the bytes: nothing is compared byte by byte -/
theorem code_word {y : MethodName} {bytes : ByteArray} {mx : Nat} {rt : Option FieldType} {a : Array Value} {s : State} {m : MethodId} {meth : Method} {c : Code} (h1 : s.methodNamed? y = some m) (h2 : s.vm.method? m = some meth) (h3 : meth.code = some c) (h4 : c.code = bytes)
    (h5 : (c.maxLocals == mx && c.exceptionTable.isEmpty && decide (c.maxStack ≤ mostOperands) && decide (meth.sig.returnType = rt) && !meth.locks && decide (parseMethodDescriptor y.desc = some meth.sig)) = true) : (Jvm.Cond.code y bytes mx rt).before a s = true := by
  simp only [Bool.and_eq_true, beq_iff_eq, Bool.not_eq_true', decide_eq_true_eq] at h5
  obtain ⟨⟨⟨⟨⟨g1, g2⟩, g3⟩, g4⟩, g5⟩, g6⟩ := h5
  simp [Cond.before, Cond.holds, Cond.value, h1, h2, h3, h4, g1, g2, g3, g4, g5, g6]
def isCode : Jvm.Cond → Bool
  | .code _ _ _ _ => true
  | _ => false
theorem all_split {L : List Jvm.Cond} {P : Jvm.Cond → Bool} (h1 : L.all (fun c => isCode c || P c) = true) (h2 : ∀ c ∈ L.filter isCode, P c = true) : L.all P = true := by
  refine List.all_eq_true.mpr fun c hc => ?_
  have h := List.all_eq_true.mp h1 c hc
  rcases Bool.eq_false_or_eq_true (isCode c) with hi | hi
  · exact h2 c (List.mem_filter.mpr ⟨hc, hi⟩)
  · simpa [hi] using h
set_option maxRecDepth 65536 in
theorem w_c0 : (Jvm.Cond.code x code maxLocals ret).before args0 about1 = true := code_word (m := ⟨1, 1⟩) (meth := k1m1) (c := k1c1) (by decide +kernel) rfl rfl rfl (by decide +kernel)
set_option maxRecDepth 65536 in
theorem w_c1 : (Jvm.Cond.code ({ cls := "com/example/triform/triform/CborReader$Head", name := "<init>", desc := "(IIIJ)V" } : Jvm.MethodName) prog_23_method_1_code (6 : Nat) (Option.none : Option Jvm.ClassFile.FieldType)).before args0 about1 = true := code_word (m := ⟨3, 0⟩) (meth := k3m0) (c := k3c0) (by decide +kernel) rfl rfl rfl (by decide +kernel)
set_option maxRecDepth 65536 in
theorem w_c2 : (Jvm.Cond.code ({ cls := "java/lang/Record", name := "<init>", desc := "()V" } : Jvm.MethodName) jdk_30_method_1_code (1 : Nat) (Option.none : Option Jvm.ClassFile.FieldType)).before args0 about1 = true := code_word (m := ⟨2, 0⟩) (meth := k2m0) (c := k2c0) (by decide +kernel) rfl rfl rfl (by decide +kernel)
set_option maxRecDepth 65536 in
theorem w_c3 : (Jvm.Cond.code ({ cls := "java/lang/Object", name := "<init>", desc := "()V" } : Jvm.MethodName) object_method_1_code (1 : Nat) (Option.none : Option Jvm.ClassFile.FieldType)).before args0 about1 = true := code_word (m := ⟨0, 0⟩) (meth := k0m0) (c := k0c0) (by decide +kernel) rfl rfl rfl (by decide +kernel)
set_option maxRecDepth 65536 in
theorem w_c4 : (Jvm.Cond.code ({ cls := "com/example/triform/triform/CborReader$Head", name := "isBreak", desc := "()Z" } : Jvm.MethodName) prog_23_method_3_code (1 : Nat) (Option.some Jvm.ClassFile.FieldType.boolean)).before args0 about1 = true := code_word (m := ⟨3, 2⟩) (meth := k3m2) (c := k3c2) (by decide +kernel) rfl rfl rfl (by decide +kernel)
set_option maxRecDepth 65536 in
theorem w_c5 : (Jvm.Cond.code ({ cls := "com/example/triform/triform/CborReader$Head", name := "indefinite", desc := "()Z" } : Jvm.MethodName) prog_23_method_2_code (1 : Nat) (Option.some Jvm.ClassFile.FieldType.boolean)).before args0 about1 = true := code_word (m := ⟨3, 1⟩) (meth := k3m1) (c := k3c1) (by decide +kernel) rfl rfl rfl (by decide +kernel)
def codes1 : List Jvm.Cond := [Jvm.Cond.code x code maxLocals ret, Jvm.Cond.code ({ cls := "com/example/triform/triform/CborReader$Head", name := "<init>", desc := "(IIIJ)V" } : Jvm.MethodName) prog_23_method_1_code (6 : Nat) (Option.none : Option Jvm.ClassFile.FieldType), Jvm.Cond.code ({ cls := "java/lang/Record", name := "<init>", desc := "()V" } : Jvm.MethodName) jdk_30_method_1_code (1 : Nat) (Option.none : Option Jvm.ClassFile.FieldType), Jvm.Cond.code ({ cls := "java/lang/Object", name := "<init>", desc := "()V" } : Jvm.MethodName) object_method_1_code (1 : Nat) (Option.none : Option Jvm.ClassFile.FieldType), Jvm.Cond.code ({ cls := "com/example/triform/triform/CborReader$Head", name := "isBreak", desc := "()Z" } : Jvm.MethodName) prog_23_method_3_code (1 : Nat) (Option.some Jvm.ClassFile.FieldType.boolean), Jvm.Cond.code ({ cls := "com/example/triform/triform/CborReader$Head", name := "indefinite", desc := "()Z" } : Jvm.MethodName) prog_23_method_2_code (1 : Nat) (Option.some Jvm.ClassFile.FieldType.boolean)]
set_option maxRecDepth 65536 in
theorem codes_eq : words1.filter isCode = codes1 := rfl
theorem w_codes : ∀ c ∈ words1.filter isCode, c.before args0 about1 = true := by
  rw [codes_eq]
  intro c hc
  simp only [codes1, List.mem_cons, List.not_mem_nil, or_false] at hc
  rcases hc with rfl | rfl | rfl | rfl | rfl | rfl
  · exact w_c0
  · exact w_c1
  · exact w_c2
  · exact w_c3
  · exact w_c4
  · exact w_c5
set_option maxRecDepth 65536 in
theorem w_t1 : (words1.take 24).all (fun c => isCode c || c.before args0 about1) = true := by decide +kernel
set_option maxRecDepth 65536 in
theorem w_t2 : (words1.drop 24).all (fun c => isCode c || c.before args0 about1) = true := by decide +kernel
theorem w_tables : (allAtoms (Jvm.Cond.code x code maxLocals ret :: tables_1)).before args0 about1 = true := by
  rw [allAtoms_all]
  show words1.all (fun c => c.before args0 about1) = true
  refine all_split ?_ w_codes
  rw [← List.take_append_drop 24 words1, List.all_append, w_t1, w_t2]
  rfl
set_option maxRecDepth 65536 in
theorem w_case : (Jvm.Cond.and given_1 narrow_1).before args0 about1 = true := by decide +kernel
theorem w_applies : (headSpec (Jvm.Cond.code x code maxLocals ret :: tables_1) room_1).applies x e0.platform about1 = true :=
  (Spec.applies_iff w_frames).mpr ⟨w_running, w_runnable, w_alone, w_named, w_hears, w_ripe, w_room, w_tables⟩
theorem atStart : AtStart classFile x code maxLocals ret World_1 tables_1 room_1 Calls_1 rest_1 Pre_1 launch0 p0 e0 about1 theMethod args0 below0 :=
  ⟨lists_1, trivial, launch0.admits_env _ _ _, launch0.least_env, fairChoices_fair.cas, fairChoices_fair.clock, w_frames, w_args, w_heap, w_applies, trivial, trivial, w_case⟩
end start1
theorem witness_1 : WitnessClaimed_1 := ⟨start1.p0, start1.e0, start1.about1, start1.theMethod, start1.args0, start1.below0, start1.atStart⟩
end Jvm.Pilot.@@N@@
