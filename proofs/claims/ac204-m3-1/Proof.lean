import JvmDerived
import JvmDerived.Pilot.@@N@@Statement
import JvmDerived.Pilot.@@N@@Code
set_option linter.unusedVariables false
set_option linter.unusedSimpArgs false
namespace Jvm.Pilot.@@N@@
open Jvm Jvm.ClassFile Sem Op Lib Jvm.Free Jvm.Stand Jvm.LawKit Jvm.RoadKit Bundle Jvm.Pilot.@@N@@.Jvm.D
/-! Own kit. own_Fin: from this frame the run comes to the method's end, and Q holds of what it leaves. -/
def own_Fin (p : Program) (e : Env) (below : List Frame) (s : State) (Q : Option Value → Heap → List Loc → Prop) (cl sl : Nat) (T : State) (f : JFrame) : Prop :=
  ∃ s₂ o, Steps p.tables e below (T.setTop f) s₂ ∧ s₂.status = .running ∧ Ended s₂ below o ∧ (∃ v L, o = .returned v ∧ Q v s₂.heap L ∧ FrameEnd s o s₂ L cl sl)
section OwnKit
variable {p : Program} {l : Launch} {e : Env} {R : Room} {s : State} {m : MethodId} {args : Array Value} {below : List Frame} {meth : Method} {c : Code} {T : State} {locs : List Loc} {cells slots : Nat} {Q : Option Value → Heap → List Loc → Prop} {cl sl : Nat} {Z : State} {a0 : Array Value} {h h' : Heap} {a b : Addr}
theorem own_step {T' : State} {f f' : JFrame} (k : ∀ t, Steps p.tables e below (T'.setTop f') t → Steps p.tables e below (T.setTop f) t) (r : own_Fin p e below s Q cl sl T' f') : own_Fin p e below s Q cl sl T f := by
  obtain ⟨s₂, o, h1, h2⟩ := r
  exact ⟨s₂, o, k _ h1, h2⟩
theorem own_stepT {T' : State} {f f' : JFrame} (k : Steps p.tables e below (T.setTop f) (T'.setTop f')) (r : own_Fin p e below s Q cl sl T' f') : own_Fin p e below s Q cl sl T f := by
  obtain ⟨s₂, o, h1, h2⟩ := r
  exact ⟨s₂, o, k.trans h1, h2⟩
theorem own_retZ (X : Stand p l e R s m args below meth c T locs cells slots) (hx : p.tables.exec = Jvm.exec) (hlocks : meth.locks = false) (hret : meth.sig.returnType = some .boolean) {pc : Nat} {Ls : Array Slot} {z z' : Int32} {rest : List Value} (hd : decode c.code pc = .ok (.ireturn, 1))
    (hn : nar .boolean z = z') (hc : cells ≤ cl) (hs : slots ≤ sl) (hT : T.heap = h) (hq : Q (some (.int z')) h locs) : own_Fin p e below s Q cl sl T (mkF m pc Ls (.int z :: rest)) := by
  subst hn hT
  obtain ⟨fs, hr, hrun, hended, hW, hsame⟩ := X.leave (v := some (.int (nar .boolean z))) (fun h => by rw [hret] at h; cases h)
  exact ⟨_, _, retN X hx hret (by simp) hd hr, hrun, hended, _, _, rfl, hq, ⟨_, rfl⟩, hW, hsame.mono hc hs⟩
theorem own_retI (X : Stand p l e R s m args below meth c T locs cells slots) (hx : p.tables.exec = Jvm.exec) (hlocks : meth.locks = false) (hret : meth.sig.returnType = some .int) {pc : Nat} {Ls : Array Slot} {z : Int32} {rest : List Value} (hd : decode c.code pc = .ok (.ireturn, 1))
    (hc : cells ≤ cl) (hs : slots ≤ sl) (hT : T.heap = h) (hq : Q (some (.int z)) h locs) : own_Fin p e below s Q cl sl T (mkF m pc Ls (.int z :: rest)) := by
  subst hT
  obtain ⟨fs, hr, hrun, hended, hW, hsame⟩ := X.leave (v := some (.int z)) (fun h => by rw [hret] at h; cases h)
  refine ⟨_, _, ?_, hrun, hended, _, _, rfl, hq, ⟨_, rfl⟩, hW, hsame.mono hc hs⟩
  have hm' : T.vm.method? m = some meth := X.method'
  have hn : narrow .int (.int z) = .int z := rfl
  show Steps p.tables e below (T.setTop { method := m, pc := pc, locals := Ls, stack := _ :: rest, locked := none }) _
  jvm_step X.here [X.here.top, hx, hd, hm', hret, hn]
  first | (intro acts; rw [hr _ acts rfl rfl rfl]) | rw [hr _ _ rfl rfl rfl]
  exact Steps.refl _
theorem own_retJ (X : Stand p l e R s m args below meth c T locs cells slots) (hx : p.tables.exec = Jvm.exec) (hlocks : meth.locks = false) (hret : meth.sig.returnType = some .long) {pc : Nat} {Ls : Array Slot} {z : Int64} (hd : decode c.code pc = .ok (.lreturn, 1))
    (hc : cells ≤ cl) (hs : slots ≤ sl) (hT : T.heap = h) (hq : Q (some (.long z)) h locs) : own_Fin p e below s Q cl sl T (mkF m pc Ls [.long z]) := by
  subst hT
  obtain ⟨fs, hr, hrun, hended, hW, hsame⟩ := X.leave (v := some (.long z)) (fun h => by rw [hret] at h; cases h)
  exact ⟨_, _, X.lreturnOut hx hret hd hr, hrun, hended, _, _, rfl, hq, ⟨_, rfl⟩, hW, hsame.mono hc hs⟩
theorem own_retV (X : Stand p l e R s m args below meth c T locs cells slots) (hx : p.tables.exec = Jvm.exec) (hlocks : meth.locks = false) (hret : meth.sig.returnType = none) {pc : Nat} {Ls : Array Slot} (hd : decode c.code pc = .ok (.return_, 1))
    (hc : cells ≤ cl) (hs : slots ≤ sl) (hT : T.heap = h) (hq : Q none h locs) : own_Fin p e below s Q cl sl T (mkF m pc Ls []) := by
  subst hT
  obtain ⟨fs, hr, hrun, hended, hW, hsame⟩ := X.leave (v := none) (fun _ => rfl)
  exact ⟨_, _, X.returnOut hx hret hd hr, hrun, hended, _, _, rfl, hq, ⟨_, rfl⟩, hW, hsame.mono hc hs⟩
theorem own_retR (X : Stand p l e R s m args below meth c T locs cells slots) (hx : p.tables.exec = Jvm.exec) (hlocks : meth.locks = false) {t : FieldType} (hret : meth.sig.returnType = some t) (ht : t.isReference = true) {pc : Nat} {Ls : Array Slot} {z : Value} (hz : z.isRef = true) (hd : decode c.code pc = .ok (.areturn, 1))
    (hc : cells ≤ cl) (hs : slots ≤ sl) (hT : T.heap = h) (hq : Q (some z) h locs) : own_Fin p e below s Q cl sl T (mkF m pc Ls [z]) := by
  subst hT
  obtain ⟨fs, hr, hrun, hended, hW, hsame⟩ := X.leave (v := some z) (fun h => by rw [hret] at h; cases h)
  refine ⟨_, _, ?_, hrun, hended, _, _, rfl, hq, ⟨_, rfl⟩, hW, hsame.mono hc hs⟩
  have hm' : T.vm.method? m = some meth := X.method'
  jvm_step X.here [X.here.top, hx, hd, hm', hret, ht, hz]
  first | (intro acts; rw [hr _ acts rfl rfl rfl]) | rw [hr _ _ rfl rfl rfl]
  exact Steps.refl _
/-! comparisons, said over Int -/
theorem own_cl {x y : Int32} {a b : Int} (ha : x.toInt = a) (hb : y.toInt = b) (h : a < b) : if_icmp.holds .lt x y = true ∧ if_icmp.holds .ge x y = false ∧ if_icmp.holds .gt y x = true ∧ if_icmp.holds .le y x = false := tlt (by rw [Int32.lt_iff_toInt_lt, ha, hb]; exact h)
theorem own_cn {x y : Int32} {a b : Int} (ha : x.toInt = a) (hb : y.toInt = b) (h : ¬ a < b) : if_icmp.holds .lt x y = false ∧ if_icmp.holds .ge x y = true ∧ if_icmp.holds .gt y x = false ∧ if_icmp.holds .le y x = true := flt (by rw [Int32.lt_iff_toInt_lt, ha, hb]; exact h)
theorem own_ce {x y : Int32} {a b : Int} (ha : x.toInt = a) (hb : y.toInt = b) (h : a = b) : if_icmp.holds .eq x y = true ∧ if_icmp.holds .ne x y = false := teq (by rw [← Int32.toInt_inj, ha, hb]; exact h)
theorem own_cu {x y : Int32} {a b : Int} (ha : x.toInt = a) (hb : y.toInt = b) (h : ¬ a = b) : if_icmp.holds .eq x y = false ∧ if_icmp.holds .ne x y = true := feq (by rw [← Int32.toInt_inj, ha, hb]; exact h)
theorem own_ll {x y : Int64} {a b : Int} (ha : x.toInt = a) (hb : y.toInt = b) (h : a < b) : ifCond.holds .lt (lcmpW x y) = true ∧ ifCond.holds .ge (lcmpW x y) = false ∧ ifCond.holds .gt (lcmpW y x) = true ∧ ifCond.holds .le (lcmpW y x) = false := by
  have q : x < y := by rw [Int64.lt_iff_toInt_lt, ha, hb]; exact h
  have h1 := tlt ((lw_lt x y).mpr q)
  have h2 := tlt ((lw_gt y x).mpr q)
  exact ⟨(if0 _ _).trans h1.1, (if0 _ _).trans h1.2.1, (if0 _ _).trans h2.2.2.1, (if0 _ _).trans h2.2.2.2⟩
theorem own_ln {x y : Int64} {a b : Int} (ha : x.toInt = a) (hb : y.toInt = b) (h : ¬ a < b) : ifCond.holds .lt (lcmpW x y) = false ∧ ifCond.holds .ge (lcmpW x y) = true ∧ ifCond.holds .gt (lcmpW y x) = false ∧ ifCond.holds .le (lcmpW y x) = true := by
  have q : ¬ x < y := by rw [Int64.lt_iff_toInt_lt, ha, hb]; exact h
  have h1 := flt (fun r => q ((lw_lt x y).mp r))
  have h2 := flt (fun r => q ((lw_gt y x).mp r))
  exact ⟨(if0 _ _).trans h1.1, (if0 _ _).trans h1.2.1, (if0 _ _).trans h2.2.2.1, (if0 _ _).trans h2.2.2.2⟩
theorem own_le {x y : Int64} {a b : Int} (ha : x.toInt = a) (hb : y.toInt = b) (h : a = b) : ifCond.holds .eq (lcmpW x y) = true ∧ ifCond.holds .ne (lcmpW x y) = false := by
  have q : x = y := by rw [← Int64.toInt_inj, ha, hb]; exact h
  have h1 := teq ((lw_eq x y).mpr q)
  exact ⟨(if0 _ _).trans h1.1, (if0 _ _).trans h1.2⟩
theorem own_lu {x y : Int64} {a b : Int} (ha : x.toInt = a) (hb : y.toInt = b) (h : ¬ a = b) : ifCond.holds .eq (lcmpW x y) = false ∧ ifCond.holds .ne (lcmpW x y) = true := by
  have q : ¬ x = y := by rw [← Int64.toInt_inj, ha, hb]; exact h
  have h1 := feq (fun r => q ((lw_eq x y).mp r))
  exact ⟨(if0 _ _).trans h1.1, (if0 _ _).trans h1.2⟩
/-! a boolean as an int -/
abbrev own_B (r : Int32) (P : Prop) : Prop := (r.toInt = 1 ∧ P) ∨ (r.toInt = 0 ∧ ¬ P)
theorem own_B1 {P : Prop} (h : P) : own_B 1 P := Or.inl ⟨rfl, h⟩
theorem own_B0 {P : Prop} (h : ¬ P) : own_B 0 P := Or.inr ⟨rfl, h⟩
theorem own_B.lit {r : Int32} {P : Prop} (H : own_B r P) : (r = 1 ∧ P) ∨ (r = 0 ∧ ¬ P) := by
  rcases H with ⟨q, h⟩ | ⟨q, h⟩
  · exact Or.inl ⟨Int32.toInt_inj.mp q, h⟩
  · exact Or.inr ⟨Int32.toInt_inj.mp q, h⟩
/-! arrays: their length and what each place holds -/
def own_A (Z : State) (h : Heap) (a : Addr) (ty : FieldType) (n : Nat) (f : Nat → Value) : Prop := ∃ c : Cell, Arr Z h a c ty ∧ c.slots.size = n ∧ ∀ i, i < n → c.slots[i]? = some (f i)
def own_AI (Z : State) (h : Heap) (a : Addr) (ty : FieldType) (n : Nat) (f : Nat → Int32) : Prop := own_A Z h a ty n (fun i => .int (f i))
def own_AJ (Z : State) (h : Heap) (a : Addr) (n : Nat) (f : Nat → Int64) : Prop := own_A Z h a .long n (fun i => .long (f i))
variable {ty : FieldType} {n : Nat} {fv : Nat → Value} {fi : Nat → Int32} {fj : Nat → Int64}
theorem own_A.lt (F : own_A Z h a ty n fv) : a < h.size := by obtain ⟨c, A, -⟩ := F; exact A.lt
theorem own_A.ext (F : own_A Z h a ty n fv) (E : Ext h h') : own_A Z h' a ty n fv := by obtain ⟨c, A, r⟩ := F; exact ⟨c, A.ext E, r⟩
theorem own_A.other {sl : Nat} {v : Value} (F : own_A Z h a ty n fv) (W : Wr h h' b sl v) (q : a ≠ b) : own_A Z h' a ty n fv := by obtain ⟨c, A, r⟩ := F; exact ⟨c, A.other W q, r⟩
theorem own_A.keep {ws : List Addr} (F : own_A Z h a ty n fv) (K : Keep h h' ws) (q : a ∉ ws) : own_A Z h' a ty n fv := by obtain ⟨c, A, r⟩ := F; exact ⟨c, ⟨K.2.1 a c A.1 q, A.2⟩, r⟩
theorem own_A.congr {gv : Nat → Value} (F : own_A Z h a ty n fv) (q : ∀ i, i < n → fv i = gv i) : own_A Z h a ty n gv := by obtain ⟨c, A, r, t⟩ := F; exact ⟨c, A, r, fun i hi => by rw [t i hi, q i hi]⟩
theorem own_A.set {j : Nat} {v : Value} (F : own_A Z h a ty n fv) (W : Wr h h' a j v) : own_A Z h' a ty n (fun i => if i = j then v else fv i) := by
  obtain ⟨c, A, r, t⟩ := F
  have W0 := W
  obtain ⟨c2, h1, -, h3, -⟩ := W0
  have ec : c2 = c := Option.some.inj (h1.symm.trans A.1)
  subst ec
  refine ⟨_, A.same W, by rw [sz_set]; exact r, fun i hi => ?_⟩
  by_cases q : i = j
  · subst q; simp [Cell.setSlot, h3]
  · simp only [q, if_false]; rw [← t i hi]; simp only [Cell.setSlot]; exact Array.getElem?_setIfInBounds_ne fun z => q z.symm
theorem own_A.new {k : ClassId} {z : Int32} (A : Arr Z h a (newA k ty z) ty) (q : z.toNatClampNeg = n) : own_A Z h a ty n (fun _ => defaultValue ty) := by
  subst q
  exact ⟨_, A, sz_new _ _ _, fun i hi => by simp [newA, hi]⟩
theorem own_AI.lt (F : own_AI Z h a ty n fi) : a < h.size := own_A.lt F
theorem own_AI.ext (F : own_AI Z h a ty n fi) (E : Ext h h') : own_AI Z h' a ty n fi := own_A.ext F E
theorem own_AI.other {sl : Nat} {v : Value} (F : own_AI Z h a ty n fi) (W : Wr h h' b sl v) (q : a ≠ b) : own_AI Z h' a ty n fi := own_A.other F W q
theorem own_AI.keep {ws : List Addr} (F : own_AI Z h a ty n fi) (K : Keep h h' ws) (q : a ∉ ws) : own_AI Z h' a ty n fi := own_A.keep F K q
theorem own_AI.congr {gi : Nat → Int32} (F : own_AI Z h a ty n fi) (q : ∀ i, i < n → fi i = gi i) : own_AI Z h a ty n gi := own_A.congr F fun i hi => by rw [q i hi]
theorem own_AI.set {j : Nat} {x : Int32} (F : own_AI Z h a ty n fi) (W : Wr h h' a j (.int x)) : own_AI Z h' a ty n (fun i => if i = j then x else fi i) := (own_A.set F W).congr fun i _ => by by_cases q : i = j <;> simp [q]
theorem own_AI.newI {k : ClassId} {z : Int32} (A : Arr Z h a (newA k .int z) .int) (q : z.toNatClampNeg = n) : own_AI Z h a .int n (fun _ => 0) := own_A.new A q
theorem own_AI.newB {k : ClassId} {z : Int32} (A : Arr Z h a (newA k .byte z) .byte) (q : z.toNatClampNeg = n) : own_AI Z h a .byte n (fun _ => 0) := own_A.new A q
theorem own_AJ.lt (F : own_AJ Z h a n fj) : a < h.size := own_A.lt F
theorem own_AJ.ext (F : own_AJ Z h a n fj) (E : Ext h h') : own_AJ Z h' a n fj := own_A.ext F E
theorem own_AJ.other {sl : Nat} {v : Value} (F : own_AJ Z h a n fj) (W : Wr h h' b sl v) (q : a ≠ b) : own_AJ Z h' a n fj := own_A.other F W q
theorem own_AJ.keep {ws : List Addr} (F : own_AJ Z h a n fj) (K : Keep h h' ws) (q : a ∉ ws) : own_AJ Z h' a n fj := own_A.keep F K q
theorem own_AJ.congr {gj : Nat → Int64} (F : own_AJ Z h a n fj) (q : ∀ i, i < n → fj i = gj i) : own_AJ Z h a n gj := own_A.congr F fun i hi => by rw [q i hi]
theorem own_AJ.set {j : Nat} {x : Int64} (F : own_AJ Z h a n fj) (W : Wr h h' a j (.long x)) : own_AJ Z h' a n (fun i => if i = j then x else fj i) := (own_A.set F W).congr fun i _ => by by_cases q : i = j <;> simp [q]
theorem own_AJ.new {k : ClassId} {z : Int32} (A : Arr Z h a (newA k .long z) .long) (q : z.toNatClampNeg = n) : own_AJ Z h a n (fun _ => 0) := own_A.new A q
theorem own_in {j : Int32} {k n : Nat} (hj : j.toInt = (k : Int)) (hk : k < n) : j.toNatClampNeg = k ∧ ¬ (j < 0 ∨ n ≤ j.toNatClampNeg) := by
  have q : j.toNatClampNeg = k := by simp only [Int32.toNatClampNeg, hj]; omega
  refine ⟨q, fun z => ?_⟩
  rcases z with z | z
  · rw [Int32.lt_iff_toInt_lt, hj] at z
    have : (0 : Int32).toInt = 0 := rfl
    omega
  · omega
theorem own_iaload (X : Stand p l e R s m args below meth c T locs cells slots) (hx : p.tables.exec = Jvm.exec) (hZ : Z.Warmed39 s.vm) (eT : T.heap = h) (F : own_AI Z h a .int n fi) {j : Int32} {k : Nat} (hj : j.toInt = (k : Int)) (hk : k < n) {v : Int32} (hv : fi k = v) {pc pc' : Nat} {Ls : Array Slot} {rest : List Value}
    (hd : decode c.code pc = .ok (.iaload, 1)) (hp : pc + 1 = pc') (r : own_Fin p e below s Q cl sl T (mkF m pc' Ls (.int v :: rest))) : own_Fin p e below s Q cl sl T (mkF m pc Ls (.int j :: .ref a :: rest)) := by
  obtain ⟨cc, A, h1, h2⟩ := F
  obtain ⟨q1, q2⟩ := own_in hj hk
  subst hp hv
  exact own_step (fun t k' => X.iaload hx (j := j) (v := .int (fi k)) (by rw [eT]; exact A.1) (State.isArrayOf_alike hZ.alike A.2.1) A.2.2 (by rw [h1]; exact q2) (by rw [q1]; exact h2 k hk) (g := mkF m pc Ls (.int j :: .ref a :: rest)) rfl rfl hd _ k') r
theorem own_baload (X : Stand p l e R s m args below meth c T locs cells slots) (hx : p.tables.exec = Jvm.exec) (hZ : Z.Warmed39 s.vm) (eT : T.heap = h) (F : own_AI Z h a .byte n fi) {j : Int32} {k : Nat} (hj : j.toInt = (k : Int)) (hk : k < n) {v : Int32} (hv : fi k = v) {pc pc' : Nat} {Ls : Array Slot} {rest : List Value}
    (hd : decode c.code pc = .ok (.baload, 1)) (hp : pc + 1 = pc') (r : own_Fin p e below s Q cl sl T (mkF m pc' Ls (.int v :: rest))) : own_Fin p e below s Q cl sl T (mkF m pc Ls (.int j :: .ref a :: rest)) := by
  obtain ⟨cc, A, h1, h2⟩ := F
  obtain ⟨q1, q2⟩ := own_in hj hk
  subst hp hv
  exact own_step (fun t k' => X.baloadBytes hx (j := j) (v := .int (fi k)) (by rw [eT]; exact A.1) (State.isArrayOf_alike hZ.alike A.2.1) A.2.2 (by rw [h1]; exact q2) (by rw [q1]; exact h2 k hk) (g := mkF m pc Ls (.int j :: .ref a :: rest)) rfl rfl hd _ k') r
theorem own_laload (X : Stand p l e R s m args below meth c T locs cells slots) (hx : p.tables.exec = Jvm.exec) (hZ : Z.Warmed39 s.vm) (eT : T.heap = h) (F : own_AJ Z h a n fj) {j : Int32} {k : Nat} (hj : j.toInt = (k : Int)) (hk : k < n) {v : Int64} (hv : fj k = v) {pc pc' : Nat} {Ls : Array Slot} {rest : List Value}
    (hd : decode c.code pc = .ok (.laload, 1)) (hp : pc + 1 = pc') (r : own_Fin p e below s Q cl sl T (mkF m pc' Ls (.long v :: rest))) : own_Fin p e below s Q cl sl T (mkF m pc Ls (.int j :: .ref a :: rest)) := by
  obtain ⟨cc, A, h1, h2⟩ := F
  obtain ⟨q1, q2⟩ := own_in hj hk
  subst hp hv
  exact own_step (fun t k' => X.laload hx (j := j) (v := .long (fj k)) (by rw [eT]; exact A.1) (State.isArrayOf_alike hZ.alike A.2.1) A.2.2 (by rw [h1]; exact q2) (by rw [q1]; exact h2 k hk) (g := mkF m pc Ls (.int j :: .ref a :: rest)) rfl rfl hd _ k') r
theorem own_arrlen (X : Stand p l e R s m args below meth c T locs cells slots) (hx : p.tables.exec = Jvm.exec) (hZ : Z.Warmed39 s.vm) (eT : T.heap = h) (F : own_A Z h a ty n fv) {z : Int32} (hz : n.toInt32 = z) {pc pc' : Nat} {Ls : Array Slot} {rest : List Value}
    (hd : decode c.code pc = .ok (.arraylength, 1)) (hp : pc + 1 = pc') (r : own_Fin p e below s Q cl sl T (mkF m pc' Ls (.int z :: rest))) : own_Fin p e below s Q cl sl T (mkF m pc Ls (.ref a :: rest)) := by
  obtain ⟨cc, A, h1, h2⟩ := F
  subst hp hz
  exact own_step (fun t k' => X.arraylength hx (by rw [eT]; exact A.1) (State.isArrayOf_alike hZ.alike A.2.1) (g := mkF m pc Ls (.ref a :: rest)) rfl rfl hd _ (by rw [h1]; exact k')) r
theorem own_iastore (X : Stand p l e R s m args below meth c T locs cells slots) (hx : p.tables.exec = Jvm.exec) (hZ : Z.Warmed39 s.vm) (eT : T.heap = h) (F : own_AI Z h a .int n fi) {j : Int32} {k : Nat} (hj : j.toInt = (k : Int)) (hk : k < n) {x : Int32} {pc pc' : Nat} {Ls : Array Slot} {rest : List Value}
    (hd : decode c.code pc = .ok (.iastore, 1)) (hp : pc + 1 = pc') :
    ∃ T' h', Stand p l e R s m args below meth c T' (locs ++ [⟨a, k⟩]) cells slots ∧ T'.heap = h' ∧ Wr h h' a k (.int x) ∧ own_AI Z h' a .int n (fun i => if i = k then x else fi i) ∧ ∀ t, Steps p.tables e below (T'.setTop (mkF m pc' Ls rest)) t → Steps p.tables e below (T.setTop (mkF m pc Ls (.int x :: .int j :: .ref a :: rest))) t := by
  obtain ⟨q1, q2⟩ := own_in hj hk
  have F' := F
  obtain ⟨cc, A, h1, h2⟩ := F
  subst hp q1
  obtain ⟨T', h', X', e', W', st⟩ := stI X hx hZ eT A (j := j) (x := x) (by rw [h1]; exact q2) (g := mkF m pc Ls (.int x :: .int j :: .ref a :: rest)) rfl rfl hd
  exact ⟨T', h', X', e', W', F'.set W', st⟩
theorem own_bastore (X : Stand p l e R s m args below meth c T locs cells slots) (hx : p.tables.exec = Jvm.exec) (hZ : Z.Warmed39 s.vm) (eT : T.heap = h) (F : own_AI Z h a .byte n fi) {j : Int32} {k : Nat} (hj : j.toInt = (k : Int)) (hk : k < n) {x y : Int32} (hn : nar .byte x = y) {pc pc' : Nat} {Ls : Array Slot} {rest : List Value}
    (hd : decode c.code pc = .ok (.bastore, 1)) (hp : pc + 1 = pc') :
    ∃ T' h', Stand p l e R s m args below meth c T' (locs ++ [⟨a, k⟩]) cells slots ∧ T'.heap = h' ∧ Wr h h' a k (.int y) ∧ own_AI Z h' a .byte n (fun i => if i = k then y else fi i) ∧ ∀ t, Steps p.tables e below (T'.setTop (mkF m pc' Ls rest)) t → Steps p.tables e below (T.setTop (mkF m pc Ls (.int x :: .int j :: .ref a :: rest))) t := by
  obtain ⟨q1, q2⟩ := own_in hj hk
  have F' := F
  obtain ⟨cc, A, h1, h2⟩ := F
  subst hp q1 hn
  obtain ⟨T', h', X', e', W', st⟩ := stB X hx hZ eT A (j := j) (x := x) (by rw [h1]; exact q2) (g := mkF m pc Ls (.int x :: .int j :: .ref a :: rest)) rfl rfl hd
  exact ⟨T', h', X', e', W', F'.set W', st⟩
theorem own_lastore (X : Stand p l e R s m args below meth c T locs cells slots) (hx : p.tables.exec = Jvm.exec) (hZ : Z.Warmed39 s.vm) (eT : T.heap = h) (F : own_AJ Z h a n fj) {j : Int32} {k : Nat} (hj : j.toInt = (k : Int)) (hk : k < n) {x : Int64} {pc pc' : Nat} {Ls : Array Slot} {rest : List Value}
    (hd : decode c.code pc = .ok (.lastore, 1)) (hp : pc + 1 = pc') :
    ∃ T' h', Stand p l e R s m args below meth c T' (locs ++ [⟨a, k⟩]) cells slots ∧ T'.heap = h' ∧ Wr h h' a k (.long x) ∧ own_AJ Z h' a n (fun i => if i = k then x else fj i) ∧ ∀ t, Steps p.tables e below (T'.setTop (mkF m pc' Ls rest)) t → Steps p.tables e below (T.setTop (mkF m pc Ls (.long x :: .int j :: .ref a :: rest))) t := by
  obtain ⟨q1, q2⟩ := own_in hj hk
  have F' := F
  obtain ⟨cc, A, h1, h2⟩ := F
  subst hp q1
  obtain ⟨T', h', X', e', W', st⟩ := stJ X hx hZ eT A (j := j) (x := x) (by rw [h1]; exact q2) (g := mkF m pc Ls (.long x :: .int j :: .ref a :: rest)) rfl rfl hd
  exact ⟨T', h', X', e', W', F'.set W', st⟩
theorem own_nar8 (x : Int32) : nar .byte x.toInt8.toInt32 = x.toInt8.toInt32 := by
  show (x.toInt8.toInt32).toInt8.toInt32 = x.toInt8.toInt32
  simp
end OwnKit
theorem d1_0 : decode method_2_code 0 = .ok (.lload_n 0, 1) := by decide +kernel
theorem d1_1 : decode method_2_code 1 = .ok (.ldc2_w 7, 3) := by decide +kernel
theorem d1_4 : decode method_2_code 4 = .ok (.ldiv, 1) := by decide +kernel
theorem d1_5 : decode method_2_code 5 = .ok (.lload_n 0, 1) := by decide +kernel
theorem d1_6 : decode method_2_code 6 = .ok (.ldc2_w 9, 3) := by decide +kernel
theorem d1_9 : decode method_2_code 9 = .ok (.ldiv, 1) := by decide +kernel
theorem d1_10 : decode method_2_code 10 = .ok (.lsub, 1) := by decide +kernel
theorem d1_11 : decode method_2_code 11 = .ok (.lload_n 0, 1) := by decide +kernel
theorem d1_12 : decode method_2_code 12 = .ok (.ldc2_w 11, 3) := by decide +kernel
theorem d1_15 : decode method_2_code 15 = .ok (.ldiv, 1) := by decide +kernel
theorem d1_16 : decode method_2_code 16 = .ok (.ladd, 1) := by decide +kernel
theorem d1_17 : decode method_2_code 17 = .ok (.lreturn, 1) := by decide +kernel
theorem own_pn_1 : plainName "com/example/triform/triform/TimestampsInRangePinLaw" = true := by first | (simp [plainName, overriddenIn]; done) | decide +kernel
theorem own_ef_1 (m : MethodId) (q1 : Int64) : entryFrame m #[(.long q1)] 2 = mkF m 0 #[.val (.long q1), .second] [] := by first | (simp [entryFrame, mkF, argsToLocals, Value.category]; done) | rfl
abbrev own_R1 : Room := { frames := 0, cells := 0, slots := 0, locals := 0 }
def own_Q1 (Z : State) (q1 : Int64) (h0 : Heap) (n0 : Nat) (v : Option Value) (h : Heap) (L : List Loc) : Prop := v = some (.long (((q1 / (4 : Int64)) - (q1 / (100 : Int64))) + (q1 / (400 : Int64)))) ∧ Fr n0 L ∧ h = h0
set_option maxRecDepth 65536 in
set_option maxHeartbeats 40000000 in
theorem rm1 (l : Launch) (Z : State) (a0 : Array Value) (hw : ∀ d ∈ tables_1, d.before a0 Z = true) (ws : List Jvm.Cond) (q1 : Int64) (h0 : Heap) (n0 : Nat) (Z0 : n0 ≤ h0.size) :
    MetFree l (⟨"com/example/triform/triform/TimestampsInRangePinLaw", "leapsThrough", "(J)J"⟩ : MethodName) (head1 (Jvm.Cond.code (⟨"com/example/triform/triform/TimestampsInRangePinLaw", "leapsThrough", "(J)J"⟩ : MethodName) method_2_code 2 (some .long) :: ws) own_R1) (fun a U => a = #[(.long q1)] ∧ Z.Warmed39 U.vm ∧ U.heap = h0) (fun _ _ _ _ _ => True) (fun _ U o U' => ∃ v L, o = .returned v ∧ own_Q1 Z q1 h0 n0 v U'.heap L ∧ FrameEnd U o U' L own_R1.cells own_R1.slots) := by
  refine MetFree.of_bodySF (plainFor_of_name own_pn_1) hisR ?_
  intro p e s m args below meth c s₁ Bd hml0 hP hK
  obtain ⟨rfl, hZ, hh⟩ := hP
  have hx := Bd.exec
  have hby := Bd.bytes
  have hlk := BodyLoose.notSynchronized Bd
  have hml : c.maxLocals = 2 := hml0
  have hown : s.vm.findClass "com/example/triform/triform/TimestampsInRangePinLaw" = some m.cls := (findClass_of_methodNamed Bd.named : s.vm.findClass (⟨"com/example/triform/triform/TimestampsInRangePinLaw", "leapsThrough", "(J)J"⟩ : MethodName).cls = some m.cls)
  have hnm := (name_of_methodNamed Bd.named Bd.method).1
  have X0 : Stand p l e own_R1 s m #[(.long q1)] below meth c s₁ [] 0 0 := Stand.of_body Bd
  have e0 : s₁.heap = h0 := by rw [← hh, Bd.state]; rfl
  have Nf := Fr.nil n0
  have Zs := Z0
  show own_Fin p e below s (own_Q1 Z q1 h0 n0) 0 0 s₁ (entryFrame m #[(.long q1)] 2)
  rw [own_ef_1 m q1]
  show own_Fin _ _ _ _ _ _ _ _ (mkF m 0 #[.val (.long q1), .second] [])
  refine own_step (fun t k => XS.lloadN X0.here hx rfl (hb hby d1_0) rfl k) ?_
  show own_Fin _ _ _ _ _ _ _ _ (mkF m 1 #[.val (.long q1), .second] [(.long q1)])
  refine own_step (fun t k => X0.ldc2Long hx hown (mvT hZ (hw _ (List.mem_of_getElem? (i := 9) rfl))) (g := (mkF m 1 #[.val (.long q1), .second] [(.long q1)])) rfl (hb hby d1_1) _ k) ?_
  show own_Fin _ _ _ _ _ _ _ _ (mkF m 4 #[.val (.long q1), .second] [(.long (4 : Int64)), (.long q1)])
  refine own_step (fun t k => XS.ldiv X0.here hx rfl (hb hby d1_4) rfl (by decide) k) ?_
  show own_Fin _ _ _ _ _ _ _ _ (mkF m 5 #[.val (.long q1), .second] [(.long (q1 / (4 : Int64)))])
  refine own_step (fun t k => XS.lloadN X0.here hx rfl (hb hby d1_5) rfl k) ?_
  show own_Fin _ _ _ _ _ _ _ _ (mkF m 6 #[.val (.long q1), .second] [(.long q1), (.long (q1 / (4 : Int64)))])
  refine own_step (fun t k => X0.ldc2Long hx hown (mvT hZ (hw _ (List.mem_of_getElem? (i := 10) rfl))) (g := (mkF m 6 #[.val (.long q1), .second] [(.long q1), (.long (q1 / (4 : Int64)))])) rfl (hb hby d1_6) _ k) ?_
  show own_Fin _ _ _ _ _ _ _ _ (mkF m 9 #[.val (.long q1), .second] [(.long (100 : Int64)), (.long q1), (.long (q1 / (4 : Int64)))])
  refine own_step (fun t k => XS.ldiv X0.here hx rfl (hb hby d1_9) rfl (by decide) k) ?_
  show own_Fin _ _ _ _ _ _ _ _ (mkF m 10 #[.val (.long q1), .second] [(.long (q1 / (100 : Int64))), (.long (q1 / (4 : Int64)))])
  refine own_step (fun t k => XS.lsub X0.here hx rfl (hb hby d1_10) rfl k) ?_
  show own_Fin _ _ _ _ _ _ _ _ (mkF m 11 #[.val (.long q1), .second] [(.long ((q1 / (4 : Int64)) - (q1 / (100 : Int64))))])
  refine own_step (fun t k => XS.lloadN X0.here hx rfl (hb hby d1_11) rfl k) ?_
  show own_Fin _ _ _ _ _ _ _ _ (mkF m 12 #[.val (.long q1), .second] [(.long q1), (.long ((q1 / (4 : Int64)) - (q1 / (100 : Int64))))])
  refine own_step (fun t k => X0.ldc2Long hx hown (mvT hZ (hw _ (List.mem_of_getElem? (i := 11) rfl))) (g := (mkF m 12 #[.val (.long q1), .second] [(.long q1), (.long ((q1 / (4 : Int64)) - (q1 / (100 : Int64))))])) rfl (hb hby d1_12) _ k) ?_
  show own_Fin _ _ _ _ _ _ _ _ (mkF m 15 #[.val (.long q1), .second] [(.long (400 : Int64)), (.long q1), (.long ((q1 / (4 : Int64)) - (q1 / (100 : Int64))))])
  refine own_step (fun t k => XS.ldiv X0.here hx rfl (hb hby d1_15) rfl (by decide) k) ?_
  show own_Fin _ _ _ _ _ _ _ _ (mkF m 16 #[.val (.long q1), .second] [(.long (q1 / (400 : Int64))), (.long ((q1 / (4 : Int64)) - (q1 / (100 : Int64))))])
  refine own_step (fun t k => XS.ladd X0.here hx rfl (hb hby d1_16) rfl k) ?_
  show own_Fin _ _ _ _ _ _ _ _ (mkF m 17 #[.val (.long q1), .second] [(.long (((q1 / (4 : Int64)) - (q1 / (100 : Int64))) + (q1 / (400 : Int64))))])
  refine own_retJ X0 hx hlk Bd.returns (hb hby d1_17) (by decide) (by decide) e0 ?_
  exact ⟨rfl, Nf, rfl⟩
theorem own_pd_0 : parseMethodDescriptor "(J)J" = some ⟨[.long], some .long⟩ := by decide +kernel
theorem d2_0 : decode method_3_code 0 = .ok (.lload_n 0, 1) := by decide +kernel
theorem d2_1 : decode method_3_code 1 = .ok (.lconst 1, 1) := by decide +kernel
theorem d2_2 : decode method_3_code 2 = .ok (.lsub, 1) := by decide +kernel
theorem d2_3 : decode method_3_code 3 = .ok (.lstore_n 2, 1) := by decide +kernel
theorem d2_4 : decode method_3_code 4 = .ok (.lload_n 2, 1) := by decide +kernel
theorem d2_5 : decode method_3_code 5 = .ok (.ldc2_w 13, 3) := by decide +kernel
theorem d2_8 : decode method_3_code 8 = .ok (.lmul, 1) := by decide +kernel
theorem d2_9 : decode method_3_code 9 = .ok (.lload_n 2, 1) := by decide +kernel
theorem d2_10 : decode method_3_code 10 = .ok (.invokestatic 15, 3) := by decide +kernel
theorem d2_13 : decode method_3_code 13 = .ok (.ladd, 1) := by decide +kernel
theorem d2_14 : decode method_3_code 14 = .ok (.lreturn, 1) := by decide +kernel
theorem own_pn_2 : plainName "com/example/triform/triform/TimestampsInRangePinLaw" = true := by first | (simp [plainName, overriddenIn]; done) | decide +kernel
theorem own_ef_2 (m : MethodId) (q1 : Int64) : entryFrame m #[(.long q1)] 4 = mkF m 0 #[.val (.long q1), .second, .unset, .unset] [] := by first | (simp [entryFrame, mkF, argsToLocals, Value.category]; done) | rfl
abbrev own_R2 : Room := { frames := 1, cells := 0, slots := 0, locals := 15 }
def own_Q2 (Z : State) (q1 : Int64) (h0 : Heap) (n0 : Nat) (v : Option Value) (h : Heap) (L : List Loc) : Prop := v = some (.long (((q1 - (1 : Int64)) * (365 : Int64)) + ((((q1 - (1 : Int64)) / (4 : Int64)) - ((q1 - (1 : Int64)) / (100 : Int64))) + ((q1 - (1 : Int64)) / (400 : Int64))))) ∧ Fr n0 L ∧ h = h0
set_option maxRecDepth 65536 in
set_option maxHeartbeats 40000000 in
theorem rm2 (l : Launch) (Z : State) (a0 : Array Value) (hw : ∀ d ∈ tables_1, d.before a0 Z = true) (ws : List Jvm.Cond) (q1 : Int64) (h0 : Heap) (n0 : Nat) (Z0 : n0 ≤ h0.size) :
    MetFree l (⟨"com/example/triform/triform/TimestampsInRangePinLaw", "daysBeforeYear", "(J)J"⟩ : MethodName) (head1 (Jvm.Cond.code (⟨"com/example/triform/triform/TimestampsInRangePinLaw", "daysBeforeYear", "(J)J"⟩ : MethodName) method_3_code 4 (some .long) :: ws) own_R2) (fun a U => a = #[(.long q1)] ∧ Z.Warmed39 U.vm ∧ U.heap = h0) (fun _ _ _ _ _ => True) (fun _ U o U' => ∃ v L, o = .returned v ∧ own_Q2 Z q1 h0 n0 v U'.heap L ∧ FrameEnd U o U' L own_R2.cells own_R2.slots) := by
  refine MetFree.of_bodySF (plainFor_of_name own_pn_2) hisR ?_
  intro p e s m args below meth c s₁ Bd hml0 hP hK
  obtain ⟨rfl, hZ, hh⟩ := hP
  have hx := Bd.exec
  have hby := Bd.bytes
  have hlk := BodyLoose.notSynchronized Bd
  have hml : c.maxLocals = 4 := hml0
  have hown : s.vm.findClass "com/example/triform/triform/TimestampsInRangePinLaw" = some m.cls := (findClass_of_methodNamed Bd.named : s.vm.findClass (⟨"com/example/triform/triform/TimestampsInRangePinLaw", "daysBeforeYear", "(J)J"⟩ : MethodName).cls = some m.cls)
  have hnm := (name_of_methodNamed Bd.named Bd.method).1
  have X0 : Stand p l e own_R2 s m #[(.long q1)] below meth c s₁ [] 0 0 := Stand.of_body Bd
  have e0 : s₁.heap = h0 := by rw [← hh, Bd.state]; rfl
  have Nf := Fr.nil n0
  have Zs := Z0
  show own_Fin p e below s (own_Q2 Z q1 h0 n0) 0 0 s₁ (entryFrame m #[(.long q1)] 4)
  rw [own_ef_2 m q1]
  show own_Fin _ _ _ _ _ _ _ _ (mkF m 0 #[.val (.long q1), .second, .unset, .unset] [])
  refine own_step (fun t k => XS.lloadN X0.here hx rfl (hb hby d2_0) rfl k) ?_
  show own_Fin _ _ _ _ _ _ _ _ (mkF m 1 #[.val (.long q1), .second, .unset, .unset] [(.long q1)])
  refine own_step (fun t k => XS.lconst X0.here hx rfl (hb hby d2_1) k) ?_
  show own_Fin _ _ _ _ _ _ _ _ (mkF m 2 #[.val (.long q1), .second, .unset, .unset] [(.long (1 : Int64)), (.long q1)])
  refine own_step (fun t k => XS.lsub X0.here hx rfl (hb hby d2_2) rfl k) ?_
  show own_Fin _ _ _ _ _ _ _ _ (mkF m 3 #[.val (.long q1), .second, .unset, .unset] [(.long (q1 - (1 : Int64)))])
  refine own_step (fun t k => XS.lstoreN X0.here hx rfl (hb hby d2_3) rfl (l' := #[.val (.long q1), .second, .val (.long (q1 - (1 : Int64))), .second]) rfl k) ?_
  show own_Fin _ _ _ _ _ _ _ _ (mkF m 4 #[.val (.long q1), .second, .val (.long (q1 - (1 : Int64))), .second] [])
  refine own_step (fun t k => XS.lloadN X0.here hx rfl (hb hby d2_4) rfl k) ?_
  show own_Fin _ _ _ _ _ _ _ _ (mkF m 5 #[.val (.long q1), .second, .val (.long (q1 - (1 : Int64))), .second] [(.long (q1 - (1 : Int64)))])
  refine own_step (fun t k => X0.ldc2Long hx hown (mvT hZ (hw _ (List.mem_of_getElem? (i := 5) rfl))) (g := (mkF m 5 #[.val (.long q1), .second, .val (.long (q1 - (1 : Int64))), .second] [(.long (q1 - (1 : Int64)))])) rfl (hb hby d2_5) _ k) ?_
  show own_Fin _ _ _ _ _ _ _ _ (mkF m 8 #[.val (.long q1), .second, .val (.long (q1 - (1 : Int64))), .second] [(.long (365 : Int64)), (.long (q1 - (1 : Int64)))])
  refine own_step (fun t k => XS.lmul X0.here hx rfl (hb hby d2_8) rfl k) ?_
  show own_Fin _ _ _ _ _ _ _ _ (mkF m 9 #[.val (.long q1), .second, .val (.long (q1 - (1 : Int64))), .second] [(.long ((q1 - (1 : Int64)) * (365 : Int64)))])
  refine own_step (fun t k => XS.lloadN X0.here hx rfl (hb hby d2_9) rfl k) ?_
  show own_Fin _ _ _ _ _ _ _ _ (mkF m 10 #[.val (.long q1), .second, .val (.long (q1 - (1 : Int64))), .second] [(.long (q1 - (1 : Int64))), (.long ((q1 - (1 : Int64)) * (365 : Int64)))])
  obtain ⟨_, _, ⟨T1, L1, k1, n1⟩, -, X1, ⟨Lc1, hQ1, l1, y1, z1⟩, st1⟩ := Jvm.LawKit.callS X0 hx (y := (⟨"com/example/triform/triform/TimestampsInRangePinLaw", "leapsThrough", "(J)J"⟩ : MethodName)) hown (mvT hZ (hw _ (List.mem_of_getElem? (i := 6) rfl))) (mvT hZ (hw _ (List.mem_of_getElem? (i := 7) rfl))) (mvT hZ (hw _ (List.mem_of_getElem? (i := 3) rfl))) (mvT hZ (hw _ (List.mem_of_getElem? (i := 8) rfl))) (by decide) (backOf (W := 2) (rm1 l Z a0 hw [] (q1 - (1 : Int64)) h0 n0 Zs) hZ (hw _ (List.mem_of_getElem? (i := 8) rfl)) (hw _ (List.mem_of_getElem? (i := 3) rfl)) (by decide) (by decide)) (g := (mkF m 10 #[.val (.long q1), .second, .val (.long (q1 - (1 : Int64))), .second] [(.long (q1 - (1 : Int64))), (.long ((q1 - (1 : Int64)) * (365 : Int64)))])) rfl (by rw [hml]; rfl) (argsL := [(.long (q1 - (1 : Int64)))]) (rest := [(.long ((q1 - (1 : Int64)) * (365 : Int64)))]) (lenOf own_pd_0 rfl) rfl (by show 2 * 0 + _ ≤ _; exact Nat.le_of_eq rfl) (hb hby d2_10) (fun _ _ => ⟨rfl, e0, (by decide : 0 + 0 ≤ _), (by decide : 0 + 0 ≤ _)⟩)
  dsimp only [Pt.U, Pt.locs, Pt.cells, Pt.slots] at X1 l1 y1 z1 st1 hQ1
  subst l1 y1 z1
  obtain ⟨rfl, Nq1, hh1⟩ := hQ1
  replace Nf := Fr.app Nf Nq1
  refine own_step st1 ?_
  show own_Fin _ _ _ _ _ _ _ _ (mkF m 13 #[.val (.long q1), .second, .val (.long (q1 - (1 : Int64))), .second] [(.long ((((q1 - (1 : Int64)) / (4 : Int64)) - ((q1 - (1 : Int64)) / (100 : Int64))) + ((q1 - (1 : Int64)) / (400 : Int64)))), (.long ((q1 - (1 : Int64)) * (365 : Int64)))])
  refine own_step (fun t k => XS.ladd X1.here hx rfl (hb hby d2_13) rfl k) ?_
  show own_Fin _ _ _ _ _ _ _ _ (mkF m 14 #[.val (.long q1), .second, .val (.long (q1 - (1 : Int64))), .second] [(.long (((q1 - (1 : Int64)) * (365 : Int64)) + ((((q1 - (1 : Int64)) / (4 : Int64)) - ((q1 - (1 : Int64)) / (100 : Int64))) + ((q1 - (1 : Int64)) / (400 : Int64)))))])
  refine own_retJ X1 hx hlk Bd.returns (hb hby d2_14) (by decide) (by decide) hh1 ?_
  exact ⟨rfl, Nf, rfl⟩
theorem d3_0 : decode prog_49_method_2_code 0 = .ok (.lload_n 0, 1) := by decide +kernel
theorem d3_1 : decode prog_49_method_2_code 1 = .ok (.ldc2_w 9, 3) := by decide +kernel
theorem d3_4 : decode prog_49_method_2_code 4 = .ok (.lcmp, 1) := by decide +kernel
theorem d3_5 : decode prog_49_method_2_code 5 = .ok (.ifCond .lt 15, 3) := by decide +kernel
theorem d3_8 : decode prog_49_method_2_code 8 = .ok (.lload_n 0, 1) := by decide +kernel
theorem d3_9 : decode prog_49_method_2_code 9 = .ok (.ldc2_w 11, 3) := by decide +kernel
theorem d3_12 : decode prog_49_method_2_code 12 = .ok (.lcmp, 1) := by decide +kernel
theorem d3_13 : decode prog_49_method_2_code 13 = .ok (.ifCond .gt 7, 3) := by decide +kernel
theorem d3_16 : decode prog_49_method_2_code 16 = .ok (.iconst 1, 1) := by decide +kernel
theorem d3_17 : decode prog_49_method_2_code 17 = .ok (.goto 4, 3) := by decide +kernel
theorem d3_20 : decode prog_49_method_2_code 20 = .ok (.iconst 0, 1) := by decide +kernel
theorem d3_21 : decode prog_49_method_2_code 21 = .ok (.ireturn, 1) := by decide +kernel
theorem own_pn_3 : plainName "com/example/triform/triform/Timestamps" = true := by first | (simp [plainName, overriddenIn]; done) | decide +kernel
theorem own_ef_3 (m : MethodId) (q1 : Int64) : entryFrame m #[(.long q1)] 2 = mkF m 0 #[.val (.long q1), .second] [] := by first | (simp [entryFrame, mkF, argsToLocals, Value.category]; done) | rfl
abbrev own_R3 : Room := { frames := 0, cells := 0, slots := 0, locals := 0 }
def own_Q3 (Z : State) (q1 : Int64) (h0 : Heap) (n0 : Nat) (v : Option Value) (h : Heap) (L : List Loc) : Prop := ∃ r : Int32, v = some (.int r) ∧ own_B r (-62135596800 ≤ q1.toInt ∧ q1.toInt ≤ 253402300799) ∧ Fr n0 L ∧ h = h0
set_option maxRecDepth 65536 in
set_option maxHeartbeats 40000000 in
theorem rm3 (l : Launch) (Z : State) (a0 : Array Value) (hw : ∀ d ∈ tables_1, d.before a0 Z = true) (ws : List Jvm.Cond) (q1 : Int64) (h0 : Heap) (n0 : Nat) (Z0 : n0 ≤ h0.size) :
    MetFree l (⟨"com/example/triform/triform/Timestamps", "inRange", "(J)Z"⟩ : MethodName) (head1 (Jvm.Cond.code (⟨"com/example/triform/triform/Timestamps", "inRange", "(J)Z"⟩ : MethodName) prog_49_method_2_code 2 (some .boolean) :: ws) own_R3) (fun a U => a = #[(.long q1)] ∧ Z.Warmed39 U.vm ∧ U.heap = h0) (fun _ _ _ _ _ => True) (fun _ U o U' => ∃ v L, o = .returned v ∧ own_Q3 Z q1 h0 n0 v U'.heap L ∧ FrameEnd U o U' L own_R3.cells own_R3.slots) := by
  refine MetFree.of_bodySF (plainFor_of_name own_pn_3) hisR ?_
  intro p e s m args below meth c s₁ Bd hml0 hP hK
  obtain ⟨rfl, hZ, hh⟩ := hP
  have hx := Bd.exec
  have hby := Bd.bytes
  have hlk := BodyLoose.notSynchronized Bd
  have hml : c.maxLocals = 2 := hml0
  have hown : s.vm.findClass "com/example/triform/triform/Timestamps" = some m.cls := (findClass_of_methodNamed Bd.named : s.vm.findClass (⟨"com/example/triform/triform/Timestamps", "inRange", "(J)Z"⟩ : MethodName).cls = some m.cls)
  have hnm := (name_of_methodNamed Bd.named Bd.method).1
  have X0 : Stand p l e own_R3 s m #[(.long q1)] below meth c s₁ [] 0 0 := Stand.of_body Bd
  have e0 : s₁.heap = h0 := by rw [← hh, Bd.state]; rfl
  have Nf := Fr.nil n0
  have Zs := Z0
  show own_Fin p e below s (own_Q3 Z q1 h0 n0) 0 0 s₁ (entryFrame m #[(.long q1)] 2)
  rw [own_ef_3 m q1]
  show own_Fin _ _ _ _ _ _ _ _ (mkF m 0 #[.val (.long q1), .second] [])
  refine own_step (fun t k => XS.lloadN X0.here hx rfl (hb hby d3_0) rfl k) ?_
  show own_Fin _ _ _ _ _ _ _ _ (mkF m 1 #[.val (.long q1), .second] [(.long q1)])
  refine own_step (fun t k => X0.ldc2Long hx hown (mvT hZ (hw _ (List.mem_of_getElem? (i := 18) rfl))) (g := (mkF m 1 #[.val (.long q1), .second] [(.long q1)])) rfl (hb hby d3_1) _ k) ?_
  show own_Fin _ _ _ _ _ _ _ _ (mkF m 4 #[.val (.long q1), .second] [(.long (-62135596800 : Int64)), (.long q1)])
  refine own_step (fun t k => XS.lcmp X0.here hx rfl (hb hby d3_4) rfl k) ?_
  show own_Fin _ _ _ _ _ _ _ _ (mkF m 5 #[.val (.long q1), .second] [(.int (lcmpW q1 (-62135596800 : Int64)))])
  by_cases hc1 : (q1).toInt < (-62135596800)
  · skip
    refine own_step (fun t k => XS.ifYes X0.here hx rfl (pc0 := 5) (pc' := 20) rfl (hb hby d3_5) rfl (own_ll (x := q1) (y := (-62135596800 : Int64)) rfl rfl hc1).1 (by decide) (by decide) k) ?_
    show own_Fin _ _ _ _ _ _ _ _ (mkF m 20 #[.val (.long q1), .second] [])
    refine own_step (fun t k => XS.iconst X0.here hx rfl (hb hby d3_20) k) ?_
    show own_Fin _ _ _ _ _ _ _ _ (mkF m 21 #[.val (.long q1), .second] [(.int (0 : Int32))])
    refine own_retZ X0 hx hlk Bd.returns (hb hby d3_21) (z' := (0 : Int32)) (by decide) (by decide) (by decide) e0 ?_
    exact ⟨_, rfl, own_B0 (by omega), Nf, rfl⟩
  · skip
    refine own_step (fun t k => XS.ifNo X0.here hx rfl (hb hby d3_5) rfl (own_ln (x := q1) (y := (-62135596800 : Int64)) rfl rfl hc1).1 k) ?_
    show own_Fin _ _ _ _ _ _ _ _ (mkF m 8 #[.val (.long q1), .second] [])
    refine own_step (fun t k => XS.lloadN X0.here hx rfl (hb hby d3_8) rfl k) ?_
    show own_Fin _ _ _ _ _ _ _ _ (mkF m 9 #[.val (.long q1), .second] [(.long q1)])
    refine own_step (fun t k => X0.ldc2Long hx hown (mvT hZ (hw _ (List.mem_of_getElem? (i := 19) rfl))) (g := (mkF m 9 #[.val (.long q1), .second] [(.long q1)])) rfl (hb hby d3_9) _ k) ?_
    show own_Fin _ _ _ _ _ _ _ _ (mkF m 12 #[.val (.long q1), .second] [(.long (253402300799 : Int64)), (.long q1)])
    refine own_step (fun t k => XS.lcmp X0.here hx rfl (hb hby d3_12) rfl k) ?_
    show own_Fin _ _ _ _ _ _ _ _ (mkF m 13 #[.val (.long q1), .second] [(.int (lcmpW q1 (253402300799 : Int64)))])
    by_cases hc2 : 253402300799 < (q1).toInt
    · skip
      refine own_step (fun t k => XS.ifYes X0.here hx rfl (pc0 := 13) (pc' := 20) rfl (hb hby d3_13) rfl (own_ll (x := (253402300799 : Int64)) (y := q1) rfl rfl hc2).2.2.1 (by decide) (by decide) k) ?_
      show own_Fin _ _ _ _ _ _ _ _ (mkF m 20 #[.val (.long q1), .second] [])
      refine own_step (fun t k => XS.iconst X0.here hx rfl (hb hby d3_20) k) ?_
      show own_Fin _ _ _ _ _ _ _ _ (mkF m 21 #[.val (.long q1), .second] [(.int (0 : Int32))])
      refine own_retZ X0 hx hlk Bd.returns (hb hby d3_21) (z' := (0 : Int32)) (by decide) (by decide) (by decide) e0 ?_
      exact ⟨_, rfl, own_B0 (by omega), Nf, rfl⟩
    · skip
      refine own_step (fun t k => XS.ifNo X0.here hx rfl (hb hby d3_13) rfl (own_ln (x := (253402300799 : Int64)) (y := q1) rfl rfl hc2).2.2.1 k) ?_
      show own_Fin _ _ _ _ _ _ _ _ (mkF m 16 #[.val (.long q1), .second] [])
      refine own_step (fun t k => XS.iconst X0.here hx rfl (hb hby d3_16) k) ?_
      show own_Fin _ _ _ _ _ _ _ _ (mkF m 17 #[.val (.long q1), .second] [(.int (1 : Int32))])
      refine own_step (fun t k => XS.goto X0.here hx rfl (pc0 := 17) (pc' := 21) rfl (hb hby d3_17) (by decide) (by decide) k) ?_
      show own_Fin _ _ _ _ _ _ _ _ (mkF m 21 #[.val (.long q1), .second] [(.int (1 : Int32))])
      refine own_retZ X0 hx hlk Bd.returns (hb hby d3_21) (z' := (1 : Int32)) (by decide) (by decide) (by decide) e0 ?_
      exact ⟨_, rfl, own_B1 (by omega), Nf, rfl⟩
theorem own_pd_1 : parseMethodDescriptor "(J)Z" = some ⟨[.long], some .boolean⟩ := by decide +kernel
theorem own_pn_0 : plainName "com/example/triform/triform/TimestampsInRangePinLaw" = true := by first | (simp [plainName, overriddenIn]; done) | decide +kernel
theorem own_ef_0 (m : MethodId) (q1 : Int64) (p2 : Int32) (p3 : Int32) : entryFrame m #[(.long q1), (.int p2), (.int p3)] maxLocals = mkF m 0 #[.val (.long q1), .second, .val (.int p2), .val (.int p3), .unset, .unset, .unset, .unset, .unset, .unset, .unset, .unset, .unset, .unset, .unset, .unset] [] := by first | (simp [entryFrame, mkF, argsToLocals, Value.category, maxLocals]; done) | rfl
def own_Q0 (Z : State) (q1 : Int64) (p2 : Int32) (p3 : Int32) (h0 : Heap) (n0 : Nat) (v : Option Value) (h : Heap) (L : List Loc) : Prop := v = some (.int 1) ∧ Fr n0 L
set_option maxRecDepth 65536 in
set_option maxHeartbeats 40000000 in
theorem rm0 (l : Launch) (Z : State) (a0 : Array Value) (hw : ∀ d ∈ tables_1, d.before a0 Z = true) (ws : List Jvm.Cond) (q1 : Int64) (p2 : Int32) (p3 : Int32) (h0 : Heap) (n0 : Nat) (Z0 : n0 ≤ h0.size) :
    MetFree l x (head1 (Jvm.Cond.code x code maxLocals ret :: ws) room_1) (fun a U => a = #[(.long q1), (.int p2), (.int p3)] ∧ Z.Warmed39 U.vm ∧ U.heap = h0) (fun _ _ _ _ _ => True) (fun _ U o U' => ∃ v L, o = .returned v ∧ own_Q0 Z q1 p2 p3 h0 n0 v U'.heap L ∧ FrameEnd U o U' L 0 0) := by
  refine MetFree.of_bodySF (plainFor_of_name own_pn_0) hisR ?_
  intro p e s m args below meth c s₁ Bd hml0 hP hK
  obtain ⟨rfl, hZ, hh⟩ := hP
  have hx := Bd.exec
  have hby := Bd.bytes
  have hlk := BodyLoose.notSynchronized Bd
  have hml : c.maxLocals = 16 := hml0
  have hown : s.vm.findClass "com/example/triform/triform/TimestampsInRangePinLaw" = some m.cls := (findClass_of_methodNamed Bd.named : s.vm.findClass x.cls = some m.cls)
  have hnm := (name_of_methodNamed Bd.named Bd.method).1
  have X0 : Stand p l e room_1 s m #[(.long q1), (.int p2), (.int p3)] below meth c s₁ [] 0 0 := Stand.of_body Bd
  have e0 : s₁.heap = h0 := by rw [← hh, Bd.state]; rfl
  have Nf := Fr.nil n0
  have Zs := Z0
  show own_Fin p e below s (own_Q0 Z q1 p2 p3 h0 n0) 0 0 s₁ (entryFrame m #[(.long q1), (.int p2), (.int p3)] maxLocals)
  rw [own_ef_0 m q1 p2 p3]
  show own_Fin _ _ _ _ _ _ _ _ (mkF m 0 #[.val (.long q1), .second, .val (.int p2), .val (.int p3), .unset, .unset, .unset, .unset, .unset, .unset, .unset, .unset, .unset, .unset, .unset, .unset] [])
  obtain ⟨Ls1, hLs1⟩ : ∃ z : Array Slot, z = #[.val (.long q1), .second, .val (.int p2), .val (.int p3), .unset, .unset, .unset, .unset, .unset, .unset, .unset, .unset, .unset, .unset, .unset, .unset] := ⟨_, rfl⟩
  rw [← hLs1]
  refine own_step (fun t k => X0.ldc2Long hx hown (mvT hZ (hw _ (List.mem_of_getElem? (i := 0) rfl))) (g := (mkF m 0 Ls1 [])) rfl (hb hby at_0) _ k) ?_
  show own_Fin _ _ _ _ _ _ _ _ (mkF m 3 Ls1 [(.long (1970 : Int64))])
  obtain ⟨_, _, ⟨T2, L2, k2, n2⟩, -, X2, ⟨Lc2, hQ2, l2, y2, z2⟩, st2⟩ := Jvm.LawKit.callS X0 hx (y := (⟨"com/example/triform/triform/TimestampsInRangePinLaw", "daysBeforeYear", "(J)J"⟩ : MethodName)) hown (mvT hZ (hw _ (List.mem_of_getElem? (i := 1) rfl))) (mvT hZ (hw _ (List.mem_of_getElem? (i := 2) rfl))) (mvT hZ (hw _ (List.mem_of_getElem? (i := 3) rfl))) (mvT hZ (hw _ (List.mem_of_getElem? (i := 4) rfl))) (by decide) (backOf (W := 0) (rm2 l Z a0 hw [] (1970 : Int64) h0 n0 Zs) hZ (hw _ (List.mem_of_getElem? (i := 4) rfl)) (hw _ (List.mem_of_getElem? (i := 3) rfl)) (by decide) (by decide)) (g := (mkF m 3 Ls1 [(.long (1970 : Int64))])) rfl (by rw [hml]; show Array.size Ls1 = _; rw [hLs1]; rfl) (argsL := [(.long (1970 : Int64))]) (rest := []) (lenOf own_pd_0 rfl) rfl (by show 2 * 0 + _ ≤ _; exact Nat.le_of_eq rfl) (hb hby at_3) (fun _ _ => ⟨rfl, e0, (by decide : 0 + 0 ≤ _), (by decide : 0 + 0 ≤ _)⟩)
  dsimp only [Pt.U, Pt.locs, Pt.cells, Pt.slots] at X2 l2 y2 z2 st2 hQ2
  subst l2 y2 z2
  obtain ⟨rfl, Nq2, hh2⟩ := hQ2
  replace Nf := Fr.app Nf Nq2
  refine own_step st2 ?_
  show own_Fin _ _ _ _ _ _ _ _ (mkF m 6 Ls1 [(.long ((((1970 : Int64) - (1 : Int64)) * (365 : Int64)) + (((((1970 : Int64) - (1 : Int64)) / (4 : Int64)) - (((1970 : Int64) - (1 : Int64)) / (100 : Int64))) + (((1970 : Int64) - (1 : Int64)) / (400 : Int64)))))])
  rw [(by decide +kernel : ((((1970 : Int64) - (1 : Int64)) * (365 : Int64)) + (((((1970 : Int64) - (1 : Int64)) / (4 : Int64)) - (((1970 : Int64) - (1 : Int64)) / (100 : Int64))) + (((1970 : Int64) - (1 : Int64)) / (400 : Int64)))) = (719162 : Int64))]
  obtain ⟨Ls3, hLs3⟩ : ∃ z : Array Slot, z = #[.val (.long q1), .second, .val (.int p2), .val (.int p3), .val (.long (719162 : Int64)), .second, .unset, .unset, .unset, .unset, .unset, .unset, .unset, .unset, .unset, .unset] := ⟨_, rfl⟩
  refine own_step (fun t k => XS.lstore X2.here hx rfl (hb hby at_6) rfl (l' := Ls3) (by rw [hLs1, hLs3]; rfl) k) ?_
  show own_Fin _ _ _ _ _ _ _ _ (mkF m 8 Ls3 [])
  refine own_step (fun t k => XS.lconst X2.here hx rfl (hb hby at_8) k) ?_
  show own_Fin _ _ _ _ _ _ _ _ (mkF m 9 Ls3 [(.long (1 : Int64))])
  obtain ⟨_, _, ⟨T4, L4, k4, n4⟩, -, X4, ⟨Lc4, hQ4, l4, y4, z4⟩, st4⟩ := Jvm.LawKit.callS X2 hx (y := (⟨"com/example/triform/triform/TimestampsInRangePinLaw", "daysBeforeYear", "(J)J"⟩ : MethodName)) hown (mvT hZ (hw _ (List.mem_of_getElem? (i := 1) rfl))) (mvT hZ (hw _ (List.mem_of_getElem? (i := 2) rfl))) (mvT hZ (hw _ (List.mem_of_getElem? (i := 3) rfl))) (mvT hZ (hw _ (List.mem_of_getElem? (i := 4) rfl))) (by decide) (backOf (W := 0) (rm2 l Z a0 hw [] (1 : Int64) h0 n0 Zs) hZ (hw _ (List.mem_of_getElem? (i := 4) rfl)) (hw _ (List.mem_of_getElem? (i := 3) rfl)) (by decide) (by decide)) (g := (mkF m 9 Ls3 [(.long (1 : Int64))])) rfl (by rw [hml]; show Array.size Ls3 = _; rw [hLs3]; rfl) (argsL := [(.long (1 : Int64))]) (rest := []) (lenOf own_pd_0 rfl) rfl (by show 2 * 0 + _ ≤ _; exact Nat.le_of_eq rfl) (hb hby at_9) (fun _ _ => ⟨rfl, hh2, (by decide : 0 + 0 ≤ _), (by decide : 0 + 0 ≤ _)⟩)
  dsimp only [Pt.U, Pt.locs, Pt.cells, Pt.slots] at X4 l4 y4 z4 st4 hQ4
  subst l4 y4 z4
  obtain ⟨rfl, Nq4, hh4⟩ := hQ4
  replace Nf := Fr.app Nf Nq4
  refine own_step st4 ?_
  show own_Fin _ _ _ _ _ _ _ _ (mkF m 12 Ls3 [(.long ((((1 : Int64) - (1 : Int64)) * (365 : Int64)) + (((((1 : Int64) - (1 : Int64)) / (4 : Int64)) - (((1 : Int64) - (1 : Int64)) / (100 : Int64))) + (((1 : Int64) - (1 : Int64)) / (400 : Int64)))))])
  rw [(by decide +kernel : ((((1 : Int64) - (1 : Int64)) * (365 : Int64)) + (((((1 : Int64) - (1 : Int64)) / (4 : Int64)) - (((1 : Int64) - (1 : Int64)) / (100 : Int64))) + (((1 : Int64) - (1 : Int64)) / (400 : Int64)))) = (0 : Int64))]
  refine own_step (fun t k => XS.lload (v := (719162 : Int64)) X4.here hx rfl (hb hby at_12) (by rw [hLs3]; rfl) k) ?_
  show own_Fin _ _ _ _ _ _ _ _ (mkF m 14 Ls3 [(.long (719162 : Int64)), (.long (0 : Int64))])
  refine own_step (fun t k => XS.lsub X4.here hx rfl (hb hby at_14) rfl k) ?_
  show own_Fin _ _ _ _ _ _ _ _ (mkF m 15 Ls3 [(.long (-719162 : Int64))])
  refine own_step (fun t k => X4.ldc2Long hx hown (mvT hZ (hw _ (List.mem_of_getElem? (i := 12) rfl))) (g := (mkF m 15 Ls3 [(.long (-719162 : Int64))])) rfl (hb hby at_15) _ k) ?_
  show own_Fin _ _ _ _ _ _ _ _ (mkF m 18 Ls3 [(.long (86400 : Int64)), (.long (-719162 : Int64))])
  refine own_step (fun t k => XS.lmul X4.here hx rfl (hb hby at_18) rfl k) ?_
  show own_Fin _ _ _ _ _ _ _ _ (mkF m 19 Ls3 [(.long (-62135596800 : Int64))])
  obtain ⟨Ls5, hLs5⟩ : ∃ z : Array Slot, z = #[.val (.long q1), .second, .val (.int p2), .val (.int p3), .val (.long (719162 : Int64)), .second, .val (.long (-62135596800 : Int64)), .second, .unset, .unset, .unset, .unset, .unset, .unset, .unset, .unset] := ⟨_, rfl⟩
  refine own_step (fun t k => XS.lstore X4.here hx rfl (hb hby at_19) rfl (l' := Ls5) (by rw [hLs3, hLs5]; rfl) k) ?_
  show own_Fin _ _ _ _ _ _ _ _ (mkF m 21 Ls5 [])
  refine own_step (fun t k => X4.ldc2Long hx hown (mvT hZ (hw _ (List.mem_of_getElem? (i := 13) rfl))) (g := (mkF m 21 Ls5 [])) rfl (hb hby at_21) _ k) ?_
  show own_Fin _ _ _ _ _ _ _ _ (mkF m 24 Ls5 [(.long (10000 : Int64))])
  obtain ⟨_, _, ⟨T6, L6, k6, n6⟩, -, X6, ⟨Lc6, hQ6, l6, y6, z6⟩, st6⟩ := Jvm.LawKit.callS X4 hx (y := (⟨"com/example/triform/triform/TimestampsInRangePinLaw", "daysBeforeYear", "(J)J"⟩ : MethodName)) hown (mvT hZ (hw _ (List.mem_of_getElem? (i := 1) rfl))) (mvT hZ (hw _ (List.mem_of_getElem? (i := 2) rfl))) (mvT hZ (hw _ (List.mem_of_getElem? (i := 3) rfl))) (mvT hZ (hw _ (List.mem_of_getElem? (i := 4) rfl))) (by decide) (backOf (W := 0) (rm2 l Z a0 hw [] (10000 : Int64) h0 n0 Zs) hZ (hw _ (List.mem_of_getElem? (i := 4) rfl)) (hw _ (List.mem_of_getElem? (i := 3) rfl)) (by decide) (by decide)) (g := (mkF m 24 Ls5 [(.long (10000 : Int64))])) rfl (by rw [hml]; show Array.size Ls5 = _; rw [hLs5]; rfl) (argsL := [(.long (10000 : Int64))]) (rest := []) (lenOf own_pd_0 rfl) rfl (by show 2 * 0 + _ ≤ _; exact Nat.le_of_eq rfl) (hb hby at_24) (fun _ _ => ⟨rfl, hh4, (by decide : 0 + 0 ≤ _), (by decide : 0 + 0 ≤ _)⟩)
  dsimp only [Pt.U, Pt.locs, Pt.cells, Pt.slots] at X6 l6 y6 z6 st6 hQ6
  subst l6 y6 z6
  obtain ⟨rfl, Nq6, hh6⟩ := hQ6
  replace Nf := Fr.app Nf Nq6
  refine own_step st6 ?_
  show own_Fin _ _ _ _ _ _ _ _ (mkF m 27 Ls5 [(.long ((((10000 : Int64) - (1 : Int64)) * (365 : Int64)) + (((((10000 : Int64) - (1 : Int64)) / (4 : Int64)) - (((10000 : Int64) - (1 : Int64)) / (100 : Int64))) + (((10000 : Int64) - (1 : Int64)) / (400 : Int64)))))])
  rw [(by decide +kernel : ((((10000 : Int64) - (1 : Int64)) * (365 : Int64)) + (((((10000 : Int64) - (1 : Int64)) / (4 : Int64)) - (((10000 : Int64) - (1 : Int64)) / (100 : Int64))) + (((10000 : Int64) - (1 : Int64)) / (400 : Int64)))) = (3652059 : Int64))]
  refine own_step (fun t k => XS.lload (v := (719162 : Int64)) X6.here hx rfl (hb hby at_27) (by rw [hLs5]; rfl) k) ?_
  show own_Fin _ _ _ _ _ _ _ _ (mkF m 29 Ls5 [(.long (719162 : Int64)), (.long (3652059 : Int64))])
  refine own_step (fun t k => XS.lsub X6.here hx rfl (hb hby at_29) rfl k) ?_
  show own_Fin _ _ _ _ _ _ _ _ (mkF m 30 Ls5 [(.long (2932897 : Int64))])
  refine own_step (fun t k => X6.ldc2Long hx hown (mvT hZ (hw _ (List.mem_of_getElem? (i := 12) rfl))) (g := (mkF m 30 Ls5 [(.long (2932897 : Int64))])) rfl (hb hby at_30) _ k) ?_
  show own_Fin _ _ _ _ _ _ _ _ (mkF m 33 Ls5 [(.long (86400 : Int64)), (.long (2932897 : Int64))])
  refine own_step (fun t k => XS.lmul X6.here hx rfl (hb hby at_33) rfl k) ?_
  show own_Fin _ _ _ _ _ _ _ _ (mkF m 34 Ls5 [(.long (253402300800 : Int64))])
  refine own_step (fun t k => XS.lconst X6.here hx rfl (hb hby at_34) k) ?_
  show own_Fin _ _ _ _ _ _ _ _ (mkF m 35 Ls5 [(.long (1 : Int64)), (.long (253402300800 : Int64))])
  refine own_step (fun t k => XS.lsub X6.here hx rfl (hb hby at_35) rfl k) ?_
  show own_Fin _ _ _ _ _ _ _ _ (mkF m 36 Ls5 [(.long (253402300799 : Int64))])
  obtain ⟨Ls7, hLs7⟩ : ∃ z : Array Slot, z = #[.val (.long q1), .second, .val (.int p2), .val (.int p3), .val (.long (719162 : Int64)), .second, .val (.long (-62135596800 : Int64)), .second, .val (.long (253402300799 : Int64)), .second, .unset, .unset, .unset, .unset, .unset, .unset] := ⟨_, rfl⟩
  refine own_step (fun t k => XS.lstore X6.here hx rfl (hb hby at_36) rfl (l' := Ls7) (by rw [hLs5, hLs7]; rfl) k) ?_
  show own_Fin _ _ _ _ _ _ _ _ (mkF m 38 Ls7 [])
  refine own_step (fun t k => XS.iloadN (v := p3) X6.here hx rfl (hb hby at_38) (by rw [hLs7]; rfl) k) ?_
  show own_Fin _ _ _ _ _ _ _ _ (mkF m 39 Ls7 [(.int p3)])
  refine own_step (fun t k => XS.bipush X6.here hx rfl (hb hby at_39) k) ?_
  show own_Fin _ _ _ _ _ _ _ _ (mkF m 41 Ls7 [(.int (7 : Int32)), (.int p3)])
  refine own_step (fun t k => XS.iand X6.here hx rfl (hb hby at_41) rfl k) ?_
  show own_Fin _ _ _ _ _ _ _ _ (mkF m 42 Ls7 [(.int (p3 &&& (7 : Int32)))])
  refine own_step (fun t k => XS.iconst X6.here hx rfl (hb hby at_42) k) ?_
  show own_Fin _ _ _ _ _ _ _ _ (mkF m 43 Ls7 [(.int (4 : Int32)), (.int (p3 &&& (7 : Int32)))])
  refine own_step (fun t k => XS.isub X6.here hx rfl (hb hby at_43) rfl k) ?_
  show own_Fin _ _ _ _ _ _ _ _ (mkF m 44 Ls7 [(.int ((p3 &&& (7 : Int32)) - (4 : Int32)))])
  refine own_step (fun t k => XS.i2l X6.here hx rfl (hb hby at_44) rfl k) ?_
  show own_Fin _ _ _ _ _ _ _ _ (mkF m 45 Ls7 [(.long (((p3 &&& (7 : Int32)) - (4 : Int32)).toInt64))])
  obtain ⟨Ls8, hLs8⟩ : ∃ z : Array Slot, z = #[.val (.long q1), .second, .val (.int p2), .val (.int p3), .val (.long (719162 : Int64)), .second, .val (.long (-62135596800 : Int64)), .second, .val (.long (253402300799 : Int64)), .second, .val (.long (((p3 &&& (7 : Int32)) - (4 : Int32)).toInt64)), .second, .unset, .unset, .unset, .unset] := ⟨_, rfl⟩
  refine own_step (fun t k => XS.lstore X6.here hx rfl (hb hby at_45) rfl (l' := Ls8) (by rw [hLs7, hLs8]; rfl) k) ?_
  show own_Fin _ _ _ _ _ _ _ _ (mkF m 47 Ls8 [])
  refine own_step (fun t k => XS.iloadN (v := p2) X6.here hx rfl (hb hby at_47) (by rw [hLs8]; rfl) k) ?_
  show own_Fin _ _ _ _ _ _ _ _ (mkF m 48 Ls8 [(.int p2)])
  refine own_step (fun t k => XS.iconst X6.here hx rfl (hb hby at_48) k) ?_
  show own_Fin _ _ _ _ _ _ _ _ (mkF m 49 Ls8 [(.int (3 : Int32)), (.int p2)])
  refine own_step (fun t k => XS.iand X6.here hx rfl (hb hby at_49) rfl k) ?_
  show own_Fin _ _ _ _ _ _ _ _ (mkF m 50 Ls8 [(.int (p2 &&& (3 : Int32)))])
  obtain ⟨Ls9, hLs9⟩ : ∃ z : Array Slot, z = #[.val (.long q1), .second, .val (.int p2), .val (.int p3), .val (.long (719162 : Int64)), .second, .val (.long (-62135596800 : Int64)), .second, .val (.long (253402300799 : Int64)), .second, .val (.long (((p3 &&& (7 : Int32)) - (4 : Int32)).toInt64)), .second, .val (.int (p2 &&& (3 : Int32))), .unset, .unset, .unset] := ⟨_, rfl⟩
  refine own_step (fun t k => XS.istore X6.here hx rfl (hb hby at_50) rfl (l' := Ls9) (by rw [hLs8, hLs9]; rfl) k) ?_
  show own_Fin _ _ _ _ _ _ _ _ (mkF m 52 Ls9 [])
  have j102 : ∀ (xx : Int64), own_Fin p e below s (own_Q0 Z q1 p2 p3 h0 n0) 0 0 T6 (mkF m 102 #[.val (.long q1), .second, .val (.int p2), .val (.int p3), .val (.long (719162 : Int64)), .second, .val (.long (-62135596800 : Int64)), .second, .val (.long (253402300799 : Int64)), .second, .val (.long (((p3 &&& (7 : Int32)) - (4 : Int32)).toInt64)), .second, .val (.int (p2 &&& (3 : Int32))), .val (.long xx), .second, .unset] []) := by
    intro xx
    obtain ⟨Ls10, hLs10⟩ : ∃ z : Array Slot, z = #[.val (.long q1), .second, .val (.int p2), .val (.int p3), .val (.long (719162 : Int64)), .second, .val (.long (-62135596800 : Int64)), .second, .val (.long (253402300799 : Int64)), .second, .val (.long (((p3 &&& (7 : Int32)) - (4 : Int32)).toInt64)), .second, .val (.int (p2 &&& (3 : Int32))), .val (.long xx), .second, .unset] := ⟨_, rfl⟩
    rw [← hLs10]
    have j123 : ∀ bb11 : Int32, own_B bb11 (-62135596800 ≤ xx.toInt ∧ xx.toInt ≤ 253402300799) → own_Fin p e below s (own_Q0 Z q1 p2 p3 h0 n0) 0 0 T6 (mkF m 123 #[.val (.long q1), .second, .val (.int p2), .val (.int p3), .val (.long (719162 : Int64)), .second, .val (.long (-62135596800 : Int64)), .second, .val (.long (253402300799 : Int64)), .second, .val (.long (((p3 &&& (7 : Int32)) - (4 : Int32)).toInt64)), .second, .val (.int (p2 &&& (3 : Int32))), .val (.long xx), .second, .unset] [(.int bb11)]) := by
      intro bb11 hbb11
      obtain ⟨Ls12, hLs12⟩ : ∃ z : Array Slot, z = #[.val (.long q1), .second, .val (.int p2), .val (.int p3), .val (.long (719162 : Int64)), .second, .val (.long (-62135596800 : Int64)), .second, .val (.long (253402300799 : Int64)), .second, .val (.long (((p3 &&& (7 : Int32)) - (4 : Int32)).toInt64)), .second, .val (.int (p2 &&& (3 : Int32))), .val (.long xx), .second, .unset] := ⟨_, rfl⟩
      rw [← hLs12]
      obtain ⟨Ls13, hLs13⟩ : ∃ z : Array Slot, z = #[.val (.long q1), .second, .val (.int p2), .val (.int p3), .val (.long (719162 : Int64)), .second, .val (.long (-62135596800 : Int64)), .second, .val (.long (253402300799 : Int64)), .second, .val (.long (((p3 &&& (7 : Int32)) - (4 : Int32)).toInt64)), .second, .val (.int (p2 &&& (3 : Int32))), .val (.long xx), .second, .val (.int bb11)] := ⟨_, rfl⟩
      refine own_step (fun t k => XS.istore X6.here hx rfl (hb hby at_123) rfl (l' := Ls13) (by rw [hLs12, hLs13]; rfl) k) ?_
      show own_Fin _ _ _ _ _ _ _ _ (mkF m 125 Ls13 [])
      refine own_step (fun t k => XS.lload (v := xx) X6.here hx rfl (hb hby at_125) (by rw [hLs13]; rfl) k) ?_
      show own_Fin _ _ _ _ _ _ _ _ (mkF m 127 Ls13 [(.long xx)])
      obtain ⟨_, _, ⟨T14, L14, k14, n14⟩, -, X14, ⟨Lc14, hQ14, l14, y14, z14⟩, st14⟩ := Jvm.LawKit.callS X6 hx (y := (⟨"com/example/triform/triform/Timestamps", "inRange", "(J)Z"⟩ : MethodName)) hown (mvT hZ (hw _ (List.mem_of_getElem? (i := 14) rfl))) (mvT hZ (hw _ (List.mem_of_getElem? (i := 15) rfl))) (mvT hZ (hw _ (List.mem_of_getElem? (i := 16) rfl))) (mvT hZ (hw _ (List.mem_of_getElem? (i := 17) rfl))) (by decide) (backOf (W := 0) (rm3 l Z a0 hw [] xx h0 n0 Zs) hZ (hw _ (List.mem_of_getElem? (i := 17) rfl)) (hw _ (List.mem_of_getElem? (i := 16) rfl)) (by decide) (by decide)) (g := (mkF m 127 Ls13 [(.long xx)])) rfl (by rw [hml]; show Array.size Ls13 = _; rw [hLs13]; rfl) (argsL := [(.long xx)]) (rest := []) (lenOf own_pd_1 rfl) rfl (by show 2 * 0 + _ ≤ _; exact Nat.le_of_eq rfl) (hb hby at_127) (fun _ _ => ⟨rfl, hh6, (by decide : 0 + 0 ≤ _), (by decide : 0 + 0 ≤ _)⟩)
      dsimp only [Pt.U, Pt.locs, Pt.cells, Pt.slots] at X14 l14 y14 z14 st14 hQ14
      subst l14 y14 z14
      obtain ⟨r14, rfl, hB14, Nq14, hh14⟩ := hQ14
      replace Nf := Fr.app Nf Nq14
      refine own_step st14 ?_
      show own_Fin _ _ _ _ _ _ _ _ (mkF m 130 Ls13 [(.int r14)])
      refine own_step (fun t k => XS.iload (v := bb11) X14.here hx rfl (hb hby at_130) (by rw [hLs13]; rfl) k) ?_
      show own_Fin _ _ _ _ _ _ _ _ (mkF m 132 Ls13 [(.int bb11), (.int r14)])
      have hc15 : (r14).toInt = (bb11).toInt := by omega
      refine own_step (fun t k => XS.icmpNo X14.here hx rfl (hb hby at_132) rfl (own_ce (x := r14) (y := bb11) rfl rfl hc15).2 k) ?_
      show own_Fin _ _ _ _ _ _ _ _ (mkF m 135 Ls13 [])
      refine own_step (fun t k => XS.iconst X14.here hx rfl (hb hby at_135) k) ?_
      show own_Fin _ _ _ _ _ _ _ _ (mkF m 136 Ls13 [(.int (1 : Int32))])
      refine own_step (fun t k => XS.goto X14.here hx rfl (pc0 := 136) (pc' := 140) rfl (hb hby at_136) (by decide) (by decide) k) ?_
      show own_Fin _ _ _ _ _ _ _ _ (mkF m 140 Ls13 [(.int (1 : Int32))])
      refine own_retZ X14 hx hlk Bd.returns (hb hby at_140) (z' := (1 : Int32)) (by decide) (by decide) (by decide) hh14 ?_
      exact ⟨rfl, Nf⟩
    refine own_step (fun t k => XS.lload (v := (-62135596800 : Int64)) X6.here hx rfl (hb hby at_102) (by rw [hLs10]; rfl) k) ?_
    show own_Fin _ _ _ _ _ _ _ _ (mkF m 104 Ls10 [(.long (-62135596800 : Int64))])
    refine own_step (fun t k => XS.lload (v := xx) X6.here hx rfl (hb hby at_104) (by rw [hLs10]; rfl) k) ?_
    show own_Fin _ _ _ _ _ _ _ _ (mkF m 106 Ls10 [(.long xx), (.long (-62135596800 : Int64))])
    refine own_step (fun t k => XS.lcmp X6.here hx rfl (hb hby at_106) rfl k) ?_
    show own_Fin _ _ _ _ _ _ _ _ (mkF m 107 Ls10 [(.int (lcmpW (-62135596800 : Int64) xx))])
    by_cases hc16 : (xx).toInt < (-62135596800)
    · skip
      refine own_step (fun t k => XS.ifYes X6.here hx rfl (pc0 := 107) (pc' := 122) rfl (hb hby at_107) rfl (own_ll (x := xx) (y := (-62135596800 : Int64)) rfl rfl hc16).2.2.1 (by decide) (by decide) k) ?_
      show own_Fin _ _ _ _ _ _ _ _ (mkF m 122 Ls10 [])
      refine own_step (fun t k => XS.iconst X6.here hx rfl (hb hby at_122) k) ?_
      show own_Fin _ _ _ _ _ _ _ _ (mkF m 123 Ls10 [(.int (0 : Int32))])
      subst hLs10; exact j123 _ (own_B0 (by omega))
    · skip
      refine own_step (fun t k => XS.ifNo X6.here hx rfl (hb hby at_107) rfl (own_ln (x := xx) (y := (-62135596800 : Int64)) rfl rfl hc16).2.2.1 k) ?_
      show own_Fin _ _ _ _ _ _ _ _ (mkF m 110 Ls10 [])
      refine own_step (fun t k => XS.lload (v := xx) X6.here hx rfl (hb hby at_110) (by rw [hLs10]; rfl) k) ?_
      show own_Fin _ _ _ _ _ _ _ _ (mkF m 112 Ls10 [(.long xx)])
      refine own_step (fun t k => XS.lload (v := (253402300799 : Int64)) X6.here hx rfl (hb hby at_112) (by rw [hLs10]; rfl) k) ?_
      show own_Fin _ _ _ _ _ _ _ _ (mkF m 114 Ls10 [(.long (253402300799 : Int64)), (.long xx)])
      refine own_step (fun t k => XS.lcmp X6.here hx rfl (hb hby at_114) rfl k) ?_
      show own_Fin _ _ _ _ _ _ _ _ (mkF m 115 Ls10 [(.int (lcmpW xx (253402300799 : Int64)))])
      by_cases hc17 : 253402300799 < (xx).toInt
      · skip
        refine own_step (fun t k => XS.ifYes X6.here hx rfl (pc0 := 115) (pc' := 122) rfl (hb hby at_115) rfl (own_ll (x := (253402300799 : Int64)) (y := xx) rfl rfl hc17).2.2.1 (by decide) (by decide) k) ?_
        show own_Fin _ _ _ _ _ _ _ _ (mkF m 122 Ls10 [])
        refine own_step (fun t k => XS.iconst X6.here hx rfl (hb hby at_122) k) ?_
        show own_Fin _ _ _ _ _ _ _ _ (mkF m 123 Ls10 [(.int (0 : Int32))])
        subst hLs10; exact j123 _ (own_B0 (by omega))
      · skip
        refine own_step (fun t k => XS.ifNo X6.here hx rfl (hb hby at_115) rfl (own_ln (x := (253402300799 : Int64)) (y := xx) rfl rfl hc17).2.2.1 k) ?_
        show own_Fin _ _ _ _ _ _ _ _ (mkF m 118 Ls10 [])
        refine own_step (fun t k => XS.iconst X6.here hx rfl (hb hby at_118) k) ?_
        show own_Fin _ _ _ _ _ _ _ _ (mkF m 119 Ls10 [(.int (1 : Int32))])
        refine own_step (fun t k => XS.goto X6.here hx rfl (pc0 := 119) (pc' := 123) rfl (hb hby at_119) (by decide) (by decide) k) ?_
        show own_Fin _ _ _ _ _ _ _ _ (mkF m 123 Ls10 [(.int (1 : Int32))])
        subst hLs10; exact j123 _ (own_B1 (by omega))
  refine own_step (fun t k => XS.iload (v := (p2 &&& (3 : Int32))) X6.here hx rfl (hb hby at_52) (by rw [hLs9]; rfl) k) ?_
  show own_Fin _ _ _ _ _ _ _ _ (mkF m 54 Ls9 [(.int (p2 &&& (3 : Int32)))])
  by_cases hc18 : ((p2 &&& (3 : Int32))).toInt = 0
  · skip
    refine own_step (fun t k => XS.ifNo X6.here hx rfl (hb hby at_54) rfl ((if0 _ _).trans (own_ce (x := (p2 &&& (3 : Int32))) (y := (0 : Int32)) rfl rfl hc18).2) k) ?_
    show own_Fin _ _ _ _ _ _ _ _ (mkF m 57 Ls9 [])
    refine own_step (fun t k => XS.lloadN (v := q1) X6.here hx rfl (hb hby at_57) (by rw [hLs9]; rfl) k) ?_
    show own_Fin _ _ _ _ _ _ _ _ (mkF m 58 Ls9 [(.long q1)])
    obtain ⟨Ls19, hLs19⟩ : ∃ z : Array Slot, z = #[.val (.long q1), .second, .val (.int p2), .val (.int p3), .val (.long (719162 : Int64)), .second, .val (.long (-62135596800 : Int64)), .second, .val (.long (253402300799 : Int64)), .second, .val (.long (((p3 &&& (7 : Int32)) - (4 : Int32)).toInt64)), .second, .val (.int (p2 &&& (3 : Int32))), .val (.long q1), .second, .unset] := ⟨_, rfl⟩
    refine own_step (fun t k => XS.lstore X6.here hx rfl (hb hby at_58) rfl (l' := Ls19) (by rw [hLs9, hLs19]; rfl) k) ?_
    show own_Fin _ _ _ _ _ _ _ _ (mkF m 60 Ls19 [])
    refine own_step (fun t k => XS.goto X6.here hx rfl (pc0 := 60) (pc' := 102) rfl (hb hby at_60) (by decide) (by decide) k) ?_
    show own_Fin _ _ _ _ _ _ _ _ (mkF m 102 Ls19 [])
    subst hLs19; exact j102 q1
  · skip
    refine own_step (fun t k => XS.ifYes X6.here hx rfl (pc0 := 54) (pc' := 63) rfl (hb hby at_54) rfl ((if0 _ _).trans (own_cu (x := (p2 &&& (3 : Int32))) (y := (0 : Int32)) rfl rfl hc18).2) (by decide) (by decide) k) ?_
    show own_Fin _ _ _ _ _ _ _ _ (mkF m 63 Ls9 [])
    refine own_step (fun t k => XS.iload (v := (p2 &&& (3 : Int32))) X6.here hx rfl (hb hby at_63) (by rw [hLs9]; rfl) k) ?_
    show own_Fin _ _ _ _ _ _ _ _ (mkF m 65 Ls9 [(.int (p2 &&& (3 : Int32)))])
    refine own_step (fun t k => XS.iconst X6.here hx rfl (hb hby at_65) k) ?_
    show own_Fin _ _ _ _ _ _ _ _ (mkF m 66 Ls9 [(.int (1 : Int32)), (.int (p2 &&& (3 : Int32)))])
    by_cases hc20 : ((p2 &&& (3 : Int32))).toInt = 1
    · skip
      refine own_step (fun t k => XS.icmpNo X6.here hx rfl (hb hby at_66) rfl (own_ce (x := (p2 &&& (3 : Int32))) (y := (1 : Int32)) rfl rfl hc20).2 k) ?_
      show own_Fin _ _ _ _ _ _ _ _ (mkF m 69 Ls9 [])
      refine own_step (fun t k => XS.lload (v := (-62135596800 : Int64)) X6.here hx rfl (hb hby at_69) (by rw [hLs9]; rfl) k) ?_
      show own_Fin _ _ _ _ _ _ _ _ (mkF m 71 Ls9 [(.long (-62135596800 : Int64))])
      refine own_step (fun t k => XS.lload (v := (((p3 &&& (7 : Int32)) - (4 : Int32)).toInt64)) X6.here hx rfl (hb hby at_71) (by rw [hLs9]; rfl) k) ?_
      show own_Fin _ _ _ _ _ _ _ _ (mkF m 73 Ls9 [(.long (((p3 &&& (7 : Int32)) - (4 : Int32)).toInt64)), (.long (-62135596800 : Int64))])
      refine own_step (fun t k => XS.ladd X6.here hx rfl (hb hby at_73) rfl k) ?_
      show own_Fin _ _ _ _ _ _ _ _ (mkF m 74 Ls9 [(.long ((-62135596800 : Int64) + (((p3 &&& (7 : Int32)) - (4 : Int32)).toInt64)))])
      obtain ⟨Ls21, hLs21⟩ : ∃ z : Array Slot, z = #[.val (.long q1), .second, .val (.int p2), .val (.int p3), .val (.long (719162 : Int64)), .second, .val (.long (-62135596800 : Int64)), .second, .val (.long (253402300799 : Int64)), .second, .val (.long (((p3 &&& (7 : Int32)) - (4 : Int32)).toInt64)), .second, .val (.int (p2 &&& (3 : Int32))), .val (.long ((-62135596800 : Int64) + (((p3 &&& (7 : Int32)) - (4 : Int32)).toInt64))), .second, .unset] := ⟨_, rfl⟩
      refine own_step (fun t k => XS.lstore X6.here hx rfl (hb hby at_74) rfl (l' := Ls21) (by rw [hLs9, hLs21]; rfl) k) ?_
      show own_Fin _ _ _ _ _ _ _ _ (mkF m 76 Ls21 [])
      refine own_step (fun t k => XS.goto X6.here hx rfl (pc0 := 76) (pc' := 102) rfl (hb hby at_76) (by decide) (by decide) k) ?_
      show own_Fin _ _ _ _ _ _ _ _ (mkF m 102 Ls21 [])
      subst hLs21; exact j102 ((-62135596800 : Int64) + (((p3 &&& (7 : Int32)) - (4 : Int32)).toInt64))
    · skip
      refine own_step (fun t k => XS.icmpYes X6.here hx rfl (pc0 := 66) (pc' := 79) rfl (hb hby at_66) rfl (own_cu (x := (p2 &&& (3 : Int32))) (y := (1 : Int32)) rfl rfl hc20).2 (by decide) (by decide) k) ?_
      show own_Fin _ _ _ _ _ _ _ _ (mkF m 79 Ls9 [])
      refine own_step (fun t k => XS.iload (v := (p2 &&& (3 : Int32))) X6.here hx rfl (hb hby at_79) (by rw [hLs9]; rfl) k) ?_
      show own_Fin _ _ _ _ _ _ _ _ (mkF m 81 Ls9 [(.int (p2 &&& (3 : Int32)))])
      refine own_step (fun t k => XS.iconst X6.here hx rfl (hb hby at_81) k) ?_
      show own_Fin _ _ _ _ _ _ _ _ (mkF m 82 Ls9 [(.int (2 : Int32)), (.int (p2 &&& (3 : Int32)))])
      by_cases hc22 : ((p2 &&& (3 : Int32))).toInt = 2
      · skip
        refine own_step (fun t k => XS.icmpNo X6.here hx rfl (hb hby at_82) rfl (own_ce (x := (p2 &&& (3 : Int32))) (y := (2 : Int32)) rfl rfl hc22).2 k) ?_
        show own_Fin _ _ _ _ _ _ _ _ (mkF m 85 Ls9 [])
        refine own_step (fun t k => XS.lload (v := (253402300799 : Int64)) X6.here hx rfl (hb hby at_85) (by rw [hLs9]; rfl) k) ?_
        show own_Fin _ _ _ _ _ _ _ _ (mkF m 87 Ls9 [(.long (253402300799 : Int64))])
        refine own_step (fun t k => XS.lload (v := (((p3 &&& (7 : Int32)) - (4 : Int32)).toInt64)) X6.here hx rfl (hb hby at_87) (by rw [hLs9]; rfl) k) ?_
        show own_Fin _ _ _ _ _ _ _ _ (mkF m 89 Ls9 [(.long (((p3 &&& (7 : Int32)) - (4 : Int32)).toInt64)), (.long (253402300799 : Int64))])
        refine own_step (fun t k => XS.ladd X6.here hx rfl (hb hby at_89) rfl k) ?_
        show own_Fin _ _ _ _ _ _ _ _ (mkF m 90 Ls9 [(.long ((253402300799 : Int64) + (((p3 &&& (7 : Int32)) - (4 : Int32)).toInt64)))])
        obtain ⟨Ls23, hLs23⟩ : ∃ z : Array Slot, z = #[.val (.long q1), .second, .val (.int p2), .val (.int p3), .val (.long (719162 : Int64)), .second, .val (.long (-62135596800 : Int64)), .second, .val (.long (253402300799 : Int64)), .second, .val (.long (((p3 &&& (7 : Int32)) - (4 : Int32)).toInt64)), .second, .val (.int (p2 &&& (3 : Int32))), .val (.long ((253402300799 : Int64) + (((p3 &&& (7 : Int32)) - (4 : Int32)).toInt64))), .second, .unset] := ⟨_, rfl⟩
        refine own_step (fun t k => XS.lstore X6.here hx rfl (hb hby at_90) rfl (l' := Ls23) (by rw [hLs9, hLs23]; rfl) k) ?_
        show own_Fin _ _ _ _ _ _ _ _ (mkF m 92 Ls23 [])
        refine own_step (fun t k => XS.goto X6.here hx rfl (pc0 := 92) (pc' := 102) rfl (hb hby at_92) (by decide) (by decide) k) ?_
        show own_Fin _ _ _ _ _ _ _ _ (mkF m 102 Ls23 [])
        subst hLs23; exact j102 ((253402300799 : Int64) + (((p3 &&& (7 : Int32)) - (4 : Int32)).toInt64))
      · skip
        refine own_step (fun t k => XS.icmpYes X6.here hx rfl (pc0 := 82) (pc' := 95) rfl (hb hby at_82) rfl (own_cu (x := (p2 &&& (3 : Int32))) (y := (2 : Int32)) rfl rfl hc22).2 (by decide) (by decide) k) ?_
        show own_Fin _ _ _ _ _ _ _ _ (mkF m 95 Ls9 [])
        refine own_step (fun t k => XS.lloadN (v := q1) X6.here hx rfl (hb hby at_95) (by rw [hLs9]; rfl) k) ?_
        show own_Fin _ _ _ _ _ _ _ _ (mkF m 96 Ls9 [(.long q1)])
        refine own_step (fun t k => X6.ldc2Long hx hown (mvT hZ (hw _ (List.mem_of_getElem? (i := 20) rfl))) (g := (mkF m 96 Ls9 [(.long q1)])) rfl (hb hby at_96) _ k) ?_
        show own_Fin _ _ _ _ _ _ _ _ (mkF m 99 Ls9 [(.long (274877906944 : Int64)), (.long q1)])
        refine own_step (fun t k => XS.lrem X6.here hx rfl (hb hby at_99) rfl (by decide) k) ?_
        show own_Fin _ _ _ _ _ _ _ _ (mkF m 100 Ls9 [(.long (q1 - (q1 / (274877906944 : Int64)) * (274877906944 : Int64)))])
        obtain ⟨Ls24, hLs24⟩ : ∃ z : Array Slot, z = #[.val (.long q1), .second, .val (.int p2), .val (.int p3), .val (.long (719162 : Int64)), .second, .val (.long (-62135596800 : Int64)), .second, .val (.long (253402300799 : Int64)), .second, .val (.long (((p3 &&& (7 : Int32)) - (4 : Int32)).toInt64)), .second, .val (.int (p2 &&& (3 : Int32))), .val (.long (q1 - (q1 / (274877906944 : Int64)) * (274877906944 : Int64))), .second, .unset] := ⟨_, rfl⟩
        refine own_step (fun t k => XS.lstore X6.here hx rfl (hb hby at_100) rfl (l' := Ls24) (by rw [hLs9, hLs24]; rfl) k) ?_
        show own_Fin _ _ _ _ _ _ _ _ (mkF m 102 Ls24 [])
        subst hLs24; exact j102 (q1 - (q1 / (274877906944 : Int64)) * (274877906944 : Int64))
set_option maxRecDepth 65536 in
set_option maxHeartbeats 40000000 in
theorem comes_1 {Post : Tables → Env → Array Value → State → Outcome → State → Prop} (hpost : ∀ tb e args s v u, (limb_1_1.after args s (.returned v) u = true ∧ limb_1_2.after args s (.returned v) u = true ∧ True) → FrameEnd s (.returned v) u (Jvm.fieldLocs frame_1_writes args s ++ Jvm.arrayLocs frame_1_arrays args s ++ Jvm.staticLocs frame_1_statics s) 0 0 → Post tb e args s (.returned v) u) :
    ArmFor flags0 classFile x code maxLocals ret World_1 tables_1 room_1 Calls_1 rest_1 Pre_1 Post := by
  intro l hfl _ _ p e ha hc hk s m args below hf hA hF happ hP
  obtain ⟨hcalls, hrest, hpre⟩ := hP
  obtain ⟨-, -, -, hnamed, -, -, -, hat⟩ := (Spec.applies_iff hf).mp happ
  obtain ⟨hg, hn⟩ := and_e (Cond.before_iff.mp (show (Jvm.Cond.and given_1 narrow_1).before args s = true from hpre))
  obtain ⟨g1, g2⟩ := and_e hg
  obtain ⟨g3, g4⟩ := and_e g2
  obtain ⟨g5, g6⟩ := and_e g4
  obtain ⟨w0, w1, w2, rfl⟩ : ∃ w0 w1 w2 : Value, args = #[w0, w1, w2] := by
    have hs : args.size = 3 := by simpa [Cond.value, given_1] using g1
    obtain ⟨L⟩ := args
    match L, hs with
    | [w0, w1, w2], _ => exact ⟨w0, w1, w2, rfl⟩
  have hw := fun d (hd : d ∈ tables_1) => atoms_spec (ws := Jvm.Cond.code x code maxLocals ret :: tables_1) hat d (List.mem_cons_of_mem _ hd)
  obtain ⟨i0, ei0⟩ := isL_v g3
  obtain rfl : w0 = (.long i0) := Option.some.inj ei0
  obtain ⟨i1, ei1⟩ := is_v g5
  obtain rfl : w1 = (.int i1) := Option.some.inj ei1
  obtain ⟨i2, ei2⟩ := is_v g6
  obtain rfl : w2 = (.int i2) := Option.some.inj ei2
  obtain ⟨n, o, h1, h2, h3, _, L, rfl, ⟨rfl, N⟩, hq⟩ := rm0 l s _ hw tables_1 i0 i1 i2 s.heap s.heap.size (Nat.le_refl _) p e ha hc hk s m _ below hf ((Spec.applies_iff_loose hf).mp happ).1 ⟨rfl, State.Warmed39.refl s, rfl⟩ trivial
  refine ⟨n, _, h1, h2, h3, hpost _ _ _ _ _ _ ⟨Cond.after_iff.mpr rfl, Cond.after_iff.mpr (eq_i res_at (Term.int_eval (1)) rfl), trivial⟩ ⟨hq.1, hq.2.1, (hq.2.2.sift fun y hy => Or.inr (N y hy)).mono (by decide) (by decide)⟩⟩
theorem main_1_1 : Claimed_1_1 := comes_1 fun _ _ _ _ _ _ h hF => ⟨h.1, hF⟩
theorem main_1_2 : Claimed_1_2 := comes_1 fun _ _ _ _ _ _ h hF => ⟨h.2.1, hF⟩
end Jvm.Pilot.@@N@@
namespace Jvm.Pilot.@@N@@
open Jvm Jvm.ClassFile Sem Op Lib Jvm.Free Jvm.Stand Jvm.Pilot.@@N@@.Jvm.D
/-! MADE BY PROGRAM (witnessworld.py) out of the Statement's table words and the real class files: 9 classes; the members and pool entries that the words name. The judged class is class 1, her method 3. -/
namespace start1
open Jvm.ClassFile
def u (s : String) : CpInfo := .utf8 (stringToUtf16 s)
/-- a pool by its gaps: so many unusable entries, then the entry; so many at the end -/
def gap : Nat → List CpInfo → List CpInfo
  | 0, r => r
  | n + 1, r => .unusable :: gap n r
def poolList (es : List (Nat × CpInfo)) (last : Nat) : List CpInfo := es.foldr (fun e r => gap e.1 (e.2 :: r)) (gap last [])
def pool (es : List (Nat × CpInfo)) (last : Nat) : Array CpInfo := ⟨poolList es last⟩
def fileOf (pool : Array CpInfo) (this : Nat) (attrs : Array Attribute := #[]) (ms : Array MethodInfo := #[]) (fl : Nat := 33) (sup : Nat := 0) (ifs : Array Nat := #[]) (fds : Array FieldInfo := #[]) : ClassFile where
  minorVersion := 0
  majorVersion := 65
  constantPool := pool
  accessFlags := fl
  thisClass := this
  superClass := sup
  interfaces := ifs
  fields := fds
  methods := ms
  attributes := attrs
def plain (name : String) (sup : Option ClassId) : Class where
  name := name
  kind := .ordinary
  loader := none
  accessFlags := 33
  super := sup
  interfaces := #[]
  cf := none
  fields := #[]
  methods := #[]
  instanceTypes := #[]
  staticTypes := #[]
  resolved := #[]
  callSites := []
  init := .initialized
  statics := none
  mirror := none

def pool0 : Array CpInfo := pool [(5, u "<init>"), (0, u "()V"), (1, .class_ 10), (1, u "java/lang/Object")] 113

def k0m0 : Method := { name := "<init>", desc := "()V", sig := { parameters := [], returnType := none }, accessFlags := 1, code := none }
/-- java/lang/Object -/
def k0 : Class := { plain "java/lang/Object" none with
  accessFlags := 33
  interfaces := #[]
  cf := some (fileOf pool0 8 #[] #[{ accessFlags := 1, nameIndex := 5, descriptorIndex := 6, attributes := #[] }] 33 0 #[] #[])
  fields := #[]
  methods := #[k0m0]
  instanceTypes := #[]
  staticTypes := #[]
  resolved := Array.replicate 124 none
  statics := none }

def pool1 : Array CpInfo := pool [(2, .class_ 4), (1, u "java/lang/Object"), (0, u "<init>"), (0, u "()V"), (0, .long 4), (1, .long 100), (1, .long 400), (1, .long 365), (1, .methodref 16 17), (0, .class_ 18), (0, .nameAndType 19 20), (0, u "com/example/triform/triform/TimestampsInRangePinLaw"), (0, u "leapsThrough"), (0, u "(J)J"), (0, .long 1970), (1, .methodref 16 24), (0, .nameAndType 25 20), (0, u "daysBeforeYear"), (0, .long 86400), (1, .long 10000), (1, .long 274877906944), (1, .methodref 33 34), (0, .class_ 35), (0, .nameAndType 36 37), (0, u "com/example/triform/triform/Timestamps"), (0, u "inRange"), (0, u "(J)Z"), (2, u "law"), (0, u "(JII)Z")] 3

def k1m0 : Method := { name := "<init>", desc := "()V", sig := { parameters := [], returnType := none }, accessFlags := 2, code := none }
def k1c1 : Code := { maxStack := 6, maxLocals := 2, code := method_2_code, exceptionTable := #[], attributes := #[] }
def k1m1 : Method := { name := "leapsThrough", desc := "(J)J", sig := { parameters := [.long], returnType := some .long }, accessFlags := 10, code := some k1c1 }
def k1c2 : Code := { maxStack := 4, maxLocals := 4, code := method_3_code, exceptionTable := #[], attributes := #[] }
def k1m2 : Method := { name := "daysBeforeYear", desc := "(J)J", sig := { parameters := [.long], returnType := some .long }, accessFlags := 10, code := some k1c2 }
def k1c3 : Code := { maxStack := 4, maxLocals := 16, code := code, exceptionTable := #[], attributes := #[] }
def k1m3 : Method := { name := "law", desc := "(JII)Z", sig := { parameters := [.long, .int, .int], returnType := some .boolean }, accessFlags := 9, code := some k1c3 }
/-- com/example/triform/triform/TimestampsInRangePinLaw -/
def k1 : Class := { plain "com/example/triform/triform/TimestampsInRangePinLaw" (some 0) with
  accessFlags := 49
  interfaces := #[]
  cf := some (fileOf pool1 16 #[] #[{ accessFlags := 2, nameIndex := 5, descriptorIndex := 6, attributes := #[] }, { accessFlags := 10, nameIndex := 19, descriptorIndex := 20, attributes := #[] }, { accessFlags := 10, nameIndex := 25, descriptorIndex := 20, attributes := #[] }, { accessFlags := 9, nameIndex := 40, descriptorIndex := 41, attributes := #[] }] 49 2 #[] #[])
  fields := #[]
  methods := #[k1m0, k1m1, k1m2, k1m3]
  instanceTypes := #[]
  staticTypes := #[]
  resolved := Array.replicate 45 none
  statics := none }

def pool2 : Array CpInfo := pool [(2, .class_ 4), (1, u "java/lang/Object"), (0, u "<init>"), (0, u "()V"), (0, .class_ 8), (0, u "com/example/triform/triform/Timestamps"), (0, .long 18446744011573954816), (1, .long 253402300799), (49, u "POWERS_OF_TEN"), (0, u "[I"), (28, u "inRange"), (0, u "(J)Z"), (65, u "MIN_SECONDS"), (0, u "J"), (1, u "MAX_SECONDS"), (0, u "OUTSIDE_RANGE"), (0, u "Ljava/lang/String;")] 33

def k2m0 : Method := { name := "<init>", desc := "()V", sig := { parameters := [], returnType := none }, accessFlags := 2, code := none }
def k2c1 : Code := { maxStack := 4, maxLocals := 2, code := prog_49_method_2_code, exceptionTable := #[], attributes := #[] }
def k2m1 : Method := { name := "inRange", desc := "(J)Z", sig := { parameters := [.long], returnType := some .boolean }, accessFlags := 8, code := some k2c1 }
/-- com/example/triform/triform/Timestamps -/
def k2 : Class := { plain "com/example/triform/triform/Timestamps" (some 0) with
  accessFlags := 48
  interfaces := #[]
  cf := some (fileOf pool2 7 #[] #[{ accessFlags := 2, nameIndex := 5, descriptorIndex := 6, attributes := #[] }, { accessFlags := 8, nameIndex := 91, descriptorIndex := 92, attributes := #[] }] 48 2 #[] #[{ accessFlags := 26, nameIndex := 158, descriptorIndex := 159, attributes := #[] }, { accessFlags := 26, nameIndex := 161, descriptorIndex := 159, attributes := #[] }, { accessFlags := 24, nameIndex := 162, descriptorIndex := 163, attributes := #[] }, { accessFlags := 26, nameIndex := 61, descriptorIndex := 62, attributes := #[] }])
  fields := #[{ name := "MIN_SECONDS", type := .long, accessFlags := 26, slot := 0, constantValue := 0 }, { name := "MAX_SECONDS", type := .long, accessFlags := 26, slot := 1, constantValue := 0 }, { name := "OUTSIDE_RANGE", type := (.object "java/lang/String"), accessFlags := 24, slot := 2, constantValue := 0 }, { name := "POWERS_OF_TEN", type := (.array .int), accessFlags := 26, slot := 3, constantValue := 0 }]
  methods := #[k2m0, k2m1]
  instanceTypes := #[]
  staticTypes := #[.long, .long, (.object "java/lang/String"), (.array .int)]
  resolved := Array.replicate 197 none
  statics := none }

def pool3 : Array CpInfo := pool [(1, u "java/lang/Cloneable"), (0, .class_ 1), (0, u "java/lang/Object"), (0, .class_ 3)] 3

/-- java/lang/Cloneable -/
def k3 : Class := { plain "java/lang/Cloneable" (some 0) with
  accessFlags := 1537
  interfaces := #[]
  cf := some (fileOf pool3 2 #[] #[] 1537 4 #[] #[])
  fields := #[]
  methods := #[]
  instanceTypes := #[]
  staticTypes := #[]
  resolved := Array.replicate 8 none
  statics := none }

def pool4 : Array CpInfo := pool [(1, u "java/io/Serializable"), (0, .class_ 1), (0, u "java/lang/Object"), (0, .class_ 3)] 3

/-- java/io/Serializable -/
def k4 : Class := { plain "java/io/Serializable" (some 0) with
  accessFlags := 1537
  interfaces := #[]
  cf := some (fileOf pool4 2 #[] #[] 1537 4 #[] #[])
  fields := #[]
  methods := #[]
  instanceTypes := #[]
  staticTypes := #[]
  resolved := Array.replicate 8 none
  statics := none }

/-- the primitive byte -/
def k5 : Class := { plain "byte" none with kind := .primitive 'B', accessFlags := 0x411 }
/-- [B -/
def k6 : Class := { plain "[B" (some 0) with kind := .array 5 .byte, interfaces := #[3, 4], accessFlags := 1041 }

/-- the primitive int -/
def k7 : Class := { plain "int" none with kind := .primitive 'I', accessFlags := 0x411 }
/-- [I -/
def k8 : Class := { plain "[I" (some 0) with kind := .array 7 .int, interfaces := #[3, 4], accessFlags := 1041 }

def heap : Heap := #[]
def classes : Array Class := #[k0, k1, k2, k3, k4, k5, k6, k7, k8]
def interned : List (Array UInt16 × Addr) := []
def slotsUsed : Nat := 0
def theMethod : MethodId := ⟨1, 3⟩
def args0 : Array Value := #[.long 7, .int 5, .int 5]
def aboutOver (below : List Frame) : State where
  vm := { classes := classes, interned := interned.toArray }
  heap := heap
  slotsUsed := slotsUsed
  threads := #[{ frames := .invoking theMethod args0 :: below }]
def below0 : List Frame := [.native { method := ⟨0, 0⟩, args := #[] }]
def about1 : State := aboutOver below0
def p0 : Program := .bare "" "" ""
def e0 : Env := launch0.env 0 0 0
theorem w_frames : about1.frames = Frame.invoking theMethod args0 :: below0 := rfl
set_option maxRecDepth 65536 in
theorem w_args : argsFit about1.vm theMethod args0 = true := by decide +kernel
set_option maxRecDepth 65536 in
theorem w_heap : heapFits about1 = true := by decide +kernel
set_option maxRecDepth 65536 in
theorem w_runnable : about1.curStatus? = some .runnable := by decide +kernel
set_option maxRecDepth 65536 in
theorem w_alone : about1.alone = true := by decide +kernel
set_option maxRecDepth 65536 in
theorem w_named : about1.methodNamed? x = some theMethod := by decide +kernel
set_option maxRecDepth 65536 in
theorem w_hears : about1.hears theMethod below0 = true := by decide +kernel
set_option maxRecDepth 65536 in
theorem w_ripe : about1.ripe theMethod args0 below0 = true := by decide +kernel
theorem w_running : about1.status = .running := rfl
set_option maxRecDepth 65536 in
theorem w_room : about1.hasRoom e0.platform room_1 = true :=
  launch0.hasRoom_least _ room_1 (by decide +kernel) (by decide +kernel) (by decide +kernel) (by decide +kernel) (by decide +kernel) (by decide +kernel)
theorem allAtoms_all (ts : List Jvm.Cond) (a : Array Jvm.Value) (st : Jvm.State) : (allAtoms ts).before a st = ts.all (fun c => c.before a st) := by
  induction ts with
  | nil => rfl
  | cons c t ih =>
    show (Jvm.Cond.and c (allAtoms t)).before a st = _
    rw [Jvm.Cond.before_and, ih, List.all_cons]
def words1 : List Jvm.Cond := Jvm.Cond.code x code maxLocals ret :: tables_1
/-- a 'code' word, met by the world's own term for the bytes: nothing is compared byte by byte -/
theorem code_word {y : MethodName} {bytes : ByteArray} {mx : Nat} {rt : Option FieldType} {a : Array Value} {s : State} {m : MethodId} {meth : Method} {c : Code} (h1 : s.methodNamed? y = some m) (h2 : s.vm.method? m = some meth) (h3 : meth.code = some c) (h4 : c.code = bytes)
    (h5 : (c.maxLocals == mx && c.exceptionTable.isEmpty && decide (c.maxStack ≤ mostOperands) && decide (meth.sig.returnType = rt) && !meth.locks && decide (parseMethodDescriptor y.desc = some meth.sig)) = true) : (Jvm.Cond.code y bytes mx rt).before a s = true := by
  simp only [Bool.and_eq_true, beq_iff_eq, Bool.not_eq_true', decide_eq_true_eq] at h5
  obtain ⟨⟨⟨⟨⟨g1, g2⟩, g3⟩, g4⟩, g5⟩, g6⟩ := h5
  simp [Cond.before, Cond.holds, Cond.value, h1, h2, h3, h4, g1, g2, g3, g4, g5, g6]
def isCode : Jvm.Cond → Bool
  | .code _ _ _ _ => true
  | _ => false
theorem all_split {L : List Jvm.Cond} {P : Jvm.Cond → Bool} (h1 : L.all (fun c => isCode c || P c) = true) (h2 : ∀ c ∈ L.filter isCode, P c = true) : L.all P = true := by
  refine List.all_eq_true.mpr fun c hc => ?_
  have h := List.all_eq_true.mp h1 c hc
  rcases Bool.eq_false_or_eq_true (isCode c) with hi | hi
  · exact h2 c (List.mem_filter.mpr ⟨hc, hi⟩)
  · simpa [hi] using h
set_option maxRecDepth 65536 in
theorem w_c0 : (Jvm.Cond.code x code maxLocals ret).before args0 about1 = true := code_word (m := ⟨1, 3⟩) (meth := k1m3) (c := k1c3) (by decide +kernel) rfl rfl rfl (by decide +kernel)
set_option maxRecDepth 65536 in
theorem w_c1 : (Jvm.Cond.code ({ cls := "com/example/triform/triform/TimestampsInRangePinLaw", name := "daysBeforeYear", desc := "(J)J" } : Jvm.MethodName) method_3_code (4 : Nat) (Option.some Jvm.ClassFile.FieldType.long)).before args0 about1 = true := code_word (m := ⟨1, 2⟩) (meth := k1m2) (c := k1c2) (by decide +kernel) rfl rfl rfl (by decide +kernel)
set_option maxRecDepth 65536 in
theorem w_c2 : (Jvm.Cond.code ({ cls := "com/example/triform/triform/TimestampsInRangePinLaw", name := "leapsThrough", desc := "(J)J" } : Jvm.MethodName) method_2_code (2 : Nat) (Option.some Jvm.ClassFile.FieldType.long)).before args0 about1 = true := code_word (m := ⟨1, 1⟩) (meth := k1m1) (c := k1c1) (by decide +kernel) rfl rfl rfl (by decide +kernel)
set_option maxRecDepth 65536 in
theorem w_c3 : (Jvm.Cond.code ({ cls := "com/example/triform/triform/Timestamps", name := "inRange", desc := "(J)Z" } : Jvm.MethodName) prog_49_method_2_code (2 : Nat) (Option.some Jvm.ClassFile.FieldType.boolean)).before args0 about1 = true := code_word (m := ⟨2, 1⟩) (meth := k2m1) (c := k2c1) (by decide +kernel) rfl rfl rfl (by decide +kernel)
def codes1 : List Jvm.Cond := [Jvm.Cond.code x code maxLocals ret, Jvm.Cond.code ({ cls := "com/example/triform/triform/TimestampsInRangePinLaw", name := "daysBeforeYear", desc := "(J)J" } : Jvm.MethodName) method_3_code (4 : Nat) (Option.some Jvm.ClassFile.FieldType.long), Jvm.Cond.code ({ cls := "com/example/triform/triform/TimestampsInRangePinLaw", name := "leapsThrough", desc := "(J)J" } : Jvm.MethodName) method_2_code (2 : Nat) (Option.some Jvm.ClassFile.FieldType.long), Jvm.Cond.code ({ cls := "com/example/triform/triform/Timestamps", name := "inRange", desc := "(J)Z" } : Jvm.MethodName) prog_49_method_2_code (2 : Nat) (Option.some Jvm.ClassFile.FieldType.boolean)]
set_option maxRecDepth 65536 in
theorem codes_eq : words1.filter isCode = codes1 := rfl
theorem w_codes : ∀ c ∈ words1.filter isCode, c.before args0 about1 = true := by
  rw [codes_eq]
  intro c hc
  simp only [codes1, List.mem_cons, List.not_mem_nil, or_false] at hc
  rcases hc with rfl | rfl | rfl | rfl
  · exact w_c0
  · exact w_c1
  · exact w_c2
  · exact w_c3
set_option maxRecDepth 65536 in
theorem w_t1 : words1.all (fun c => isCode c || c.before args0 about1) = true := by decide +kernel
theorem w_tables : (allAtoms (Jvm.Cond.code x code maxLocals ret :: tables_1)).before args0 about1 = true := by
  rw [allAtoms_all]
  show words1.all (fun c => c.before args0 about1) = true
  refine all_split ?_ w_codes
  rw [w_t1]
set_option maxRecDepth 65536 in
theorem w_case : (Jvm.Cond.and given_1 narrow_1).before args0 about1 = true := by decide +kernel
theorem w_applies : (headSpec (Jvm.Cond.code x code maxLocals ret :: tables_1) room_1).applies x e0.platform about1 = true :=
  (Spec.applies_iff w_frames).mpr ⟨w_running, w_runnable, w_alone, w_named, w_hears, w_ripe, w_room, w_tables⟩
theorem atStart : AtStart classFile x code maxLocals ret World_1 tables_1 room_1 Calls_1 rest_1 Pre_1 launch0 p0 e0 about1 theMethod args0 below0 :=
  ⟨lists_1, trivial, launch0.admits_env _ _ _, launch0.least_env, fairChoices_fair.cas, fairChoices_fair.clock, w_frames, w_args, w_heap, w_applies, trivial, trivial, w_case⟩
end start1
theorem witness_1 : WitnessClaimed_1 := ⟨start1.p0, start1.e0, start1.about1, start1.theMethod, start1.args0, start1.below0, start1.atStart⟩
end Jvm.Pilot.@@N@@
