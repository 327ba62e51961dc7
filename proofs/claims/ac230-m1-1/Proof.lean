import JvmDerived
import JvmDerived.Pilot.@@N@@Statement
import JvmDerived.Pilot.@@N@@Code
set_option linter.unusedVariables false
set_option linter.unusedSimpArgs false
namespace Jvm.Pilot.@@N@@
open Jvm Jvm.ClassFile Sem Op Lib Jvm.Free Jvm.Stand Jvm.LawKit Jvm.RoadKit Bundle Jvm.Pilot.@@N@@.Jvm.D
/-! Own kit. own_Fin: from this frame the run comes to the method's end, and Q holds of what it leaves. -/
def own_Fin (p : Program) (e : Env) (below : List Frame) (s : State) (Q : Option Value → Heap → List Loc → Prop) (cl sl : Nat) (T : State) (f : JFrame) : Prop :=
  ∃ s₂ o, Steps p.tables e below (T.setTop f) s₂ ∧ s₂.status = .running ∧ Ended s₂ below o ∧ (∃ v L, o = .returned v ∧ Q v s₂.heap L ∧ FrameEnd s o s₂ L cl sl)
section OwnKit
variable {p : Program} {l : Launch} {e : Env} {R : Room} {s : State} {m : MethodId} {args : Array Value} {below : List Frame} {meth : Method} {c : Code} {T : State} {locs : List Loc} {cells slots : Nat} {Q : Option Value → Heap → List Loc → Prop} {cl sl : Nat} {Z : State} {a0 : Array Value} {h h' : Heap} {a b : Addr}
theorem own_step {T' : State} {f f' : JFrame} (k : ∀ t, Steps p.tables e below (T'.setTop f') t → Steps p.tables e below (T.setTop f) t) (r : own_Fin p e below s Q cl sl T' f') : own_Fin p e below s Q cl sl T f := by
  obtain ⟨s₂, o, h1, h2⟩ := r
  exact ⟨s₂, o, k _ h1, h2⟩
theorem own_stepT {T' : State} {f f' : JFrame} (k : Steps p.tables e below (T.setTop f) (T'.setTop f')) (r : own_Fin p e below s Q cl sl T' f') : own_Fin p e below s Q cl sl T f := by
  obtain ⟨s₂, o, h1, h2⟩ := r
  exact ⟨s₂, o, k.trans h1, h2⟩
theorem own_retZ (X : Stand p l e R s m args below meth c T locs cells slots) (hx : p.tables.exec = Jvm.exec) (hlocks : meth.locks = false) (hret : meth.sig.returnType = some .boolean) {pc : Nat} {Ls : Array Slot} {z z' : Int32} {rest : List Value} (hd : decode c.code pc = .ok (.ireturn, 1))
    (hn : nar .boolean z = z') (hc : cells ≤ cl) (hs : slots ≤ sl) (hT : T.heap = h) (hq : Q (some (.int z')) h locs) : own_Fin p e below s Q cl sl T (mkF m pc Ls (.int z :: rest)) := by
  subst hn hT
  obtain ⟨fs, hr, hrun, hended, hW, hsame⟩ := X.leave (v := some (.int (nar .boolean z))) (fun h => by rw [hret] at h; cases h)
  exact ⟨_, _, retN X hx hret (by simp) hd hr, hrun, hended, _, _, rfl, hq, ⟨_, rfl⟩, hW, hsame.mono hc hs⟩
theorem own_retI (X : Stand p l e R s m args below meth c T locs cells slots) (hx : p.tables.exec = Jvm.exec) (hlocks : meth.locks = false) (hret : meth.sig.returnType = some .int) {pc : Nat} {Ls : Array Slot} {z : Int32} {rest : List Value} (hd : decode c.code pc = .ok (.ireturn, 1))
    (hc : cells ≤ cl) (hs : slots ≤ sl) (hT : T.heap = h) (hq : Q (some (.int z)) h locs) : own_Fin p e below s Q cl sl T (mkF m pc Ls (.int z :: rest)) := by
  subst hT
  obtain ⟨fs, hr, hrun, hended, hW, hsame⟩ := X.leave (v := some (.int z)) (fun h => by rw [hret] at h; cases h)
  refine ⟨_, _, ?_, hrun, hended, _, _, rfl, hq, ⟨_, rfl⟩, hW, hsame.mono hc hs⟩
  have hm' : T.vm.method? m = some meth := X.method'
  have hn : narrow .int (.int z) = .int z := rfl
  show Steps p.tables e below (T.setTop { method := m, pc := pc, locals := Ls, stack := _ :: rest, locked := none }) _
  jvm_step X.here [X.here.top, hx, hd, hm', hret, hn]
  first | (intro acts; rw [hr _ acts rfl rfl rfl]) | rw [hr _ _ rfl rfl rfl]
  exact Steps.refl _
theorem own_retJ (X : Stand p l e R s m args below meth c T locs cells slots) (hx : p.tables.exec = Jvm.exec) (hlocks : meth.locks = false) (hret : meth.sig.returnType = some .long) {pc : Nat} {Ls : Array Slot} {z : Int64} (hd : decode c.code pc = .ok (.lreturn, 1))
    (hc : cells ≤ cl) (hs : slots ≤ sl) (hT : T.heap = h) (hq : Q (some (.long z)) h locs) : own_Fin p e below s Q cl sl T (mkF m pc Ls [.long z]) := by
  subst hT
  obtain ⟨fs, hr, hrun, hended, hW, hsame⟩ := X.leave (v := some (.long z)) (fun h => by rw [hret] at h; cases h)
  exact ⟨_, _, X.lreturnOut hx hret hd hr, hrun, hended, _, _, rfl, hq, ⟨_, rfl⟩, hW, hsame.mono hc hs⟩
theorem own_retV (X : Stand p l e R s m args below meth c T locs cells slots) (hx : p.tables.exec = Jvm.exec) (hlocks : meth.locks = false) (hret : meth.sig.returnType = none) {pc : Nat} {Ls : Array Slot} (hd : decode c.code pc = .ok (.return_, 1))
    (hc : cells ≤ cl) (hs : slots ≤ sl) (hT : T.heap = h) (hq : Q none h locs) : own_Fin p e below s Q cl sl T (mkF m pc Ls []) := by
  subst hT
  obtain ⟨fs, hr, hrun, hended, hW, hsame⟩ := X.leave (v := none) (fun _ => rfl)
  exact ⟨_, _, X.returnOut hx hret hd hr, hrun, hended, _, _, rfl, hq, ⟨_, rfl⟩, hW, hsame.mono hc hs⟩
theorem own_retR (X : Stand p l e R s m args below meth c T locs cells slots) (hx : p.tables.exec = Jvm.exec) (hlocks : meth.locks = false) {t : FieldType} (hret : meth.sig.returnType = some t) (ht : t.isReference = true) {pc : Nat} {Ls : Array Slot} {z : Value} (hz : z.isRef = true) (hd : decode c.code pc = .ok (.areturn, 1))
    (hc : cells ≤ cl) (hs : slots ≤ sl) (hT : T.heap = h) (hq : Q (some z) h locs) : own_Fin p e below s Q cl sl T (mkF m pc Ls [z]) := by
  subst hT
  obtain ⟨fs, hr, hrun, hended, hW, hsame⟩ := X.leave (v := some z) (fun h => by rw [hret] at h; cases h)
  refine ⟨_, _, ?_, hrun, hended, _, _, rfl, hq, ⟨_, rfl⟩, hW, hsame.mono hc hs⟩
  have hm' : T.vm.method? m = some meth := X.method'
  jvm_step X.here [X.here.top, hx, hd, hm', hret, ht, hz]
  first | (intro acts; rw [hr _ acts rfl rfl rfl]) | rw [hr _ _ rfl rfl rfl]
  exact Steps.refl _
/-! comparisons, said over Int -/
theorem own_cl {x y : Int32} {a b : Int} (ha : x.toInt = a) (hb : y.toInt = b) (h : a < b) : if_icmp.holds .lt x y = true ∧ if_icmp.holds .ge x y = false ∧ if_icmp.holds .gt y x = true ∧ if_icmp.holds .le y x = false := tlt (by rw [Int32.lt_iff_toInt_lt, ha, hb]; exact h)
theorem own_cn {x y : Int32} {a b : Int} (ha : x.toInt = a) (hb : y.toInt = b) (h : ¬ a < b) : if_icmp.holds .lt x y = false ∧ if_icmp.holds .ge x y = true ∧ if_icmp.holds .gt y x = false ∧ if_icmp.holds .le y x = true := flt (by rw [Int32.lt_iff_toInt_lt, ha, hb]; exact h)
theorem own_ce {x y : Int32} {a b : Int} (ha : x.toInt = a) (hb : y.toInt = b) (h : a = b) : if_icmp.holds .eq x y = true ∧ if_icmp.holds .ne x y = false := teq (by rw [← Int32.toInt_inj, ha, hb]; exact h)
theorem own_cu {x y : Int32} {a b : Int} (ha : x.toInt = a) (hb : y.toInt = b) (h : ¬ a = b) : if_icmp.holds .eq x y = false ∧ if_icmp.holds .ne x y = true := feq (by rw [← Int32.toInt_inj, ha, hb]; exact h)
theorem own_ll {x y : Int64} {a b : Int} (ha : x.toInt = a) (hb : y.toInt = b) (h : a < b) : ifCond.holds .lt (lcmpW x y) = true ∧ ifCond.holds .ge (lcmpW x y) = false ∧ ifCond.holds .gt (lcmpW y x) = true ∧ ifCond.holds .le (lcmpW y x) = false := by
  have q : x < y := by rw [Int64.lt_iff_toInt_lt, ha, hb]; exact h
  have h1 := tlt ((lw_lt x y).mpr q)
  have h2 := tlt ((lw_gt y x).mpr q)
  exact ⟨(if0 _ _).trans h1.1, (if0 _ _).trans h1.2.1, (if0 _ _).trans h2.2.2.1, (if0 _ _).trans h2.2.2.2⟩
theorem own_ln {x y : Int64} {a b : Int} (ha : x.toInt = a) (hb : y.toInt = b) (h : ¬ a < b) : ifCond.holds .lt (lcmpW x y) = false ∧ ifCond.holds .ge (lcmpW x y) = true ∧ ifCond.holds .gt (lcmpW y x) = false ∧ ifCond.holds .le (lcmpW y x) = true := by
  have q : ¬ x < y := by rw [Int64.lt_iff_toInt_lt, ha, hb]; exact h
  have h1 := flt (fun r => q ((lw_lt x y).mp r))
  have h2 := flt (fun r => q ((lw_gt y x).mp r))
  exact ⟨(if0 _ _).trans h1.1, (if0 _ _).trans h1.2.1, (if0 _ _).trans h2.2.2.1, (if0 _ _).trans h2.2.2.2⟩
theorem own_le {x y : Int64} {a b : Int} (ha : x.toInt = a) (hb : y.toInt = b) (h : a = b) : ifCond.holds .eq (lcmpW x y) = true ∧ ifCond.holds .ne (lcmpW x y) = false := by
  have q : x = y := by rw [← Int64.toInt_inj, ha, hb]; exact h
  have h1 := teq ((lw_eq x y).mpr q)
  exact ⟨(if0 _ _).trans h1.1, (if0 _ _).trans h1.2⟩
theorem own_lu {x y : Int64} {a b : Int} (ha : x.toInt = a) (hb : y.toInt = b) (h : ¬ a = b) : ifCond.holds .eq (lcmpW x y) = false ∧ ifCond.holds .ne (lcmpW x y) = true := by
  have q : ¬ x = y := by rw [← Int64.toInt_inj, ha, hb]; exact h
  have h1 := feq (fun r => q ((lw_eq x y).mp r))
  exact ⟨(if0 _ _).trans h1.1, (if0 _ _).trans h1.2⟩
/-! a boolean as an int -/
abbrev own_B (r : Int32) (P : Prop) : Prop := (r.toInt = 1 ∧ P) ∨ (r.toInt = 0 ∧ ¬ P)
theorem own_B1 {P : Prop} (h : P) : own_B 1 P := Or.inl ⟨rfl, h⟩
theorem own_B0 {P : Prop} (h : ¬ P) : own_B 0 P := Or.inr ⟨rfl, h⟩
theorem own_B.lit {r : Int32} {P : Prop} (H : own_B r P) : (r = 1 ∧ P) ∨ (r = 0 ∧ ¬ P) := by
  rcases H with ⟨q, h⟩ | ⟨q, h⟩
  · exact Or.inl ⟨Int32.toInt_inj.mp q, h⟩
  · exact Or.inr ⟨Int32.toInt_inj.mp q, h⟩
/-! arrays: their length and what each place holds -/
def own_A (Z : State) (h : Heap) (a : Addr) (ty : FieldType) (n : Nat) (f : Nat → Value) : Prop := ∃ c : Cell, Arr Z h a c ty ∧ c.slots.size = n ∧ ∀ i, i < n → c.slots[i]? = some (f i)
def own_AI (Z : State) (h : Heap) (a : Addr) (ty : FieldType) (n : Nat) (f : Nat → Int32) : Prop := own_A Z h a ty n (fun i => .int (f i))
def own_AJ (Z : State) (h : Heap) (a : Addr) (n : Nat) (f : Nat → Int64) : Prop := own_A Z h a .long n (fun i => .long (f i))
variable {ty : FieldType} {n : Nat} {fv : Nat → Value} {fi : Nat → Int32} {fj : Nat → Int64}
theorem own_A.lt (F : own_A Z h a ty n fv) : a < h.size := by obtain ⟨c, A, -⟩ := F; exact A.lt
theorem own_A.ext (F : own_A Z h a ty n fv) (E : Ext h h') : own_A Z h' a ty n fv := by obtain ⟨c, A, r⟩ := F; exact ⟨c, A.ext E, r⟩
theorem own_A.other {sl : Nat} {v : Value} (F : own_A Z h a ty n fv) (W : Wr h h' b sl v) (q : a ≠ b) : own_A Z h' a ty n fv := by obtain ⟨c, A, r⟩ := F; exact ⟨c, A.other W q, r⟩
theorem own_A.keep {ws : List Addr} (F : own_A Z h a ty n fv) (K : Keep h h' ws) (q : a ∉ ws) : own_A Z h' a ty n fv := by obtain ⟨c, A, r⟩ := F; exact ⟨c, ⟨K.2.1 a c A.1 q, A.2⟩, r⟩
theorem own_A.congr {gv : Nat → Value} (F : own_A Z h a ty n fv) (q : ∀ i, i < n → fv i = gv i) : own_A Z h a ty n gv := by obtain ⟨c, A, r, t⟩ := F; exact ⟨c, A, r, fun i hi => by rw [t i hi, q i hi]⟩
theorem own_A.set {j : Nat} {v : Value} (F : own_A Z h a ty n fv) (W : Wr h h' a j v) : own_A Z h' a ty n (fun i => if i = j then v else fv i) := by
  obtain ⟨c, A, r, t⟩ := F
  have W0 := W
  obtain ⟨c2, h1, -, h3, -⟩ := W0
  have ec : c2 = c := Option.some.inj (h1.symm.trans A.1)
  subst ec
  refine ⟨_, A.same W, by rw [sz_set]; exact r, fun i hi => ?_⟩
  by_cases q : i = j
  · subst q; simp [Cell.setSlot, h3]
  · simp only [q, if_false]; rw [← t i hi]; simp only [Cell.setSlot]; exact Array.getElem?_setIfInBounds_ne fun z => q z.symm
theorem own_A.new {k : ClassId} {z : Int32} (A : Arr Z h a (newA k ty z) ty) (q : z.toNatClampNeg = n) : own_A Z h a ty n (fun _ => defaultValue ty) := by
  subst q
  exact ⟨_, A, sz_new _ _ _, fun i hi => by simp [newA, hi]⟩
theorem own_AI.lt (F : own_AI Z h a ty n fi) : a < h.size := own_A.lt F
theorem own_AI.ext (F : own_AI Z h a ty n fi) (E : Ext h h') : own_AI Z h' a ty n fi := own_A.ext F E
theorem own_AI.other {sl : Nat} {v : Value} (F : own_AI Z h a ty n fi) (W : Wr h h' b sl v) (q : a ≠ b) : own_AI Z h' a ty n fi := own_A.other F W q
theorem own_AI.keep {ws : List Addr} (F : own_AI Z h a ty n fi) (K : Keep h h' ws) (q : a ∉ ws) : own_AI Z h' a ty n fi := own_A.keep F K q
theorem own_AI.congr {gi : Nat → Int32} (F : own_AI Z h a ty n fi) (q : ∀ i, i < n → fi i = gi i) : own_AI Z h a ty n gi := own_A.congr F fun i hi => by rw [q i hi]
theorem own_AI.set {j : Nat} {x : Int32} (F : own_AI Z h a ty n fi) (W : Wr h h' a j (.int x)) : own_AI Z h' a ty n (fun i => if i = j then x else fi i) := (own_A.set F W).congr fun i _ => by by_cases q : i = j <;> simp [q]
theorem own_AI.newI {k : ClassId} {z : Int32} (A : Arr Z h a (newA k .int z) .int) (q : z.toNatClampNeg = n) : own_AI Z h a .int n (fun _ => 0) := own_A.new A q
theorem own_AI.newB {k : ClassId} {z : Int32} (A : Arr Z h a (newA k .byte z) .byte) (q : z.toNatClampNeg = n) : own_AI Z h a .byte n (fun _ => 0) := own_A.new A q
theorem own_AJ.lt (F : own_AJ Z h a n fj) : a < h.size := own_A.lt F
theorem own_AJ.ext (F : own_AJ Z h a n fj) (E : Ext h h') : own_AJ Z h' a n fj := own_A.ext F E
theorem own_AJ.other {sl : Nat} {v : Value} (F : own_AJ Z h a n fj) (W : Wr h h' b sl v) (q : a ≠ b) : own_AJ Z h' a n fj := own_A.other F W q
theorem own_AJ.keep {ws : List Addr} (F : own_AJ Z h a n fj) (K : Keep h h' ws) (q : a ∉ ws) : own_AJ Z h' a n fj := own_A.keep F K q
theorem own_AJ.congr {gj : Nat → Int64} (F : own_AJ Z h a n fj) (q : ∀ i, i < n → fj i = gj i) : own_AJ Z h a n gj := own_A.congr F fun i hi => by rw [q i hi]
theorem own_AJ.set {j : Nat} {x : Int64} (F : own_AJ Z h a n fj) (W : Wr h h' a j (.long x)) : own_AJ Z h' a n (fun i => if i = j then x else fj i) := (own_A.set F W).congr fun i _ => by by_cases q : i = j <;> simp [q]
theorem own_AJ.new {k : ClassId} {z : Int32} (A : Arr Z h a (newA k .long z) .long) (q : z.toNatClampNeg = n) : own_AJ Z h a n (fun _ => 0) := own_A.new A q
theorem own_in {j : Int32} {k n : Nat} (hj : j.toInt = (k : Int)) (hk : k < n) : j.toNatClampNeg = k ∧ ¬ (j < 0 ∨ n ≤ j.toNatClampNeg) := by
  have q : j.toNatClampNeg = k := by simp only [Int32.toNatClampNeg, hj]; omega
  refine ⟨q, fun z => ?_⟩
  rcases z with z | z
  · rw [Int32.lt_iff_toInt_lt, hj] at z
    have : (0 : Int32).toInt = 0 := rfl
    omega
  · omega
theorem own_iaload (X : Stand p l e R s m args below meth c T locs cells slots) (hx : p.tables.exec = Jvm.exec) (hZ : Z.Warmed39 s.vm) (eT : T.heap = h) (F : own_AI Z h a .int n fi) {j : Int32} {k : Nat} (hj : j.toInt = (k : Int)) (hk : k < n) {v : Int32} (hv : fi k = v) {pc pc' : Nat} {Ls : Array Slot} {rest : List Value}
    (hd : decode c.code pc = .ok (.iaload, 1)) (hp : pc + 1 = pc') (r : own_Fin p e below s Q cl sl T (mkF m pc' Ls (.int v :: rest))) : own_Fin p e below s Q cl sl T (mkF m pc Ls (.int j :: .ref a :: rest)) := by
  obtain ⟨cc, A, h1, h2⟩ := F
  obtain ⟨q1, q2⟩ := own_in hj hk
  subst hp hv
  exact own_step (fun t k' => X.iaload hx (j := j) (v := .int (fi k)) (by rw [eT]; exact A.1) (State.isArrayOf_alike hZ.alike A.2.1) A.2.2 (by rw [h1]; exact q2) (by rw [q1]; exact h2 k hk) (g := mkF m pc Ls (.int j :: .ref a :: rest)) rfl rfl hd _ k') r
theorem own_baload (X : Stand p l e R s m args below meth c T locs cells slots) (hx : p.tables.exec = Jvm.exec) (hZ : Z.Warmed39 s.vm) (eT : T.heap = h) (F : own_AI Z h a .byte n fi) {j : Int32} {k : Nat} (hj : j.toInt = (k : Int)) (hk : k < n) {v : Int32} (hv : fi k = v) {pc pc' : Nat} {Ls : Array Slot} {rest : List Value}
    (hd : decode c.code pc = .ok (.baload, 1)) (hp : pc + 1 = pc') (r : own_Fin p e below s Q cl sl T (mkF m pc' Ls (.int v :: rest))) : own_Fin p e below s Q cl sl T (mkF m pc Ls (.int j :: .ref a :: rest)) := by
  obtain ⟨cc, A, h1, h2⟩ := F
  obtain ⟨q1, q2⟩ := own_in hj hk
  subst hp hv
  exact own_step (fun t k' => X.baloadBytes hx (j := j) (v := .int (fi k)) (by rw [eT]; exact A.1) (State.isArrayOf_alike hZ.alike A.2.1) A.2.2 (by rw [h1]; exact q2) (by rw [q1]; exact h2 k hk) (g := mkF m pc Ls (.int j :: .ref a :: rest)) rfl rfl hd _ k') r
theorem own_laload (X : Stand p l e R s m args below meth c T locs cells slots) (hx : p.tables.exec = Jvm.exec) (hZ : Z.Warmed39 s.vm) (eT : T.heap = h) (F : own_AJ Z h a n fj) {j : Int32} {k : Nat} (hj : j.toInt = (k : Int)) (hk : k < n) {v : Int64} (hv : fj k = v) {pc pc' : Nat} {Ls : Array Slot} {rest : List Value}
    (hd : decode c.code pc = .ok (.laload, 1)) (hp : pc + 1 = pc') (r : own_Fin p e below s Q cl sl T (mkF m pc' Ls (.long v :: rest))) : own_Fin p e below s Q cl sl T (mkF m pc Ls (.int j :: .ref a :: rest)) := by
  obtain ⟨cc, A, h1, h2⟩ := F
  obtain ⟨q1, q2⟩ := own_in hj hk
  subst hp hv
  exact own_step (fun t k' => X.laload hx (j := j) (v := .long (fj k)) (by rw [eT]; exact A.1) (State.isArrayOf_alike hZ.alike A.2.1) A.2.2 (by rw [h1]; exact q2) (by rw [q1]; exact h2 k hk) (g := mkF m pc Ls (.int j :: .ref a :: rest)) rfl rfl hd _ k') r
theorem own_arrlen (X : Stand p l e R s m args below meth c T locs cells slots) (hx : p.tables.exec = Jvm.exec) (hZ : Z.Warmed39 s.vm) (eT : T.heap = h) (F : own_A Z h a ty n fv) {z : Int32} (hz : n.toInt32 = z) {pc pc' : Nat} {Ls : Array Slot} {rest : List Value}
    (hd : decode c.code pc = .ok (.arraylength, 1)) (hp : pc + 1 = pc') (r : own_Fin p e below s Q cl sl T (mkF m pc' Ls (.int z :: rest))) : own_Fin p e below s Q cl sl T (mkF m pc Ls (.ref a :: rest)) := by
  obtain ⟨cc, A, h1, h2⟩ := F
  subst hp hz
  exact own_step (fun t k' => X.arraylength hx (by rw [eT]; exact A.1) (State.isArrayOf_alike hZ.alike A.2.1) (g := mkF m pc Ls (.ref a :: rest)) rfl rfl hd _ (by rw [h1]; exact k')) r
theorem own_iastore (X : Stand p l e R s m args below meth c T locs cells slots) (hx : p.tables.exec = Jvm.exec) (hZ : Z.Warmed39 s.vm) (eT : T.heap = h) (F : own_AI Z h a .int n fi) {j : Int32} {k : Nat} (hj : j.toInt = (k : Int)) (hk : k < n) {x : Int32} {pc pc' : Nat} {Ls : Array Slot} {rest : List Value}
    (hd : decode c.code pc = .ok (.iastore, 1)) (hp : pc + 1 = pc') :
    ∃ T' h', Stand p l e R s m args below meth c T' (locs ++ [⟨a, k⟩]) cells slots ∧ T'.heap = h' ∧ Wr h h' a k (.int x) ∧ own_AI Z h' a .int n (fun i => if i = k then x else fi i) ∧ ∀ t, Steps p.tables e below (T'.setTop (mkF m pc' Ls rest)) t → Steps p.tables e below (T.setTop (mkF m pc Ls (.int x :: .int j :: .ref a :: rest))) t := by
  obtain ⟨q1, q2⟩ := own_in hj hk
  have F' := F
  obtain ⟨cc, A, h1, h2⟩ := F
  subst hp q1
  obtain ⟨T', h', X', e', W', st⟩ := stI X hx hZ eT A (j := j) (x := x) (by rw [h1]; exact q2) (g := mkF m pc Ls (.int x :: .int j :: .ref a :: rest)) rfl rfl hd
  exact ⟨T', h', X', e', W', F'.set W', st⟩
theorem own_bastore (X : Stand p l e R s m args below meth c T locs cells slots) (hx : p.tables.exec = Jvm.exec) (hZ : Z.Warmed39 s.vm) (eT : T.heap = h) (F : own_AI Z h a .byte n fi) {j : Int32} {k : Nat} (hj : j.toInt = (k : Int)) (hk : k < n) {x y : Int32} (hn : nar .byte x = y) {pc pc' : Nat} {Ls : Array Slot} {rest : List Value}
    (hd : decode c.code pc = .ok (.bastore, 1)) (hp : pc + 1 = pc') :
    ∃ T' h', Stand p l e R s m args below meth c T' (locs ++ [⟨a, k⟩]) cells slots ∧ T'.heap = h' ∧ Wr h h' a k (.int y) ∧ own_AI Z h' a .byte n (fun i => if i = k then y else fi i) ∧ ∀ t, Steps p.tables e below (T'.setTop (mkF m pc' Ls rest)) t → Steps p.tables e below (T.setTop (mkF m pc Ls (.int x :: .int j :: .ref a :: rest))) t := by
  obtain ⟨q1, q2⟩ := own_in hj hk
  have F' := F
  obtain ⟨cc, A, h1, h2⟩ := F
  subst hp q1 hn
  obtain ⟨T', h', X', e', W', st⟩ := stB X hx hZ eT A (j := j) (x := x) (by rw [h1]; exact q2) (g := mkF m pc Ls (.int x :: .int j :: .ref a :: rest)) rfl rfl hd
  exact ⟨T', h', X', e', W', F'.set W', st⟩
theorem own_lastore (X : Stand p l e R s m args below meth c T locs cells slots) (hx : p.tables.exec = Jvm.exec) (hZ : Z.Warmed39 s.vm) (eT : T.heap = h) (F : own_AJ Z h a n fj) {j : Int32} {k : Nat} (hj : j.toInt = (k : Int)) (hk : k < n) {x : Int64} {pc pc' : Nat} {Ls : Array Slot} {rest : List Value}
    (hd : decode c.code pc = .ok (.lastore, 1)) (hp : pc + 1 = pc') :
    ∃ T' h', Stand p l e R s m args below meth c T' (locs ++ [⟨a, k⟩]) cells slots ∧ T'.heap = h' ∧ Wr h h' a k (.long x) ∧ own_AJ Z h' a n (fun i => if i = k then x else fj i) ∧ ∀ t, Steps p.tables e below (T'.setTop (mkF m pc' Ls rest)) t → Steps p.tables e below (T.setTop (mkF m pc Ls (.long x :: .int j :: .ref a :: rest))) t := by
  obtain ⟨q1, q2⟩ := own_in hj hk
  have F' := F
  obtain ⟨cc, A, h1, h2⟩ := F
  subst hp q1
  obtain ⟨T', h', X', e', W', st⟩ := stJ X hx hZ eT A (j := j) (x := x) (by rw [h1]; exact q2) (g := mkF m pc Ls (.long x :: .int j :: .ref a :: rest)) rfl rfl hd
  exact ⟨T', h', X', e', W', F'.set W', st⟩
theorem own_nar8 (x : Int32) : nar .byte x.toInt8.toInt32 = x.toInt8.toInt32 := by
  show (x.toInt8.toInt32).toInt8.toInt32 = x.toInt8.toInt32
  simp
end OwnKit
def own_S14 (x : Int) : Prop := 65536 ≤ x ∧ x ≤ 983039
def own_S13 (x : Int) : Prop := (65008 ≤ x ∧ x ≤ 65533) ∨ own_S14 x
def own_S12 (x : Int) : Prop := (63744 ≤ x ∧ x ≤ 64975) ∨ own_S13 x
def own_S11 (x : Int) : Prop := (12289 ≤ x ∧ x ≤ 55295) ∨ own_S12 x
def own_S10 (x : Int) : Prop := (11264 ≤ x ∧ x ≤ 12271) ∨ own_S11 x
def own_S9 (x : Int) : Prop := (8304 ≤ x ∧ x ≤ 8591) ∨ own_S10 x
def own_S8 (x : Int) : Prop := (8204 ≤ x ∧ x ≤ 8205) ∨ own_S9 x
def own_S7 (x : Int) : Prop := (895 ≤ x ∧ x ≤ 8191) ∨ own_S8 x
def own_S6 (x : Int) : Prop := (880 ≤ x ∧ x ≤ 893) ∨ own_S7 x
def own_S5 (x : Int) : Prop := (248 ≤ x ∧ x ≤ 767) ∨ own_S6 x
def own_S4 (x : Int) : Prop := (216 ≤ x ∧ x ≤ 246) ∨ own_S5 x
def own_S3 (x : Int) : Prop := (192 ≤ x ∧ x ≤ 214) ∨ own_S4 x
def own_S2 (x : Int) : Prop := (97 ≤ x ∧ x ≤ 122) ∨ own_S3 x
def own_S1 (x : Int) : Prop := (65 ≤ x ∧ x ≤ 90) ∨ own_S2 x
theorem own_in1 {x : Int} (h1 : 65 ≤ x) (h2 : x ≤ 90) : own_S1 x := Or.inl ⟨h1, h2⟩
theorem own_sk1 {x : Int} (h : x < 65 ∨ 90 < x) : own_S1 x ↔ own_S2 x := ⟨fun q => q.elim (fun r => absurd r (by omega)) id, Or.inr⟩
theorem own_in2 {x : Int} (h1 : 97 ≤ x) (h2 : x ≤ 122) : own_S2 x := Or.inl ⟨h1, h2⟩
theorem own_sk2 {x : Int} (h : x < 97 ∨ 122 < x) : own_S2 x ↔ own_S3 x := ⟨fun q => q.elim (fun r => absurd r (by omega)) id, Or.inr⟩
theorem own_in3 {x : Int} (h1 : 192 ≤ x) (h2 : x ≤ 214) : own_S3 x := Or.inl ⟨h1, h2⟩
theorem own_sk3 {x : Int} (h : x < 192 ∨ 214 < x) : own_S3 x ↔ own_S4 x := ⟨fun q => q.elim (fun r => absurd r (by omega)) id, Or.inr⟩
theorem own_in4 {x : Int} (h1 : 216 ≤ x) (h2 : x ≤ 246) : own_S4 x := Or.inl ⟨h1, h2⟩
theorem own_sk4 {x : Int} (h : x < 216 ∨ 246 < x) : own_S4 x ↔ own_S5 x := ⟨fun q => q.elim (fun r => absurd r (by omega)) id, Or.inr⟩
theorem own_in5 {x : Int} (h1 : 248 ≤ x) (h2 : x ≤ 767) : own_S5 x := Or.inl ⟨h1, h2⟩
theorem own_sk5 {x : Int} (h : x < 248 ∨ 767 < x) : own_S5 x ↔ own_S6 x := ⟨fun q => q.elim (fun r => absurd r (by omega)) id, Or.inr⟩
theorem own_in6 {x : Int} (h1 : 880 ≤ x) (h2 : x ≤ 893) : own_S6 x := Or.inl ⟨h1, h2⟩
theorem own_sk6 {x : Int} (h : x < 880 ∨ 893 < x) : own_S6 x ↔ own_S7 x := ⟨fun q => q.elim (fun r => absurd r (by omega)) id, Or.inr⟩
theorem own_in7 {x : Int} (h1 : 895 ≤ x) (h2 : x ≤ 8191) : own_S7 x := Or.inl ⟨h1, h2⟩
theorem own_sk7 {x : Int} (h : x < 895 ∨ 8191 < x) : own_S7 x ↔ own_S8 x := ⟨fun q => q.elim (fun r => absurd r (by omega)) id, Or.inr⟩
theorem own_in8 {x : Int} (h1 : 8204 ≤ x) (h2 : x ≤ 8205) : own_S8 x := Or.inl ⟨h1, h2⟩
theorem own_sk8 {x : Int} (h : x < 8204 ∨ 8205 < x) : own_S8 x ↔ own_S9 x := ⟨fun q => q.elim (fun r => absurd r (by omega)) id, Or.inr⟩
theorem own_in9 {x : Int} (h1 : 8304 ≤ x) (h2 : x ≤ 8591) : own_S9 x := Or.inl ⟨h1, h2⟩
theorem own_sk9 {x : Int} (h : x < 8304 ∨ 8591 < x) : own_S9 x ↔ own_S10 x := ⟨fun q => q.elim (fun r => absurd r (by omega)) id, Or.inr⟩
theorem own_in10 {x : Int} (h1 : 11264 ≤ x) (h2 : x ≤ 12271) : own_S10 x := Or.inl ⟨h1, h2⟩
theorem own_sk10 {x : Int} (h : x < 11264 ∨ 12271 < x) : own_S10 x ↔ own_S11 x := ⟨fun q => q.elim (fun r => absurd r (by omega)) id, Or.inr⟩
theorem own_in11 {x : Int} (h1 : 12289 ≤ x) (h2 : x ≤ 55295) : own_S11 x := Or.inl ⟨h1, h2⟩
theorem own_sk11 {x : Int} (h : x < 12289 ∨ 55295 < x) : own_S11 x ↔ own_S12 x := ⟨fun q => q.elim (fun r => absurd r (by omega)) id, Or.inr⟩
theorem own_in12 {x : Int} (h1 : 63744 ≤ x) (h2 : x ≤ 64975) : own_S12 x := Or.inl ⟨h1, h2⟩
theorem own_sk12 {x : Int} (h : x < 63744 ∨ 64975 < x) : own_S12 x ↔ own_S13 x := ⟨fun q => q.elim (fun r => absurd r (by omega)) id, Or.inr⟩
theorem own_in13 {x : Int} (h1 : 65008 ≤ x) (h2 : x ≤ 65533) : own_S13 x := Or.inl ⟨h1, h2⟩
theorem own_sk13 {x : Int} (h : x < 65008 ∨ 65533 < x) : own_S13 x ↔ own_S14 x := ⟨fun q => q.elim (fun r => absurd r (by omega)) id, Or.inr⟩
theorem d1_0 : decode prog_91_method_2_code 0 = .ok (.iload_n 0, 1) := by decide +kernel
theorem d1_1 : decode prog_91_method_2_code 1 = .ok (.bipush 65, 2) := by decide +kernel
theorem d1_3 : decode prog_91_method_2_code 3 = .ok (.if_icmp .lt 9, 3) := by decide +kernel
theorem d1_6 : decode prog_91_method_2_code 6 = .ok (.iload_n 0, 1) := by decide +kernel
theorem d1_7 : decode prog_91_method_2_code 7 = .ok (.bipush 90, 2) := by decide +kernel
theorem d1_9 : decode prog_91_method_2_code 9 = .ok (.if_icmp .le 176, 3) := by decide +kernel
theorem d1_12 : decode prog_91_method_2_code 12 = .ok (.iload_n 0, 1) := by decide +kernel
theorem d1_13 : decode prog_91_method_2_code 13 = .ok (.bipush 97, 2) := by decide +kernel
theorem d1_15 : decode prog_91_method_2_code 15 = .ok (.if_icmp .lt 9, 3) := by decide +kernel
theorem d1_18 : decode prog_91_method_2_code 18 = .ok (.iload_n 0, 1) := by decide +kernel
theorem d1_19 : decode prog_91_method_2_code 19 = .ok (.bipush 122, 2) := by decide +kernel
theorem d1_21 : decode prog_91_method_2_code 21 = .ok (.if_icmp .le 164, 3) := by decide +kernel
theorem d1_24 : decode prog_91_method_2_code 24 = .ok (.iload_n 0, 1) := by decide +kernel
theorem d1_25 : decode prog_91_method_2_code 25 = .ok (.sipush 192, 3) := by decide +kernel
theorem d1_28 : decode prog_91_method_2_code 28 = .ok (.if_icmp .lt 10, 3) := by decide +kernel
theorem d1_31 : decode prog_91_method_2_code 31 = .ok (.iload_n 0, 1) := by decide +kernel
theorem d1_32 : decode prog_91_method_2_code 32 = .ok (.sipush 214, 3) := by decide +kernel
theorem d1_35 : decode prog_91_method_2_code 35 = .ok (.if_icmp .le 150, 3) := by decide +kernel
theorem d1_38 : decode prog_91_method_2_code 38 = .ok (.iload_n 0, 1) := by decide +kernel
theorem d1_39 : decode prog_91_method_2_code 39 = .ok (.sipush 216, 3) := by decide +kernel
theorem d1_42 : decode prog_91_method_2_code 42 = .ok (.if_icmp .lt 10, 3) := by decide +kernel
theorem d1_45 : decode prog_91_method_2_code 45 = .ok (.iload_n 0, 1) := by decide +kernel
theorem d1_46 : decode prog_91_method_2_code 46 = .ok (.sipush 246, 3) := by decide +kernel
theorem d1_49 : decode prog_91_method_2_code 49 = .ok (.if_icmp .le 136, 3) := by decide +kernel
theorem d1_52 : decode prog_91_method_2_code 52 = .ok (.iload_n 0, 1) := by decide +kernel
theorem d1_53 : decode prog_91_method_2_code 53 = .ok (.sipush 248, 3) := by decide +kernel
theorem d1_56 : decode prog_91_method_2_code 56 = .ok (.if_icmp .lt 10, 3) := by decide +kernel
theorem d1_59 : decode prog_91_method_2_code 59 = .ok (.iload_n 0, 1) := by decide +kernel
theorem d1_60 : decode prog_91_method_2_code 60 = .ok (.sipush 767, 3) := by decide +kernel
theorem d1_63 : decode prog_91_method_2_code 63 = .ok (.if_icmp .le 122, 3) := by decide +kernel
theorem d1_66 : decode prog_91_method_2_code 66 = .ok (.iload_n 0, 1) := by decide +kernel
theorem d1_67 : decode prog_91_method_2_code 67 = .ok (.sipush 880, 3) := by decide +kernel
theorem d1_70 : decode prog_91_method_2_code 70 = .ok (.if_icmp .lt 10, 3) := by decide +kernel
theorem d1_73 : decode prog_91_method_2_code 73 = .ok (.iload_n 0, 1) := by decide +kernel
theorem d1_74 : decode prog_91_method_2_code 74 = .ok (.sipush 893, 3) := by decide +kernel
theorem d1_77 : decode prog_91_method_2_code 77 = .ok (.if_icmp .le 108, 3) := by decide +kernel
theorem d1_80 : decode prog_91_method_2_code 80 = .ok (.iload_n 0, 1) := by decide +kernel
theorem d1_81 : decode prog_91_method_2_code 81 = .ok (.sipush 895, 3) := by decide +kernel
theorem d1_84 : decode prog_91_method_2_code 84 = .ok (.if_icmp .lt 10, 3) := by decide +kernel
theorem d1_87 : decode prog_91_method_2_code 87 = .ok (.iload_n 0, 1) := by decide +kernel
theorem d1_88 : decode prog_91_method_2_code 88 = .ok (.sipush 8191, 3) := by decide +kernel
theorem d1_91 : decode prog_91_method_2_code 91 = .ok (.if_icmp .le 94, 3) := by decide +kernel
theorem d1_94 : decode prog_91_method_2_code 94 = .ok (.iload_n 0, 1) := by decide +kernel
theorem d1_95 : decode prog_91_method_2_code 95 = .ok (.sipush 8204, 3) := by decide +kernel
theorem d1_98 : decode prog_91_method_2_code 98 = .ok (.if_icmp .lt 10, 3) := by decide +kernel
theorem d1_101 : decode prog_91_method_2_code 101 = .ok (.iload_n 0, 1) := by decide +kernel
theorem d1_102 : decode prog_91_method_2_code 102 = .ok (.sipush 8205, 3) := by decide +kernel
theorem d1_105 : decode prog_91_method_2_code 105 = .ok (.if_icmp .le 80, 3) := by decide +kernel
theorem d1_108 : decode prog_91_method_2_code 108 = .ok (.iload_n 0, 1) := by decide +kernel
theorem d1_109 : decode prog_91_method_2_code 109 = .ok (.sipush 8304, 3) := by decide +kernel
theorem d1_112 : decode prog_91_method_2_code 112 = .ok (.if_icmp .lt 10, 3) := by decide +kernel
theorem d1_115 : decode prog_91_method_2_code 115 = .ok (.iload_n 0, 1) := by decide +kernel
theorem d1_116 : decode prog_91_method_2_code 116 = .ok (.sipush 8591, 3) := by decide +kernel
theorem d1_119 : decode prog_91_method_2_code 119 = .ok (.if_icmp .le 66, 3) := by decide +kernel
theorem d1_122 : decode prog_91_method_2_code 122 = .ok (.iload_n 0, 1) := by decide +kernel
theorem d1_123 : decode prog_91_method_2_code 123 = .ok (.sipush 11264, 3) := by decide +kernel
theorem d1_126 : decode prog_91_method_2_code 126 = .ok (.if_icmp .lt 10, 3) := by decide +kernel
theorem d1_129 : decode prog_91_method_2_code 129 = .ok (.iload_n 0, 1) := by decide +kernel
theorem d1_130 : decode prog_91_method_2_code 130 = .ok (.sipush 12271, 3) := by decide +kernel
theorem d1_133 : decode prog_91_method_2_code 133 = .ok (.if_icmp .le 52, 3) := by decide +kernel
theorem d1_136 : decode prog_91_method_2_code 136 = .ok (.iload_n 0, 1) := by decide +kernel
theorem d1_137 : decode prog_91_method_2_code 137 = .ok (.sipush 12289, 3) := by decide +kernel
theorem d1_140 : decode prog_91_method_2_code 140 = .ok (.if_icmp .lt 9, 3) := by decide +kernel
theorem d1_143 : decode prog_91_method_2_code 143 = .ok (.iload_n 0, 1) := by decide +kernel
theorem d1_144 : decode prog_91_method_2_code 144 = .ok (.ldc 7, 2) := by decide +kernel
theorem d1_146 : decode prog_91_method_2_code 146 = .ok (.if_icmp .le 39, 3) := by decide +kernel
theorem d1_149 : decode prog_91_method_2_code 149 = .ok (.iload_n 0, 1) := by decide +kernel
theorem d1_150 : decode prog_91_method_2_code 150 = .ok (.ldc 8, 2) := by decide +kernel
theorem d1_152 : decode prog_91_method_2_code 152 = .ok (.if_icmp .lt 9, 3) := by decide +kernel
theorem d1_155 : decode prog_91_method_2_code 155 = .ok (.iload_n 0, 1) := by decide +kernel
theorem d1_156 : decode prog_91_method_2_code 156 = .ok (.ldc 9, 2) := by decide +kernel
theorem d1_158 : decode prog_91_method_2_code 158 = .ok (.if_icmp .le 27, 3) := by decide +kernel
theorem d1_161 : decode prog_91_method_2_code 161 = .ok (.iload_n 0, 1) := by decide +kernel
theorem d1_162 : decode prog_91_method_2_code 162 = .ok (.ldc 10, 2) := by decide +kernel
theorem d1_164 : decode prog_91_method_2_code 164 = .ok (.if_icmp .lt 9, 3) := by decide +kernel
theorem d1_167 : decode prog_91_method_2_code 167 = .ok (.iload_n 0, 1) := by decide +kernel
theorem d1_168 : decode prog_91_method_2_code 168 = .ok (.ldc 11, 2) := by decide +kernel
theorem d1_170 : decode prog_91_method_2_code 170 = .ok (.if_icmp .le 15, 3) := by decide +kernel
theorem d1_173 : decode prog_91_method_2_code 173 = .ok (.iload_n 0, 1) := by decide +kernel
theorem d1_174 : decode prog_91_method_2_code 174 = .ok (.ldc 12, 2) := by decide +kernel
theorem d1_176 : decode prog_91_method_2_code 176 = .ok (.if_icmp .lt 13, 3) := by decide +kernel
theorem d1_179 : decode prog_91_method_2_code 179 = .ok (.iload_n 0, 1) := by decide +kernel
theorem d1_180 : decode prog_91_method_2_code 180 = .ok (.ldc 13, 2) := by decide +kernel
theorem d1_182 : decode prog_91_method_2_code 182 = .ok (.if_icmp .gt 7, 3) := by decide +kernel
theorem d1_185 : decode prog_91_method_2_code 185 = .ok (.iconst 1, 1) := by decide +kernel
theorem d1_186 : decode prog_91_method_2_code 186 = .ok (.goto 4, 3) := by decide +kernel
theorem d1_189 : decode prog_91_method_2_code 189 = .ok (.iconst 0, 1) := by decide +kernel
theorem d1_190 : decode prog_91_method_2_code 190 = .ok (.ireturn, 1) := by decide +kernel
theorem own_pn_1 : plainName site_211.cls = true := by first | (simp [plainName, overriddenIn]; done) | decide +kernel
theorem own_ef_1 (m : MethodId) (p1 : Int32) : entryFrame m #[(.int p1)] 1 = mkF m 0 #[.val (.int p1)] [] := by first | (simp [entryFrame, mkF, argsToLocals, Value.category]; done) | rfl
abbrev own_R1 : Room := { frames := 0, cells := 0, slots := 0, locals := 0 }
def own_Q1 (Z : State) (p1 : Int32) (h0 : Heap) (n0 : Nat) (v : Option Value) (h : Heap) (L : List Loc) : Prop := ∃ r : Int32, v = some (.int r) ∧ own_B r (own_S1 p1.toInt) ∧ Fr n0 L ∧ h = h0
set_option maxRecDepth 65536 in
set_option maxHeartbeats 40000000 in
theorem rm1 (l : Launch) (Z : State) (a0 : Array Value) (hw : ∀ d ∈ tables_1, d.before a0 Z = true) (ws : List Jvm.Cond) (p1 : Int32) (h0 : Heap) (n0 : Nat) (Z0 : n0 ≤ h0.size) :
    MetFree l (⟨site_211.cls, "isPnCharsBase", "(I)Z"⟩ : MethodName) (head1 (Jvm.Cond.code (⟨site_211.cls, "isPnCharsBase", "(I)Z"⟩ : MethodName) prog_91_method_2_code 1 (some .boolean) :: ws) own_R1) (fun a U => a = #[(.int p1)] ∧ Z.Warmed39 U.vm ∧ U.heap = h0) (fun _ _ _ _ _ => True) (fun _ U o U' => ∃ v L, o = .returned v ∧ own_Q1 Z p1 h0 n0 v U'.heap L ∧ FrameEnd U o U' L own_R1.cells own_R1.slots) := by
  refine MetFree.of_bodySF (plainFor_of_name own_pn_1) hisR ?_
  intro p e s m args below meth c s₁ Bd hml0 hP hK
  obtain ⟨rfl, hZ, hh⟩ := hP
  have hx := Bd.exec
  have hby := Bd.bytes
  have hlk := BodyLoose.notSynchronized Bd
  have hml : c.maxLocals = 1 := hml0
  have hown : s.vm.findClass site_211.cls = some m.cls := (findClass_of_methodNamed Bd.named : s.vm.findClass (⟨site_211.cls, "isPnCharsBase", "(I)Z"⟩ : MethodName).cls = some m.cls)
  have hnm := (name_of_methodNamed Bd.named Bd.method).1
  have X0 : Stand p l e own_R1 s m #[(.int p1)] below meth c s₁ [] 0 0 := Stand.of_body Bd
  have e0 : s₁.heap = h0 := by rw [← hh, Bd.state]; rfl
  have Nf := Fr.nil n0
  have Zs := Z0
  show own_Fin p e below s (own_Q1 Z p1 h0 n0) 0 0 s₁ (entryFrame m #[(.int p1)] 1)
  rw [own_ef_1 m p1]
  show own_Fin _ _ _ _ _ _ _ _ (mkF m 0 #[.val (.int p1)] [])
  have hJ : own_S1 p1.toInt ↔ own_S1 p1.toInt := Iff.rfl
  have j185 : (own_S1 p1.toInt) → own_Fin p e below s (own_Q1 Z p1 h0 n0) 0 0 s₁ (mkF m 185 #[.val (.int p1)] []) := by
    intro hJ
    refine own_step (fun t k => XS.iconst X0.here hx rfl (hb hby d1_185) k) ?_
    show own_Fin _ _ _ _ _ _ _ _ (mkF m 186 #[.val (.int p1)] [(.int (1 : Int32))])
    refine own_step (fun t k => XS.goto X0.here hx rfl (pc0 := 186) (pc' := 190) rfl (hb hby d1_186) (by decide) (by decide) k) ?_
    show own_Fin _ _ _ _ _ _ _ _ (mkF m 190 #[.val (.int p1)] [(.int (1 : Int32))])
    refine own_retZ X0 hx hlk Bd.returns (hb hby d1_190) (z' := (1 : Int32)) (by decide) (by decide) (by decide) e0 ?_
    exact ⟨_, rfl, own_B1 (by exact hJ), Nf, rfl⟩
  have j189 : (¬ own_S1 p1.toInt) → own_Fin p e below s (own_Q1 Z p1 h0 n0) 0 0 s₁ (mkF m 189 #[.val (.int p1)] []) := by
    intro hJ
    refine own_step (fun t k => XS.iconst X0.here hx rfl (hb hby d1_189) k) ?_
    show own_Fin _ _ _ _ _ _ _ _ (mkF m 190 #[.val (.int p1)] [(.int (0 : Int32))])
    refine own_retZ X0 hx hlk Bd.returns (hb hby d1_190) (z' := (0 : Int32)) (by decide) (by decide) (by decide) e0 ?_
    exact ⟨_, rfl, own_B0 (by exact hJ), Nf, rfl⟩
  have j173 : (own_S1 p1.toInt ↔ own_S14 p1.toInt) → own_Fin p e below s (own_Q1 Z p1 h0 n0) 0 0 s₁ (mkF m 173 #[.val (.int p1)] []) := by
    intro hJ
    refine own_step (fun t k => XS.iloadN X0.here hx rfl (hb hby d1_173) rfl k) ?_
    show own_Fin _ _ _ _ _ _ _ _ (mkF m 174 #[.val (.int p1)] [(.int p1)])
    refine own_step (fun t k => X0.ldcInt hx hown (mvT hZ (hw _ (List.mem_of_getElem? (i := 15) rfl))) (g := (mkF m 174 #[.val (.int p1)] [(.int p1)])) rfl (hb hby d1_174) _ k) ?_
    show own_Fin _ _ _ _ _ _ _ _ (mkF m 176 #[.val (.int p1)] [(.int (65536 : Int32)), (.int p1)])
    by_cases hc1 : (p1).toInt < 65536
    · skip
      refine own_step (fun t k => XS.icmpYes X0.here hx rfl (pc0 := 176) (pc' := 189) rfl (hb hby d1_176) rfl (own_cl (x := p1) (y := (65536 : Int32)) rfl rfl hc1).1 (by decide) (by decide) k) ?_
      show own_Fin _ _ _ _ _ _ _ _ (mkF m 189 #[.val (.int p1)] [])
      exact j189 (fun q => absurd (hJ.mp q) (fun r => by obtain ⟨r1, r2⟩ := r; omega))
    · skip
      refine own_step (fun t k => XS.icmpNo X0.here hx rfl (hb hby d1_176) rfl (own_cn (x := p1) (y := (65536 : Int32)) rfl rfl hc1).1 k) ?_
      show own_Fin _ _ _ _ _ _ _ _ (mkF m 179 #[.val (.int p1)] [])
      refine own_step (fun t k => XS.iloadN X0.here hx rfl (hb hby d1_179) rfl k) ?_
      show own_Fin _ _ _ _ _ _ _ _ (mkF m 180 #[.val (.int p1)] [(.int p1)])
      refine own_step (fun t k => X0.ldcInt hx hown (mvT hZ (hw _ (List.mem_of_getElem? (i := 23) rfl))) (g := (mkF m 180 #[.val (.int p1)] [(.int p1)])) rfl (hb hby d1_180) _ k) ?_
      show own_Fin _ _ _ _ _ _ _ _ (mkF m 182 #[.val (.int p1)] [(.int (983039 : Int32)), (.int p1)])
      by_cases hc2 : 983039 < (p1).toInt
      · skip
        refine own_step (fun t k => XS.icmpYes X0.here hx rfl (pc0 := 182) (pc' := 189) rfl (hb hby d1_182) rfl (own_cl (x := (983039 : Int32)) (y := p1) rfl rfl hc2).2.2.1 (by decide) (by decide) k) ?_
        show own_Fin _ _ _ _ _ _ _ _ (mkF m 189 #[.val (.int p1)] [])
        exact j189 (fun q => absurd (hJ.mp q) (fun r => by obtain ⟨r1, r2⟩ := r; omega))
      · skip
        refine own_step (fun t k => XS.icmpNo X0.here hx rfl (hb hby d1_182) rfl (own_cn (x := (983039 : Int32)) (y := p1) rfl rfl hc2).2.2.1 k) ?_
        show own_Fin _ _ _ _ _ _ _ _ (mkF m 185 #[.val (.int p1)] [])
        exact j185 (hJ.mpr ⟨by omega, by omega⟩)
  have j161 : (own_S1 p1.toInt ↔ own_S13 p1.toInt) → own_Fin p e below s (own_Q1 Z p1 h0 n0) 0 0 s₁ (mkF m 161 #[.val (.int p1)] []) := by
    intro hJ
    refine own_step (fun t k => XS.iloadN X0.here hx rfl (hb hby d1_161) rfl k) ?_
    show own_Fin _ _ _ _ _ _ _ _ (mkF m 162 #[.val (.int p1)] [(.int p1)])
    refine own_step (fun t k => X0.ldcInt hx hown (mvT hZ (hw _ (List.mem_of_getElem? (i := 14) rfl))) (g := (mkF m 162 #[.val (.int p1)] [(.int p1)])) rfl (hb hby d1_162) _ k) ?_
    show own_Fin _ _ _ _ _ _ _ _ (mkF m 164 #[.val (.int p1)] [(.int (65008 : Int32)), (.int p1)])
    by_cases hc3 : (p1).toInt < 65008
    · skip
      refine own_step (fun t k => XS.icmpYes X0.here hx rfl (pc0 := 164) (pc' := 173) rfl (hb hby d1_164) rfl (own_cl (x := p1) (y := (65008 : Int32)) rfl rfl hc3).1 (by decide) (by decide) k) ?_
      show own_Fin _ _ _ _ _ _ _ _ (mkF m 173 #[.val (.int p1)] [])
      exact j173 (hJ.trans (own_sk13 (by omega)))
    · skip
      refine own_step (fun t k => XS.icmpNo X0.here hx rfl (hb hby d1_164) rfl (own_cn (x := p1) (y := (65008 : Int32)) rfl rfl hc3).1 k) ?_
      show own_Fin _ _ _ _ _ _ _ _ (mkF m 167 #[.val (.int p1)] [])
      refine own_step (fun t k => XS.iloadN X0.here hx rfl (hb hby d1_167) rfl k) ?_
      show own_Fin _ _ _ _ _ _ _ _ (mkF m 168 #[.val (.int p1)] [(.int p1)])
      refine own_step (fun t k => X0.ldcInt hx hown (mvT hZ (hw _ (List.mem_of_getElem? (i := 22) rfl))) (g := (mkF m 168 #[.val (.int p1)] [(.int p1)])) rfl (hb hby d1_168) _ k) ?_
      show own_Fin _ _ _ _ _ _ _ _ (mkF m 170 #[.val (.int p1)] [(.int (65533 : Int32)), (.int p1)])
      by_cases hc4 : 65533 < (p1).toInt
      · skip
        refine own_step (fun t k => XS.icmpNo X0.here hx rfl (hb hby d1_170) rfl (own_cl (x := (65533 : Int32)) (y := p1) rfl rfl hc4).2.2.2 k) ?_
        show own_Fin _ _ _ _ _ _ _ _ (mkF m 173 #[.val (.int p1)] [])
        exact j173 (hJ.trans (own_sk13 (by omega)))
      · skip
        refine own_step (fun t k => XS.icmpYes X0.here hx rfl (pc0 := 170) (pc' := 185) rfl (hb hby d1_170) rfl (own_cn (x := (65533 : Int32)) (y := p1) rfl rfl hc4).2.2.2 (by decide) (by decide) k) ?_
        show own_Fin _ _ _ _ _ _ _ _ (mkF m 185 #[.val (.int p1)] [])
        exact j185 (hJ.mpr (own_in13 (by omega) (by omega)))
  have j149 : (own_S1 p1.toInt ↔ own_S12 p1.toInt) → own_Fin p e below s (own_Q1 Z p1 h0 n0) 0 0 s₁ (mkF m 149 #[.val (.int p1)] []) := by
    intro hJ
    refine own_step (fun t k => XS.iloadN X0.here hx rfl (hb hby d1_149) rfl k) ?_
    show own_Fin _ _ _ _ _ _ _ _ (mkF m 150 #[.val (.int p1)] [(.int p1)])
    refine own_step (fun t k => X0.ldcInt hx hown (mvT hZ (hw _ (List.mem_of_getElem? (i := 13) rfl))) (g := (mkF m 150 #[.val (.int p1)] [(.int p1)])) rfl (hb hby d1_150) _ k) ?_
    show own_Fin _ _ _ _ _ _ _ _ (mkF m 152 #[.val (.int p1)] [(.int (63744 : Int32)), (.int p1)])
    by_cases hc5 : (p1).toInt < 63744
    · skip
      refine own_step (fun t k => XS.icmpYes X0.here hx rfl (pc0 := 152) (pc' := 161) rfl (hb hby d1_152) rfl (own_cl (x := p1) (y := (63744 : Int32)) rfl rfl hc5).1 (by decide) (by decide) k) ?_
      show own_Fin _ _ _ _ _ _ _ _ (mkF m 161 #[.val (.int p1)] [])
      exact j161 (hJ.trans (own_sk12 (by omega)))
    · skip
      refine own_step (fun t k => XS.icmpNo X0.here hx rfl (hb hby d1_152) rfl (own_cn (x := p1) (y := (63744 : Int32)) rfl rfl hc5).1 k) ?_
      show own_Fin _ _ _ _ _ _ _ _ (mkF m 155 #[.val (.int p1)] [])
      refine own_step (fun t k => XS.iloadN X0.here hx rfl (hb hby d1_155) rfl k) ?_
      show own_Fin _ _ _ _ _ _ _ _ (mkF m 156 #[.val (.int p1)] [(.int p1)])
      refine own_step (fun t k => X0.ldcInt hx hown (mvT hZ (hw _ (List.mem_of_getElem? (i := 21) rfl))) (g := (mkF m 156 #[.val (.int p1)] [(.int p1)])) rfl (hb hby d1_156) _ k) ?_
      show own_Fin _ _ _ _ _ _ _ _ (mkF m 158 #[.val (.int p1)] [(.int (64975 : Int32)), (.int p1)])
      by_cases hc6 : 64975 < (p1).toInt
      · skip
        refine own_step (fun t k => XS.icmpNo X0.here hx rfl (hb hby d1_158) rfl (own_cl (x := (64975 : Int32)) (y := p1) rfl rfl hc6).2.2.2 k) ?_
        show own_Fin _ _ _ _ _ _ _ _ (mkF m 161 #[.val (.int p1)] [])
        exact j161 (hJ.trans (own_sk12 (by omega)))
      · skip
        refine own_step (fun t k => XS.icmpYes X0.here hx rfl (pc0 := 158) (pc' := 185) rfl (hb hby d1_158) rfl (own_cn (x := (64975 : Int32)) (y := p1) rfl rfl hc6).2.2.2 (by decide) (by decide) k) ?_
        show own_Fin _ _ _ _ _ _ _ _ (mkF m 185 #[.val (.int p1)] [])
        exact j185 (hJ.mpr (own_in12 (by omega) (by omega)))
  have j136 : (own_S1 p1.toInt ↔ own_S11 p1.toInt) → own_Fin p e below s (own_Q1 Z p1 h0 n0) 0 0 s₁ (mkF m 136 #[.val (.int p1)] []) := by
    intro hJ
    refine own_step (fun t k => XS.iloadN X0.here hx rfl (hb hby d1_136) rfl k) ?_
    show own_Fin _ _ _ _ _ _ _ _ (mkF m 137 #[.val (.int p1)] [(.int p1)])
    refine own_step (fun t k => XS.sipush X0.here hx rfl (hb hby d1_137) k) ?_
    show own_Fin _ _ _ _ _ _ _ _ (mkF m 140 #[.val (.int p1)] [(.int (12289 : Int32)), (.int p1)])
    by_cases hc7 : (p1).toInt < 12289
    · skip
      refine own_step (fun t k => XS.icmpYes X0.here hx rfl (pc0 := 140) (pc' := 149) rfl (hb hby d1_140) rfl (own_cl (x := p1) (y := (12289 : Int32)) rfl rfl hc7).1 (by decide) (by decide) k) ?_
      show own_Fin _ _ _ _ _ _ _ _ (mkF m 149 #[.val (.int p1)] [])
      exact j149 (hJ.trans (own_sk11 (by omega)))
    · skip
      refine own_step (fun t k => XS.icmpNo X0.here hx rfl (hb hby d1_140) rfl (own_cn (x := p1) (y := (12289 : Int32)) rfl rfl hc7).1 k) ?_
      show own_Fin _ _ _ _ _ _ _ _ (mkF m 143 #[.val (.int p1)] [])
      refine own_step (fun t k => XS.iloadN X0.here hx rfl (hb hby d1_143) rfl k) ?_
      show own_Fin _ _ _ _ _ _ _ _ (mkF m 144 #[.val (.int p1)] [(.int p1)])
      refine own_step (fun t k => X0.ldcInt hx hown (mvT hZ (hw _ (List.mem_of_getElem? (i := 20) rfl))) (g := (mkF m 144 #[.val (.int p1)] [(.int p1)])) rfl (hb hby d1_144) _ k) ?_
      show own_Fin _ _ _ _ _ _ _ _ (mkF m 146 #[.val (.int p1)] [(.int (55295 : Int32)), (.int p1)])
      by_cases hc8 : 55295 < (p1).toInt
      · skip
        refine own_step (fun t k => XS.icmpNo X0.here hx rfl (hb hby d1_146) rfl (own_cl (x := (55295 : Int32)) (y := p1) rfl rfl hc8).2.2.2 k) ?_
        show own_Fin _ _ _ _ _ _ _ _ (mkF m 149 #[.val (.int p1)] [])
        exact j149 (hJ.trans (own_sk11 (by omega)))
      · skip
        refine own_step (fun t k => XS.icmpYes X0.here hx rfl (pc0 := 146) (pc' := 185) rfl (hb hby d1_146) rfl (own_cn (x := (55295 : Int32)) (y := p1) rfl rfl hc8).2.2.2 (by decide) (by decide) k) ?_
        show own_Fin _ _ _ _ _ _ _ _ (mkF m 185 #[.val (.int p1)] [])
        exact j185 (hJ.mpr (own_in11 (by omega) (by omega)))
  have j122 : (own_S1 p1.toInt ↔ own_S10 p1.toInt) → own_Fin p e below s (own_Q1 Z p1 h0 n0) 0 0 s₁ (mkF m 122 #[.val (.int p1)] []) := by
    intro hJ
    refine own_step (fun t k => XS.iloadN X0.here hx rfl (hb hby d1_122) rfl k) ?_
    show own_Fin _ _ _ _ _ _ _ _ (mkF m 123 #[.val (.int p1)] [(.int p1)])
    refine own_step (fun t k => XS.sipush X0.here hx rfl (hb hby d1_123) k) ?_
    show own_Fin _ _ _ _ _ _ _ _ (mkF m 126 #[.val (.int p1)] [(.int (11264 : Int32)), (.int p1)])
    by_cases hc9 : (p1).toInt < 11264
    · skip
      refine own_step (fun t k => XS.icmpYes X0.here hx rfl (pc0 := 126) (pc' := 136) rfl (hb hby d1_126) rfl (own_cl (x := p1) (y := (11264 : Int32)) rfl rfl hc9).1 (by decide) (by decide) k) ?_
      show own_Fin _ _ _ _ _ _ _ _ (mkF m 136 #[.val (.int p1)] [])
      exact j136 (hJ.trans (own_sk10 (by omega)))
    · skip
      refine own_step (fun t k => XS.icmpNo X0.here hx rfl (hb hby d1_126) rfl (own_cn (x := p1) (y := (11264 : Int32)) rfl rfl hc9).1 k) ?_
      show own_Fin _ _ _ _ _ _ _ _ (mkF m 129 #[.val (.int p1)] [])
      refine own_step (fun t k => XS.iloadN X0.here hx rfl (hb hby d1_129) rfl k) ?_
      show own_Fin _ _ _ _ _ _ _ _ (mkF m 130 #[.val (.int p1)] [(.int p1)])
      refine own_step (fun t k => XS.sipush X0.here hx rfl (hb hby d1_130) k) ?_
      show own_Fin _ _ _ _ _ _ _ _ (mkF m 133 #[.val (.int p1)] [(.int (12271 : Int32)), (.int p1)])
      by_cases hc10 : 12271 < (p1).toInt
      · skip
        refine own_step (fun t k => XS.icmpNo X0.here hx rfl (hb hby d1_133) rfl (own_cl (x := (12271 : Int32)) (y := p1) rfl rfl hc10).2.2.2 k) ?_
        show own_Fin _ _ _ _ _ _ _ _ (mkF m 136 #[.val (.int p1)] [])
        exact j136 (hJ.trans (own_sk10 (by omega)))
      · skip
        refine own_step (fun t k => XS.icmpYes X0.here hx rfl (pc0 := 133) (pc' := 185) rfl (hb hby d1_133) rfl (own_cn (x := (12271 : Int32)) (y := p1) rfl rfl hc10).2.2.2 (by decide) (by decide) k) ?_
        show own_Fin _ _ _ _ _ _ _ _ (mkF m 185 #[.val (.int p1)] [])
        exact j185 (hJ.mpr (own_in10 (by omega) (by omega)))
  have j108 : (own_S1 p1.toInt ↔ own_S9 p1.toInt) → own_Fin p e below s (own_Q1 Z p1 h0 n0) 0 0 s₁ (mkF m 108 #[.val (.int p1)] []) := by
    intro hJ
    refine own_step (fun t k => XS.iloadN X0.here hx rfl (hb hby d1_108) rfl k) ?_
    show own_Fin _ _ _ _ _ _ _ _ (mkF m 109 #[.val (.int p1)] [(.int p1)])
    refine own_step (fun t k => XS.sipush X0.here hx rfl (hb hby d1_109) k) ?_
    show own_Fin _ _ _ _ _ _ _ _ (mkF m 112 #[.val (.int p1)] [(.int (8304 : Int32)), (.int p1)])
    by_cases hc11 : (p1).toInt < 8304
    · skip
      refine own_step (fun t k => XS.icmpYes X0.here hx rfl (pc0 := 112) (pc' := 122) rfl (hb hby d1_112) rfl (own_cl (x := p1) (y := (8304 : Int32)) rfl rfl hc11).1 (by decide) (by decide) k) ?_
      show own_Fin _ _ _ _ _ _ _ _ (mkF m 122 #[.val (.int p1)] [])
      exact j122 (hJ.trans (own_sk9 (by omega)))
    · skip
      refine own_step (fun t k => XS.icmpNo X0.here hx rfl (hb hby d1_112) rfl (own_cn (x := p1) (y := (8304 : Int32)) rfl rfl hc11).1 k) ?_
      show own_Fin _ _ _ _ _ _ _ _ (mkF m 115 #[.val (.int p1)] [])
      refine own_step (fun t k => XS.iloadN X0.here hx rfl (hb hby d1_115) rfl k) ?_
      show own_Fin _ _ _ _ _ _ _ _ (mkF m 116 #[.val (.int p1)] [(.int p1)])
      refine own_step (fun t k => XS.sipush X0.here hx rfl (hb hby d1_116) k) ?_
      show own_Fin _ _ _ _ _ _ _ _ (mkF m 119 #[.val (.int p1)] [(.int (8591 : Int32)), (.int p1)])
      by_cases hc12 : 8591 < (p1).toInt
      · skip
        refine own_step (fun t k => XS.icmpNo X0.here hx rfl (hb hby d1_119) rfl (own_cl (x := (8591 : Int32)) (y := p1) rfl rfl hc12).2.2.2 k) ?_
        show own_Fin _ _ _ _ _ _ _ _ (mkF m 122 #[.val (.int p1)] [])
        exact j122 (hJ.trans (own_sk9 (by omega)))
      · skip
        refine own_step (fun t k => XS.icmpYes X0.here hx rfl (pc0 := 119) (pc' := 185) rfl (hb hby d1_119) rfl (own_cn (x := (8591 : Int32)) (y := p1) rfl rfl hc12).2.2.2 (by decide) (by decide) k) ?_
        show own_Fin _ _ _ _ _ _ _ _ (mkF m 185 #[.val (.int p1)] [])
        exact j185 (hJ.mpr (own_in9 (by omega) (by omega)))
  have j94 : (own_S1 p1.toInt ↔ own_S8 p1.toInt) → own_Fin p e below s (own_Q1 Z p1 h0 n0) 0 0 s₁ (mkF m 94 #[.val (.int p1)] []) := by
    intro hJ
    refine own_step (fun t k => XS.iloadN X0.here hx rfl (hb hby d1_94) rfl k) ?_
    show own_Fin _ _ _ _ _ _ _ _ (mkF m 95 #[.val (.int p1)] [(.int p1)])
    refine own_step (fun t k => XS.sipush X0.here hx rfl (hb hby d1_95) k) ?_
    show own_Fin _ _ _ _ _ _ _ _ (mkF m 98 #[.val (.int p1)] [(.int (8204 : Int32)), (.int p1)])
    by_cases hc13 : (p1).toInt < 8204
    · skip
      refine own_step (fun t k => XS.icmpYes X0.here hx rfl (pc0 := 98) (pc' := 108) rfl (hb hby d1_98) rfl (own_cl (x := p1) (y := (8204 : Int32)) rfl rfl hc13).1 (by decide) (by decide) k) ?_
      show own_Fin _ _ _ _ _ _ _ _ (mkF m 108 #[.val (.int p1)] [])
      exact j108 (hJ.trans (own_sk8 (by omega)))
    · skip
      refine own_step (fun t k => XS.icmpNo X0.here hx rfl (hb hby d1_98) rfl (own_cn (x := p1) (y := (8204 : Int32)) rfl rfl hc13).1 k) ?_
      show own_Fin _ _ _ _ _ _ _ _ (mkF m 101 #[.val (.int p1)] [])
      refine own_step (fun t k => XS.iloadN X0.here hx rfl (hb hby d1_101) rfl k) ?_
      show own_Fin _ _ _ _ _ _ _ _ (mkF m 102 #[.val (.int p1)] [(.int p1)])
      refine own_step (fun t k => XS.sipush X0.here hx rfl (hb hby d1_102) k) ?_
      show own_Fin _ _ _ _ _ _ _ _ (mkF m 105 #[.val (.int p1)] [(.int (8205 : Int32)), (.int p1)])
      by_cases hc14 : 8205 < (p1).toInt
      · skip
        refine own_step (fun t k => XS.icmpNo X0.here hx rfl (hb hby d1_105) rfl (own_cl (x := (8205 : Int32)) (y := p1) rfl rfl hc14).2.2.2 k) ?_
        show own_Fin _ _ _ _ _ _ _ _ (mkF m 108 #[.val (.int p1)] [])
        exact j108 (hJ.trans (own_sk8 (by omega)))
      · skip
        refine own_step (fun t k => XS.icmpYes X0.here hx rfl (pc0 := 105) (pc' := 185) rfl (hb hby d1_105) rfl (own_cn (x := (8205 : Int32)) (y := p1) rfl rfl hc14).2.2.2 (by decide) (by decide) k) ?_
        show own_Fin _ _ _ _ _ _ _ _ (mkF m 185 #[.val (.int p1)] [])
        exact j185 (hJ.mpr (own_in8 (by omega) (by omega)))
  have j80 : (own_S1 p1.toInt ↔ own_S7 p1.toInt) → own_Fin p e below s (own_Q1 Z p1 h0 n0) 0 0 s₁ (mkF m 80 #[.val (.int p1)] []) := by
    intro hJ
    refine own_step (fun t k => XS.iloadN X0.here hx rfl (hb hby d1_80) rfl k) ?_
    show own_Fin _ _ _ _ _ _ _ _ (mkF m 81 #[.val (.int p1)] [(.int p1)])
    refine own_step (fun t k => XS.sipush X0.here hx rfl (hb hby d1_81) k) ?_
    show own_Fin _ _ _ _ _ _ _ _ (mkF m 84 #[.val (.int p1)] [(.int (895 : Int32)), (.int p1)])
    by_cases hc15 : (p1).toInt < 895
    · skip
      refine own_step (fun t k => XS.icmpYes X0.here hx rfl (pc0 := 84) (pc' := 94) rfl (hb hby d1_84) rfl (own_cl (x := p1) (y := (895 : Int32)) rfl rfl hc15).1 (by decide) (by decide) k) ?_
      show own_Fin _ _ _ _ _ _ _ _ (mkF m 94 #[.val (.int p1)] [])
      exact j94 (hJ.trans (own_sk7 (by omega)))
    · skip
      refine own_step (fun t k => XS.icmpNo X0.here hx rfl (hb hby d1_84) rfl (own_cn (x := p1) (y := (895 : Int32)) rfl rfl hc15).1 k) ?_
      show own_Fin _ _ _ _ _ _ _ _ (mkF m 87 #[.val (.int p1)] [])
      refine own_step (fun t k => XS.iloadN X0.here hx rfl (hb hby d1_87) rfl k) ?_
      show own_Fin _ _ _ _ _ _ _ _ (mkF m 88 #[.val (.int p1)] [(.int p1)])
      refine own_step (fun t k => XS.sipush X0.here hx rfl (hb hby d1_88) k) ?_
      show own_Fin _ _ _ _ _ _ _ _ (mkF m 91 #[.val (.int p1)] [(.int (8191 : Int32)), (.int p1)])
      by_cases hc16 : 8191 < (p1).toInt
      · skip
        refine own_step (fun t k => XS.icmpNo X0.here hx rfl (hb hby d1_91) rfl (own_cl (x := (8191 : Int32)) (y := p1) rfl rfl hc16).2.2.2 k) ?_
        show own_Fin _ _ _ _ _ _ _ _ (mkF m 94 #[.val (.int p1)] [])
        exact j94 (hJ.trans (own_sk7 (by omega)))
      · skip
        refine own_step (fun t k => XS.icmpYes X0.here hx rfl (pc0 := 91) (pc' := 185) rfl (hb hby d1_91) rfl (own_cn (x := (8191 : Int32)) (y := p1) rfl rfl hc16).2.2.2 (by decide) (by decide) k) ?_
        show own_Fin _ _ _ _ _ _ _ _ (mkF m 185 #[.val (.int p1)] [])
        exact j185 (hJ.mpr (own_in7 (by omega) (by omega)))
  have j66 : (own_S1 p1.toInt ↔ own_S6 p1.toInt) → own_Fin p e below s (own_Q1 Z p1 h0 n0) 0 0 s₁ (mkF m 66 #[.val (.int p1)] []) := by
    intro hJ
    refine own_step (fun t k => XS.iloadN X0.here hx rfl (hb hby d1_66) rfl k) ?_
    show own_Fin _ _ _ _ _ _ _ _ (mkF m 67 #[.val (.int p1)] [(.int p1)])
    refine own_step (fun t k => XS.sipush X0.here hx rfl (hb hby d1_67) k) ?_
    show own_Fin _ _ _ _ _ _ _ _ (mkF m 70 #[.val (.int p1)] [(.int (880 : Int32)), (.int p1)])
    by_cases hc17 : (p1).toInt < 880
    · skip
      refine own_step (fun t k => XS.icmpYes X0.here hx rfl (pc0 := 70) (pc' := 80) rfl (hb hby d1_70) rfl (own_cl (x := p1) (y := (880 : Int32)) rfl rfl hc17).1 (by decide) (by decide) k) ?_
      show own_Fin _ _ _ _ _ _ _ _ (mkF m 80 #[.val (.int p1)] [])
      exact j80 (hJ.trans (own_sk6 (by omega)))
    · skip
      refine own_step (fun t k => XS.icmpNo X0.here hx rfl (hb hby d1_70) rfl (own_cn (x := p1) (y := (880 : Int32)) rfl rfl hc17).1 k) ?_
      show own_Fin _ _ _ _ _ _ _ _ (mkF m 73 #[.val (.int p1)] [])
      refine own_step (fun t k => XS.iloadN X0.here hx rfl (hb hby d1_73) rfl k) ?_
      show own_Fin _ _ _ _ _ _ _ _ (mkF m 74 #[.val (.int p1)] [(.int p1)])
      refine own_step (fun t k => XS.sipush X0.here hx rfl (hb hby d1_74) k) ?_
      show own_Fin _ _ _ _ _ _ _ _ (mkF m 77 #[.val (.int p1)] [(.int (893 : Int32)), (.int p1)])
      by_cases hc18 : 893 < (p1).toInt
      · skip
        refine own_step (fun t k => XS.icmpNo X0.here hx rfl (hb hby d1_77) rfl (own_cl (x := (893 : Int32)) (y := p1) rfl rfl hc18).2.2.2 k) ?_
        show own_Fin _ _ _ _ _ _ _ _ (mkF m 80 #[.val (.int p1)] [])
        exact j80 (hJ.trans (own_sk6 (by omega)))
      · skip
        refine own_step (fun t k => XS.icmpYes X0.here hx rfl (pc0 := 77) (pc' := 185) rfl (hb hby d1_77) rfl (own_cn (x := (893 : Int32)) (y := p1) rfl rfl hc18).2.2.2 (by decide) (by decide) k) ?_
        show own_Fin _ _ _ _ _ _ _ _ (mkF m 185 #[.val (.int p1)] [])
        exact j185 (hJ.mpr (own_in6 (by omega) (by omega)))
  have j52 : (own_S1 p1.toInt ↔ own_S5 p1.toInt) → own_Fin p e below s (own_Q1 Z p1 h0 n0) 0 0 s₁ (mkF m 52 #[.val (.int p1)] []) := by
    intro hJ
    refine own_step (fun t k => XS.iloadN X0.here hx rfl (hb hby d1_52) rfl k) ?_
    show own_Fin _ _ _ _ _ _ _ _ (mkF m 53 #[.val (.int p1)] [(.int p1)])
    refine own_step (fun t k => XS.sipush X0.here hx rfl (hb hby d1_53) k) ?_
    show own_Fin _ _ _ _ _ _ _ _ (mkF m 56 #[.val (.int p1)] [(.int (248 : Int32)), (.int p1)])
    by_cases hc19 : (p1).toInt < 248
    · skip
      refine own_step (fun t k => XS.icmpYes X0.here hx rfl (pc0 := 56) (pc' := 66) rfl (hb hby d1_56) rfl (own_cl (x := p1) (y := (248 : Int32)) rfl rfl hc19).1 (by decide) (by decide) k) ?_
      show own_Fin _ _ _ _ _ _ _ _ (mkF m 66 #[.val (.int p1)] [])
      exact j66 (hJ.trans (own_sk5 (by omega)))
    · skip
      refine own_step (fun t k => XS.icmpNo X0.here hx rfl (hb hby d1_56) rfl (own_cn (x := p1) (y := (248 : Int32)) rfl rfl hc19).1 k) ?_
      show own_Fin _ _ _ _ _ _ _ _ (mkF m 59 #[.val (.int p1)] [])
      refine own_step (fun t k => XS.iloadN X0.here hx rfl (hb hby d1_59) rfl k) ?_
      show own_Fin _ _ _ _ _ _ _ _ (mkF m 60 #[.val (.int p1)] [(.int p1)])
      refine own_step (fun t k => XS.sipush X0.here hx rfl (hb hby d1_60) k) ?_
      show own_Fin _ _ _ _ _ _ _ _ (mkF m 63 #[.val (.int p1)] [(.int (767 : Int32)), (.int p1)])
      by_cases hc20 : 767 < (p1).toInt
      · skip
        refine own_step (fun t k => XS.icmpNo X0.here hx rfl (hb hby d1_63) rfl (own_cl (x := (767 : Int32)) (y := p1) rfl rfl hc20).2.2.2 k) ?_
        show own_Fin _ _ _ _ _ _ _ _ (mkF m 66 #[.val (.int p1)] [])
        exact j66 (hJ.trans (own_sk5 (by omega)))
      · skip
        refine own_step (fun t k => XS.icmpYes X0.here hx rfl (pc0 := 63) (pc' := 185) rfl (hb hby d1_63) rfl (own_cn (x := (767 : Int32)) (y := p1) rfl rfl hc20).2.2.2 (by decide) (by decide) k) ?_
        show own_Fin _ _ _ _ _ _ _ _ (mkF m 185 #[.val (.int p1)] [])
        exact j185 (hJ.mpr (own_in5 (by omega) (by omega)))
  have j38 : (own_S1 p1.toInt ↔ own_S4 p1.toInt) → own_Fin p e below s (own_Q1 Z p1 h0 n0) 0 0 s₁ (mkF m 38 #[.val (.int p1)] []) := by
    intro hJ
    refine own_step (fun t k => XS.iloadN X0.here hx rfl (hb hby d1_38) rfl k) ?_
    show own_Fin _ _ _ _ _ _ _ _ (mkF m 39 #[.val (.int p1)] [(.int p1)])
    refine own_step (fun t k => XS.sipush X0.here hx rfl (hb hby d1_39) k) ?_
    show own_Fin _ _ _ _ _ _ _ _ (mkF m 42 #[.val (.int p1)] [(.int (216 : Int32)), (.int p1)])
    by_cases hc21 : (p1).toInt < 216
    · skip
      refine own_step (fun t k => XS.icmpYes X0.here hx rfl (pc0 := 42) (pc' := 52) rfl (hb hby d1_42) rfl (own_cl (x := p1) (y := (216 : Int32)) rfl rfl hc21).1 (by decide) (by decide) k) ?_
      show own_Fin _ _ _ _ _ _ _ _ (mkF m 52 #[.val (.int p1)] [])
      exact j52 (hJ.trans (own_sk4 (by omega)))
    · skip
      refine own_step (fun t k => XS.icmpNo X0.here hx rfl (hb hby d1_42) rfl (own_cn (x := p1) (y := (216 : Int32)) rfl rfl hc21).1 k) ?_
      show own_Fin _ _ _ _ _ _ _ _ (mkF m 45 #[.val (.int p1)] [])
      refine own_step (fun t k => XS.iloadN X0.here hx rfl (hb hby d1_45) rfl k) ?_
      show own_Fin _ _ _ _ _ _ _ _ (mkF m 46 #[.val (.int p1)] [(.int p1)])
      refine own_step (fun t k => XS.sipush X0.here hx rfl (hb hby d1_46) k) ?_
      show own_Fin _ _ _ _ _ _ _ _ (mkF m 49 #[.val (.int p1)] [(.int (246 : Int32)), (.int p1)])
      by_cases hc22 : 246 < (p1).toInt
      · skip
        refine own_step (fun t k => XS.icmpNo X0.here hx rfl (hb hby d1_49) rfl (own_cl (x := (246 : Int32)) (y := p1) rfl rfl hc22).2.2.2 k) ?_
        show own_Fin _ _ _ _ _ _ _ _ (mkF m 52 #[.val (.int p1)] [])
        exact j52 (hJ.trans (own_sk4 (by omega)))
      · skip
        refine own_step (fun t k => XS.icmpYes X0.here hx rfl (pc0 := 49) (pc' := 185) rfl (hb hby d1_49) rfl (own_cn (x := (246 : Int32)) (y := p1) rfl rfl hc22).2.2.2 (by decide) (by decide) k) ?_
        show own_Fin _ _ _ _ _ _ _ _ (mkF m 185 #[.val (.int p1)] [])
        exact j185 (hJ.mpr (own_in4 (by omega) (by omega)))
  have j24 : (own_S1 p1.toInt ↔ own_S3 p1.toInt) → own_Fin p e below s (own_Q1 Z p1 h0 n0) 0 0 s₁ (mkF m 24 #[.val (.int p1)] []) := by
    intro hJ
    refine own_step (fun t k => XS.iloadN X0.here hx rfl (hb hby d1_24) rfl k) ?_
    show own_Fin _ _ _ _ _ _ _ _ (mkF m 25 #[.val (.int p1)] [(.int p1)])
    refine own_step (fun t k => XS.sipush X0.here hx rfl (hb hby d1_25) k) ?_
    show own_Fin _ _ _ _ _ _ _ _ (mkF m 28 #[.val (.int p1)] [(.int (192 : Int32)), (.int p1)])
    by_cases hc23 : (p1).toInt < 192
    · skip
      refine own_step (fun t k => XS.icmpYes X0.here hx rfl (pc0 := 28) (pc' := 38) rfl (hb hby d1_28) rfl (own_cl (x := p1) (y := (192 : Int32)) rfl rfl hc23).1 (by decide) (by decide) k) ?_
      show own_Fin _ _ _ _ _ _ _ _ (mkF m 38 #[.val (.int p1)] [])
      exact j38 (hJ.trans (own_sk3 (by omega)))
    · skip
      refine own_step (fun t k => XS.icmpNo X0.here hx rfl (hb hby d1_28) rfl (own_cn (x := p1) (y := (192 : Int32)) rfl rfl hc23).1 k) ?_
      show own_Fin _ _ _ _ _ _ _ _ (mkF m 31 #[.val (.int p1)] [])
      refine own_step (fun t k => XS.iloadN X0.here hx rfl (hb hby d1_31) rfl k) ?_
      show own_Fin _ _ _ _ _ _ _ _ (mkF m 32 #[.val (.int p1)] [(.int p1)])
      refine own_step (fun t k => XS.sipush X0.here hx rfl (hb hby d1_32) k) ?_
      show own_Fin _ _ _ _ _ _ _ _ (mkF m 35 #[.val (.int p1)] [(.int (214 : Int32)), (.int p1)])
      by_cases hc24 : 214 < (p1).toInt
      · skip
        refine own_step (fun t k => XS.icmpNo X0.here hx rfl (hb hby d1_35) rfl (own_cl (x := (214 : Int32)) (y := p1) rfl rfl hc24).2.2.2 k) ?_
        show own_Fin _ _ _ _ _ _ _ _ (mkF m 38 #[.val (.int p1)] [])
        exact j38 (hJ.trans (own_sk3 (by omega)))
      · skip
        refine own_step (fun t k => XS.icmpYes X0.here hx rfl (pc0 := 35) (pc' := 185) rfl (hb hby d1_35) rfl (own_cn (x := (214 : Int32)) (y := p1) rfl rfl hc24).2.2.2 (by decide) (by decide) k) ?_
        show own_Fin _ _ _ _ _ _ _ _ (mkF m 185 #[.val (.int p1)] [])
        exact j185 (hJ.mpr (own_in3 (by omega) (by omega)))
  have j12 : (own_S1 p1.toInt ↔ own_S2 p1.toInt) → own_Fin p e below s (own_Q1 Z p1 h0 n0) 0 0 s₁ (mkF m 12 #[.val (.int p1)] []) := by
    intro hJ
    refine own_step (fun t k => XS.iloadN X0.here hx rfl (hb hby d1_12) rfl k) ?_
    show own_Fin _ _ _ _ _ _ _ _ (mkF m 13 #[.val (.int p1)] [(.int p1)])
    refine own_step (fun t k => XS.bipush X0.here hx rfl (hb hby d1_13) k) ?_
    show own_Fin _ _ _ _ _ _ _ _ (mkF m 15 #[.val (.int p1)] [(.int (97 : Int32)), (.int p1)])
    by_cases hc25 : (p1).toInt < 97
    · skip
      refine own_step (fun t k => XS.icmpYes X0.here hx rfl (pc0 := 15) (pc' := 24) rfl (hb hby d1_15) rfl (own_cl (x := p1) (y := (97 : Int32)) rfl rfl hc25).1 (by decide) (by decide) k) ?_
      show own_Fin _ _ _ _ _ _ _ _ (mkF m 24 #[.val (.int p1)] [])
      exact j24 (hJ.trans (own_sk2 (by omega)))
    · skip
      refine own_step (fun t k => XS.icmpNo X0.here hx rfl (hb hby d1_15) rfl (own_cn (x := p1) (y := (97 : Int32)) rfl rfl hc25).1 k) ?_
      show own_Fin _ _ _ _ _ _ _ _ (mkF m 18 #[.val (.int p1)] [])
      refine own_step (fun t k => XS.iloadN X0.here hx rfl (hb hby d1_18) rfl k) ?_
      show own_Fin _ _ _ _ _ _ _ _ (mkF m 19 #[.val (.int p1)] [(.int p1)])
      refine own_step (fun t k => XS.bipush X0.here hx rfl (hb hby d1_19) k) ?_
      show own_Fin _ _ _ _ _ _ _ _ (mkF m 21 #[.val (.int p1)] [(.int (122 : Int32)), (.int p1)])
      by_cases hc26 : 122 < (p1).toInt
      · skip
        refine own_step (fun t k => XS.icmpNo X0.here hx rfl (hb hby d1_21) rfl (own_cl (x := (122 : Int32)) (y := p1) rfl rfl hc26).2.2.2 k) ?_
        show own_Fin _ _ _ _ _ _ _ _ (mkF m 24 #[.val (.int p1)] [])
        exact j24 (hJ.trans (own_sk2 (by omega)))
      · skip
        refine own_step (fun t k => XS.icmpYes X0.here hx rfl (pc0 := 21) (pc' := 185) rfl (hb hby d1_21) rfl (own_cn (x := (122 : Int32)) (y := p1) rfl rfl hc26).2.2.2 (by decide) (by decide) k) ?_
        show own_Fin _ _ _ _ _ _ _ _ (mkF m 185 #[.val (.int p1)] [])
        exact j185 (hJ.mpr (own_in2 (by omega) (by omega)))
  refine own_step (fun t k => XS.iloadN X0.here hx rfl (hb hby d1_0) rfl k) ?_
  show own_Fin _ _ _ _ _ _ _ _ (mkF m 1 #[.val (.int p1)] [(.int p1)])
  refine own_step (fun t k => XS.bipush X0.here hx rfl (hb hby d1_1) k) ?_
  show own_Fin _ _ _ _ _ _ _ _ (mkF m 3 #[.val (.int p1)] [(.int (65 : Int32)), (.int p1)])
  by_cases hc27 : (p1).toInt < 65
  · skip
    refine own_step (fun t k => XS.icmpYes X0.here hx rfl (pc0 := 3) (pc' := 12) rfl (hb hby d1_3) rfl (own_cl (x := p1) (y := (65 : Int32)) rfl rfl hc27).1 (by decide) (by decide) k) ?_
    show own_Fin _ _ _ _ _ _ _ _ (mkF m 12 #[.val (.int p1)] [])
    exact j12 (hJ.trans (own_sk1 (by omega)))
  · skip
    refine own_step (fun t k => XS.icmpNo X0.here hx rfl (hb hby d1_3) rfl (own_cn (x := p1) (y := (65 : Int32)) rfl rfl hc27).1 k) ?_
    show own_Fin _ _ _ _ _ _ _ _ (mkF m 6 #[.val (.int p1)] [])
    refine own_step (fun t k => XS.iloadN X0.here hx rfl (hb hby d1_6) rfl k) ?_
    show own_Fin _ _ _ _ _ _ _ _ (mkF m 7 #[.val (.int p1)] [(.int p1)])
    refine own_step (fun t k => XS.bipush X0.here hx rfl (hb hby d1_7) k) ?_
    show own_Fin _ _ _ _ _ _ _ _ (mkF m 9 #[.val (.int p1)] [(.int (90 : Int32)), (.int p1)])
    by_cases hc28 : 90 < (p1).toInt
    · skip
      refine own_step (fun t k => XS.icmpNo X0.here hx rfl (hb hby d1_9) rfl (own_cl (x := (90 : Int32)) (y := p1) rfl rfl hc28).2.2.2 k) ?_
      show own_Fin _ _ _ _ _ _ _ _ (mkF m 12 #[.val (.int p1)] [])
      exact j12 (hJ.trans (own_sk1 (by omega)))
    · skip
      refine own_step (fun t k => XS.icmpYes X0.here hx rfl (pc0 := 9) (pc' := 185) rfl (hb hby d1_9) rfl (own_cn (x := (90 : Int32)) (y := p1) rfl rfl hc28).2.2.2 (by decide) (by decide) k) ?_
      show own_Fin _ _ _ _ _ _ _ _ (mkF m 185 #[.val (.int p1)] [])
      exact j185 (hJ.mpr (own_in1 (by omega) (by omega)))
def own_T10 (x : Int) : Prop := ¬ (x = 65534 ∨ x = 65535)
def own_T9 (x : Int) : Prop := ¬ (64976 ≤ x ∧ x ≤ 65007) ∧ own_T10 x
def own_T8 (x : Int) : Prop := ¬ (55296 ≤ x ∧ x ≤ 63743) ∧ own_T9 x
def own_T7 (x : Int) : Prop := ¬ (12272 ≤ x ∧ x ≤ 12288) ∧ own_T8 x
def own_T6 (x : Int) : Prop := ¬ (8592 ≤ x ∧ x ≤ 11263) ∧ own_T7 x
def own_T5 (x : Int) : Prop := ¬ (8206 ≤ x ∧ x ≤ 8303) ∧ own_T6 x
def own_T4 (x : Int) : Prop := ¬ (8192 ≤ x ∧ x ≤ 8203) ∧ own_T5 x
def own_T3 (x : Int) : Prop := ¬ (x = 894) ∧ own_T4 x
def own_T2 (x : Int) : Prop := ¬ (768 ≤ x ∧ x ≤ 879) ∧ own_T3 x
def own_T1 (x : Int) : Prop := ¬ (x = 215 ∨ x = 247) ∧ own_T2 x
def own_RR (x : Int) : Prop := (x < 192 ∧ ((65 ≤ x ∧ x ≤ 90) ∨ (97 ≤ x ∧ x ≤ 122))) ∨ (192 ≤ x ∧ x ≤ 983039 ∧ own_T1 x)
theorem own_tk1 {x : Int} (h : ¬ (x = 215 ∨ x = 247)) : own_T1 x ↔ own_T2 x := ⟨fun q => q.2, fun q => ⟨h, q⟩⟩
theorem own_to1 {x : Int} (h : x = 215 ∨ x = 247) : ¬ own_T1 x := fun q => q.1 h
theorem own_tk2 {x : Int} (h : ¬ (768 ≤ x ∧ x ≤ 879)) : own_T2 x ↔ own_T3 x := ⟨fun q => q.2, fun q => ⟨h, q⟩⟩
theorem own_to2 {x : Int} (h : 768 ≤ x ∧ x ≤ 879) : ¬ own_T2 x := fun q => q.1 h
theorem own_tk3 {x : Int} (h : ¬ (x = 894)) : own_T3 x ↔ own_T4 x := ⟨fun q => q.2, fun q => ⟨h, q⟩⟩
theorem own_to3 {x : Int} (h : x = 894) : ¬ own_T3 x := fun q => q.1 h
theorem own_tk4 {x : Int} (h : ¬ (8192 ≤ x ∧ x ≤ 8203)) : own_T4 x ↔ own_T5 x := ⟨fun q => q.2, fun q => ⟨h, q⟩⟩
theorem own_to4 {x : Int} (h : 8192 ≤ x ∧ x ≤ 8203) : ¬ own_T4 x := fun q => q.1 h
theorem own_tk5 {x : Int} (h : ¬ (8206 ≤ x ∧ x ≤ 8303)) : own_T5 x ↔ own_T6 x := ⟨fun q => q.2, fun q => ⟨h, q⟩⟩
theorem own_to5 {x : Int} (h : 8206 ≤ x ∧ x ≤ 8303) : ¬ own_T5 x := fun q => q.1 h
theorem own_tk6 {x : Int} (h : ¬ (8592 ≤ x ∧ x ≤ 11263)) : own_T6 x ↔ own_T7 x := ⟨fun q => q.2, fun q => ⟨h, q⟩⟩
theorem own_to6 {x : Int} (h : 8592 ≤ x ∧ x ≤ 11263) : ¬ own_T6 x := fun q => q.1 h
theorem own_tk7 {x : Int} (h : ¬ (12272 ≤ x ∧ x ≤ 12288)) : own_T7 x ↔ own_T8 x := ⟨fun q => q.2, fun q => ⟨h, q⟩⟩
theorem own_to7 {x : Int} (h : 12272 ≤ x ∧ x ≤ 12288) : ¬ own_T7 x := fun q => q.1 h
theorem own_tk8 {x : Int} (h : ¬ (55296 ≤ x ∧ x ≤ 63743)) : own_T8 x ↔ own_T9 x := ⟨fun q => q.2, fun q => ⟨h, q⟩⟩
theorem own_to8 {x : Int} (h : 55296 ≤ x ∧ x ≤ 63743) : ¬ own_T8 x := fun q => q.1 h
theorem own_tk9 {x : Int} (h : ¬ (64976 ≤ x ∧ x ≤ 65007)) : own_T9 x ↔ own_T10 x := ⟨fun q => q.2, fun q => ⟨h, q⟩⟩
theorem own_to9 {x : Int} (h : 64976 ≤ x ∧ x ≤ 65007) : ¬ own_T9 x := fun q => q.1 h
theorem own_to10 {x : Int} (h : x = 65534 ∨ x = 65535) : ¬ own_T10 x := fun q => q h
theorem own_RRlow {x : Int} (h : x < 192) : own_RR x ↔ ((65 ≤ x ∧ x ≤ 90) ∨ (97 ≤ x ∧ x ≤ 122)) := ⟨fun q => q.elim (fun r => r.2) (fun r => absurd r.1 (by omega)), fun q => Or.inl ⟨h, q⟩⟩
theorem own_RRhi {x : Int} (h : 192 ≤ x) (h2 : x ≤ 983039) : own_RR x ↔ own_T1 x := ⟨fun q => q.elim (fun r => absurd r.1 (by omega)) (fun r => r.2.2), fun q => Or.inr ⟨h, h2, q⟩⟩
theorem own_RRout {x : Int} (h : 983039 < x) : ¬ own_RR x := fun q => q.elim (fun r => absurd r.1 (by omega)) (fun r => absurd r.2.1 (by omega))
theorem own_same (x : Int) : own_S1 x ↔ own_RR x := by
  by_cases h0 : x < 65
  · exact ⟨fun q => absurd q (fun q => q.elim (fun r => absurd r (by omega)) (fun q => q.elim (fun r => absurd r (by omega)) (fun q => q.elim (fun r => absurd r (by omega)) (fun q => q.elim (fun r => absurd r (by omega)) (fun q => q.elim (fun r => absurd r (by omega)) (fun q => q.elim (fun r => absurd r (by omega)) (fun q => q.elim (fun r => absurd r (by omega)) (fun q => q.elim (fun r => absurd r (by omega)) (fun q => q.elim (fun r => absurd r (by omega)) (fun q => q.elim (fun r => absurd r (by omega)) (fun q => q.elim (fun r => absurd r (by omega)) (fun q => q.elim (fun r => absurd r (by omega)) (fun q => q.elim (fun r => absurd r (by omega)) (fun q => by unfold own_S14 at q; omega)))))))))))))), fun q => absurd q (fun q => q.elim (fun r => absurd r.2 (by omega)) (fun r => absurd r.1 (by omega)))⟩
  by_cases h1 : x < 91
  · exact ⟨fun _ => Or.inl ⟨by omega, by omega⟩, fun _ => (Or.inl ⟨by omega, by omega⟩)⟩
  by_cases h2 : x < 97
  · exact ⟨fun q => absurd q (fun q => q.elim (fun r => absurd r (by omega)) (fun q => q.elim (fun r => absurd r (by omega)) (fun q => q.elim (fun r => absurd r (by omega)) (fun q => q.elim (fun r => absurd r (by omega)) (fun q => q.elim (fun r => absurd r (by omega)) (fun q => q.elim (fun r => absurd r (by omega)) (fun q => q.elim (fun r => absurd r (by omega)) (fun q => q.elim (fun r => absurd r (by omega)) (fun q => q.elim (fun r => absurd r (by omega)) (fun q => q.elim (fun r => absurd r (by omega)) (fun q => q.elim (fun r => absurd r (by omega)) (fun q => q.elim (fun r => absurd r (by omega)) (fun q => q.elim (fun r => absurd r (by omega)) (fun q => by unfold own_S14 at q; omega)))))))))))))), fun q => absurd q (fun q => q.elim (fun r => absurd r.2 (by omega)) (fun r => absurd r.1 (by omega)))⟩
  by_cases h3 : x < 123
  · exact ⟨fun _ => Or.inl ⟨by omega, by omega⟩, fun _ => (Or.inr (Or.inl ⟨by omega, by omega⟩))⟩
  by_cases h4 : x < 192
  · exact ⟨fun q => absurd q (fun q => q.elim (fun r => absurd r (by omega)) (fun q => q.elim (fun r => absurd r (by omega)) (fun q => q.elim (fun r => absurd r (by omega)) (fun q => q.elim (fun r => absurd r (by omega)) (fun q => q.elim (fun r => absurd r (by omega)) (fun q => q.elim (fun r => absurd r (by omega)) (fun q => q.elim (fun r => absurd r (by omega)) (fun q => q.elim (fun r => absurd r (by omega)) (fun q => q.elim (fun r => absurd r (by omega)) (fun q => q.elim (fun r => absurd r (by omega)) (fun q => q.elim (fun r => absurd r (by omega)) (fun q => q.elim (fun r => absurd r (by omega)) (fun q => q.elim (fun r => absurd r (by omega)) (fun q => by unfold own_S14 at q; omega)))))))))))))), fun q => absurd q (fun q => q.elim (fun r => absurd r.2 (by omega)) (fun r => absurd r.1 (by omega)))⟩
  by_cases h5 : x < 215
  · exact ⟨fun _ => Or.inr ⟨by omega, by omega, ⟨by omega, ⟨by omega, ⟨by omega, ⟨by omega, ⟨by omega, ⟨by omega, ⟨by omega, ⟨by omega, ⟨by omega, (by unfold own_T10; omega)⟩⟩⟩⟩⟩⟩⟩⟩⟩⟩, fun _ => (Or.inr (Or.inr (Or.inl ⟨by omega, by omega⟩)))⟩
  by_cases h6 : x < 216
  · exact ⟨fun q => absurd q (fun q => q.elim (fun r => absurd r (by omega)) (fun q => q.elim (fun r => absurd r (by omega)) (fun q => q.elim (fun r => absurd r (by omega)) (fun q => q.elim (fun r => absurd r (by omega)) (fun q => q.elim (fun r => absurd r (by omega)) (fun q => q.elim (fun r => absurd r (by omega)) (fun q => q.elim (fun r => absurd r (by omega)) (fun q => q.elim (fun r => absurd r (by omega)) (fun q => q.elim (fun r => absurd r (by omega)) (fun q => q.elim (fun r => absurd r (by omega)) (fun q => q.elim (fun r => absurd r (by omega)) (fun q => q.elim (fun r => absurd r (by omega)) (fun q => q.elim (fun r => absurd r (by omega)) (fun q => by unfold own_S14 at q; omega)))))))))))))), fun q => absurd q (fun q => (own_to1 (by omega)) ((own_RRhi (by omega) (by omega)).mp q))⟩
  by_cases h7 : x < 247
  · exact ⟨fun _ => Or.inr ⟨by omega, by omega, ⟨by omega, ⟨by omega, ⟨by omega, ⟨by omega, ⟨by omega, ⟨by omega, ⟨by omega, ⟨by omega, ⟨by omega, (by unfold own_T10; omega)⟩⟩⟩⟩⟩⟩⟩⟩⟩⟩, fun _ => (Or.inr (Or.inr (Or.inr (Or.inl ⟨by omega, by omega⟩))))⟩
  by_cases h8 : x < 248
  · exact ⟨fun q => absurd q (fun q => q.elim (fun r => absurd r (by omega)) (fun q => q.elim (fun r => absurd r (by omega)) (fun q => q.elim (fun r => absurd r (by omega)) (fun q => q.elim (fun r => absurd r (by omega)) (fun q => q.elim (fun r => absurd r (by omega)) (fun q => q.elim (fun r => absurd r (by omega)) (fun q => q.elim (fun r => absurd r (by omega)) (fun q => q.elim (fun r => absurd r (by omega)) (fun q => q.elim (fun r => absurd r (by omega)) (fun q => q.elim (fun r => absurd r (by omega)) (fun q => q.elim (fun r => absurd r (by omega)) (fun q => q.elim (fun r => absurd r (by omega)) (fun q => q.elim (fun r => absurd r (by omega)) (fun q => by unfold own_S14 at q; omega)))))))))))))), fun q => absurd q (fun q => (own_to1 (by omega)) ((own_RRhi (by omega) (by omega)).mp q))⟩
  by_cases h9 : x < 768
  · exact ⟨fun _ => Or.inr ⟨by omega, by omega, ⟨by omega, ⟨by omega, ⟨by omega, ⟨by omega, ⟨by omega, ⟨by omega, ⟨by omega, ⟨by omega, ⟨by omega, (by unfold own_T10; omega)⟩⟩⟩⟩⟩⟩⟩⟩⟩⟩, fun _ => (Or.inr (Or.inr (Or.inr (Or.inr (Or.inl ⟨by omega, by omega⟩)))))⟩
  by_cases h10 : x < 880
  · exact ⟨fun q => absurd q (fun q => q.elim (fun r => absurd r (by omega)) (fun q => q.elim (fun r => absurd r (by omega)) (fun q => q.elim (fun r => absurd r (by omega)) (fun q => q.elim (fun r => absurd r (by omega)) (fun q => q.elim (fun r => absurd r (by omega)) (fun q => q.elim (fun r => absurd r (by omega)) (fun q => q.elim (fun r => absurd r (by omega)) (fun q => q.elim (fun r => absurd r (by omega)) (fun q => q.elim (fun r => absurd r (by omega)) (fun q => q.elim (fun r => absurd r (by omega)) (fun q => q.elim (fun r => absurd r (by omega)) (fun q => q.elim (fun r => absurd r (by omega)) (fun q => q.elim (fun r => absurd r (by omega)) (fun q => by unfold own_S14 at q; omega)))))))))))))), fun q => absurd q (fun q => (fun q => (own_to2 (by omega)) ((own_tk1 (by omega)).mp q)) ((own_RRhi (by omega) (by omega)).mp q))⟩
  by_cases h11 : x < 894
  · exact ⟨fun _ => Or.inr ⟨by omega, by omega, ⟨by omega, ⟨by omega, ⟨by omega, ⟨by omega, ⟨by omega, ⟨by omega, ⟨by omega, ⟨by omega, ⟨by omega, (by unfold own_T10; omega)⟩⟩⟩⟩⟩⟩⟩⟩⟩⟩, fun _ => (Or.inr (Or.inr (Or.inr (Or.inr (Or.inr (Or.inl ⟨by omega, by omega⟩))))))⟩
  by_cases h12 : x < 895
  · exact ⟨fun q => absurd q (fun q => q.elim (fun r => absurd r (by omega)) (fun q => q.elim (fun r => absurd r (by omega)) (fun q => q.elim (fun r => absurd r (by omega)) (fun q => q.elim (fun r => absurd r (by omega)) (fun q => q.elim (fun r => absurd r (by omega)) (fun q => q.elim (fun r => absurd r (by omega)) (fun q => q.elim (fun r => absurd r (by omega)) (fun q => q.elim (fun r => absurd r (by omega)) (fun q => q.elim (fun r => absurd r (by omega)) (fun q => q.elim (fun r => absurd r (by omega)) (fun q => q.elim (fun r => absurd r (by omega)) (fun q => q.elim (fun r => absurd r (by omega)) (fun q => q.elim (fun r => absurd r (by omega)) (fun q => by unfold own_S14 at q; omega)))))))))))))), fun q => absurd q (fun q => (fun q => (fun q => (own_to3 (by omega)) ((own_tk2 (by omega)).mp q)) ((own_tk1 (by omega)).mp q)) ((own_RRhi (by omega) (by omega)).mp q))⟩
  by_cases h13 : x < 8192
  · exact ⟨fun _ => Or.inr ⟨by omega, by omega, ⟨by omega, ⟨by omega, ⟨by omega, ⟨by omega, ⟨by omega, ⟨by omega, ⟨by omega, ⟨by omega, ⟨by omega, (by unfold own_T10; omega)⟩⟩⟩⟩⟩⟩⟩⟩⟩⟩, fun _ => (Or.inr (Or.inr (Or.inr (Or.inr (Or.inr (Or.inr (Or.inl ⟨by omega, by omega⟩)))))))⟩
  by_cases h14 : x < 8204
  · exact ⟨fun q => absurd q (fun q => q.elim (fun r => absurd r (by omega)) (fun q => q.elim (fun r => absurd r (by omega)) (fun q => q.elim (fun r => absurd r (by omega)) (fun q => q.elim (fun r => absurd r (by omega)) (fun q => q.elim (fun r => absurd r (by omega)) (fun q => q.elim (fun r => absurd r (by omega)) (fun q => q.elim (fun r => absurd r (by omega)) (fun q => q.elim (fun r => absurd r (by omega)) (fun q => q.elim (fun r => absurd r (by omega)) (fun q => q.elim (fun r => absurd r (by omega)) (fun q => q.elim (fun r => absurd r (by omega)) (fun q => q.elim (fun r => absurd r (by omega)) (fun q => q.elim (fun r => absurd r (by omega)) (fun q => by unfold own_S14 at q; omega)))))))))))))), fun q => absurd q (fun q => (fun q => (fun q => (fun q => (own_to4 (by omega)) ((own_tk3 (by omega)).mp q)) ((own_tk2 (by omega)).mp q)) ((own_tk1 (by omega)).mp q)) ((own_RRhi (by omega) (by omega)).mp q))⟩
  by_cases h15 : x < 8206
  · exact ⟨fun _ => Or.inr ⟨by omega, by omega, ⟨by omega, ⟨by omega, ⟨by omega, ⟨by omega, ⟨by omega, ⟨by omega, ⟨by omega, ⟨by omega, ⟨by omega, (by unfold own_T10; omega)⟩⟩⟩⟩⟩⟩⟩⟩⟩⟩, fun _ => (Or.inr (Or.inr (Or.inr (Or.inr (Or.inr (Or.inr (Or.inr (Or.inl ⟨by omega, by omega⟩))))))))⟩
  by_cases h16 : x < 8304
  · exact ⟨fun q => absurd q (fun q => q.elim (fun r => absurd r (by omega)) (fun q => q.elim (fun r => absurd r (by omega)) (fun q => q.elim (fun r => absurd r (by omega)) (fun q => q.elim (fun r => absurd r (by omega)) (fun q => q.elim (fun r => absurd r (by omega)) (fun q => q.elim (fun r => absurd r (by omega)) (fun q => q.elim (fun r => absurd r (by omega)) (fun q => q.elim (fun r => absurd r (by omega)) (fun q => q.elim (fun r => absurd r (by omega)) (fun q => q.elim (fun r => absurd r (by omega)) (fun q => q.elim (fun r => absurd r (by omega)) (fun q => q.elim (fun r => absurd r (by omega)) (fun q => q.elim (fun r => absurd r (by omega)) (fun q => by unfold own_S14 at q; omega)))))))))))))), fun q => absurd q (fun q => (fun q => (fun q => (fun q => (fun q => (own_to5 (by omega)) ((own_tk4 (by omega)).mp q)) ((own_tk3 (by omega)).mp q)) ((own_tk2 (by omega)).mp q)) ((own_tk1 (by omega)).mp q)) ((own_RRhi (by omega) (by omega)).mp q))⟩
  by_cases h17 : x < 8592
  · exact ⟨fun _ => Or.inr ⟨by omega, by omega, ⟨by omega, ⟨by omega, ⟨by omega, ⟨by omega, ⟨by omega, ⟨by omega, ⟨by omega, ⟨by omega, ⟨by omega, (by unfold own_T10; omega)⟩⟩⟩⟩⟩⟩⟩⟩⟩⟩, fun _ => (Or.inr (Or.inr (Or.inr (Or.inr (Or.inr (Or.inr (Or.inr (Or.inr (Or.inl ⟨by omega, by omega⟩)))))))))⟩
  by_cases h18 : x < 11264
  · exact ⟨fun q => absurd q (fun q => q.elim (fun r => absurd r (by omega)) (fun q => q.elim (fun r => absurd r (by omega)) (fun q => q.elim (fun r => absurd r (by omega)) (fun q => q.elim (fun r => absurd r (by omega)) (fun q => q.elim (fun r => absurd r (by omega)) (fun q => q.elim (fun r => absurd r (by omega)) (fun q => q.elim (fun r => absurd r (by omega)) (fun q => q.elim (fun r => absurd r (by omega)) (fun q => q.elim (fun r => absurd r (by omega)) (fun q => q.elim (fun r => absurd r (by omega)) (fun q => q.elim (fun r => absurd r (by omega)) (fun q => q.elim (fun r => absurd r (by omega)) (fun q => q.elim (fun r => absurd r (by omega)) (fun q => by unfold own_S14 at q; omega)))))))))))))), fun q => absurd q (fun q => (fun q => (fun q => (fun q => (fun q => (fun q => (own_to6 (by omega)) ((own_tk5 (by omega)).mp q)) ((own_tk4 (by omega)).mp q)) ((own_tk3 (by omega)).mp q)) ((own_tk2 (by omega)).mp q)) ((own_tk1 (by omega)).mp q)) ((own_RRhi (by omega) (by omega)).mp q))⟩
  by_cases h19 : x < 12272
  · exact ⟨fun _ => Or.inr ⟨by omega, by omega, ⟨by omega, ⟨by omega, ⟨by omega, ⟨by omega, ⟨by omega, ⟨by omega, ⟨by omega, ⟨by omega, ⟨by omega, (by unfold own_T10; omega)⟩⟩⟩⟩⟩⟩⟩⟩⟩⟩, fun _ => (Or.inr (Or.inr (Or.inr (Or.inr (Or.inr (Or.inr (Or.inr (Or.inr (Or.inr (Or.inl ⟨by omega, by omega⟩))))))))))⟩
  by_cases h20 : x < 12289
  · exact ⟨fun q => absurd q (fun q => q.elim (fun r => absurd r (by omega)) (fun q => q.elim (fun r => absurd r (by omega)) (fun q => q.elim (fun r => absurd r (by omega)) (fun q => q.elim (fun r => absurd r (by omega)) (fun q => q.elim (fun r => absurd r (by omega)) (fun q => q.elim (fun r => absurd r (by omega)) (fun q => q.elim (fun r => absurd r (by omega)) (fun q => q.elim (fun r => absurd r (by omega)) (fun q => q.elim (fun r => absurd r (by omega)) (fun q => q.elim (fun r => absurd r (by omega)) (fun q => q.elim (fun r => absurd r (by omega)) (fun q => q.elim (fun r => absurd r (by omega)) (fun q => q.elim (fun r => absurd r (by omega)) (fun q => by unfold own_S14 at q; omega)))))))))))))), fun q => absurd q (fun q => (fun q => (fun q => (fun q => (fun q => (fun q => (fun q => (own_to7 (by omega)) ((own_tk6 (by omega)).mp q)) ((own_tk5 (by omega)).mp q)) ((own_tk4 (by omega)).mp q)) ((own_tk3 (by omega)).mp q)) ((own_tk2 (by omega)).mp q)) ((own_tk1 (by omega)).mp q)) ((own_RRhi (by omega) (by omega)).mp q))⟩
  by_cases h21 : x < 55296
  · exact ⟨fun _ => Or.inr ⟨by omega, by omega, ⟨by omega, ⟨by omega, ⟨by omega, ⟨by omega, ⟨by omega, ⟨by omega, ⟨by omega, ⟨by omega, ⟨by omega, (by unfold own_T10; omega)⟩⟩⟩⟩⟩⟩⟩⟩⟩⟩, fun _ => (Or.inr (Or.inr (Or.inr (Or.inr (Or.inr (Or.inr (Or.inr (Or.inr (Or.inr (Or.inr (Or.inl ⟨by omega, by omega⟩)))))))))))⟩
  by_cases h22 : x < 63744
  · exact ⟨fun q => absurd q (fun q => q.elim (fun r => absurd r (by omega)) (fun q => q.elim (fun r => absurd r (by omega)) (fun q => q.elim (fun r => absurd r (by omega)) (fun q => q.elim (fun r => absurd r (by omega)) (fun q => q.elim (fun r => absurd r (by omega)) (fun q => q.elim (fun r => absurd r (by omega)) (fun q => q.elim (fun r => absurd r (by omega)) (fun q => q.elim (fun r => absurd r (by omega)) (fun q => q.elim (fun r => absurd r (by omega)) (fun q => q.elim (fun r => absurd r (by omega)) (fun q => q.elim (fun r => absurd r (by omega)) (fun q => q.elim (fun r => absurd r (by omega)) (fun q => q.elim (fun r => absurd r (by omega)) (fun q => by unfold own_S14 at q; omega)))))))))))))), fun q => absurd q (fun q => (fun q => (fun q => (fun q => (fun q => (fun q => (fun q => (fun q => (own_to8 (by omega)) ((own_tk7 (by omega)).mp q)) ((own_tk6 (by omega)).mp q)) ((own_tk5 (by omega)).mp q)) ((own_tk4 (by omega)).mp q)) ((own_tk3 (by omega)).mp q)) ((own_tk2 (by omega)).mp q)) ((own_tk1 (by omega)).mp q)) ((own_RRhi (by omega) (by omega)).mp q))⟩
  by_cases h23 : x < 64976
  · exact ⟨fun _ => Or.inr ⟨by omega, by omega, ⟨by omega, ⟨by omega, ⟨by omega, ⟨by omega, ⟨by omega, ⟨by omega, ⟨by omega, ⟨by omega, ⟨by omega, (by unfold own_T10; omega)⟩⟩⟩⟩⟩⟩⟩⟩⟩⟩, fun _ => (Or.inr (Or.inr (Or.inr (Or.inr (Or.inr (Or.inr (Or.inr (Or.inr (Or.inr (Or.inr (Or.inr (Or.inl ⟨by omega, by omega⟩))))))))))))⟩
  by_cases h24 : x < 65008
  · exact ⟨fun q => absurd q (fun q => q.elim (fun r => absurd r (by omega)) (fun q => q.elim (fun r => absurd r (by omega)) (fun q => q.elim (fun r => absurd r (by omega)) (fun q => q.elim (fun r => absurd r (by omega)) (fun q => q.elim (fun r => absurd r (by omega)) (fun q => q.elim (fun r => absurd r (by omega)) (fun q => q.elim (fun r => absurd r (by omega)) (fun q => q.elim (fun r => absurd r (by omega)) (fun q => q.elim (fun r => absurd r (by omega)) (fun q => q.elim (fun r => absurd r (by omega)) (fun q => q.elim (fun r => absurd r (by omega)) (fun q => q.elim (fun r => absurd r (by omega)) (fun q => q.elim (fun r => absurd r (by omega)) (fun q => by unfold own_S14 at q; omega)))))))))))))), fun q => absurd q (fun q => (fun q => (fun q => (fun q => (fun q => (fun q => (fun q => (fun q => (fun q => (own_to9 (by omega)) ((own_tk8 (by omega)).mp q)) ((own_tk7 (by omega)).mp q)) ((own_tk6 (by omega)).mp q)) ((own_tk5 (by omega)).mp q)) ((own_tk4 (by omega)).mp q)) ((own_tk3 (by omega)).mp q)) ((own_tk2 (by omega)).mp q)) ((own_tk1 (by omega)).mp q)) ((own_RRhi (by omega) (by omega)).mp q))⟩
  by_cases h25 : x < 65534
  · exact ⟨fun _ => Or.inr ⟨by omega, by omega, ⟨by omega, ⟨by omega, ⟨by omega, ⟨by omega, ⟨by omega, ⟨by omega, ⟨by omega, ⟨by omega, ⟨by omega, (by unfold own_T10; omega)⟩⟩⟩⟩⟩⟩⟩⟩⟩⟩, fun _ => (Or.inr (Or.inr (Or.inr (Or.inr (Or.inr (Or.inr (Or.inr (Or.inr (Or.inr (Or.inr (Or.inr (Or.inr (Or.inl ⟨by omega, by omega⟩)))))))))))))⟩
  by_cases h26 : x < 65536
  · exact ⟨fun q => absurd q (fun q => q.elim (fun r => absurd r (by omega)) (fun q => q.elim (fun r => absurd r (by omega)) (fun q => q.elim (fun r => absurd r (by omega)) (fun q => q.elim (fun r => absurd r (by omega)) (fun q => q.elim (fun r => absurd r (by omega)) (fun q => q.elim (fun r => absurd r (by omega)) (fun q => q.elim (fun r => absurd r (by omega)) (fun q => q.elim (fun r => absurd r (by omega)) (fun q => q.elim (fun r => absurd r (by omega)) (fun q => q.elim (fun r => absurd r (by omega)) (fun q => q.elim (fun r => absurd r (by omega)) (fun q => q.elim (fun r => absurd r (by omega)) (fun q => q.elim (fun r => absurd r (by omega)) (fun q => by unfold own_S14 at q; omega)))))))))))))), fun q => absurd q (fun q => (fun q => (fun q => (fun q => (fun q => (fun q => (fun q => (fun q => (fun q => (fun q => (own_to10 (by omega)) ((own_tk9 (by omega)).mp q)) ((own_tk8 (by omega)).mp q)) ((own_tk7 (by omega)).mp q)) ((own_tk6 (by omega)).mp q)) ((own_tk5 (by omega)).mp q)) ((own_tk4 (by omega)).mp q)) ((own_tk3 (by omega)).mp q)) ((own_tk2 (by omega)).mp q)) ((own_tk1 (by omega)).mp q)) ((own_RRhi (by omega) (by omega)).mp q))⟩
  by_cases h27 : x < 983040
  · exact ⟨fun _ => Or.inr ⟨by omega, by omega, ⟨by omega, ⟨by omega, ⟨by omega, ⟨by omega, ⟨by omega, ⟨by omega, ⟨by omega, ⟨by omega, ⟨by omega, (by unfold own_T10; omega)⟩⟩⟩⟩⟩⟩⟩⟩⟩⟩, fun _ => (Or.inr (Or.inr (Or.inr (Or.inr (Or.inr (Or.inr (Or.inr (Or.inr (Or.inr (Or.inr (Or.inr (Or.inr (Or.inr ⟨by omega, by omega⟩)))))))))))))⟩
  exact ⟨fun q => absurd q (fun q => q.elim (fun r => absurd r (by omega)) (fun q => q.elim (fun r => absurd r (by omega)) (fun q => q.elim (fun r => absurd r (by omega)) (fun q => q.elim (fun r => absurd r (by omega)) (fun q => q.elim (fun r => absurd r (by omega)) (fun q => q.elim (fun r => absurd r (by omega)) (fun q => q.elim (fun r => absurd r (by omega)) (fun q => q.elim (fun r => absurd r (by omega)) (fun q => q.elim (fun r => absurd r (by omega)) (fun q => q.elim (fun r => absurd r (by omega)) (fun q => q.elim (fun r => absurd r (by omega)) (fun q => q.elim (fun r => absurd r (by omega)) (fun q => q.elim (fun r => absurd r (by omega)) (fun q => by unfold own_S14 at q; omega)))))))))))))), fun q => absurd q (own_RRout (by omega))⟩
theorem d2_0 : decode method_2_code 0 = .ok (.iload_n 0, 1) := by decide +kernel
theorem d2_1 : decode method_2_code 1 = .ok (.sipush 192, 3) := by decide +kernel
theorem d2_4 : decode method_2_code 4 = .ok (.if_icmp .ge 33, 3) := by decide +kernel
theorem d2_7 : decode method_2_code 7 = .ok (.iload_n 0, 1) := by decide +kernel
theorem d2_8 : decode method_2_code 8 = .ok (.bipush 65, 2) := by decide +kernel
theorem d2_10 : decode method_2_code 10 = .ok (.if_icmp .lt 9, 3) := by decide +kernel
theorem d2_13 : decode method_2_code 13 = .ok (.iload_n 0, 1) := by decide +kernel
theorem d2_14 : decode method_2_code 14 = .ok (.bipush 90, 2) := by decide +kernel
theorem d2_16 : decode method_2_code 16 = .ok (.if_icmp .le 15, 3) := by decide +kernel
theorem d2_19 : decode method_2_code 19 = .ok (.iload_n 0, 1) := by decide +kernel
theorem d2_20 : decode method_2_code 20 = .ok (.bipush 97, 2) := by decide +kernel
theorem d2_22 : decode method_2_code 22 = .ok (.if_icmp .lt 13, 3) := by decide +kernel
theorem d2_25 : decode method_2_code 25 = .ok (.iload_n 0, 1) := by decide +kernel
theorem d2_26 : decode method_2_code 26 = .ok (.bipush 122, 2) := by decide +kernel
theorem d2_28 : decode method_2_code 28 = .ok (.if_icmp .gt 7, 3) := by decide +kernel
theorem d2_31 : decode method_2_code 31 = .ok (.iconst 1, 1) := by decide +kernel
theorem d2_32 : decode method_2_code 32 = .ok (.goto 4, 3) := by decide +kernel
theorem d2_35 : decode method_2_code 35 = .ok (.iconst 0, 1) := by decide +kernel
theorem d2_36 : decode method_2_code 36 = .ok (.ireturn, 1) := by decide +kernel
theorem d2_37 : decode method_2_code 37 = .ok (.iload_n 0, 1) := by decide +kernel
theorem d2_38 : decode method_2_code 38 = .ok (.ldc 7, 2) := by decide +kernel
theorem d2_40 : decode method_2_code 40 = .ok (.if_icmp .le 5, 3) := by decide +kernel
theorem d2_43 : decode method_2_code 43 = .ok (.iconst 0, 1) := by decide +kernel
theorem d2_44 : decode method_2_code 44 = .ok (.ireturn, 1) := by decide +kernel
theorem d2_45 : decode method_2_code 45 = .ok (.iload_n 0, 1) := by decide +kernel
theorem d2_46 : decode method_2_code 46 = .ok (.sipush 215, 3) := by decide +kernel
theorem d2_49 : decode method_2_code 49 = .ok (.if_icmp .eq 10, 3) := by decide +kernel
theorem d2_52 : decode method_2_code 52 = .ok (.iload_n 0, 1) := by decide +kernel
theorem d2_53 : decode method_2_code 53 = .ok (.sipush 247, 3) := by decide +kernel
theorem d2_56 : decode method_2_code 56 = .ok (.if_icmp .ne 5, 3) := by decide +kernel
theorem d2_59 : decode method_2_code 59 = .ok (.iconst 0, 1) := by decide +kernel
theorem d2_60 : decode method_2_code 60 = .ok (.ireturn, 1) := by decide +kernel
theorem d2_61 : decode method_2_code 61 = .ok (.iload_n 0, 1) := by decide +kernel
theorem d2_62 : decode method_2_code 62 = .ok (.sipush 768, 3) := by decide +kernel
theorem d2_65 : decode method_2_code 65 = .ok (.if_icmp .lt 12, 3) := by decide +kernel
theorem d2_68 : decode method_2_code 68 = .ok (.iload_n 0, 1) := by decide +kernel
theorem d2_69 : decode method_2_code 69 = .ok (.sipush 879, 3) := by decide +kernel
theorem d2_72 : decode method_2_code 72 = .ok (.if_icmp .gt 5, 3) := by decide +kernel
theorem d2_75 : decode method_2_code 75 = .ok (.iconst 0, 1) := by decide +kernel
theorem d2_76 : decode method_2_code 76 = .ok (.ireturn, 1) := by decide +kernel
theorem d2_77 : decode method_2_code 77 = .ok (.iload_n 0, 1) := by decide +kernel
theorem d2_78 : decode method_2_code 78 = .ok (.sipush 894, 3) := by decide +kernel
theorem d2_81 : decode method_2_code 81 = .ok (.if_icmp .ne 5, 3) := by decide +kernel
theorem d2_84 : decode method_2_code 84 = .ok (.iconst 0, 1) := by decide +kernel
theorem d2_85 : decode method_2_code 85 = .ok (.ireturn, 1) := by decide +kernel
theorem d2_86 : decode method_2_code 86 = .ok (.iload_n 0, 1) := by decide +kernel
theorem d2_87 : decode method_2_code 87 = .ok (.sipush 8192, 3) := by decide +kernel
theorem d2_90 : decode method_2_code 90 = .ok (.if_icmp .lt 12, 3) := by decide +kernel
theorem d2_93 : decode method_2_code 93 = .ok (.iload_n 0, 1) := by decide +kernel
theorem d2_94 : decode method_2_code 94 = .ok (.sipush 8203, 3) := by decide +kernel
theorem d2_97 : decode method_2_code 97 = .ok (.if_icmp .gt 5, 3) := by decide +kernel
theorem d2_100 : decode method_2_code 100 = .ok (.iconst 0, 1) := by decide +kernel
theorem d2_101 : decode method_2_code 101 = .ok (.ireturn, 1) := by decide +kernel
theorem d2_102 : decode method_2_code 102 = .ok (.iload_n 0, 1) := by decide +kernel
theorem d2_103 : decode method_2_code 103 = .ok (.sipush 8206, 3) := by decide +kernel
theorem d2_106 : decode method_2_code 106 = .ok (.if_icmp .lt 12, 3) := by decide +kernel
theorem d2_109 : decode method_2_code 109 = .ok (.iload_n 0, 1) := by decide +kernel
theorem d2_110 : decode method_2_code 110 = .ok (.sipush 8303, 3) := by decide +kernel
theorem d2_113 : decode method_2_code 113 = .ok (.if_icmp .gt 5, 3) := by decide +kernel
theorem d2_116 : decode method_2_code 116 = .ok (.iconst 0, 1) := by decide +kernel
theorem d2_117 : decode method_2_code 117 = .ok (.ireturn, 1) := by decide +kernel
theorem d2_118 : decode method_2_code 118 = .ok (.iload_n 0, 1) := by decide +kernel
theorem d2_119 : decode method_2_code 119 = .ok (.sipush 8592, 3) := by decide +kernel
theorem d2_122 : decode method_2_code 122 = .ok (.if_icmp .lt 12, 3) := by decide +kernel
theorem d2_125 : decode method_2_code 125 = .ok (.iload_n 0, 1) := by decide +kernel
theorem d2_126 : decode method_2_code 126 = .ok (.sipush 11263, 3) := by decide +kernel
theorem d2_129 : decode method_2_code 129 = .ok (.if_icmp .gt 5, 3) := by decide +kernel
theorem d2_132 : decode method_2_code 132 = .ok (.iconst 0, 1) := by decide +kernel
theorem d2_133 : decode method_2_code 133 = .ok (.ireturn, 1) := by decide +kernel
theorem d2_134 : decode method_2_code 134 = .ok (.iload_n 0, 1) := by decide +kernel
theorem d2_135 : decode method_2_code 135 = .ok (.sipush 12272, 3) := by decide +kernel
theorem d2_138 : decode method_2_code 138 = .ok (.if_icmp .lt 12, 3) := by decide +kernel
theorem d2_141 : decode method_2_code 141 = .ok (.iload_n 0, 1) := by decide +kernel
theorem d2_142 : decode method_2_code 142 = .ok (.sipush 12288, 3) := by decide +kernel
theorem d2_145 : decode method_2_code 145 = .ok (.if_icmp .gt 5, 3) := by decide +kernel
theorem d2_148 : decode method_2_code 148 = .ok (.iconst 0, 1) := by decide +kernel
theorem d2_149 : decode method_2_code 149 = .ok (.ireturn, 1) := by decide +kernel
theorem d2_150 : decode method_2_code 150 = .ok (.iload_n 0, 1) := by decide +kernel
theorem d2_151 : decode method_2_code 151 = .ok (.ldc 8, 2) := by decide +kernel
theorem d2_153 : decode method_2_code 153 = .ok (.if_icmp .lt 11, 3) := by decide +kernel
theorem d2_156 : decode method_2_code 156 = .ok (.iload_n 0, 1) := by decide +kernel
theorem d2_157 : decode method_2_code 157 = .ok (.ldc 9, 2) := by decide +kernel
theorem d2_159 : decode method_2_code 159 = .ok (.if_icmp .gt 5, 3) := by decide +kernel
theorem d2_162 : decode method_2_code 162 = .ok (.iconst 0, 1) := by decide +kernel
theorem d2_163 : decode method_2_code 163 = .ok (.ireturn, 1) := by decide +kernel
theorem d2_164 : decode method_2_code 164 = .ok (.iload_n 0, 1) := by decide +kernel
theorem d2_165 : decode method_2_code 165 = .ok (.ldc 10, 2) := by decide +kernel
theorem d2_167 : decode method_2_code 167 = .ok (.if_icmp .lt 11, 3) := by decide +kernel
theorem d2_170 : decode method_2_code 170 = .ok (.iload_n 0, 1) := by decide +kernel
theorem d2_171 : decode method_2_code 171 = .ok (.ldc 11, 2) := by decide +kernel
theorem d2_173 : decode method_2_code 173 = .ok (.if_icmp .gt 5, 3) := by decide +kernel
theorem d2_176 : decode method_2_code 176 = .ok (.iconst 0, 1) := by decide +kernel
theorem d2_177 : decode method_2_code 177 = .ok (.ireturn, 1) := by decide +kernel
theorem d2_178 : decode method_2_code 178 = .ok (.iload_n 0, 1) := by decide +kernel
theorem d2_179 : decode method_2_code 179 = .ok (.ldc 12, 2) := by decide +kernel
theorem d2_181 : decode method_2_code 181 = .ok (.if_icmp .eq 9, 3) := by decide +kernel
theorem d2_184 : decode method_2_code 184 = .ok (.iload_n 0, 1) := by decide +kernel
theorem d2_185 : decode method_2_code 185 = .ok (.ldc 13, 2) := by decide +kernel
theorem d2_187 : decode method_2_code 187 = .ok (.if_icmp .ne 5, 3) := by decide +kernel
theorem d2_190 : decode method_2_code 190 = .ok (.iconst 0, 1) := by decide +kernel
theorem d2_191 : decode method_2_code 191 = .ok (.ireturn, 1) := by decide +kernel
theorem d2_192 : decode method_2_code 192 = .ok (.iconst 1, 1) := by decide +kernel
theorem d2_193 : decode method_2_code 193 = .ok (.ireturn, 1) := by decide +kernel
theorem own_pn_2 : plainName x.cls = true := by first | (simp [plainName, overriddenIn]; done) | decide +kernel
theorem own_ef_2 (m : MethodId) (p1 : Int32) : entryFrame m #[(.int p1)] 1 = mkF m 0 #[.val (.int p1)] [] := by first | (simp [entryFrame, mkF, argsToLocals, Value.category]; done) | rfl
abbrev own_R2 : Room := { frames := 0, cells := 0, slots := 0, locals := 0 }
def own_Q2 (Z : State) (p1 : Int32) (h0 : Heap) (n0 : Nat) (v : Option Value) (h : Heap) (L : List Loc) : Prop := ∃ r : Int32, v = some (.int r) ∧ own_B r (own_RR p1.toInt) ∧ Fr n0 L ∧ h = h0
set_option maxRecDepth 65536 in
set_option maxHeartbeats 40000000 in
theorem rm2 (l : Launch) (Z : State) (a0 : Array Value) (hw : ∀ d ∈ tables_1, d.before a0 Z = true) (ws : List Jvm.Cond) (p1 : Int32) (h0 : Heap) (n0 : Nat) (Z0 : n0 ≤ h0.size) :
    MetFree l (⟨x.cls, "ref", "(I)Z"⟩ : MethodName) (head1 (Jvm.Cond.code (⟨x.cls, "ref", "(I)Z"⟩ : MethodName) method_2_code 1 (some .boolean) :: ws) own_R2) (fun a U => a = #[(.int p1)] ∧ Z.Warmed39 U.vm ∧ U.heap = h0) (fun _ _ _ _ _ => True) (fun _ U o U' => ∃ v L, o = .returned v ∧ own_Q2 Z p1 h0 n0 v U'.heap L ∧ FrameEnd U o U' L own_R2.cells own_R2.slots) := by
  refine MetFree.of_bodySF (plainFor_of_name own_pn_2) hisR ?_
  intro p e s m args below meth c s₁ Bd hml0 hP hK
  obtain ⟨rfl, hZ, hh⟩ := hP
  have hx := Bd.exec
  have hby := Bd.bytes
  have hlk := BodyLoose.notSynchronized Bd
  have hml : c.maxLocals = 1 := hml0
  have hown : s.vm.findClass x.cls = some m.cls := (findClass_of_methodNamed Bd.named : s.vm.findClass (⟨x.cls, "ref", "(I)Z"⟩ : MethodName).cls = some m.cls)
  have hnm := (name_of_methodNamed Bd.named Bd.method).1
  have X0 : Stand p l e own_R2 s m #[(.int p1)] below meth c s₁ [] 0 0 := Stand.of_body Bd
  have e0 : s₁.heap = h0 := by rw [← hh, Bd.state]; rfl
  have Nf := Fr.nil n0
  have Zs := Z0
  show own_Fin p e below s (own_Q2 Z p1 h0 n0) 0 0 s₁ (entryFrame m #[(.int p1)] 1)
  rw [own_ef_2 m p1]
  show own_Fin _ _ _ _ _ _ _ _ (mkF m 0 #[.val (.int p1)] [])
  have j178 : (own_RR p1.toInt ↔ own_T10 p1.toInt) → own_Fin p e below s (own_Q2 Z p1 h0 n0) 0 0 s₁ (mkF m 178 #[.val (.int p1)] []) := by
    intro hJ
    refine own_step (fun t k => XS.iloadN X0.here hx rfl (hb hby d2_178) rfl k) ?_
    show own_Fin _ _ _ _ _ _ _ _ (mkF m 179 #[.val (.int p1)] [(.int p1)])
    refine own_step (fun t k => X0.ldcInt hx hown (mvT hZ (hw _ (List.mem_of_getElem? (i := 26) rfl))) (g := (mkF m 179 #[.val (.int p1)] [(.int p1)])) rfl (hb hby d2_179) _ k) ?_
    show own_Fin _ _ _ _ _ _ _ _ (mkF m 181 #[.val (.int p1)] [(.int (65534 : Int32)), (.int p1)])
    by_cases hc1 : (p1).toInt = 65534
    · skip
      refine own_step (fun t k => XS.icmpYes X0.here hx rfl (pc0 := 181) (pc' := 190) rfl (hb hby d2_181) rfl (own_ce (x := p1) (y := (65534 : Int32)) rfl rfl hc1).1 (by decide) (by decide) k) ?_
      show own_Fin _ _ _ _ _ _ _ _ (mkF m 190 #[.val (.int p1)] [])
      refine own_step (fun t k => XS.iconst X0.here hx rfl (hb hby d2_190) k) ?_
      show own_Fin _ _ _ _ _ _ _ _ (mkF m 191 #[.val (.int p1)] [(.int (0 : Int32))])
      refine own_retZ X0 hx hlk Bd.returns (hb hby d2_191) (z' := (0 : Int32)) (by decide) (by decide) (by decide) e0 ?_
      exact ⟨_, rfl, own_B0 (fun q => own_to10 (by omega) (hJ.mp q)), Nf, rfl⟩
    · skip
      refine own_step (fun t k => XS.icmpNo X0.here hx rfl (hb hby d2_181) rfl (own_cu (x := p1) (y := (65534 : Int32)) rfl rfl hc1).1 k) ?_
      show own_Fin _ _ _ _ _ _ _ _ (mkF m 184 #[.val (.int p1)] [])
      refine own_step (fun t k => XS.iloadN X0.here hx rfl (hb hby d2_184) rfl k) ?_
      show own_Fin _ _ _ _ _ _ _ _ (mkF m 185 #[.val (.int p1)] [(.int p1)])
      refine own_step (fun t k => X0.ldcInt hx hown (mvT hZ (hw _ (List.mem_of_getElem? (i := 27) rfl))) (g := (mkF m 185 #[.val (.int p1)] [(.int p1)])) rfl (hb hby d2_185) _ k) ?_
      show own_Fin _ _ _ _ _ _ _ _ (mkF m 187 #[.val (.int p1)] [(.int (65535 : Int32)), (.int p1)])
      by_cases hc2 : (p1).toInt = 65535
      · skip
        refine own_step (fun t k => XS.icmpNo X0.here hx rfl (hb hby d2_187) rfl (own_ce (x := p1) (y := (65535 : Int32)) rfl rfl hc2).2 k) ?_
        show own_Fin _ _ _ _ _ _ _ _ (mkF m 190 #[.val (.int p1)] [])
        refine own_step (fun t k => XS.iconst X0.here hx rfl (hb hby d2_190) k) ?_
        show own_Fin _ _ _ _ _ _ _ _ (mkF m 191 #[.val (.int p1)] [(.int (0 : Int32))])
        refine own_retZ X0 hx hlk Bd.returns (hb hby d2_191) (z' := (0 : Int32)) (by decide) (by decide) (by decide) e0 ?_
        exact ⟨_, rfl, own_B0 (fun q => own_to10 (by omega) (hJ.mp q)), Nf, rfl⟩
      · skip
        refine own_step (fun t k => XS.icmpYes X0.here hx rfl (pc0 := 187) (pc' := 192) rfl (hb hby d2_187) rfl (own_cu (x := p1) (y := (65535 : Int32)) rfl rfl hc2).2 (by decide) (by decide) k) ?_
        show own_Fin _ _ _ _ _ _ _ _ (mkF m 192 #[.val (.int p1)] [])
        refine own_step (fun t k => XS.iconst X0.here hx rfl (hb hby d2_192) k) ?_
        show own_Fin _ _ _ _ _ _ _ _ (mkF m 193 #[.val (.int p1)] [(.int (1 : Int32))])
        refine own_retZ X0 hx hlk Bd.returns (hb hby d2_193) (z' := (1 : Int32)) (by decide) (by decide) (by decide) e0 ?_
        exact ⟨_, rfl, own_B1 (hJ.mpr (by unfold own_T10; omega)), Nf, rfl⟩
  have j164 : (own_RR p1.toInt ↔ own_T9 p1.toInt) → own_Fin p e below s (own_Q2 Z p1 h0 n0) 0 0 s₁ (mkF m 164 #[.val (.int p1)] []) := by
    intro hJ
    refine own_step (fun t k => XS.iloadN X0.here hx rfl (hb hby d2_164) rfl k) ?_
    show own_Fin _ _ _ _ _ _ _ _ (mkF m 165 #[.val (.int p1)] [(.int p1)])
    refine own_step (fun t k => X0.ldcInt hx hown (mvT hZ (hw _ (List.mem_of_getElem? (i := 25) rfl))) (g := (mkF m 165 #[.val (.int p1)] [(.int p1)])) rfl (hb hby d2_165) _ k) ?_
    show own_Fin _ _ _ _ _ _ _ _ (mkF m 167 #[.val (.int p1)] [(.int (64976 : Int32)), (.int p1)])
    by_cases hc3 : (p1).toInt < 64976
    · skip
      refine own_step (fun t k => XS.icmpYes X0.here hx rfl (pc0 := 167) (pc' := 178) rfl (hb hby d2_167) rfl (own_cl (x := p1) (y := (64976 : Int32)) rfl rfl hc3).1 (by decide) (by decide) k) ?_
      show own_Fin _ _ _ _ _ _ _ _ (mkF m 178 #[.val (.int p1)] [])
      exact j178 (hJ.trans (own_tk9 (by omega)))
    · skip
      refine own_step (fun t k => XS.icmpNo X0.here hx rfl (hb hby d2_167) rfl (own_cn (x := p1) (y := (64976 : Int32)) rfl rfl hc3).1 k) ?_
      show own_Fin _ _ _ _ _ _ _ _ (mkF m 170 #[.val (.int p1)] [])
      refine own_step (fun t k => XS.iloadN X0.here hx rfl (hb hby d2_170) rfl k) ?_
      show own_Fin _ _ _ _ _ _ _ _ (mkF m 171 #[.val (.int p1)] [(.int p1)])
      refine own_step (fun t k => X0.ldcInt hx hown (mvT hZ (hw _ (List.mem_of_getElem? (i := 29) rfl))) (g := (mkF m 171 #[.val (.int p1)] [(.int p1)])) rfl (hb hby d2_171) _ k) ?_
      show own_Fin _ _ _ _ _ _ _ _ (mkF m 173 #[.val (.int p1)] [(.int (65007 : Int32)), (.int p1)])
      by_cases hc4 : 65007 < (p1).toInt
      · skip
        refine own_step (fun t k => XS.icmpYes X0.here hx rfl (pc0 := 173) (pc' := 178) rfl (hb hby d2_173) rfl (own_cl (x := (65007 : Int32)) (y := p1) rfl rfl hc4).2.2.1 (by decide) (by decide) k) ?_
        show own_Fin _ _ _ _ _ _ _ _ (mkF m 178 #[.val (.int p1)] [])
        exact j178 (hJ.trans (own_tk9 (by omega)))
      · skip
        refine own_step (fun t k => XS.icmpNo X0.here hx rfl (hb hby d2_173) rfl (own_cn (x := (65007 : Int32)) (y := p1) rfl rfl hc4).2.2.1 k) ?_
        show own_Fin _ _ _ _ _ _ _ _ (mkF m 176 #[.val (.int p1)] [])
        refine own_step (fun t k => XS.iconst X0.here hx rfl (hb hby d2_176) k) ?_
        show own_Fin _ _ _ _ _ _ _ _ (mkF m 177 #[.val (.int p1)] [(.int (0 : Int32))])
        refine own_retZ X0 hx hlk Bd.returns (hb hby d2_177) (z' := (0 : Int32)) (by decide) (by decide) (by decide) e0 ?_
        exact ⟨_, rfl, own_B0 (fun q => own_to9 (by omega) (hJ.mp q)), Nf, rfl⟩
  have j150 : (own_RR p1.toInt ↔ own_T8 p1.toInt) → own_Fin p e below s (own_Q2 Z p1 h0 n0) 0 0 s₁ (mkF m 150 #[.val (.int p1)] []) := by
    intro hJ
    refine own_step (fun t k => XS.iloadN X0.here hx rfl (hb hby d2_150) rfl k) ?_
    show own_Fin _ _ _ _ _ _ _ _ (mkF m 151 #[.val (.int p1)] [(.int p1)])
    refine own_step (fun t k => X0.ldcInt hx hown (mvT hZ (hw _ (List.mem_of_getElem? (i := 24) rfl))) (g := (mkF m 151 #[.val (.int p1)] [(.int p1)])) rfl (hb hby d2_151) _ k) ?_
    show own_Fin _ _ _ _ _ _ _ _ (mkF m 153 #[.val (.int p1)] [(.int (55296 : Int32)), (.int p1)])
    by_cases hc5 : (p1).toInt < 55296
    · skip
      refine own_step (fun t k => XS.icmpYes X0.here hx rfl (pc0 := 153) (pc' := 164) rfl (hb hby d2_153) rfl (own_cl (x := p1) (y := (55296 : Int32)) rfl rfl hc5).1 (by decide) (by decide) k) ?_
      show own_Fin _ _ _ _ _ _ _ _ (mkF m 164 #[.val (.int p1)] [])
      exact j164 (hJ.trans (own_tk8 (by omega)))
    · skip
      refine own_step (fun t k => XS.icmpNo X0.here hx rfl (hb hby d2_153) rfl (own_cn (x := p1) (y := (55296 : Int32)) rfl rfl hc5).1 k) ?_
      show own_Fin _ _ _ _ _ _ _ _ (mkF m 156 #[.val (.int p1)] [])
      refine own_step (fun t k => XS.iloadN X0.here hx rfl (hb hby d2_156) rfl k) ?_
      show own_Fin _ _ _ _ _ _ _ _ (mkF m 157 #[.val (.int p1)] [(.int p1)])
      refine own_step (fun t k => X0.ldcInt hx hown (mvT hZ (hw _ (List.mem_of_getElem? (i := 28) rfl))) (g := (mkF m 157 #[.val (.int p1)] [(.int p1)])) rfl (hb hby d2_157) _ k) ?_
      show own_Fin _ _ _ _ _ _ _ _ (mkF m 159 #[.val (.int p1)] [(.int (63743 : Int32)), (.int p1)])
      by_cases hc6 : 63743 < (p1).toInt
      · skip
        refine own_step (fun t k => XS.icmpYes X0.here hx rfl (pc0 := 159) (pc' := 164) rfl (hb hby d2_159) rfl (own_cl (x := (63743 : Int32)) (y := p1) rfl rfl hc6).2.2.1 (by decide) (by decide) k) ?_
        show own_Fin _ _ _ _ _ _ _ _ (mkF m 164 #[.val (.int p1)] [])
        exact j164 (hJ.trans (own_tk8 (by omega)))
      · skip
        refine own_step (fun t k => XS.icmpNo X0.here hx rfl (hb hby d2_159) rfl (own_cn (x := (63743 : Int32)) (y := p1) rfl rfl hc6).2.2.1 k) ?_
        show own_Fin _ _ _ _ _ _ _ _ (mkF m 162 #[.val (.int p1)] [])
        refine own_step (fun t k => XS.iconst X0.here hx rfl (hb hby d2_162) k) ?_
        show own_Fin _ _ _ _ _ _ _ _ (mkF m 163 #[.val (.int p1)] [(.int (0 : Int32))])
        refine own_retZ X0 hx hlk Bd.returns (hb hby d2_163) (z' := (0 : Int32)) (by decide) (by decide) (by decide) e0 ?_
        exact ⟨_, rfl, own_B0 (fun q => own_to8 (by omega) (hJ.mp q)), Nf, rfl⟩
  have j134 : (own_RR p1.toInt ↔ own_T7 p1.toInt) → own_Fin p e below s (own_Q2 Z p1 h0 n0) 0 0 s₁ (mkF m 134 #[.val (.int p1)] []) := by
    intro hJ
    refine own_step (fun t k => XS.iloadN X0.here hx rfl (hb hby d2_134) rfl k) ?_
    show own_Fin _ _ _ _ _ _ _ _ (mkF m 135 #[.val (.int p1)] [(.int p1)])
    refine own_step (fun t k => XS.sipush X0.here hx rfl (hb hby d2_135) k) ?_
    show own_Fin _ _ _ _ _ _ _ _ (mkF m 138 #[.val (.int p1)] [(.int (12272 : Int32)), (.int p1)])
    by_cases hc7 : (p1).toInt < 12272
    · skip
      refine own_step (fun t k => XS.icmpYes X0.here hx rfl (pc0 := 138) (pc' := 150) rfl (hb hby d2_138) rfl (own_cl (x := p1) (y := (12272 : Int32)) rfl rfl hc7).1 (by decide) (by decide) k) ?_
      show own_Fin _ _ _ _ _ _ _ _ (mkF m 150 #[.val (.int p1)] [])
      exact j150 (hJ.trans (own_tk7 (by omega)))
    · skip
      refine own_step (fun t k => XS.icmpNo X0.here hx rfl (hb hby d2_138) rfl (own_cn (x := p1) (y := (12272 : Int32)) rfl rfl hc7).1 k) ?_
      show own_Fin _ _ _ _ _ _ _ _ (mkF m 141 #[.val (.int p1)] [])
      refine own_step (fun t k => XS.iloadN X0.here hx rfl (hb hby d2_141) rfl k) ?_
      show own_Fin _ _ _ _ _ _ _ _ (mkF m 142 #[.val (.int p1)] [(.int p1)])
      refine own_step (fun t k => XS.sipush X0.here hx rfl (hb hby d2_142) k) ?_
      show own_Fin _ _ _ _ _ _ _ _ (mkF m 145 #[.val (.int p1)] [(.int (12288 : Int32)), (.int p1)])
      by_cases hc8 : 12288 < (p1).toInt
      · skip
        refine own_step (fun t k => XS.icmpYes X0.here hx rfl (pc0 := 145) (pc' := 150) rfl (hb hby d2_145) rfl (own_cl (x := (12288 : Int32)) (y := p1) rfl rfl hc8).2.2.1 (by decide) (by decide) k) ?_
        show own_Fin _ _ _ _ _ _ _ _ (mkF m 150 #[.val (.int p1)] [])
        exact j150 (hJ.trans (own_tk7 (by omega)))
      · skip
        refine own_step (fun t k => XS.icmpNo X0.here hx rfl (hb hby d2_145) rfl (own_cn (x := (12288 : Int32)) (y := p1) rfl rfl hc8).2.2.1 k) ?_
        show own_Fin _ _ _ _ _ _ _ _ (mkF m 148 #[.val (.int p1)] [])
        refine own_step (fun t k => XS.iconst X0.here hx rfl (hb hby d2_148) k) ?_
        show own_Fin _ _ _ _ _ _ _ _ (mkF m 149 #[.val (.int p1)] [(.int (0 : Int32))])
        refine own_retZ X0 hx hlk Bd.returns (hb hby d2_149) (z' := (0 : Int32)) (by decide) (by decide) (by decide) e0 ?_
        exact ⟨_, rfl, own_B0 (fun q => own_to7 (by omega) (hJ.mp q)), Nf, rfl⟩
  have j118 : (own_RR p1.toInt ↔ own_T6 p1.toInt) → own_Fin p e below s (own_Q2 Z p1 h0 n0) 0 0 s₁ (mkF m 118 #[.val (.int p1)] []) := by
    intro hJ
    refine own_step (fun t k => XS.iloadN X0.here hx rfl (hb hby d2_118) rfl k) ?_
    show own_Fin _ _ _ _ _ _ _ _ (mkF m 119 #[.val (.int p1)] [(.int p1)])
    refine own_step (fun t k => XS.sipush X0.here hx rfl (hb hby d2_119) k) ?_
    show own_Fin _ _ _ _ _ _ _ _ (mkF m 122 #[.val (.int p1)] [(.int (8592 : Int32)), (.int p1)])
    by_cases hc9 : (p1).toInt < 8592
    · skip
      refine own_step (fun t k => XS.icmpYes X0.here hx rfl (pc0 := 122) (pc' := 134) rfl (hb hby d2_122) rfl (own_cl (x := p1) (y := (8592 : Int32)) rfl rfl hc9).1 (by decide) (by decide) k) ?_
      show own_Fin _ _ _ _ _ _ _ _ (mkF m 134 #[.val (.int p1)] [])
      exact j134 (hJ.trans (own_tk6 (by omega)))
    · skip
      refine own_step (fun t k => XS.icmpNo X0.here hx rfl (hb hby d2_122) rfl (own_cn (x := p1) (y := (8592 : Int32)) rfl rfl hc9).1 k) ?_
      show own_Fin _ _ _ _ _ _ _ _ (mkF m 125 #[.val (.int p1)] [])
      refine own_step (fun t k => XS.iloadN X0.here hx rfl (hb hby d2_125) rfl k) ?_
      show own_Fin _ _ _ _ _ _ _ _ (mkF m 126 #[.val (.int p1)] [(.int p1)])
      refine own_step (fun t k => XS.sipush X0.here hx rfl (hb hby d2_126) k) ?_
      show own_Fin _ _ _ _ _ _ _ _ (mkF m 129 #[.val (.int p1)] [(.int (11263 : Int32)), (.int p1)])
      by_cases hc10 : 11263 < (p1).toInt
      · skip
        refine own_step (fun t k => XS.icmpYes X0.here hx rfl (pc0 := 129) (pc' := 134) rfl (hb hby d2_129) rfl (own_cl (x := (11263 : Int32)) (y := p1) rfl rfl hc10).2.2.1 (by decide) (by decide) k) ?_
        show own_Fin _ _ _ _ _ _ _ _ (mkF m 134 #[.val (.int p1)] [])
        exact j134 (hJ.trans (own_tk6 (by omega)))
      · skip
        refine own_step (fun t k => XS.icmpNo X0.here hx rfl (hb hby d2_129) rfl (own_cn (x := (11263 : Int32)) (y := p1) rfl rfl hc10).2.2.1 k) ?_
        show own_Fin _ _ _ _ _ _ _ _ (mkF m 132 #[.val (.int p1)] [])
        refine own_step (fun t k => XS.iconst X0.here hx rfl (hb hby d2_132) k) ?_
        show own_Fin _ _ _ _ _ _ _ _ (mkF m 133 #[.val (.int p1)] [(.int (0 : Int32))])
        refine own_retZ X0 hx hlk Bd.returns (hb hby d2_133) (z' := (0 : Int32)) (by decide) (by decide) (by decide) e0 ?_
        exact ⟨_, rfl, own_B0 (fun q => own_to6 (by omega) (hJ.mp q)), Nf, rfl⟩
  have j102 : (own_RR p1.toInt ↔ own_T5 p1.toInt) → own_Fin p e below s (own_Q2 Z p1 h0 n0) 0 0 s₁ (mkF m 102 #[.val (.int p1)] []) := by
    intro hJ
    refine own_step (fun t k => XS.iloadN X0.here hx rfl (hb hby d2_102) rfl k) ?_
    show own_Fin _ _ _ _ _ _ _ _ (mkF m 103 #[.val (.int p1)] [(.int p1)])
    refine own_step (fun t k => XS.sipush X0.here hx rfl (hb hby d2_103) k) ?_
    show own_Fin _ _ _ _ _ _ _ _ (mkF m 106 #[.val (.int p1)] [(.int (8206 : Int32)), (.int p1)])
    by_cases hc11 : (p1).toInt < 8206
    · skip
      refine own_step (fun t k => XS.icmpYes X0.here hx rfl (pc0 := 106) (pc' := 118) rfl (hb hby d2_106) rfl (own_cl (x := p1) (y := (8206 : Int32)) rfl rfl hc11).1 (by decide) (by decide) k) ?_
      show own_Fin _ _ _ _ _ _ _ _ (mkF m 118 #[.val (.int p1)] [])
      exact j118 (hJ.trans (own_tk5 (by omega)))
    · skip
      refine own_step (fun t k => XS.icmpNo X0.here hx rfl (hb hby d2_106) rfl (own_cn (x := p1) (y := (8206 : Int32)) rfl rfl hc11).1 k) ?_
      show own_Fin _ _ _ _ _ _ _ _ (mkF m 109 #[.val (.int p1)] [])
      refine own_step (fun t k => XS.iloadN X0.here hx rfl (hb hby d2_109) rfl k) ?_
      show own_Fin _ _ _ _ _ _ _ _ (mkF m 110 #[.val (.int p1)] [(.int p1)])
      refine own_step (fun t k => XS.sipush X0.here hx rfl (hb hby d2_110) k) ?_
      show own_Fin _ _ _ _ _ _ _ _ (mkF m 113 #[.val (.int p1)] [(.int (8303 : Int32)), (.int p1)])
      by_cases hc12 : 8303 < (p1).toInt
      · skip
        refine own_step (fun t k => XS.icmpYes X0.here hx rfl (pc0 := 113) (pc' := 118) rfl (hb hby d2_113) rfl (own_cl (x := (8303 : Int32)) (y := p1) rfl rfl hc12).2.2.1 (by decide) (by decide) k) ?_
        show own_Fin _ _ _ _ _ _ _ _ (mkF m 118 #[.val (.int p1)] [])
        exact j118 (hJ.trans (own_tk5 (by omega)))
      · skip
        refine own_step (fun t k => XS.icmpNo X0.here hx rfl (hb hby d2_113) rfl (own_cn (x := (8303 : Int32)) (y := p1) rfl rfl hc12).2.2.1 k) ?_
        show own_Fin _ _ _ _ _ _ _ _ (mkF m 116 #[.val (.int p1)] [])
        refine own_step (fun t k => XS.iconst X0.here hx rfl (hb hby d2_116) k) ?_
        show own_Fin _ _ _ _ _ _ _ _ (mkF m 117 #[.val (.int p1)] [(.int (0 : Int32))])
        refine own_retZ X0 hx hlk Bd.returns (hb hby d2_117) (z' := (0 : Int32)) (by decide) (by decide) (by decide) e0 ?_
        exact ⟨_, rfl, own_B0 (fun q => own_to5 (by omega) (hJ.mp q)), Nf, rfl⟩
  have j77 : (own_RR p1.toInt ↔ own_T3 p1.toInt) → own_Fin p e below s (own_Q2 Z p1 h0 n0) 0 0 s₁ (mkF m 77 #[.val (.int p1)] []) := by
    intro hJ
    refine own_step (fun t k => XS.iloadN X0.here hx rfl (hb hby d2_77) rfl k) ?_
    show own_Fin _ _ _ _ _ _ _ _ (mkF m 78 #[.val (.int p1)] [(.int p1)])
    refine own_step (fun t k => XS.sipush X0.here hx rfl (hb hby d2_78) k) ?_
    show own_Fin _ _ _ _ _ _ _ _ (mkF m 81 #[.val (.int p1)] [(.int (894 : Int32)), (.int p1)])
    by_cases hc13 : (p1).toInt = 894
    · skip
      refine own_step (fun t k => XS.icmpNo X0.here hx rfl (hb hby d2_81) rfl (own_ce (x := p1) (y := (894 : Int32)) rfl rfl hc13).2 k) ?_
      show own_Fin _ _ _ _ _ _ _ _ (mkF m 84 #[.val (.int p1)] [])
      refine own_step (fun t k => XS.iconst X0.here hx rfl (hb hby d2_84) k) ?_
      show own_Fin _ _ _ _ _ _ _ _ (mkF m 85 #[.val (.int p1)] [(.int (0 : Int32))])
      refine own_retZ X0 hx hlk Bd.returns (hb hby d2_85) (z' := (0 : Int32)) (by decide) (by decide) (by decide) e0 ?_
      exact ⟨_, rfl, own_B0 (fun q => own_to3 (by omega) (hJ.mp q)), Nf, rfl⟩
    · skip
      refine own_step (fun t k => XS.icmpYes X0.here hx rfl (pc0 := 81) (pc' := 86) rfl (hb hby d2_81) rfl (own_cu (x := p1) (y := (894 : Int32)) rfl rfl hc13).2 (by decide) (by decide) k) ?_
      show own_Fin _ _ _ _ _ _ _ _ (mkF m 86 #[.val (.int p1)] [])
      replace hJ := hJ.trans (own_tk3 (by omega))
      refine own_step (fun t k => XS.iloadN X0.here hx rfl (hb hby d2_86) rfl k) ?_
      show own_Fin _ _ _ _ _ _ _ _ (mkF m 87 #[.val (.int p1)] [(.int p1)])
      refine own_step (fun t k => XS.sipush X0.here hx rfl (hb hby d2_87) k) ?_
      show own_Fin _ _ _ _ _ _ _ _ (mkF m 90 #[.val (.int p1)] [(.int (8192 : Int32)), (.int p1)])
      by_cases hc14 : (p1).toInt < 8192
      · skip
        refine own_step (fun t k => XS.icmpYes X0.here hx rfl (pc0 := 90) (pc' := 102) rfl (hb hby d2_90) rfl (own_cl (x := p1) (y := (8192 : Int32)) rfl rfl hc14).1 (by decide) (by decide) k) ?_
        show own_Fin _ _ _ _ _ _ _ _ (mkF m 102 #[.val (.int p1)] [])
        exact j102 (hJ.trans (own_tk4 (by omega)))
      · skip
        refine own_step (fun t k => XS.icmpNo X0.here hx rfl (hb hby d2_90) rfl (own_cn (x := p1) (y := (8192 : Int32)) rfl rfl hc14).1 k) ?_
        show own_Fin _ _ _ _ _ _ _ _ (mkF m 93 #[.val (.int p1)] [])
        refine own_step (fun t k => XS.iloadN X0.here hx rfl (hb hby d2_93) rfl k) ?_
        show own_Fin _ _ _ _ _ _ _ _ (mkF m 94 #[.val (.int p1)] [(.int p1)])
        refine own_step (fun t k => XS.sipush X0.here hx rfl (hb hby d2_94) k) ?_
        show own_Fin _ _ _ _ _ _ _ _ (mkF m 97 #[.val (.int p1)] [(.int (8203 : Int32)), (.int p1)])
        by_cases hc15 : 8203 < (p1).toInt
        · skip
          refine own_step (fun t k => XS.icmpYes X0.here hx rfl (pc0 := 97) (pc' := 102) rfl (hb hby d2_97) rfl (own_cl (x := (8203 : Int32)) (y := p1) rfl rfl hc15).2.2.1 (by decide) (by decide) k) ?_
          show own_Fin _ _ _ _ _ _ _ _ (mkF m 102 #[.val (.int p1)] [])
          exact j102 (hJ.trans (own_tk4 (by omega)))
        · skip
          refine own_step (fun t k => XS.icmpNo X0.here hx rfl (hb hby d2_97) rfl (own_cn (x := (8203 : Int32)) (y := p1) rfl rfl hc15).2.2.1 k) ?_
          show own_Fin _ _ _ _ _ _ _ _ (mkF m 100 #[.val (.int p1)] [])
          refine own_step (fun t k => XS.iconst X0.here hx rfl (hb hby d2_100) k) ?_
          show own_Fin _ _ _ _ _ _ _ _ (mkF m 101 #[.val (.int p1)] [(.int (0 : Int32))])
          refine own_retZ X0 hx hlk Bd.returns (hb hby d2_101) (z' := (0 : Int32)) (by decide) (by decide) (by decide) e0 ?_
          exact ⟨_, rfl, own_B0 (fun q => own_to4 (by omega) (hJ.mp q)), Nf, rfl⟩
  refine own_step (fun t k => XS.iloadN X0.here hx rfl (hb hby d2_0) rfl k) ?_
  show own_Fin _ _ _ _ _ _ _ _ (mkF m 1 #[.val (.int p1)] [(.int p1)])
  refine own_step (fun t k => XS.sipush X0.here hx rfl (hb hby d2_1) k) ?_
  show own_Fin _ _ _ _ _ _ _ _ (mkF m 4 #[.val (.int p1)] [(.int (192 : Int32)), (.int p1)])
  by_cases hc16 : (p1).toInt < 192
  · skip
    refine own_step (fun t k => XS.icmpNo X0.here hx rfl (hb hby d2_4) rfl (own_cl (x := p1) (y := (192 : Int32)) rfl rfl hc16).2.1 k) ?_
    show own_Fin _ _ _ _ _ _ _ _ (mkF m 7 #[.val (.int p1)] [])
    have hL := own_RRlow (x := p1.toInt) (by omega)
    refine own_step (fun t k => XS.iloadN X0.here hx rfl (hb hby d2_7) rfl k) ?_
    show own_Fin _ _ _ _ _ _ _ _ (mkF m 8 #[.val (.int p1)] [(.int p1)])
    refine own_step (fun t k => XS.bipush X0.here hx rfl (hb hby d2_8) k) ?_
    show own_Fin _ _ _ _ _ _ _ _ (mkF m 10 #[.val (.int p1)] [(.int (65 : Int32)), (.int p1)])
    by_cases hc17 : (p1).toInt < 65
    · skip
      refine own_step (fun t k => XS.icmpYes X0.here hx rfl (pc0 := 10) (pc' := 19) rfl (hb hby d2_10) rfl (own_cl (x := p1) (y := (65 : Int32)) rfl rfl hc17).1 (by decide) (by decide) k) ?_
      show own_Fin _ _ _ _ _ _ _ _ (mkF m 19 #[.val (.int p1)] [])
      refine own_step (fun t k => XS.iloadN X0.here hx rfl (hb hby d2_19) rfl k) ?_
      show own_Fin _ _ _ _ _ _ _ _ (mkF m 20 #[.val (.int p1)] [(.int p1)])
      refine own_step (fun t k => XS.bipush X0.here hx rfl (hb hby d2_20) k) ?_
      show own_Fin _ _ _ _ _ _ _ _ (mkF m 22 #[.val (.int p1)] [(.int (97 : Int32)), (.int p1)])
      by_cases hc18 : (p1).toInt < 97
      · skip
        refine own_step (fun t k => XS.icmpYes X0.here hx rfl (pc0 := 22) (pc' := 35) rfl (hb hby d2_22) rfl (own_cl (x := p1) (y := (97 : Int32)) rfl rfl hc18).1 (by decide) (by decide) k) ?_
        show own_Fin _ _ _ _ _ _ _ _ (mkF m 35 #[.val (.int p1)] [])
        refine own_step (fun t k => XS.iconst X0.here hx rfl (hb hby d2_35) k) ?_
        show own_Fin _ _ _ _ _ _ _ _ (mkF m 36 #[.val (.int p1)] [(.int (0 : Int32))])
        refine own_retZ X0 hx hlk Bd.returns (hb hby d2_36) (z' := (0 : Int32)) (by decide) (by decide) (by decide) e0 ?_
        exact ⟨_, rfl, own_B0 (fun q => absurd (hL.mp q) (by omega)), Nf, rfl⟩
      · skip
        refine own_step (fun t k => XS.icmpNo X0.here hx rfl (hb hby d2_22) rfl (own_cn (x := p1) (y := (97 : Int32)) rfl rfl hc18).1 k) ?_
        show own_Fin _ _ _ _ _ _ _ _ (mkF m 25 #[.val (.int p1)] [])
        refine own_step (fun t k => XS.iloadN X0.here hx rfl (hb hby d2_25) rfl k) ?_
        show own_Fin _ _ _ _ _ _ _ _ (mkF m 26 #[.val (.int p1)] [(.int p1)])
        refine own_step (fun t k => XS.bipush X0.here hx rfl (hb hby d2_26) k) ?_
        show own_Fin _ _ _ _ _ _ _ _ (mkF m 28 #[.val (.int p1)] [(.int (122 : Int32)), (.int p1)])
        by_cases hc19 : 122 < (p1).toInt
        · skip
          refine own_step (fun t k => XS.icmpYes X0.here hx rfl (pc0 := 28) (pc' := 35) rfl (hb hby d2_28) rfl (own_cl (x := (122 : Int32)) (y := p1) rfl rfl hc19).2.2.1 (by decide) (by decide) k) ?_
          show own_Fin _ _ _ _ _ _ _ _ (mkF m 35 #[.val (.int p1)] [])
          refine own_step (fun t k => XS.iconst X0.here hx rfl (hb hby d2_35) k) ?_
          show own_Fin _ _ _ _ _ _ _ _ (mkF m 36 #[.val (.int p1)] [(.int (0 : Int32))])
          refine own_retZ X0 hx hlk Bd.returns (hb hby d2_36) (z' := (0 : Int32)) (by decide) (by decide) (by decide) e0 ?_
          exact ⟨_, rfl, own_B0 (fun q => absurd (hL.mp q) (by omega)), Nf, rfl⟩
        · skip
          refine own_step (fun t k => XS.icmpNo X0.here hx rfl (hb hby d2_28) rfl (own_cn (x := (122 : Int32)) (y := p1) rfl rfl hc19).2.2.1 k) ?_
          show own_Fin _ _ _ _ _ _ _ _ (mkF m 31 #[.val (.int p1)] [])
          refine own_step (fun t k => XS.iconst X0.here hx rfl (hb hby d2_31) k) ?_
          show own_Fin _ _ _ _ _ _ _ _ (mkF m 32 #[.val (.int p1)] [(.int (1 : Int32))])
          refine own_step (fun t k => XS.goto X0.here hx rfl (pc0 := 32) (pc' := 36) rfl (hb hby d2_32) (by decide) (by decide) k) ?_
          show own_Fin _ _ _ _ _ _ _ _ (mkF m 36 #[.val (.int p1)] [(.int (1 : Int32))])
          refine own_retZ X0 hx hlk Bd.returns (hb hby d2_36) (z' := (1 : Int32)) (by decide) (by decide) (by decide) e0 ?_
          exact ⟨_, rfl, own_B1 (hL.mpr (by omega)), Nf, rfl⟩
    · skip
      refine own_step (fun t k => XS.icmpNo X0.here hx rfl (hb hby d2_10) rfl (own_cn (x := p1) (y := (65 : Int32)) rfl rfl hc17).1 k) ?_
      show own_Fin _ _ _ _ _ _ _ _ (mkF m 13 #[.val (.int p1)] [])
      refine own_step (fun t k => XS.iloadN X0.here hx rfl (hb hby d2_13) rfl k) ?_
      show own_Fin _ _ _ _ _ _ _ _ (mkF m 14 #[.val (.int p1)] [(.int p1)])
      refine own_step (fun t k => XS.bipush X0.here hx rfl (hb hby d2_14) k) ?_
      show own_Fin _ _ _ _ _ _ _ _ (mkF m 16 #[.val (.int p1)] [(.int (90 : Int32)), (.int p1)])
      by_cases hc20 : 90 < (p1).toInt
      · skip
        refine own_step (fun t k => XS.icmpNo X0.here hx rfl (hb hby d2_16) rfl (own_cl (x := (90 : Int32)) (y := p1) rfl rfl hc20).2.2.2 k) ?_
        show own_Fin _ _ _ _ _ _ _ _ (mkF m 19 #[.val (.int p1)] [])
        refine own_step (fun t k => XS.iloadN X0.here hx rfl (hb hby d2_19) rfl k) ?_
        show own_Fin _ _ _ _ _ _ _ _ (mkF m 20 #[.val (.int p1)] [(.int p1)])
        refine own_step (fun t k => XS.bipush X0.here hx rfl (hb hby d2_20) k) ?_
        show own_Fin _ _ _ _ _ _ _ _ (mkF m 22 #[.val (.int p1)] [(.int (97 : Int32)), (.int p1)])
        by_cases hc21 : (p1).toInt < 97
        · skip
          refine own_step (fun t k => XS.icmpYes X0.here hx rfl (pc0 := 22) (pc' := 35) rfl (hb hby d2_22) rfl (own_cl (x := p1) (y := (97 : Int32)) rfl rfl hc21).1 (by decide) (by decide) k) ?_
          show own_Fin _ _ _ _ _ _ _ _ (mkF m 35 #[.val (.int p1)] [])
          refine own_step (fun t k => XS.iconst X0.here hx rfl (hb hby d2_35) k) ?_
          show own_Fin _ _ _ _ _ _ _ _ (mkF m 36 #[.val (.int p1)] [(.int (0 : Int32))])
          refine own_retZ X0 hx hlk Bd.returns (hb hby d2_36) (z' := (0 : Int32)) (by decide) (by decide) (by decide) e0 ?_
          exact ⟨_, rfl, own_B0 (fun q => absurd (hL.mp q) (by omega)), Nf, rfl⟩
        · skip
          refine own_step (fun t k => XS.icmpNo X0.here hx rfl (hb hby d2_22) rfl (own_cn (x := p1) (y := (97 : Int32)) rfl rfl hc21).1 k) ?_
          show own_Fin _ _ _ _ _ _ _ _ (mkF m 25 #[.val (.int p1)] [])
          refine own_step (fun t k => XS.iloadN X0.here hx rfl (hb hby d2_25) rfl k) ?_
          show own_Fin _ _ _ _ _ _ _ _ (mkF m 26 #[.val (.int p1)] [(.int p1)])
          refine own_step (fun t k => XS.bipush X0.here hx rfl (hb hby d2_26) k) ?_
          show own_Fin _ _ _ _ _ _ _ _ (mkF m 28 #[.val (.int p1)] [(.int (122 : Int32)), (.int p1)])
          by_cases hc22 : 122 < (p1).toInt
          · skip
            refine own_step (fun t k => XS.icmpYes X0.here hx rfl (pc0 := 28) (pc' := 35) rfl (hb hby d2_28) rfl (own_cl (x := (122 : Int32)) (y := p1) rfl rfl hc22).2.2.1 (by decide) (by decide) k) ?_
            show own_Fin _ _ _ _ _ _ _ _ (mkF m 35 #[.val (.int p1)] [])
            refine own_step (fun t k => XS.iconst X0.here hx rfl (hb hby d2_35) k) ?_
            show own_Fin _ _ _ _ _ _ _ _ (mkF m 36 #[.val (.int p1)] [(.int (0 : Int32))])
            refine own_retZ X0 hx hlk Bd.returns (hb hby d2_36) (z' := (0 : Int32)) (by decide) (by decide) (by decide) e0 ?_
            exact ⟨_, rfl, own_B0 (fun q => absurd (hL.mp q) (by omega)), Nf, rfl⟩
          · skip
            refine own_step (fun t k => XS.icmpNo X0.here hx rfl (hb hby d2_28) rfl (own_cn (x := (122 : Int32)) (y := p1) rfl rfl hc22).2.2.1 k) ?_
            show own_Fin _ _ _ _ _ _ _ _ (mkF m 31 #[.val (.int p1)] [])
            refine own_step (fun t k => XS.iconst X0.here hx rfl (hb hby d2_31) k) ?_
            show own_Fin _ _ _ _ _ _ _ _ (mkF m 32 #[.val (.int p1)] [(.int (1 : Int32))])
            refine own_step (fun t k => XS.goto X0.here hx rfl (pc0 := 32) (pc' := 36) rfl (hb hby d2_32) (by decide) (by decide) k) ?_
            show own_Fin _ _ _ _ _ _ _ _ (mkF m 36 #[.val (.int p1)] [(.int (1 : Int32))])
            refine own_retZ X0 hx hlk Bd.returns (hb hby d2_36) (z' := (1 : Int32)) (by decide) (by decide) (by decide) e0 ?_
            exact ⟨_, rfl, own_B1 (hL.mpr (by omega)), Nf, rfl⟩
      · skip
        refine own_step (fun t k => XS.icmpYes X0.here hx rfl (pc0 := 16) (pc' := 31) rfl (hb hby d2_16) rfl (own_cn (x := (90 : Int32)) (y := p1) rfl rfl hc20).2.2.2 (by decide) (by decide) k) ?_
        show own_Fin _ _ _ _ _ _ _ _ (mkF m 31 #[.val (.int p1)] [])
        refine own_step (fun t k => XS.iconst X0.here hx rfl (hb hby d2_31) k) ?_
        show own_Fin _ _ _ _ _ _ _ _ (mkF m 32 #[.val (.int p1)] [(.int (1 : Int32))])
        refine own_step (fun t k => XS.goto X0.here hx rfl (pc0 := 32) (pc' := 36) rfl (hb hby d2_32) (by decide) (by decide) k) ?_
        show own_Fin _ _ _ _ _ _ _ _ (mkF m 36 #[.val (.int p1)] [(.int (1 : Int32))])
        refine own_retZ X0 hx hlk Bd.returns (hb hby d2_36) (z' := (1 : Int32)) (by decide) (by decide) (by decide) e0 ?_
        exact ⟨_, rfl, own_B1 (hL.mpr (by omega)), Nf, rfl⟩
  · skip
    refine own_step (fun t k => XS.icmpYes X0.here hx rfl (pc0 := 4) (pc' := 37) rfl (hb hby d2_4) rfl (own_cn (x := p1) (y := (192 : Int32)) rfl rfl hc16).2.1 (by decide) (by decide) k) ?_
    show own_Fin _ _ _ _ _ _ _ _ (mkF m 37 #[.val (.int p1)] [])
    refine own_step (fun t k => XS.iloadN X0.here hx rfl (hb hby d2_37) rfl k) ?_
    show own_Fin _ _ _ _ _ _ _ _ (mkF m 38 #[.val (.int p1)] [(.int p1)])
    refine own_step (fun t k => X0.ldcInt hx hown (mvT hZ (hw _ (List.mem_of_getElem? (i := 7) rfl))) (g := (mkF m 38 #[.val (.int p1)] [(.int p1)])) rfl (hb hby d2_38) _ k) ?_
    show own_Fin _ _ _ _ _ _ _ _ (mkF m 40 #[.val (.int p1)] [(.int (983039 : Int32)), (.int p1)])
    by_cases hc23 : 983039 < (p1).toInt
    · skip
      refine own_step (fun t k => XS.icmpNo X0.here hx rfl (hb hby d2_40) rfl (own_cl (x := (983039 : Int32)) (y := p1) rfl rfl hc23).2.2.2 k) ?_
      show own_Fin _ _ _ _ _ _ _ _ (mkF m 43 #[.val (.int p1)] [])
      refine own_step (fun t k => XS.iconst X0.here hx rfl (hb hby d2_43) k) ?_
      show own_Fin _ _ _ _ _ _ _ _ (mkF m 44 #[.val (.int p1)] [(.int (0 : Int32))])
      refine own_retZ X0 hx hlk Bd.returns (hb hby d2_44) (z' := (0 : Int32)) (by decide) (by decide) (by decide) e0 ?_
      exact ⟨_, rfl, own_B0 (own_RRout (by omega)), Nf, rfl⟩
    · skip
      refine own_step (fun t k => XS.icmpYes X0.here hx rfl (pc0 := 40) (pc' := 45) rfl (hb hby d2_40) rfl (own_cn (x := (983039 : Int32)) (y := p1) rfl rfl hc23).2.2.2 (by decide) (by decide) k) ?_
      show own_Fin _ _ _ _ _ _ _ _ (mkF m 45 #[.val (.int p1)] [])
      have hJ := own_RRhi (x := p1.toInt) (by omega) (by omega)
      refine own_step (fun t k => XS.iloadN X0.here hx rfl (hb hby d2_45) rfl k) ?_
      show own_Fin _ _ _ _ _ _ _ _ (mkF m 46 #[.val (.int p1)] [(.int p1)])
      refine own_step (fun t k => XS.sipush X0.here hx rfl (hb hby d2_46) k) ?_
      show own_Fin _ _ _ _ _ _ _ _ (mkF m 49 #[.val (.int p1)] [(.int (215 : Int32)), (.int p1)])
      by_cases hc24 : (p1).toInt = 215
      · skip
        refine own_step (fun t k => XS.icmpYes X0.here hx rfl (pc0 := 49) (pc' := 59) rfl (hb hby d2_49) rfl (own_ce (x := p1) (y := (215 : Int32)) rfl rfl hc24).1 (by decide) (by decide) k) ?_
        show own_Fin _ _ _ _ _ _ _ _ (mkF m 59 #[.val (.int p1)] [])
        refine own_step (fun t k => XS.iconst X0.here hx rfl (hb hby d2_59) k) ?_
        show own_Fin _ _ _ _ _ _ _ _ (mkF m 60 #[.val (.int p1)] [(.int (0 : Int32))])
        refine own_retZ X0 hx hlk Bd.returns (hb hby d2_60) (z' := (0 : Int32)) (by decide) (by decide) (by decide) e0 ?_
        exact ⟨_, rfl, own_B0 (fun q => own_to1 (by omega) (hJ.mp q)), Nf, rfl⟩
      · skip
        refine own_step (fun t k => XS.icmpNo X0.here hx rfl (hb hby d2_49) rfl (own_cu (x := p1) (y := (215 : Int32)) rfl rfl hc24).1 k) ?_
        show own_Fin _ _ _ _ _ _ _ _ (mkF m 52 #[.val (.int p1)] [])
        refine own_step (fun t k => XS.iloadN X0.here hx rfl (hb hby d2_52) rfl k) ?_
        show own_Fin _ _ _ _ _ _ _ _ (mkF m 53 #[.val (.int p1)] [(.int p1)])
        refine own_step (fun t k => XS.sipush X0.here hx rfl (hb hby d2_53) k) ?_
        show own_Fin _ _ _ _ _ _ _ _ (mkF m 56 #[.val (.int p1)] [(.int (247 : Int32)), (.int p1)])
        by_cases hc25 : (p1).toInt = 247
        · skip
          refine own_step (fun t k => XS.icmpNo X0.here hx rfl (hb hby d2_56) rfl (own_ce (x := p1) (y := (247 : Int32)) rfl rfl hc25).2 k) ?_
          show own_Fin _ _ _ _ _ _ _ _ (mkF m 59 #[.val (.int p1)] [])
          refine own_step (fun t k => XS.iconst X0.here hx rfl (hb hby d2_59) k) ?_
          show own_Fin _ _ _ _ _ _ _ _ (mkF m 60 #[.val (.int p1)] [(.int (0 : Int32))])
          refine own_retZ X0 hx hlk Bd.returns (hb hby d2_60) (z' := (0 : Int32)) (by decide) (by decide) (by decide) e0 ?_
          exact ⟨_, rfl, own_B0 (fun q => own_to1 (by omega) (hJ.mp q)), Nf, rfl⟩
        · skip
          refine own_step (fun t k => XS.icmpYes X0.here hx rfl (pc0 := 56) (pc' := 61) rfl (hb hby d2_56) rfl (own_cu (x := p1) (y := (247 : Int32)) rfl rfl hc25).2 (by decide) (by decide) k) ?_
          show own_Fin _ _ _ _ _ _ _ _ (mkF m 61 #[.val (.int p1)] [])
          replace hJ := hJ.trans (own_tk1 (by omega))
          refine own_step (fun t k => XS.iloadN X0.here hx rfl (hb hby d2_61) rfl k) ?_
          show own_Fin _ _ _ _ _ _ _ _ (mkF m 62 #[.val (.int p1)] [(.int p1)])
          refine own_step (fun t k => XS.sipush X0.here hx rfl (hb hby d2_62) k) ?_
          show own_Fin _ _ _ _ _ _ _ _ (mkF m 65 #[.val (.int p1)] [(.int (768 : Int32)), (.int p1)])
          by_cases hc26 : (p1).toInt < 768
          · skip
            refine own_step (fun t k => XS.icmpYes X0.here hx rfl (pc0 := 65) (pc' := 77) rfl (hb hby d2_65) rfl (own_cl (x := p1) (y := (768 : Int32)) rfl rfl hc26).1 (by decide) (by decide) k) ?_
            show own_Fin _ _ _ _ _ _ _ _ (mkF m 77 #[.val (.int p1)] [])
            exact j77 (hJ.trans (own_tk2 (by omega)))
          · skip
            refine own_step (fun t k => XS.icmpNo X0.here hx rfl (hb hby d2_65) rfl (own_cn (x := p1) (y := (768 : Int32)) rfl rfl hc26).1 k) ?_
            show own_Fin _ _ _ _ _ _ _ _ (mkF m 68 #[.val (.int p1)] [])
            refine own_step (fun t k => XS.iloadN X0.here hx rfl (hb hby d2_68) rfl k) ?_
            show own_Fin _ _ _ _ _ _ _ _ (mkF m 69 #[.val (.int p1)] [(.int p1)])
            refine own_step (fun t k => XS.sipush X0.here hx rfl (hb hby d2_69) k) ?_
            show own_Fin _ _ _ _ _ _ _ _ (mkF m 72 #[.val (.int p1)] [(.int (879 : Int32)), (.int p1)])
            by_cases hc27 : 879 < (p1).toInt
            · skip
              refine own_step (fun t k => XS.icmpYes X0.here hx rfl (pc0 := 72) (pc' := 77) rfl (hb hby d2_72) rfl (own_cl (x := (879 : Int32)) (y := p1) rfl rfl hc27).2.2.1 (by decide) (by decide) k) ?_
              show own_Fin _ _ _ _ _ _ _ _ (mkF m 77 #[.val (.int p1)] [])
              exact j77 (hJ.trans (own_tk2 (by omega)))
            · skip
              refine own_step (fun t k => XS.icmpNo X0.here hx rfl (hb hby d2_72) rfl (own_cn (x := (879 : Int32)) (y := p1) rfl rfl hc27).2.2.1 k) ?_
              show own_Fin _ _ _ _ _ _ _ _ (mkF m 75 #[.val (.int p1)] [])
              refine own_step (fun t k => XS.iconst X0.here hx rfl (hb hby d2_75) k) ?_
              show own_Fin _ _ _ _ _ _ _ _ (mkF m 76 #[.val (.int p1)] [(.int (0 : Int32))])
              refine own_retZ X0 hx hlk Bd.returns (hb hby d2_76) (z' := (0 : Int32)) (by decide) (by decide) (by decide) e0 ?_
              exact ⟨_, rfl, own_B0 (fun q => own_to2 (by omega) (hJ.mp q)), Nf, rfl⟩
theorem own_pd_0 : parseMethodDescriptor "(I)Z" = some ⟨[.int], some .boolean⟩ := by decide +kernel
theorem own_pn_0 : plainName x.cls = true := by first | (simp [plainName, overriddenIn]; done) | decide +kernel
theorem own_ef_0 (m : MethodId) (p1 : Int32) (p2 : Int32) (p3 : Int32) : entryFrame m #[(.int p1), (.int p2), (.int p3)] maxLocals = mkF m 0 #[.val (.int p1), .val (.int p2), .val (.int p3), .unset, .unset, .unset, .unset, .unset] [] := by first | (simp [entryFrame, mkF, argsToLocals, Value.category, maxLocals]; done) | rfl
def own_Q0 (Z : State) (p1 : Int32) (p2 : Int32) (p3 : Int32) (h0 : Heap) (n0 : Nat) (v : Option Value) (h : Heap) (L : List Loc) : Prop := v = some (.int 1) ∧ Fr n0 L
set_option maxRecDepth 65536 in
set_option maxHeartbeats 40000000 in
theorem rm0 (l : Launch) (Z : State) (a0 : Array Value) (hw : ∀ d ∈ tables_1, d.before a0 Z = true) (ws : List Jvm.Cond) (p1 : Int32) (p2 : Int32) (p3 : Int32) (h0 : Heap) (n0 : Nat) (Z0 : n0 ≤ h0.size) :
    MetFree l x (head1 (Jvm.Cond.code x code maxLocals ret :: ws) room_1) (fun a U => a = #[(.int p1), (.int p2), (.int p3)] ∧ Z.Warmed39 U.vm ∧ U.heap = h0) (fun _ _ _ _ _ => True) (fun _ U o U' => ∃ v L, o = .returned v ∧ own_Q0 Z p1 p2 p3 h0 n0 v U'.heap L ∧ FrameEnd U o U' L 16 128) := by
  refine MetFree.of_bodySF (plainFor_of_name own_pn_0) hisR ?_
  intro p e s m args below meth c s₁ Bd hml0 hP hK
  obtain ⟨rfl, hZ, hh⟩ := hP
  have hx := Bd.exec
  have hby := Bd.bytes
  have hlk := BodyLoose.notSynchronized Bd
  have hml : c.maxLocals = 8 := hml0
  have hown : s.vm.findClass x.cls = some m.cls := (findClass_of_methodNamed Bd.named : s.vm.findClass x.cls = some m.cls)
  have hnm := (name_of_methodNamed Bd.named Bd.method).1
  have X0 : Stand p l e room_1 s m #[(.int p1), (.int p2), (.int p3)] below meth c s₁ [] 0 0 := Stand.of_body Bd
  have e0 : s₁.heap = h0 := by rw [← hh, Bd.state]; rfl
  have Nf := Fr.nil n0
  have Zs := Z0
  show own_Fin p e below s (own_Q0 Z p1 p2 p3 h0 n0) 16 128 s₁ (entryFrame m #[(.int p1), (.int p2), (.int p3)] maxLocals)
  rw [own_ef_0 m p1 p2 p3]
  show own_Fin _ _ _ _ _ _ _ _ (mkF m 0 #[.val (.int p1), .val (.int p2), .val (.int p3), .unset, .unset, .unset, .unset, .unset] [])
  refine own_step (fun t k => XS.bipush X0.here hx rfl (hb hby at_0) k) ?_
  show own_Fin _ _ _ _ _ _ _ _ (mkF m 2 #[.val (.int p1), .val (.int p2), .val (.int p3), .unset, .unset, .unset, .unset, .unset] [(.int (29 : Int32))])
  obtain ⟨T1, h1, k1, X1, e1, E1, A1, st1⟩ := newP X0 hx hZ (hw _ (List.mem_of_getElem? (i := 0) rfl)) e0 (g := (mkF m 2 #[.val (.int p1), .val (.int p2), .val (.int p3), .unset, .unset, .unset, .unset, .unset] [(.int (29 : Int32))])) rfl (hb hby at_2) rfl (by decide) (cap := 29) (by decide) (by decide) (by decide) (by decide)
  obtain ⟨b1, g1⟩ : ∃ z, z = h0.size := ⟨_, rfl⟩
  rw [← g1] at A1 st1
  refine own_step st1 ?_
  have g_b1 : n0 ≤ b1 := Nat.le_trans Zs (Nat.le_of_eq g1.symm)
  replace Zs := Nat.le_trans Zs E1.1
  have V_b1 := own_AI.newI (n := 29) A1 (by decide)
  show own_Fin _ _ _ _ _ _ _ _ (mkF m 4 #[.val (.int p1), .val (.int p2), .val (.int p3), .unset, .unset, .unset, .unset, .unset] [(.ref b1)])
  refine own_step (fun t k => XS.dup X1.here hx rfl (hb hby at_4) rfl rfl k) ?_
  show own_Fin _ _ _ _ _ _ _ _ (mkF m 5 #[.val (.int p1), .val (.int p2), .val (.int p3), .unset, .unset, .unset, .unset, .unset] [(.ref b1), (.ref b1)])
  refine own_step (fun t k => XS.iconst X1.here hx rfl (hb hby at_5) k) ?_
  show own_Fin _ _ _ _ _ _ _ _ (mkF m 6 #[.val (.int p1), .val (.int p2), .val (.int p3), .unset, .unset, .unset, .unset, .unset] [(.int (0 : Int32)), (.ref b1), (.ref b1)])
  refine own_step (fun t k => XS.iconst X1.here hx rfl (hb hby at_6) k) ?_
  show own_Fin _ _ _ _ _ _ _ _ (mkF m 7 #[.val (.int p1), .val (.int p2), .val (.int p3), .unset, .unset, .unset, .unset, .unset] [(.int (0 : Int32)), (.int (0 : Int32)), (.ref b1), (.ref b1)])
  obtain ⟨T2, h2, X2, e2, W2, B2, st2⟩ := own_iastore X1 hx hZ e1 V_b1 (j := (0 : Int32)) (k := 0) rfl (by decide) (x := (0 : Int32)) (pc := 7) (Ls := #[.val (.int p1), .val (.int p2), .val (.int p3), .unset, .unset, .unset, .unset, .unset]) (rest := [(.ref b1)]) (hb hby at_7) rfl
  refine own_step st2 ?_
  replace Zs : n0 ≤ h2.size := by rw [W2.size]; exact Zs
  replace V_b1 := B2
  replace Nf := Fr.snoc X2 Nf g_b1
  show own_Fin _ _ _ _ _ _ _ _ (mkF m 8 #[.val (.int p1), .val (.int p2), .val (.int p3), .unset, .unset, .unset, .unset, .unset] [(.ref b1)])
  refine own_step (fun t k => XS.dup X2.here hx rfl (hb hby at_8) rfl rfl k) ?_
  show own_Fin _ _ _ _ _ _ _ _ (mkF m 9 #[.val (.int p1), .val (.int p2), .val (.int p3), .unset, .unset, .unset, .unset, .unset] [(.ref b1), (.ref b1)])
  refine own_step (fun t k => XS.iconst X2.here hx rfl (hb hby at_9) k) ?_
  show own_Fin _ _ _ _ _ _ _ _ (mkF m 10 #[.val (.int p1), .val (.int p2), .val (.int p3), .unset, .unset, .unset, .unset, .unset] [(.int (1 : Int32)), (.ref b1), (.ref b1)])
  refine own_step (fun t k => XS.bipush X2.here hx rfl (hb hby at_10) k) ?_
  show own_Fin _ _ _ _ _ _ _ _ (mkF m 12 #[.val (.int p1), .val (.int p2), .val (.int p3), .unset, .unset, .unset, .unset, .unset] [(.int (65 : Int32)), (.int (1 : Int32)), (.ref b1), (.ref b1)])
  obtain ⟨T3, h3, X3, e3, W3, B3, st3⟩ := own_iastore X2 hx hZ e2 V_b1 (j := (1 : Int32)) (k := 1) rfl (by decide) (x := (65 : Int32)) (pc := 12) (Ls := #[.val (.int p1), .val (.int p2), .val (.int p3), .unset, .unset, .unset, .unset, .unset]) (rest := [(.ref b1)]) (hb hby at_12) rfl
  refine own_step st3 ?_
  replace Zs : n0 ≤ h3.size := by rw [W3.size]; exact Zs
  replace V_b1 := B3
  replace Nf := Fr.snoc X3 Nf g_b1
  show own_Fin _ _ _ _ _ _ _ _ (mkF m 13 #[.val (.int p1), .val (.int p2), .val (.int p3), .unset, .unset, .unset, .unset, .unset] [(.ref b1)])
  refine own_step (fun t k => XS.dup X3.here hx rfl (hb hby at_13) rfl rfl k) ?_
  show own_Fin _ _ _ _ _ _ _ _ (mkF m 14 #[.val (.int p1), .val (.int p2), .val (.int p3), .unset, .unset, .unset, .unset, .unset] [(.ref b1), (.ref b1)])
  refine own_step (fun t k => XS.iconst X3.here hx rfl (hb hby at_14) k) ?_
  show own_Fin _ _ _ _ _ _ _ _ (mkF m 15 #[.val (.int p1), .val (.int p2), .val (.int p3), .unset, .unset, .unset, .unset, .unset] [(.int (2 : Int32)), (.ref b1), (.ref b1)])
  refine own_step (fun t k => XS.bipush X3.here hx rfl (hb hby at_15) k) ?_
  show own_Fin _ _ _ _ _ _ _ _ (mkF m 17 #[.val (.int p1), .val (.int p2), .val (.int p3), .unset, .unset, .unset, .unset, .unset] [(.int (90 : Int32)), (.int (2 : Int32)), (.ref b1), (.ref b1)])
  obtain ⟨T4, h4, X4, e4, W4, B4, st4⟩ := own_iastore X3 hx hZ e3 V_b1 (j := (2 : Int32)) (k := 2) rfl (by decide) (x := (90 : Int32)) (pc := 17) (Ls := #[.val (.int p1), .val (.int p2), .val (.int p3), .unset, .unset, .unset, .unset, .unset]) (rest := [(.ref b1)]) (hb hby at_17) rfl
  refine own_step st4 ?_
  replace Zs : n0 ≤ h4.size := by rw [W4.size]; exact Zs
  replace V_b1 := B4
  replace Nf := Fr.snoc X4 Nf g_b1
  show own_Fin _ _ _ _ _ _ _ _ (mkF m 18 #[.val (.int p1), .val (.int p2), .val (.int p3), .unset, .unset, .unset, .unset, .unset] [(.ref b1)])
  refine own_step (fun t k => XS.dup X4.here hx rfl (hb hby at_18) rfl rfl k) ?_
  show own_Fin _ _ _ _ _ _ _ _ (mkF m 19 #[.val (.int p1), .val (.int p2), .val (.int p3), .unset, .unset, .unset, .unset, .unset] [(.ref b1), (.ref b1)])
  refine own_step (fun t k => XS.iconst X4.here hx rfl (hb hby at_19) k) ?_
  show own_Fin _ _ _ _ _ _ _ _ (mkF m 20 #[.val (.int p1), .val (.int p2), .val (.int p3), .unset, .unset, .unset, .unset, .unset] [(.int (3 : Int32)), (.ref b1), (.ref b1)])
  refine own_step (fun t k => XS.bipush X4.here hx rfl (hb hby at_20) k) ?_
  show own_Fin _ _ _ _ _ _ _ _ (mkF m 22 #[.val (.int p1), .val (.int p2), .val (.int p3), .unset, .unset, .unset, .unset, .unset] [(.int (97 : Int32)), (.int (3 : Int32)), (.ref b1), (.ref b1)])
  obtain ⟨T5, h5, X5, e5, W5, B5, st5⟩ := own_iastore X4 hx hZ e4 V_b1 (j := (3 : Int32)) (k := 3) rfl (by decide) (x := (97 : Int32)) (pc := 22) (Ls := #[.val (.int p1), .val (.int p2), .val (.int p3), .unset, .unset, .unset, .unset, .unset]) (rest := [(.ref b1)]) (hb hby at_22) rfl
  refine own_step st5 ?_
  replace Zs : n0 ≤ h5.size := by rw [W5.size]; exact Zs
  replace V_b1 := B5
  replace Nf := Fr.snoc X5 Nf g_b1
  show own_Fin _ _ _ _ _ _ _ _ (mkF m 23 #[.val (.int p1), .val (.int p2), .val (.int p3), .unset, .unset, .unset, .unset, .unset] [(.ref b1)])
  refine own_step (fun t k => XS.dup X5.here hx rfl (hb hby at_23) rfl rfl k) ?_
  show own_Fin _ _ _ _ _ _ _ _ (mkF m 24 #[.val (.int p1), .val (.int p2), .val (.int p3), .unset, .unset, .unset, .unset, .unset] [(.ref b1), (.ref b1)])
  refine own_step (fun t k => XS.iconst X5.here hx rfl (hb hby at_24) k) ?_
  show own_Fin _ _ _ _ _ _ _ _ (mkF m 25 #[.val (.int p1), .val (.int p2), .val (.int p3), .unset, .unset, .unset, .unset, .unset] [(.int (4 : Int32)), (.ref b1), (.ref b1)])
  refine own_step (fun t k => XS.bipush X5.here hx rfl (hb hby at_25) k) ?_
  show own_Fin _ _ _ _ _ _ _ _ (mkF m 27 #[.val (.int p1), .val (.int p2), .val (.int p3), .unset, .unset, .unset, .unset, .unset] [(.int (122 : Int32)), (.int (4 : Int32)), (.ref b1), (.ref b1)])
  obtain ⟨T6, h6, X6, e6, W6, B6, st6⟩ := own_iastore X5 hx hZ e5 V_b1 (j := (4 : Int32)) (k := 4) rfl (by decide) (x := (122 : Int32)) (pc := 27) (Ls := #[.val (.int p1), .val (.int p2), .val (.int p3), .unset, .unset, .unset, .unset, .unset]) (rest := [(.ref b1)]) (hb hby at_27) rfl
  refine own_step st6 ?_
  replace Zs : n0 ≤ h6.size := by rw [W6.size]; exact Zs
  replace V_b1 := B6
  replace Nf := Fr.snoc X6 Nf g_b1
  show own_Fin _ _ _ _ _ _ _ _ (mkF m 28 #[.val (.int p1), .val (.int p2), .val (.int p3), .unset, .unset, .unset, .unset, .unset] [(.ref b1)])
  refine own_step (fun t k => XS.dup X6.here hx rfl (hb hby at_28) rfl rfl k) ?_
  show own_Fin _ _ _ _ _ _ _ _ (mkF m 29 #[.val (.int p1), .val (.int p2), .val (.int p3), .unset, .unset, .unset, .unset, .unset] [(.ref b1), (.ref b1)])
  refine own_step (fun t k => XS.iconst X6.here hx rfl (hb hby at_29) k) ?_
  show own_Fin _ _ _ _ _ _ _ _ (mkF m 30 #[.val (.int p1), .val (.int p2), .val (.int p3), .unset, .unset, .unset, .unset, .unset] [(.int (5 : Int32)), (.ref b1), (.ref b1)])
  refine own_step (fun t k => XS.sipush X6.here hx rfl (hb hby at_30) k) ?_
  show own_Fin _ _ _ _ _ _ _ _ (mkF m 33 #[.val (.int p1), .val (.int p2), .val (.int p3), .unset, .unset, .unset, .unset, .unset] [(.int (192 : Int32)), (.int (5 : Int32)), (.ref b1), (.ref b1)])
  obtain ⟨T7, h7, X7, e7, W7, B7, st7⟩ := own_iastore X6 hx hZ e6 V_b1 (j := (5 : Int32)) (k := 5) rfl (by decide) (x := (192 : Int32)) (pc := 33) (Ls := #[.val (.int p1), .val (.int p2), .val (.int p3), .unset, .unset, .unset, .unset, .unset]) (rest := [(.ref b1)]) (hb hby at_33) rfl
  refine own_step st7 ?_
  replace Zs : n0 ≤ h7.size := by rw [W7.size]; exact Zs
  replace V_b1 := B7
  replace Nf := Fr.snoc X7 Nf g_b1
  show own_Fin _ _ _ _ _ _ _ _ (mkF m 34 #[.val (.int p1), .val (.int p2), .val (.int p3), .unset, .unset, .unset, .unset, .unset] [(.ref b1)])
  refine own_step (fun t k => XS.dup X7.here hx rfl (hb hby at_34) rfl rfl k) ?_
  show own_Fin _ _ _ _ _ _ _ _ (mkF m 35 #[.val (.int p1), .val (.int p2), .val (.int p3), .unset, .unset, .unset, .unset, .unset] [(.ref b1), (.ref b1)])
  refine own_step (fun t k => XS.bipush X7.here hx rfl (hb hby at_35) k) ?_
  show own_Fin _ _ _ _ _ _ _ _ (mkF m 37 #[.val (.int p1), .val (.int p2), .val (.int p3), .unset, .unset, .unset, .unset, .unset] [(.int (6 : Int32)), (.ref b1), (.ref b1)])
  refine own_step (fun t k => XS.sipush X7.here hx rfl (hb hby at_37) k) ?_
  show own_Fin _ _ _ _ _ _ _ _ (mkF m 40 #[.val (.int p1), .val (.int p2), .val (.int p3), .unset, .unset, .unset, .unset, .unset] [(.int (214 : Int32)), (.int (6 : Int32)), (.ref b1), (.ref b1)])
  obtain ⟨T8, h8, X8, e8, W8, B8, st8⟩ := own_iastore X7 hx hZ e7 V_b1 (j := (6 : Int32)) (k := 6) rfl (by decide) (x := (214 : Int32)) (pc := 40) (Ls := #[.val (.int p1), .val (.int p2), .val (.int p3), .unset, .unset, .unset, .unset, .unset]) (rest := [(.ref b1)]) (hb hby at_40) rfl
  refine own_step st8 ?_
  replace Zs : n0 ≤ h8.size := by rw [W8.size]; exact Zs
  replace V_b1 := B8
  replace Nf := Fr.snoc X8 Nf g_b1
  show own_Fin _ _ _ _ _ _ _ _ (mkF m 41 #[.val (.int p1), .val (.int p2), .val (.int p3), .unset, .unset, .unset, .unset, .unset] [(.ref b1)])
  refine own_step (fun t k => XS.dup X8.here hx rfl (hb hby at_41) rfl rfl k) ?_
  show own_Fin _ _ _ _ _ _ _ _ (mkF m 42 #[.val (.int p1), .val (.int p2), .val (.int p3), .unset, .unset, .unset, .unset, .unset] [(.ref b1), (.ref b1)])
  refine own_step (fun t k => XS.bipush X8.here hx rfl (hb hby at_42) k) ?_
  show own_Fin _ _ _ _ _ _ _ _ (mkF m 44 #[.val (.int p1), .val (.int p2), .val (.int p3), .unset, .unset, .unset, .unset, .unset] [(.int (7 : Int32)), (.ref b1), (.ref b1)])
  refine own_step (fun t k => XS.sipush X8.here hx rfl (hb hby at_44) k) ?_
  show own_Fin _ _ _ _ _ _ _ _ (mkF m 47 #[.val (.int p1), .val (.int p2), .val (.int p3), .unset, .unset, .unset, .unset, .unset] [(.int (216 : Int32)), (.int (7 : Int32)), (.ref b1), (.ref b1)])
  obtain ⟨T9, h9, X9, e9, W9, B9, st9⟩ := own_iastore X8 hx hZ e8 V_b1 (j := (7 : Int32)) (k := 7) rfl (by decide) (x := (216 : Int32)) (pc := 47) (Ls := #[.val (.int p1), .val (.int p2), .val (.int p3), .unset, .unset, .unset, .unset, .unset]) (rest := [(.ref b1)]) (hb hby at_47) rfl
  refine own_step st9 ?_
  replace Zs : n0 ≤ h9.size := by rw [W9.size]; exact Zs
  replace V_b1 := B9
  replace Nf := Fr.snoc X9 Nf g_b1
  show own_Fin _ _ _ _ _ _ _ _ (mkF m 48 #[.val (.int p1), .val (.int p2), .val (.int p3), .unset, .unset, .unset, .unset, .unset] [(.ref b1)])
  refine own_step (fun t k => XS.dup X9.here hx rfl (hb hby at_48) rfl rfl k) ?_
  show own_Fin _ _ _ _ _ _ _ _ (mkF m 49 #[.val (.int p1), .val (.int p2), .val (.int p3), .unset, .unset, .unset, .unset, .unset] [(.ref b1), (.ref b1)])
  refine own_step (fun t k => XS.bipush X9.here hx rfl (hb hby at_49) k) ?_
  show own_Fin _ _ _ _ _ _ _ _ (mkF m 51 #[.val (.int p1), .val (.int p2), .val (.int p3), .unset, .unset, .unset, .unset, .unset] [(.int (8 : Int32)), (.ref b1), (.ref b1)])
  refine own_step (fun t k => XS.sipush X9.here hx rfl (hb hby at_51) k) ?_
  show own_Fin _ _ _ _ _ _ _ _ (mkF m 54 #[.val (.int p1), .val (.int p2), .val (.int p3), .unset, .unset, .unset, .unset, .unset] [(.int (246 : Int32)), (.int (8 : Int32)), (.ref b1), (.ref b1)])
  obtain ⟨T10, h10, X10, e10, W10, B10, st10⟩ := own_iastore X9 hx hZ e9 V_b1 (j := (8 : Int32)) (k := 8) rfl (by decide) (x := (246 : Int32)) (pc := 54) (Ls := #[.val (.int p1), .val (.int p2), .val (.int p3), .unset, .unset, .unset, .unset, .unset]) (rest := [(.ref b1)]) (hb hby at_54) rfl
  refine own_step st10 ?_
  replace Zs : n0 ≤ h10.size := by rw [W10.size]; exact Zs
  replace V_b1 := B10
  replace Nf := Fr.snoc X10 Nf g_b1
  show own_Fin _ _ _ _ _ _ _ _ (mkF m 55 #[.val (.int p1), .val (.int p2), .val (.int p3), .unset, .unset, .unset, .unset, .unset] [(.ref b1)])
  refine own_step (fun t k => XS.dup X10.here hx rfl (hb hby at_55) rfl rfl k) ?_
  show own_Fin _ _ _ _ _ _ _ _ (mkF m 56 #[.val (.int p1), .val (.int p2), .val (.int p3), .unset, .unset, .unset, .unset, .unset] [(.ref b1), (.ref b1)])
  refine own_step (fun t k => XS.bipush X10.here hx rfl (hb hby at_56) k) ?_
  show own_Fin _ _ _ _ _ _ _ _ (mkF m 58 #[.val (.int p1), .val (.int p2), .val (.int p3), .unset, .unset, .unset, .unset, .unset] [(.int (9 : Int32)), (.ref b1), (.ref b1)])
  refine own_step (fun t k => XS.sipush X10.here hx rfl (hb hby at_58) k) ?_
  show own_Fin _ _ _ _ _ _ _ _ (mkF m 61 #[.val (.int p1), .val (.int p2), .val (.int p3), .unset, .unset, .unset, .unset, .unset] [(.int (248 : Int32)), (.int (9 : Int32)), (.ref b1), (.ref b1)])
  obtain ⟨T11, h11, X11, e11, W11, B11, st11⟩ := own_iastore X10 hx hZ e10 V_b1 (j := (9 : Int32)) (k := 9) rfl (by decide) (x := (248 : Int32)) (pc := 61) (Ls := #[.val (.int p1), .val (.int p2), .val (.int p3), .unset, .unset, .unset, .unset, .unset]) (rest := [(.ref b1)]) (hb hby at_61) rfl
  refine own_step st11 ?_
  replace Zs : n0 ≤ h11.size := by rw [W11.size]; exact Zs
  replace V_b1 := B11
  replace Nf := Fr.snoc X11 Nf g_b1
  show own_Fin _ _ _ _ _ _ _ _ (mkF m 62 #[.val (.int p1), .val (.int p2), .val (.int p3), .unset, .unset, .unset, .unset, .unset] [(.ref b1)])
  refine own_step (fun t k => XS.dup X11.here hx rfl (hb hby at_62) rfl rfl k) ?_
  show own_Fin _ _ _ _ _ _ _ _ (mkF m 63 #[.val (.int p1), .val (.int p2), .val (.int p3), .unset, .unset, .unset, .unset, .unset] [(.ref b1), (.ref b1)])
  refine own_step (fun t k => XS.bipush X11.here hx rfl (hb hby at_63) k) ?_
  show own_Fin _ _ _ _ _ _ _ _ (mkF m 65 #[.val (.int p1), .val (.int p2), .val (.int p3), .unset, .unset, .unset, .unset, .unset] [(.int (10 : Int32)), (.ref b1), (.ref b1)])
  refine own_step (fun t k => XS.sipush X11.here hx rfl (hb hby at_65) k) ?_
  show own_Fin _ _ _ _ _ _ _ _ (mkF m 68 #[.val (.int p1), .val (.int p2), .val (.int p3), .unset, .unset, .unset, .unset, .unset] [(.int (767 : Int32)), (.int (10 : Int32)), (.ref b1), (.ref b1)])
  obtain ⟨T12, h12, X12, e12, W12, B12, st12⟩ := own_iastore X11 hx hZ e11 V_b1 (j := (10 : Int32)) (k := 10) rfl (by decide) (x := (767 : Int32)) (pc := 68) (Ls := #[.val (.int p1), .val (.int p2), .val (.int p3), .unset, .unset, .unset, .unset, .unset]) (rest := [(.ref b1)]) (hb hby at_68) rfl
  refine own_step st12 ?_
  replace Zs : n0 ≤ h12.size := by rw [W12.size]; exact Zs
  replace V_b1 := B12
  replace Nf := Fr.snoc X12 Nf g_b1
  show own_Fin _ _ _ _ _ _ _ _ (mkF m 69 #[.val (.int p1), .val (.int p2), .val (.int p3), .unset, .unset, .unset, .unset, .unset] [(.ref b1)])
  refine own_step (fun t k => XS.dup X12.here hx rfl (hb hby at_69) rfl rfl k) ?_
  show own_Fin _ _ _ _ _ _ _ _ (mkF m 70 #[.val (.int p1), .val (.int p2), .val (.int p3), .unset, .unset, .unset, .unset, .unset] [(.ref b1), (.ref b1)])
  refine own_step (fun t k => XS.bipush X12.here hx rfl (hb hby at_70) k) ?_
  show own_Fin _ _ _ _ _ _ _ _ (mkF m 72 #[.val (.int p1), .val (.int p2), .val (.int p3), .unset, .unset, .unset, .unset, .unset] [(.int (11 : Int32)), (.ref b1), (.ref b1)])
  refine own_step (fun t k => XS.sipush X12.here hx rfl (hb hby at_72) k) ?_
  show own_Fin _ _ _ _ _ _ _ _ (mkF m 75 #[.val (.int p1), .val (.int p2), .val (.int p3), .unset, .unset, .unset, .unset, .unset] [(.int (880 : Int32)), (.int (11 : Int32)), (.ref b1), (.ref b1)])
  obtain ⟨T13, h13, X13, e13, W13, B13, st13⟩ := own_iastore X12 hx hZ e12 V_b1 (j := (11 : Int32)) (k := 11) rfl (by decide) (x := (880 : Int32)) (pc := 75) (Ls := #[.val (.int p1), .val (.int p2), .val (.int p3), .unset, .unset, .unset, .unset, .unset]) (rest := [(.ref b1)]) (hb hby at_75) rfl
  refine own_step st13 ?_
  replace Zs : n0 ≤ h13.size := by rw [W13.size]; exact Zs
  replace V_b1 := B13
  replace Nf := Fr.snoc X13 Nf g_b1
  show own_Fin _ _ _ _ _ _ _ _ (mkF m 76 #[.val (.int p1), .val (.int p2), .val (.int p3), .unset, .unset, .unset, .unset, .unset] [(.ref b1)])
  refine own_step (fun t k => XS.dup X13.here hx rfl (hb hby at_76) rfl rfl k) ?_
  show own_Fin _ _ _ _ _ _ _ _ (mkF m 77 #[.val (.int p1), .val (.int p2), .val (.int p3), .unset, .unset, .unset, .unset, .unset] [(.ref b1), (.ref b1)])
  refine own_step (fun t k => XS.bipush X13.here hx rfl (hb hby at_77) k) ?_
  show own_Fin _ _ _ _ _ _ _ _ (mkF m 79 #[.val (.int p1), .val (.int p2), .val (.int p3), .unset, .unset, .unset, .unset, .unset] [(.int (12 : Int32)), (.ref b1), (.ref b1)])
  refine own_step (fun t k => XS.sipush X13.here hx rfl (hb hby at_79) k) ?_
  show own_Fin _ _ _ _ _ _ _ _ (mkF m 82 #[.val (.int p1), .val (.int p2), .val (.int p3), .unset, .unset, .unset, .unset, .unset] [(.int (893 : Int32)), (.int (12 : Int32)), (.ref b1), (.ref b1)])
  obtain ⟨T14, h14, X14, e14, W14, B14, st14⟩ := own_iastore X13 hx hZ e13 V_b1 (j := (12 : Int32)) (k := 12) rfl (by decide) (x := (893 : Int32)) (pc := 82) (Ls := #[.val (.int p1), .val (.int p2), .val (.int p3), .unset, .unset, .unset, .unset, .unset]) (rest := [(.ref b1)]) (hb hby at_82) rfl
  refine own_step st14 ?_
  replace Zs : n0 ≤ h14.size := by rw [W14.size]; exact Zs
  replace V_b1 := B14
  replace Nf := Fr.snoc X14 Nf g_b1
  show own_Fin _ _ _ _ _ _ _ _ (mkF m 83 #[.val (.int p1), .val (.int p2), .val (.int p3), .unset, .unset, .unset, .unset, .unset] [(.ref b1)])
  refine own_step (fun t k => XS.dup X14.here hx rfl (hb hby at_83) rfl rfl k) ?_
  show own_Fin _ _ _ _ _ _ _ _ (mkF m 84 #[.val (.int p1), .val (.int p2), .val (.int p3), .unset, .unset, .unset, .unset, .unset] [(.ref b1), (.ref b1)])
  refine own_step (fun t k => XS.bipush X14.here hx rfl (hb hby at_84) k) ?_
  show own_Fin _ _ _ _ _ _ _ _ (mkF m 86 #[.val (.int p1), .val (.int p2), .val (.int p3), .unset, .unset, .unset, .unset, .unset] [(.int (13 : Int32)), (.ref b1), (.ref b1)])
  refine own_step (fun t k => XS.sipush X14.here hx rfl (hb hby at_86) k) ?_
  show own_Fin _ _ _ _ _ _ _ _ (mkF m 89 #[.val (.int p1), .val (.int p2), .val (.int p3), .unset, .unset, .unset, .unset, .unset] [(.int (895 : Int32)), (.int (13 : Int32)), (.ref b1), (.ref b1)])
  obtain ⟨T15, h15, X15, e15, W15, B15, st15⟩ := own_iastore X14 hx hZ e14 V_b1 (j := (13 : Int32)) (k := 13) rfl (by decide) (x := (895 : Int32)) (pc := 89) (Ls := #[.val (.int p1), .val (.int p2), .val (.int p3), .unset, .unset, .unset, .unset, .unset]) (rest := [(.ref b1)]) (hb hby at_89) rfl
  refine own_step st15 ?_
  replace Zs : n0 ≤ h15.size := by rw [W15.size]; exact Zs
  replace V_b1 := B15
  replace Nf := Fr.snoc X15 Nf g_b1
  show own_Fin _ _ _ _ _ _ _ _ (mkF m 90 #[.val (.int p1), .val (.int p2), .val (.int p3), .unset, .unset, .unset, .unset, .unset] [(.ref b1)])
  refine own_step (fun t k => XS.dup X15.here hx rfl (hb hby at_90) rfl rfl k) ?_
  show own_Fin _ _ _ _ _ _ _ _ (mkF m 91 #[.val (.int p1), .val (.int p2), .val (.int p3), .unset, .unset, .unset, .unset, .unset] [(.ref b1), (.ref b1)])
  refine own_step (fun t k => XS.bipush X15.here hx rfl (hb hby at_91) k) ?_
  show own_Fin _ _ _ _ _ _ _ _ (mkF m 93 #[.val (.int p1), .val (.int p2), .val (.int p3), .unset, .unset, .unset, .unset, .unset] [(.int (14 : Int32)), (.ref b1), (.ref b1)])
  refine own_step (fun t k => XS.sipush X15.here hx rfl (hb hby at_93) k) ?_
  show own_Fin _ _ _ _ _ _ _ _ (mkF m 96 #[.val (.int p1), .val (.int p2), .val (.int p3), .unset, .unset, .unset, .unset, .unset] [(.int (8191 : Int32)), (.int (14 : Int32)), (.ref b1), (.ref b1)])
  obtain ⟨T16, h16, X16, e16, W16, B16, st16⟩ := own_iastore X15 hx hZ e15 V_b1 (j := (14 : Int32)) (k := 14) rfl (by decide) (x := (8191 : Int32)) (pc := 96) (Ls := #[.val (.int p1), .val (.int p2), .val (.int p3), .unset, .unset, .unset, .unset, .unset]) (rest := [(.ref b1)]) (hb hby at_96) rfl
  refine own_step st16 ?_
  replace Zs : n0 ≤ h16.size := by rw [W16.size]; exact Zs
  replace V_b1 := B16
  replace Nf := Fr.snoc X16 Nf g_b1
  show own_Fin _ _ _ _ _ _ _ _ (mkF m 97 #[.val (.int p1), .val (.int p2), .val (.int p3), .unset, .unset, .unset, .unset, .unset] [(.ref b1)])
  refine own_step (fun t k => XS.dup X16.here hx rfl (hb hby at_97) rfl rfl k) ?_
  show own_Fin _ _ _ _ _ _ _ _ (mkF m 98 #[.val (.int p1), .val (.int p2), .val (.int p3), .unset, .unset, .unset, .unset, .unset] [(.ref b1), (.ref b1)])
  refine own_step (fun t k => XS.bipush X16.here hx rfl (hb hby at_98) k) ?_
  show own_Fin _ _ _ _ _ _ _ _ (mkF m 100 #[.val (.int p1), .val (.int p2), .val (.int p3), .unset, .unset, .unset, .unset, .unset] [(.int (15 : Int32)), (.ref b1), (.ref b1)])
  refine own_step (fun t k => XS.sipush X16.here hx rfl (hb hby at_100) k) ?_
  show own_Fin _ _ _ _ _ _ _ _ (mkF m 103 #[.val (.int p1), .val (.int p2), .val (.int p3), .unset, .unset, .unset, .unset, .unset] [(.int (8204 : Int32)), (.int (15 : Int32)), (.ref b1), (.ref b1)])
  obtain ⟨T17, h17, X17, e17, W17, B17, st17⟩ := own_iastore X16 hx hZ e16 V_b1 (j := (15 : Int32)) (k := 15) rfl (by decide) (x := (8204 : Int32)) (pc := 103) (Ls := #[.val (.int p1), .val (.int p2), .val (.int p3), .unset, .unset, .unset, .unset, .unset]) (rest := [(.ref b1)]) (hb hby at_103) rfl
  refine own_step st17 ?_
  replace Zs : n0 ≤ h17.size := by rw [W17.size]; exact Zs
  replace V_b1 := B17
  replace Nf := Fr.snoc X17 Nf g_b1
  show own_Fin _ _ _ _ _ _ _ _ (mkF m 104 #[.val (.int p1), .val (.int p2), .val (.int p3), .unset, .unset, .unset, .unset, .unset] [(.ref b1)])
  refine own_step (fun t k => XS.dup X17.here hx rfl (hb hby at_104) rfl rfl k) ?_
  show own_Fin _ _ _ _ _ _ _ _ (mkF m 105 #[.val (.int p1), .val (.int p2), .val (.int p3), .unset, .unset, .unset, .unset, .unset] [(.ref b1), (.ref b1)])
  refine own_step (fun t k => XS.bipush X17.here hx rfl (hb hby at_105) k) ?_
  show own_Fin _ _ _ _ _ _ _ _ (mkF m 107 #[.val (.int p1), .val (.int p2), .val (.int p3), .unset, .unset, .unset, .unset, .unset] [(.int (16 : Int32)), (.ref b1), (.ref b1)])
  refine own_step (fun t k => XS.sipush X17.here hx rfl (hb hby at_107) k) ?_
  show own_Fin _ _ _ _ _ _ _ _ (mkF m 110 #[.val (.int p1), .val (.int p2), .val (.int p3), .unset, .unset, .unset, .unset, .unset] [(.int (8205 : Int32)), (.int (16 : Int32)), (.ref b1), (.ref b1)])
  obtain ⟨T18, h18, X18, e18, W18, B18, st18⟩ := own_iastore X17 hx hZ e17 V_b1 (j := (16 : Int32)) (k := 16) rfl (by decide) (x := (8205 : Int32)) (pc := 110) (Ls := #[.val (.int p1), .val (.int p2), .val (.int p3), .unset, .unset, .unset, .unset, .unset]) (rest := [(.ref b1)]) (hb hby at_110) rfl
  refine own_step st18 ?_
  replace Zs : n0 ≤ h18.size := by rw [W18.size]; exact Zs
  replace V_b1 := B18
  replace Nf := Fr.snoc X18 Nf g_b1
  show own_Fin _ _ _ _ _ _ _ _ (mkF m 111 #[.val (.int p1), .val (.int p2), .val (.int p3), .unset, .unset, .unset, .unset, .unset] [(.ref b1)])
  refine own_step (fun t k => XS.dup X18.here hx rfl (hb hby at_111) rfl rfl k) ?_
  show own_Fin _ _ _ _ _ _ _ _ (mkF m 112 #[.val (.int p1), .val (.int p2), .val (.int p3), .unset, .unset, .unset, .unset, .unset] [(.ref b1), (.ref b1)])
  refine own_step (fun t k => XS.bipush X18.here hx rfl (hb hby at_112) k) ?_
  show own_Fin _ _ _ _ _ _ _ _ (mkF m 114 #[.val (.int p1), .val (.int p2), .val (.int p3), .unset, .unset, .unset, .unset, .unset] [(.int (17 : Int32)), (.ref b1), (.ref b1)])
  refine own_step (fun t k => XS.sipush X18.here hx rfl (hb hby at_114) k) ?_
  show own_Fin _ _ _ _ _ _ _ _ (mkF m 117 #[.val (.int p1), .val (.int p2), .val (.int p3), .unset, .unset, .unset, .unset, .unset] [(.int (8304 : Int32)), (.int (17 : Int32)), (.ref b1), (.ref b1)])
  obtain ⟨T19, h19, X19, e19, W19, B19, st19⟩ := own_iastore X18 hx hZ e18 V_b1 (j := (17 : Int32)) (k := 17) rfl (by decide) (x := (8304 : Int32)) (pc := 117) (Ls := #[.val (.int p1), .val (.int p2), .val (.int p3), .unset, .unset, .unset, .unset, .unset]) (rest := [(.ref b1)]) (hb hby at_117) rfl
  refine own_step st19 ?_
  replace Zs : n0 ≤ h19.size := by rw [W19.size]; exact Zs
  replace V_b1 := B19
  replace Nf := Fr.snoc X19 Nf g_b1
  show own_Fin _ _ _ _ _ _ _ _ (mkF m 118 #[.val (.int p1), .val (.int p2), .val (.int p3), .unset, .unset, .unset, .unset, .unset] [(.ref b1)])
  refine own_step (fun t k => XS.dup X19.here hx rfl (hb hby at_118) rfl rfl k) ?_
  show own_Fin _ _ _ _ _ _ _ _ (mkF m 119 #[.val (.int p1), .val (.int p2), .val (.int p3), .unset, .unset, .unset, .unset, .unset] [(.ref b1), (.ref b1)])
  refine own_step (fun t k => XS.bipush X19.here hx rfl (hb hby at_119) k) ?_
  show own_Fin _ _ _ _ _ _ _ _ (mkF m 121 #[.val (.int p1), .val (.int p2), .val (.int p3), .unset, .unset, .unset, .unset, .unset] [(.int (18 : Int32)), (.ref b1), (.ref b1)])
  refine own_step (fun t k => XS.sipush X19.here hx rfl (hb hby at_121) k) ?_
  show own_Fin _ _ _ _ _ _ _ _ (mkF m 124 #[.val (.int p1), .val (.int p2), .val (.int p3), .unset, .unset, .unset, .unset, .unset] [(.int (8591 : Int32)), (.int (18 : Int32)), (.ref b1), (.ref b1)])
  obtain ⟨T20, h20, X20, e20, W20, B20, st20⟩ := own_iastore X19 hx hZ e19 V_b1 (j := (18 : Int32)) (k := 18) rfl (by decide) (x := (8591 : Int32)) (pc := 124) (Ls := #[.val (.int p1), .val (.int p2), .val (.int p3), .unset, .unset, .unset, .unset, .unset]) (rest := [(.ref b1)]) (hb hby at_124) rfl
  refine own_step st20 ?_
  replace Zs : n0 ≤ h20.size := by rw [W20.size]; exact Zs
  replace V_b1 := B20
  replace Nf := Fr.snoc X20 Nf g_b1
  show own_Fin _ _ _ _ _ _ _ _ (mkF m 125 #[.val (.int p1), .val (.int p2), .val (.int p3), .unset, .unset, .unset, .unset, .unset] [(.ref b1)])
  refine own_step (fun t k => XS.dup X20.here hx rfl (hb hby at_125) rfl rfl k) ?_
  show own_Fin _ _ _ _ _ _ _ _ (mkF m 126 #[.val (.int p1), .val (.int p2), .val (.int p3), .unset, .unset, .unset, .unset, .unset] [(.ref b1), (.ref b1)])
  refine own_step (fun t k => XS.bipush X20.here hx rfl (hb hby at_126) k) ?_
  show own_Fin _ _ _ _ _ _ _ _ (mkF m 128 #[.val (.int p1), .val (.int p2), .val (.int p3), .unset, .unset, .unset, .unset, .unset] [(.int (19 : Int32)), (.ref b1), (.ref b1)])
  refine own_step (fun t k => XS.sipush X20.here hx rfl (hb hby at_128) k) ?_
  show own_Fin _ _ _ _ _ _ _ _ (mkF m 131 #[.val (.int p1), .val (.int p2), .val (.int p3), .unset, .unset, .unset, .unset, .unset] [(.int (11264 : Int32)), (.int (19 : Int32)), (.ref b1), (.ref b1)])
  obtain ⟨T21, h21, X21, e21, W21, B21, st21⟩ := own_iastore X20 hx hZ e20 V_b1 (j := (19 : Int32)) (k := 19) rfl (by decide) (x := (11264 : Int32)) (pc := 131) (Ls := #[.val (.int p1), .val (.int p2), .val (.int p3), .unset, .unset, .unset, .unset, .unset]) (rest := [(.ref b1)]) (hb hby at_131) rfl
  refine own_step st21 ?_
  replace Zs : n0 ≤ h21.size := by rw [W21.size]; exact Zs
  replace V_b1 := B21
  replace Nf := Fr.snoc X21 Nf g_b1
  show own_Fin _ _ _ _ _ _ _ _ (mkF m 132 #[.val (.int p1), .val (.int p2), .val (.int p3), .unset, .unset, .unset, .unset, .unset] [(.ref b1)])
  refine own_step (fun t k => XS.dup X21.here hx rfl (hb hby at_132) rfl rfl k) ?_
  show own_Fin _ _ _ _ _ _ _ _ (mkF m 133 #[.val (.int p1), .val (.int p2), .val (.int p3), .unset, .unset, .unset, .unset, .unset] [(.ref b1), (.ref b1)])
  refine own_step (fun t k => XS.bipush X21.here hx rfl (hb hby at_133) k) ?_
  show own_Fin _ _ _ _ _ _ _ _ (mkF m 135 #[.val (.int p1), .val (.int p2), .val (.int p3), .unset, .unset, .unset, .unset, .unset] [(.int (20 : Int32)), (.ref b1), (.ref b1)])
  refine own_step (fun t k => XS.sipush X21.here hx rfl (hb hby at_135) k) ?_
  show own_Fin _ _ _ _ _ _ _ _ (mkF m 138 #[.val (.int p1), .val (.int p2), .val (.int p3), .unset, .unset, .unset, .unset, .unset] [(.int (12271 : Int32)), (.int (20 : Int32)), (.ref b1), (.ref b1)])
  obtain ⟨T22, h22, X22, e22, W22, B22, st22⟩ := own_iastore X21 hx hZ e21 V_b1 (j := (20 : Int32)) (k := 20) rfl (by decide) (x := (12271 : Int32)) (pc := 138) (Ls := #[.val (.int p1), .val (.int p2), .val (.int p3), .unset, .unset, .unset, .unset, .unset]) (rest := [(.ref b1)]) (hb hby at_138) rfl
  refine own_step st22 ?_
  replace Zs : n0 ≤ h22.size := by rw [W22.size]; exact Zs
  replace V_b1 := B22
  replace Nf := Fr.snoc X22 Nf g_b1
  show own_Fin _ _ _ _ _ _ _ _ (mkF m 139 #[.val (.int p1), .val (.int p2), .val (.int p3), .unset, .unset, .unset, .unset, .unset] [(.ref b1)])
  refine own_step (fun t k => XS.dup X22.here hx rfl (hb hby at_139) rfl rfl k) ?_
  show own_Fin _ _ _ _ _ _ _ _ (mkF m 140 #[.val (.int p1), .val (.int p2), .val (.int p3), .unset, .unset, .unset, .unset, .unset] [(.ref b1), (.ref b1)])
  refine own_step (fun t k => XS.bipush X22.here hx rfl (hb hby at_140) k) ?_
  show own_Fin _ _ _ _ _ _ _ _ (mkF m 142 #[.val (.int p1), .val (.int p2), .val (.int p3), .unset, .unset, .unset, .unset, .unset] [(.int (21 : Int32)), (.ref b1), (.ref b1)])
  refine own_step (fun t k => XS.sipush X22.here hx rfl (hb hby at_142) k) ?_
  show own_Fin _ _ _ _ _ _ _ _ (mkF m 145 #[.val (.int p1), .val (.int p2), .val (.int p3), .unset, .unset, .unset, .unset, .unset] [(.int (12289 : Int32)), (.int (21 : Int32)), (.ref b1), (.ref b1)])
  obtain ⟨T23, h23, X23, e23, W23, B23, st23⟩ := own_iastore X22 hx hZ e22 V_b1 (j := (21 : Int32)) (k := 21) rfl (by decide) (x := (12289 : Int32)) (pc := 145) (Ls := #[.val (.int p1), .val (.int p2), .val (.int p3), .unset, .unset, .unset, .unset, .unset]) (rest := [(.ref b1)]) (hb hby at_145) rfl
  refine own_step st23 ?_
  replace Zs : n0 ≤ h23.size := by rw [W23.size]; exact Zs
  replace V_b1 := B23
  replace Nf := Fr.snoc X23 Nf g_b1
  show own_Fin _ _ _ _ _ _ _ _ (mkF m 146 #[.val (.int p1), .val (.int p2), .val (.int p3), .unset, .unset, .unset, .unset, .unset] [(.ref b1)])
  refine own_step (fun t k => XS.dup X23.here hx rfl (hb hby at_146) rfl rfl k) ?_
  show own_Fin _ _ _ _ _ _ _ _ (mkF m 147 #[.val (.int p1), .val (.int p2), .val (.int p3), .unset, .unset, .unset, .unset, .unset] [(.ref b1), (.ref b1)])
  refine own_step (fun t k => XS.bipush X23.here hx rfl (hb hby at_147) k) ?_
  show own_Fin _ _ _ _ _ _ _ _ (mkF m 149 #[.val (.int p1), .val (.int p2), .val (.int p3), .unset, .unset, .unset, .unset, .unset] [(.int (22 : Int32)), (.ref b1), (.ref b1)])
  refine own_step (fun t k => X23.ldcInt hx hown (mvT hZ (hw _ (List.mem_of_getElem? (i := 1) rfl))) (g := (mkF m 149 #[.val (.int p1), .val (.int p2), .val (.int p3), .unset, .unset, .unset, .unset, .unset] [(.int (22 : Int32)), (.ref b1), (.ref b1)])) rfl (hb hby at_149) _ k) ?_
  show own_Fin _ _ _ _ _ _ _ _ (mkF m 151 #[.val (.int p1), .val (.int p2), .val (.int p3), .unset, .unset, .unset, .unset, .unset] [(.int (55295 : Int32)), (.int (22 : Int32)), (.ref b1), (.ref b1)])
  obtain ⟨T24, h24, X24, e24, W24, B24, st24⟩ := own_iastore X23 hx hZ e23 V_b1 (j := (22 : Int32)) (k := 22) rfl (by decide) (x := (55295 : Int32)) (pc := 151) (Ls := #[.val (.int p1), .val (.int p2), .val (.int p3), .unset, .unset, .unset, .unset, .unset]) (rest := [(.ref b1)]) (hb hby at_151) rfl
  refine own_step st24 ?_
  replace Zs : n0 ≤ h24.size := by rw [W24.size]; exact Zs
  replace V_b1 := B24
  replace Nf := Fr.snoc X24 Nf g_b1
  show own_Fin _ _ _ _ _ _ _ _ (mkF m 152 #[.val (.int p1), .val (.int p2), .val (.int p3), .unset, .unset, .unset, .unset, .unset] [(.ref b1)])
  refine own_step (fun t k => XS.dup X24.here hx rfl (hb hby at_152) rfl rfl k) ?_
  show own_Fin _ _ _ _ _ _ _ _ (mkF m 153 #[.val (.int p1), .val (.int p2), .val (.int p3), .unset, .unset, .unset, .unset, .unset] [(.ref b1), (.ref b1)])
  refine own_step (fun t k => XS.bipush X24.here hx rfl (hb hby at_153) k) ?_
  show own_Fin _ _ _ _ _ _ _ _ (mkF m 155 #[.val (.int p1), .val (.int p2), .val (.int p3), .unset, .unset, .unset, .unset, .unset] [(.int (23 : Int32)), (.ref b1), (.ref b1)])
  refine own_step (fun t k => X24.ldcInt hx hown (mvT hZ (hw _ (List.mem_of_getElem? (i := 2) rfl))) (g := (mkF m 155 #[.val (.int p1), .val (.int p2), .val (.int p3), .unset, .unset, .unset, .unset, .unset] [(.int (23 : Int32)), (.ref b1), (.ref b1)])) rfl (hb hby at_155) _ k) ?_
  show own_Fin _ _ _ _ _ _ _ _ (mkF m 157 #[.val (.int p1), .val (.int p2), .val (.int p3), .unset, .unset, .unset, .unset, .unset] [(.int (63744 : Int32)), (.int (23 : Int32)), (.ref b1), (.ref b1)])
  obtain ⟨T25, h25, X25, e25, W25, B25, st25⟩ := own_iastore X24 hx hZ e24 V_b1 (j := (23 : Int32)) (k := 23) rfl (by decide) (x := (63744 : Int32)) (pc := 157) (Ls := #[.val (.int p1), .val (.int p2), .val (.int p3), .unset, .unset, .unset, .unset, .unset]) (rest := [(.ref b1)]) (hb hby at_157) rfl
  refine own_step st25 ?_
  replace Zs : n0 ≤ h25.size := by rw [W25.size]; exact Zs
  replace V_b1 := B25
  replace Nf := Fr.snoc X25 Nf g_b1
  show own_Fin _ _ _ _ _ _ _ _ (mkF m 158 #[.val (.int p1), .val (.int p2), .val (.int p3), .unset, .unset, .unset, .unset, .unset] [(.ref b1)])
  refine own_step (fun t k => XS.dup X25.here hx rfl (hb hby at_158) rfl rfl k) ?_
  show own_Fin _ _ _ _ _ _ _ _ (mkF m 159 #[.val (.int p1), .val (.int p2), .val (.int p3), .unset, .unset, .unset, .unset, .unset] [(.ref b1), (.ref b1)])
  refine own_step (fun t k => XS.bipush X25.here hx rfl (hb hby at_159) k) ?_
  show own_Fin _ _ _ _ _ _ _ _ (mkF m 161 #[.val (.int p1), .val (.int p2), .val (.int p3), .unset, .unset, .unset, .unset, .unset] [(.int (24 : Int32)), (.ref b1), (.ref b1)])
  refine own_step (fun t k => X25.ldcInt hx hown (mvT hZ (hw _ (List.mem_of_getElem? (i := 3) rfl))) (g := (mkF m 161 #[.val (.int p1), .val (.int p2), .val (.int p3), .unset, .unset, .unset, .unset, .unset] [(.int (24 : Int32)), (.ref b1), (.ref b1)])) rfl (hb hby at_161) _ k) ?_
  show own_Fin _ _ _ _ _ _ _ _ (mkF m 163 #[.val (.int p1), .val (.int p2), .val (.int p3), .unset, .unset, .unset, .unset, .unset] [(.int (64975 : Int32)), (.int (24 : Int32)), (.ref b1), (.ref b1)])
  obtain ⟨T26, h26, X26, e26, W26, B26, st26⟩ := own_iastore X25 hx hZ e25 V_b1 (j := (24 : Int32)) (k := 24) rfl (by decide) (x := (64975 : Int32)) (pc := 163) (Ls := #[.val (.int p1), .val (.int p2), .val (.int p3), .unset, .unset, .unset, .unset, .unset]) (rest := [(.ref b1)]) (hb hby at_163) rfl
  refine own_step st26 ?_
  replace Zs : n0 ≤ h26.size := by rw [W26.size]; exact Zs
  replace V_b1 := B26
  replace Nf := Fr.snoc X26 Nf g_b1
  show own_Fin _ _ _ _ _ _ _ _ (mkF m 164 #[.val (.int p1), .val (.int p2), .val (.int p3), .unset, .unset, .unset, .unset, .unset] [(.ref b1)])
  refine own_step (fun t k => XS.dup X26.here hx rfl (hb hby at_164) rfl rfl k) ?_
  show own_Fin _ _ _ _ _ _ _ _ (mkF m 165 #[.val (.int p1), .val (.int p2), .val (.int p3), .unset, .unset, .unset, .unset, .unset] [(.ref b1), (.ref b1)])
  refine own_step (fun t k => XS.bipush X26.here hx rfl (hb hby at_165) k) ?_
  show own_Fin _ _ _ _ _ _ _ _ (mkF m 167 #[.val (.int p1), .val (.int p2), .val (.int p3), .unset, .unset, .unset, .unset, .unset] [(.int (25 : Int32)), (.ref b1), (.ref b1)])
  refine own_step (fun t k => X26.ldcInt hx hown (mvT hZ (hw _ (List.mem_of_getElem? (i := 4) rfl))) (g := (mkF m 167 #[.val (.int p1), .val (.int p2), .val (.int p3), .unset, .unset, .unset, .unset, .unset] [(.int (25 : Int32)), (.ref b1), (.ref b1)])) rfl (hb hby at_167) _ k) ?_
  show own_Fin _ _ _ _ _ _ _ _ (mkF m 169 #[.val (.int p1), .val (.int p2), .val (.int p3), .unset, .unset, .unset, .unset, .unset] [(.int (65008 : Int32)), (.int (25 : Int32)), (.ref b1), (.ref b1)])
  obtain ⟨T27, h27, X27, e27, W27, B27, st27⟩ := own_iastore X26 hx hZ e26 V_b1 (j := (25 : Int32)) (k := 25) rfl (by decide) (x := (65008 : Int32)) (pc := 169) (Ls := #[.val (.int p1), .val (.int p2), .val (.int p3), .unset, .unset, .unset, .unset, .unset]) (rest := [(.ref b1)]) (hb hby at_169) rfl
  refine own_step st27 ?_
  replace Zs : n0 ≤ h27.size := by rw [W27.size]; exact Zs
  replace V_b1 := B27
  replace Nf := Fr.snoc X27 Nf g_b1
  show own_Fin _ _ _ _ _ _ _ _ (mkF m 170 #[.val (.int p1), .val (.int p2), .val (.int p3), .unset, .unset, .unset, .unset, .unset] [(.ref b1)])
  refine own_step (fun t k => XS.dup X27.here hx rfl (hb hby at_170) rfl rfl k) ?_
  show own_Fin _ _ _ _ _ _ _ _ (mkF m 171 #[.val (.int p1), .val (.int p2), .val (.int p3), .unset, .unset, .unset, .unset, .unset] [(.ref b1), (.ref b1)])
  refine own_step (fun t k => XS.bipush X27.here hx rfl (hb hby at_171) k) ?_
  show own_Fin _ _ _ _ _ _ _ _ (mkF m 173 #[.val (.int p1), .val (.int p2), .val (.int p3), .unset, .unset, .unset, .unset, .unset] [(.int (26 : Int32)), (.ref b1), (.ref b1)])
  refine own_step (fun t k => X27.ldcInt hx hown (mvT hZ (hw _ (List.mem_of_getElem? (i := 5) rfl))) (g := (mkF m 173 #[.val (.int p1), .val (.int p2), .val (.int p3), .unset, .unset, .unset, .unset, .unset] [(.int (26 : Int32)), (.ref b1), (.ref b1)])) rfl (hb hby at_173) _ k) ?_
  show own_Fin _ _ _ _ _ _ _ _ (mkF m 175 #[.val (.int p1), .val (.int p2), .val (.int p3), .unset, .unset, .unset, .unset, .unset] [(.int (65533 : Int32)), (.int (26 : Int32)), (.ref b1), (.ref b1)])
  obtain ⟨T28, h28, X28, e28, W28, B28, st28⟩ := own_iastore X27 hx hZ e27 V_b1 (j := (26 : Int32)) (k := 26) rfl (by decide) (x := (65533 : Int32)) (pc := 175) (Ls := #[.val (.int p1), .val (.int p2), .val (.int p3), .unset, .unset, .unset, .unset, .unset]) (rest := [(.ref b1)]) (hb hby at_175) rfl
  refine own_step st28 ?_
  replace Zs : n0 ≤ h28.size := by rw [W28.size]; exact Zs
  replace V_b1 := B28
  replace Nf := Fr.snoc X28 Nf g_b1
  show own_Fin _ _ _ _ _ _ _ _ (mkF m 176 #[.val (.int p1), .val (.int p2), .val (.int p3), .unset, .unset, .unset, .unset, .unset] [(.ref b1)])
  refine own_step (fun t k => XS.dup X28.here hx rfl (hb hby at_176) rfl rfl k) ?_
  show own_Fin _ _ _ _ _ _ _ _ (mkF m 177 #[.val (.int p1), .val (.int p2), .val (.int p3), .unset, .unset, .unset, .unset, .unset] [(.ref b1), (.ref b1)])
  refine own_step (fun t k => XS.bipush X28.here hx rfl (hb hby at_177) k) ?_
  show own_Fin _ _ _ _ _ _ _ _ (mkF m 179 #[.val (.int p1), .val (.int p2), .val (.int p3), .unset, .unset, .unset, .unset, .unset] [(.int (27 : Int32)), (.ref b1), (.ref b1)])
  refine own_step (fun t k => X28.ldcInt hx hown (mvT hZ (hw _ (List.mem_of_getElem? (i := 6) rfl))) (g := (mkF m 179 #[.val (.int p1), .val (.int p2), .val (.int p3), .unset, .unset, .unset, .unset, .unset] [(.int (27 : Int32)), (.ref b1), (.ref b1)])) rfl (hb hby at_179) _ k) ?_
  show own_Fin _ _ _ _ _ _ _ _ (mkF m 181 #[.val (.int p1), .val (.int p2), .val (.int p3), .unset, .unset, .unset, .unset, .unset] [(.int (65536 : Int32)), (.int (27 : Int32)), (.ref b1), (.ref b1)])
  obtain ⟨T29, h29, X29, e29, W29, B29, st29⟩ := own_iastore X28 hx hZ e28 V_b1 (j := (27 : Int32)) (k := 27) rfl (by decide) (x := (65536 : Int32)) (pc := 181) (Ls := #[.val (.int p1), .val (.int p2), .val (.int p3), .unset, .unset, .unset, .unset, .unset]) (rest := [(.ref b1)]) (hb hby at_181) rfl
  refine own_step st29 ?_
  replace Zs : n0 ≤ h29.size := by rw [W29.size]; exact Zs
  replace V_b1 := B29
  replace Nf := Fr.snoc X29 Nf g_b1
  show own_Fin _ _ _ _ _ _ _ _ (mkF m 182 #[.val (.int p1), .val (.int p2), .val (.int p3), .unset, .unset, .unset, .unset, .unset] [(.ref b1)])
  refine own_step (fun t k => XS.dup X29.here hx rfl (hb hby at_182) rfl rfl k) ?_
  show own_Fin _ _ _ _ _ _ _ _ (mkF m 183 #[.val (.int p1), .val (.int p2), .val (.int p3), .unset, .unset, .unset, .unset, .unset] [(.ref b1), (.ref b1)])
  refine own_step (fun t k => XS.bipush X29.here hx rfl (hb hby at_183) k) ?_
  show own_Fin _ _ _ _ _ _ _ _ (mkF m 185 #[.val (.int p1), .val (.int p2), .val (.int p3), .unset, .unset, .unset, .unset, .unset] [(.int (28 : Int32)), (.ref b1), (.ref b1)])
  refine own_step (fun t k => X29.ldcInt hx hown (mvT hZ (hw _ (List.mem_of_getElem? (i := 7) rfl))) (g := (mkF m 185 #[.val (.int p1), .val (.int p2), .val (.int p3), .unset, .unset, .unset, .unset, .unset] [(.int (28 : Int32)), (.ref b1), (.ref b1)])) rfl (hb hby at_185) _ k) ?_
  show own_Fin _ _ _ _ _ _ _ _ (mkF m 187 #[.val (.int p1), .val (.int p2), .val (.int p3), .unset, .unset, .unset, .unset, .unset] [(.int (983039 : Int32)), (.int (28 : Int32)), (.ref b1), (.ref b1)])
  obtain ⟨T30, h30, X30, e30, W30, B30, st30⟩ := own_iastore X29 hx hZ e29 V_b1 (j := (28 : Int32)) (k := 28) rfl (by decide) (x := (983039 : Int32)) (pc := 187) (Ls := #[.val (.int p1), .val (.int p2), .val (.int p3), .unset, .unset, .unset, .unset, .unset]) (rest := [(.ref b1)]) (hb hby at_187) rfl
  refine own_step st30 ?_
  replace Zs : n0 ≤ h30.size := by rw [W30.size]; exact Zs
  replace V_b1 := B30
  replace Nf := Fr.snoc X30 Nf g_b1
  show own_Fin _ _ _ _ _ _ _ _ (mkF m 188 #[.val (.int p1), .val (.int p2), .val (.int p3), .unset, .unset, .unset, .unset, .unset] [(.ref b1)])
  obtain ⟨fE, V_b1⟩ : ∃ f, own_AI Z h30 b1 .int 29 f := ⟨_, V_b1⟩
  refine own_step (fun t k => XS.astoreN X30.here hx rfl (hb hby at_188) rfl rfl (l' := #[.val (.int p1), .val (.int p2), .val (.int p3), .val (.ref b1), .unset, .unset, .unset, .unset]) rfl k) ?_
  show own_Fin _ _ _ _ _ _ _ _ (mkF m 189 #[.val (.int p1), .val (.int p2), .val (.int p3), .val (.ref b1), .unset, .unset, .unset, .unset] [])
  refine own_step (fun t k => XS.iloadN X30.here hx rfl (hb hby at_189) rfl k) ?_
  show own_Fin _ _ _ _ _ _ _ _ (mkF m 190 #[.val (.int p1), .val (.int p2), .val (.int p3), .val (.ref b1), .unset, .unset, .unset, .unset] [(.int p2)])
  refine own_step (fun t k => X30.ldcInt hx hown (mvT hZ (hw _ (List.mem_of_getElem? (i := 8) rfl))) (g := (mkF m 190 #[.val (.int p1), .val (.int p2), .val (.int p3), .val (.ref b1), .unset, .unset, .unset, .unset] [(.int p2)])) rfl (hb hby at_190) _ k) ?_
  show own_Fin _ _ _ _ _ _ _ _ (mkF m 192 #[.val (.int p1), .val (.int p2), .val (.int p3), .val (.ref b1), .unset, .unset, .unset, .unset] [(.int (2147483647 : Int32)), (.int p2)])
  refine own_step (fun t k => XS.iand X30.here hx rfl (hb hby at_192) rfl k) ?_
  show own_Fin _ _ _ _ _ _ _ _ (mkF m 193 #[.val (.int p1), .val (.int p2), .val (.int p3), .val (.ref b1), .unset, .unset, .unset, .unset] [(.int (p2 &&& (2147483647 : Int32)))])
  refine own_step (fun t k => XS.aloadN X30.here hx rfl (hb hby at_193) rfl rfl k) ?_
  show own_Fin _ _ _ _ _ _ _ _ (mkF m 194 #[.val (.int p1), .val (.int p2), .val (.int p3), .val (.ref b1), .unset, .unset, .unset, .unset] [(.ref b1), (.int (p2 &&& (2147483647 : Int32)))])
  refine own_arrlen X30 hx hZ e30 V_b1 (z := (29 : Int32)) rfl (hb hby at_194) rfl ?_
  show own_Fin _ _ _ _ _ _ _ _ (mkF m 195 #[.val (.int p1), .val (.int p2), .val (.int p3), .val (.ref b1), .unset, .unset, .unset, .unset] [(.int (29 : Int32)), (.int (p2 &&& (2147483647 : Int32)))])
  refine own_step (fun t k => iremM X30 hx rfl (hb hby at_195) rfl (by decide) k) ?_
  show own_Fin _ _ _ _ _ _ _ _ (mkF m 196 #[.val (.int p1), .val (.int p2), .val (.int p3), .val (.ref b1), .unset, .unset, .unset, .unset] [(.int ((p2 &&& (2147483647 : Int32)) % (29 : Int32)))])
  generalize hix : ((p2 &&& (2147483647 : Int32)) % (29 : Int32)) = ix
  have hI : 0 ≤ ix.toInt ∧ ix.toInt < 29 := by
    have q := c_mask p2 2147483647 31 (by decide) (by decide)
    have r := (c_irem (p2 &&& 2147483647) 29 29 (by decide)).1 (by omega)
    rw [hix] at r
    omega
  refine own_step (fun t k => XS.istore X30.here hx rfl (hb hby at_196) rfl (l' := #[.val (.int p1), .val (.int p2), .val (.int p3), .val (.ref b1), .val (.int ix), .unset, .unset, .unset]) rfl k) ?_
  show own_Fin _ _ _ _ _ _ _ _ (mkF m 198 #[.val (.int p1), .val (.int p2), .val (.int p3), .val (.ref b1), .val (.int ix), .unset, .unset, .unset] [])
  refine own_step (fun t k => XS.aloadN X30.here hx rfl (hb hby at_198) rfl rfl k) ?_
  show own_Fin _ _ _ _ _ _ _ _ (mkF m 199 #[.val (.int p1), .val (.int p2), .val (.int p3), .val (.ref b1), .val (.int ix), .unset, .unset, .unset] [(.ref b1)])
  refine own_step (fun t k => XS.iload X30.here hx rfl (hb hby at_199) rfl k) ?_
  show own_Fin _ _ _ _ _ _ _ _ (mkF m 201 #[.val (.int p1), .val (.int p2), .val (.int p3), .val (.ref b1), .val (.int ix), .unset, .unset, .unset] [(.int ix), (.ref b1)])
  refine own_iaload X30 hx hZ e30 V_b1 (k := ix.toInt.toNat) (by omega) (by omega) (v := (fE (ix.toInt.toNat))) rfl (hb hby at_201) rfl ?_
  show own_Fin _ _ _ _ _ _ _ _ (mkF m 202 #[.val (.int p1), .val (.int p2), .val (.int p3), .val (.ref b1), .val (.int ix), .unset, .unset, .unset] [(.int (fE (ix.toInt.toNat)))])
  refine own_step (fun t k => XS.iloadN X30.here hx rfl (hb hby at_202) rfl k) ?_
  show own_Fin _ _ _ _ _ _ _ _ (mkF m 203 #[.val (.int p1), .val (.int p2), .val (.int p3), .val (.ref b1), .val (.int ix), .unset, .unset, .unset] [(.int p3), (.int (fE (ix.toInt.toNat)))])
  refine own_step (fun t k => XS.iconst X30.here hx rfl (hb hby at_203) k) ?_
  show own_Fin _ _ _ _ _ _ _ _ (mkF m 204 #[.val (.int p1), .val (.int p2), .val (.int p3), .val (.ref b1), .val (.int ix), .unset, .unset, .unset] [(.int (3 : Int32)), (.int p3), (.int (fE (ix.toInt.toNat)))])
  refine own_step (fun t k => XS.iand X30.here hx rfl (hb hby at_204) rfl k) ?_
  show own_Fin _ _ _ _ _ _ _ _ (mkF m 205 #[.val (.int p1), .val (.int p2), .val (.int p3), .val (.ref b1), .val (.int ix), .unset, .unset, .unset] [(.int (p3 &&& (3 : Int32))), (.int (fE (ix.toInt.toNat)))])
  refine own_step (fun t k => XS.iconst X30.here hx rfl (hb hby at_205) k) ?_
  show own_Fin _ _ _ _ _ _ _ _ (mkF m 206 #[.val (.int p1), .val (.int p2), .val (.int p3), .val (.ref b1), .val (.int ix), .unset, .unset, .unset] [(.int (2 : Int32)), (.int (p3 &&& (3 : Int32))), (.int (fE (ix.toInt.toNat)))])
  refine own_step (fun t k => XS.isub X30.here hx rfl (hb hby at_206) rfl k) ?_
  show own_Fin _ _ _ _ _ _ _ _ (mkF m 207 #[.val (.int p1), .val (.int p2), .val (.int p3), .val (.ref b1), .val (.int ix), .unset, .unset, .unset] [(.int ((p3 &&& (3 : Int32)) - (2 : Int32))), (.int (fE (ix.toInt.toNat)))])
  refine own_step (fun t k => XS.iadd X30.here hx rfl (hb hby at_207) rfl k) ?_
  show own_Fin _ _ _ _ _ _ _ _ (mkF m 208 #[.val (.int p1), .val (.int p2), .val (.int p3), .val (.ref b1), .val (.int ix), .unset, .unset, .unset] [(.int ((fE (ix.toInt.toNat)) + ((p3 &&& (3 : Int32)) - (2 : Int32))))])
  generalize hcc : ((fE (ix.toInt.toNat)) + ((p3 &&& (3 : Int32)) - (2 : Int32))) = cc
  refine own_step (fun t k => XS.istore X30.here hx rfl (hb hby at_208) rfl (l' := #[.val (.int p1), .val (.int p2), .val (.int p3), .val (.ref b1), .val (.int ix), .val (.int cc), .unset, .unset]) rfl k) ?_
  show own_Fin _ _ _ _ _ _ _ _ (mkF m 210 #[.val (.int p1), .val (.int p2), .val (.int p3), .val (.ref b1), .val (.int ix), .val (.int cc), .unset, .unset] [])
  refine own_step (fun t k => XS.iloadN X30.here hx rfl (hb hby at_210) rfl k) ?_
  show own_Fin _ _ _ _ _ _ _ _ (mkF m 211 #[.val (.int p1), .val (.int p2), .val (.int p3), .val (.ref b1), .val (.int ix), .val (.int cc), .unset, .unset] [(.int p1)])
  obtain ⟨_, _, ⟨T31, L31, k31, n31⟩, -, X31, ⟨Lc31, hQ31, l31, y31, z31⟩, st31⟩ := Jvm.LawKit.callS X30 hx (y := (⟨site_211.cls, "isPnCharsBase", "(I)Z"⟩ : MethodName)) hown (mvT hZ (hw _ (List.mem_of_getElem? (i := 9) rfl))) (mvT hZ (hw _ (List.mem_of_getElem? (i := 10) rfl))) (mvT hZ (hw _ (List.mem_of_getElem? (i := 11) rfl))) (mvT hZ (hw _ (List.mem_of_getElem? (i := 12) rfl))) (by decide) (backOf (W := 0) (rm1 l Z a0 hw [] p1 h30 n0 Zs) hZ (hw _ (List.mem_of_getElem? (i := 12) rfl)) (hw _ (List.mem_of_getElem? (i := 11) rfl)) (by decide) (by decide)) (g := (mkF m 211 #[.val (.int p1), .val (.int p2), .val (.int p3), .val (.ref b1), .val (.int ix), .val (.int cc), .unset, .unset] [(.int p1)])) rfl (by rw [hml]; rfl) (argsL := [(.int p1)]) (rest := []) (lenOf own_pd_0 rfl) rfl (by show 2 * 0 + _ ≤ _; exact Nat.le_of_eq rfl) (hb hby at_211) (fun _ _ => ⟨rfl, e30, (by decide : 1 + 0 ≤ _), (by decide : 29 + 0 ≤ _)⟩)
  dsimp only [Pt.U, Pt.locs, Pt.cells, Pt.slots] at X31 l31 y31 z31 st31 hQ31
  rw [l31, y31, z31] at X31
  obtain ⟨r31, rfl, hB31, Nq31, hh31⟩ := hQ31
  replace Nf := Fr.app Nf Nq31
  refine own_step st31 ?_
  show own_Fin _ _ _ _ _ _ _ _ (mkF m 214 #[.val (.int p1), .val (.int p2), .val (.int p3), .val (.ref b1), .val (.int ix), .val (.int cc), .unset, .unset] [(.int r31)])
  refine own_step (fun t k => XS.iloadN X31.here hx rfl (hb hby at_214) rfl k) ?_
  show own_Fin _ _ _ _ _ _ _ _ (mkF m 215 #[.val (.int p1), .val (.int p2), .val (.int p3), .val (.ref b1), .val (.int ix), .val (.int cc), .unset, .unset] [(.int p1), (.int r31)])
  obtain ⟨_, _, ⟨T32, L32, k32, n32⟩, -, X32, ⟨Lc32, hQ32, l32, y32, z32⟩, st32⟩ := Jvm.LawKit.callS X31 hx (y := (⟨x.cls, "ref", "(I)Z"⟩ : MethodName)) hown (mvT hZ (hw _ (List.mem_of_getElem? (i := 16) rfl))) (mvT hZ (hw _ (List.mem_of_getElem? (i := 17) rfl))) (mvT hZ (hw _ (List.mem_of_getElem? (i := 18) rfl))) (mvT hZ (hw _ (List.mem_of_getElem? (i := 19) rfl))) (by decide) (backOf (W := 1) (rm2 l Z a0 hw [] p1 h30 n0 Zs) hZ (hw _ (List.mem_of_getElem? (i := 19) rfl)) (hw _ (List.mem_of_getElem? (i := 18) rfl)) (by decide) (by decide)) (g := (mkF m 215 #[.val (.int p1), .val (.int p2), .val (.int p3), .val (.ref b1), .val (.int ix), .val (.int cc), .unset, .unset] [(.int p1), (.int r31)])) rfl (by rw [hml]; rfl) (argsL := [(.int p1)]) (rest := [(.int r31)]) (lenOf own_pd_0 rfl) rfl (by show 2 * 0 + _ ≤ _; exact Nat.le_of_eq rfl) (hb hby at_215) (fun _ _ => ⟨rfl, hh31, (by decide : 1 + 0 ≤ _), (by decide : 29 + 0 ≤ _)⟩)
  dsimp only [Pt.U, Pt.locs, Pt.cells, Pt.slots] at X32 l32 y32 z32 st32 hQ32
  rw [l32, y32, z32] at X32
  obtain ⟨r32, rfl, hB32, Nq32, hh32⟩ := hQ32
  replace Nf := Fr.app Nf Nq32
  refine own_step st32 ?_
  show own_Fin _ _ _ _ _ _ _ _ (mkF m 218 #[.val (.int p1), .val (.int p2), .val (.int p3), .val (.ref b1), .val (.int ix), .val (.int cc), .unset, .unset] [(.int r32), (.int r31)])
  have hc33 : (r31).toInt = (r32).toInt := by
    have q := own_same p1.toInt
    rcases hB31 with ⟨u1, u2⟩ | ⟨u1, u2⟩ <;> rcases hB32 with ⟨v1, v2⟩ | ⟨v1, v2⟩
    · rw [u1, v1]
    · exact absurd (q.mp u2) v2
    · exact absurd (q.mpr v2) u2
    · rw [u1, v1]
  refine own_step (fun t k => XS.icmpNo X32.here hx rfl (hb hby at_218) rfl (own_ce (x := r31) (y := r32) rfl rfl hc33).2 k) ?_
  show own_Fin _ _ _ _ _ _ _ _ (mkF m 221 #[.val (.int p1), .val (.int p2), .val (.int p3), .val (.ref b1), .val (.int ix), .val (.int cc), .unset, .unset] [])
  refine own_step (fun t k => XS.iconst X32.here hx rfl (hb hby at_221) k) ?_
  show own_Fin _ _ _ _ _ _ _ _ (mkF m 222 #[.val (.int p1), .val (.int p2), .val (.int p3), .val (.ref b1), .val (.int ix), .val (.int cc), .unset, .unset] [(.int (1 : Int32))])
  refine own_step (fun t k => XS.goto X32.here hx rfl (pc0 := 222) (pc' := 226) rfl (hb hby at_222) (by decide) (by decide) k) ?_
  show own_Fin _ _ _ _ _ _ _ _ (mkF m 226 #[.val (.int p1), .val (.int p2), .val (.int p3), .val (.ref b1), .val (.int ix), .val (.int cc), .unset, .unset] [(.int (1 : Int32))])
  refine own_step (fun t k => XS.istore X32.here hx rfl (hb hby at_226) rfl (l' := #[.val (.int p1), .val (.int p2), .val (.int p3), .val (.ref b1), .val (.int ix), .val (.int cc), .val (.int (1 : Int32)), .unset]) rfl k) ?_
  show own_Fin _ _ _ _ _ _ _ _ (mkF m 228 #[.val (.int p1), .val (.int p2), .val (.int p3), .val (.ref b1), .val (.int ix), .val (.int cc), .val (.int (1 : Int32)), .unset] [])
  refine own_step (fun t k => XS.iload X32.here hx rfl (hb hby at_228) rfl k) ?_
  show own_Fin _ _ _ _ _ _ _ _ (mkF m 230 #[.val (.int p1), .val (.int p2), .val (.int p3), .val (.ref b1), .val (.int ix), .val (.int cc), .val (.int (1 : Int32)), .unset] [(.int cc)])
  obtain ⟨_, _, ⟨T34, L34, k34, n34⟩, -, X34, ⟨Lc34, hQ34, l34, y34, z34⟩, st34⟩ := Jvm.LawKit.callS X32 hx (y := (⟨site_211.cls, "isPnCharsBase", "(I)Z"⟩ : MethodName)) hown (mvT hZ (hw _ (List.mem_of_getElem? (i := 9) rfl))) (mvT hZ (hw _ (List.mem_of_getElem? (i := 10) rfl))) (mvT hZ (hw _ (List.mem_of_getElem? (i := 11) rfl))) (mvT hZ (hw _ (List.mem_of_getElem? (i := 12) rfl))) (by decide) (backOf (W := 0) (rm1 l Z a0 hw [] cc h30 n0 Zs) hZ (hw _ (List.mem_of_getElem? (i := 12) rfl)) (hw _ (List.mem_of_getElem? (i := 11) rfl)) (by decide) (by decide)) (g := (mkF m 230 #[.val (.int p1), .val (.int p2), .val (.int p3), .val (.ref b1), .val (.int ix), .val (.int cc), .val (.int (1 : Int32)), .unset] [(.int cc)])) rfl (by rw [hml]; rfl) (argsL := [(.int cc)]) (rest := []) (lenOf own_pd_0 rfl) rfl (by show 2 * 0 + _ ≤ _; exact Nat.le_of_eq rfl) (hb hby at_230) (fun _ _ => ⟨rfl, hh32, (by decide : 1 + 0 ≤ _), (by decide : 29 + 0 ≤ _)⟩)
  dsimp only [Pt.U, Pt.locs, Pt.cells, Pt.slots] at X34 l34 y34 z34 st34 hQ34
  rw [l34, y34, z34] at X34
  obtain ⟨r34, rfl, hB34, Nq34, hh34⟩ := hQ34
  replace Nf := Fr.app Nf Nq34
  refine own_step st34 ?_
  show own_Fin _ _ _ _ _ _ _ _ (mkF m 233 #[.val (.int p1), .val (.int p2), .val (.int p3), .val (.ref b1), .val (.int ix), .val (.int cc), .val (.int (1 : Int32)), .unset] [(.int r34)])
  refine own_step (fun t k => XS.iload X34.here hx rfl (hb hby at_233) rfl k) ?_
  show own_Fin _ _ _ _ _ _ _ _ (mkF m 235 #[.val (.int p1), .val (.int p2), .val (.int p3), .val (.ref b1), .val (.int ix), .val (.int cc), .val (.int (1 : Int32)), .unset] [(.int cc), (.int r34)])
  obtain ⟨_, _, ⟨T35, L35, k35, n35⟩, -, X35, ⟨Lc35, hQ35, l35, y35, z35⟩, st35⟩ := Jvm.LawKit.callS X34 hx (y := (⟨x.cls, "ref", "(I)Z"⟩ : MethodName)) hown (mvT hZ (hw _ (List.mem_of_getElem? (i := 16) rfl))) (mvT hZ (hw _ (List.mem_of_getElem? (i := 17) rfl))) (mvT hZ (hw _ (List.mem_of_getElem? (i := 18) rfl))) (mvT hZ (hw _ (List.mem_of_getElem? (i := 19) rfl))) (by decide) (backOf (W := 1) (rm2 l Z a0 hw [] cc h30 n0 Zs) hZ (hw _ (List.mem_of_getElem? (i := 19) rfl)) (hw _ (List.mem_of_getElem? (i := 18) rfl)) (by decide) (by decide)) (g := (mkF m 235 #[.val (.int p1), .val (.int p2), .val (.int p3), .val (.ref b1), .val (.int ix), .val (.int cc), .val (.int (1 : Int32)), .unset] [(.int cc), (.int r34)])) rfl (by rw [hml]; rfl) (argsL := [(.int cc)]) (rest := [(.int r34)]) (lenOf own_pd_0 rfl) rfl (by show 2 * 0 + _ ≤ _; exact Nat.le_of_eq rfl) (hb hby at_235) (fun _ _ => ⟨rfl, hh34, (by decide : 1 + 0 ≤ _), (by decide : 29 + 0 ≤ _)⟩)
  dsimp only [Pt.U, Pt.locs, Pt.cells, Pt.slots] at X35 l35 y35 z35 st35 hQ35
  rw [l35, y35, z35] at X35
  obtain ⟨r35, rfl, hB35, Nq35, hh35⟩ := hQ35
  replace Nf := Fr.app Nf Nq35
  refine own_step st35 ?_
  show own_Fin _ _ _ _ _ _ _ _ (mkF m 238 #[.val (.int p1), .val (.int p2), .val (.int p3), .val (.ref b1), .val (.int ix), .val (.int cc), .val (.int (1 : Int32)), .unset] [(.int r35), (.int r34)])
  have hc36 : (r34).toInt = (r35).toInt := by
    have q := own_same cc.toInt
    rcases hB34 with ⟨u1, u2⟩ | ⟨u1, u2⟩ <;> rcases hB35 with ⟨v1, v2⟩ | ⟨v1, v2⟩
    · rw [u1, v1]
    · exact absurd (q.mp u2) v2
    · exact absurd (q.mpr v2) u2
    · rw [u1, v1]
  refine own_step (fun t k => XS.icmpNo X35.here hx rfl (hb hby at_238) rfl (own_ce (x := r34) (y := r35) rfl rfl hc36).2 k) ?_
  show own_Fin _ _ _ _ _ _ _ _ (mkF m 241 #[.val (.int p1), .val (.int p2), .val (.int p3), .val (.ref b1), .val (.int ix), .val (.int cc), .val (.int (1 : Int32)), .unset] [])
  refine own_step (fun t k => XS.iconst X35.here hx rfl (hb hby at_241) k) ?_
  show own_Fin _ _ _ _ _ _ _ _ (mkF m 242 #[.val (.int p1), .val (.int p2), .val (.int p3), .val (.ref b1), .val (.int ix), .val (.int cc), .val (.int (1 : Int32)), .unset] [(.int (1 : Int32))])
  refine own_step (fun t k => XS.goto X35.here hx rfl (pc0 := 242) (pc' := 246) rfl (hb hby at_242) (by decide) (by decide) k) ?_
  show own_Fin _ _ _ _ _ _ _ _ (mkF m 246 #[.val (.int p1), .val (.int p2), .val (.int p3), .val (.ref b1), .val (.int ix), .val (.int cc), .val (.int (1 : Int32)), .unset] [(.int (1 : Int32))])
  refine own_step (fun t k => XS.istore X35.here hx rfl (hb hby at_246) rfl (l' := #[.val (.int p1), .val (.int p2), .val (.int p3), .val (.ref b1), .val (.int ix), .val (.int cc), .val (.int (1 : Int32)), .val (.int (1 : Int32))]) rfl k) ?_
  show own_Fin _ _ _ _ _ _ _ _ (mkF m 248 #[.val (.int p1), .val (.int p2), .val (.int p3), .val (.ref b1), .val (.int ix), .val (.int cc), .val (.int (1 : Int32)), .val (.int (1 : Int32))] [])
  refine own_step (fun t k => XS.iload X35.here hx rfl (hb hby at_248) rfl k) ?_
  show own_Fin _ _ _ _ _ _ _ _ (mkF m 250 #[.val (.int p1), .val (.int p2), .val (.int p3), .val (.ref b1), .val (.int ix), .val (.int cc), .val (.int (1 : Int32)), .val (.int (1 : Int32))] [(.int (1 : Int32))])
  refine own_step (fun t k => XS.ifNo X35.here hx rfl (hb hby at_250) rfl (by decide) k) ?_
  show own_Fin _ _ _ _ _ _ _ _ (mkF m 253 #[.val (.int p1), .val (.int p2), .val (.int p3), .val (.ref b1), .val (.int ix), .val (.int cc), .val (.int (1 : Int32)), .val (.int (1 : Int32))] [])
  refine own_step (fun t k => XS.iload X35.here hx rfl (hb hby at_253) rfl k) ?_
  show own_Fin _ _ _ _ _ _ _ _ (mkF m 255 #[.val (.int p1), .val (.int p2), .val (.int p3), .val (.ref b1), .val (.int ix), .val (.int cc), .val (.int (1 : Int32)), .val (.int (1 : Int32))] [(.int (1 : Int32))])
  refine own_step (fun t k => XS.ifNo X35.here hx rfl (hb hby at_255) rfl (by decide) k) ?_
  show own_Fin _ _ _ _ _ _ _ _ (mkF m 258 #[.val (.int p1), .val (.int p2), .val (.int p3), .val (.ref b1), .val (.int ix), .val (.int cc), .val (.int (1 : Int32)), .val (.int (1 : Int32))] [])
  refine own_step (fun t k => XS.iconst X35.here hx rfl (hb hby at_258) k) ?_
  show own_Fin _ _ _ _ _ _ _ _ (mkF m 259 #[.val (.int p1), .val (.int p2), .val (.int p3), .val (.ref b1), .val (.int ix), .val (.int cc), .val (.int (1 : Int32)), .val (.int (1 : Int32))] [(.int (1 : Int32))])
  refine own_step (fun t k => XS.goto X35.here hx rfl (pc0 := 259) (pc' := 263) rfl (hb hby at_259) (by decide) (by decide) k) ?_
  show own_Fin _ _ _ _ _ _ _ _ (mkF m 263 #[.val (.int p1), .val (.int p2), .val (.int p3), .val (.ref b1), .val (.int ix), .val (.int cc), .val (.int (1 : Int32)), .val (.int (1 : Int32))] [(.int (1 : Int32))])
  refine own_retZ X35 hx hlk Bd.returns (hb hby at_263) (z' := (1 : Int32)) (by decide) (by decide) (by decide) hh35 ?_
  exact ⟨rfl, Nf⟩
set_option maxRecDepth 65536 in
set_option maxHeartbeats 40000000 in
theorem comes_1 {Post : Tables → Env → Array Value → State → Outcome → State → Prop} (hpost : ∀ tb e args s v u, (limb_1_1.after args s (.returned v) u = true ∧ limb_1_2.after args s (.returned v) u = true ∧ True) → FrameEnd s (.returned v) u (Jvm.fieldLocs frame_1_writes args s ++ Jvm.arrayLocs frame_1_arrays args s ++ Jvm.staticLocs frame_1_statics s) 16 128 → Post tb e args s (.returned v) u) :
    ArmFor flags0 classFile x code maxLocals ret World_1 tables_1 room_1 Calls_1 rest_1 Pre_1 Post := by
  intro l hfl _ _ p e ha hc hk s m args below hf hA hF happ hP
  obtain ⟨hcalls, hrest, hpre⟩ := hP
  obtain ⟨-, -, -, hnamed, -, -, -, hat⟩ := (Spec.applies_iff hf).mp happ
  obtain ⟨hg, hn⟩ := and_e (Cond.before_iff.mp (show (Jvm.Cond.and given_1 narrow_1).before args s = true from hpre))
  obtain ⟨g1, g2⟩ := and_e hg
  obtain ⟨g3, g4⟩ := and_e g2
  obtain ⟨g5, g6⟩ := and_e g4
  obtain ⟨w0, w1, w2, rfl⟩ : ∃ w0 w1 w2 : Value, args = #[w0, w1, w2] := by
    have hs : args.size = 3 := by simpa [Cond.value, given_1] using g1
    obtain ⟨L⟩ := args
    match L, hs with
    | [w0, w1, w2], _ => exact ⟨w0, w1, w2, rfl⟩
  have hw := fun d (hd : d ∈ tables_1) => atoms_spec (ws := Jvm.Cond.code x code maxLocals ret :: tables_1) hat d (List.mem_cons_of_mem _ hd)
  obtain ⟨i0, ei0⟩ := is_v g3
  obtain rfl : w0 = (.int i0) := Option.some.inj ei0
  obtain ⟨i1, ei1⟩ := is_v g5
  obtain rfl : w1 = (.int i1) := Option.some.inj ei1
  obtain ⟨i2, ei2⟩ := is_v g6
  obtain rfl : w2 = (.int i2) := Option.some.inj ei2
  obtain ⟨n, o, h1, h2, h3, _, L, rfl, ⟨rfl, N⟩, hq⟩ := rm0 l s _ hw tables_1 i0 i1 i2 s.heap s.heap.size (Nat.le_refl _) p e ha hc hk s m _ below hf ((Spec.applies_iff_loose hf).mp happ).1 ⟨rfl, State.Warmed39.refl s, rfl⟩ trivial
  refine ⟨n, _, h1, h2, h3, hpost _ _ _ _ _ _ ⟨Cond.after_iff.mpr rfl, Cond.after_iff.mpr (eq_i res_at (Term.int_eval (1)) rfl), trivial⟩ ⟨hq.1, hq.2.1, (hq.2.2.sift fun y hy => Or.inr (N y hy)).mono (by decide) (by decide)⟩⟩
theorem main_1_1 : Claimed_1_1 := comes_1 fun _ _ _ _ _ _ h hF => ⟨h.1, hF⟩
theorem main_1_2 : Claimed_1_2 := comes_1 fun _ _ _ _ _ _ h hF => ⟨h.2.1, hF⟩
end Jvm.Pilot.@@N@@
namespace Jvm.Pilot.@@N@@
open Jvm Jvm.ClassFile Sem Op Lib Jvm.Free Jvm.Stand Jvm.Pilot.@@N@@.Jvm.D
/-! MADE BY PROGRAM (witnessworld.py) out of the Statement's table words and the real class files: 9 classes; the members and pool entries that the words name. The judged class is class 1, her method 2. -/
namespace start1
open Jvm.ClassFile
def u (s : String) : CpInfo := .utf8 (stringToUtf16 s)
/-- a pool by its gaps: so many unusable entries, then the entry; so many at the end -/
def gap : Nat → List CpInfo → List CpInfo
  | 0, r => r
  | n + 1, r => .unusable :: gap n r
def poolList (es : List (Nat × CpInfo)) (last : Nat) : List CpInfo := es.foldr (fun e r => gap e.1 (e.2 :: r)) (gap last [])
def pool (es : List (Nat × CpInfo)) (last : Nat) : Array CpInfo := ⟨poolList es last⟩
def fileOf (pool : Array CpInfo) (this : Nat) (attrs : Array Attribute := #[]) (ms : Array MethodInfo := #[]) (fl : Nat := 33) (sup : Nat := 0) (ifs : Array Nat := #[]) (fds : Array FieldInfo := #[]) : ClassFile where
  minorVersion := 0
  majorVersion := 65
  constantPool := pool
  accessFlags := fl
  thisClass := this
  superClass := sup
  interfaces := ifs
  fields := fds
  methods := ms
  attributes := attrs
def plain (name : String) (sup : Option ClassId) : Class where
  name := name
  kind := .ordinary
  loader := none
  accessFlags := 33
  super := sup
  interfaces := #[]
  cf := none
  fields := #[]
  methods := #[]
  instanceTypes := #[]
  staticTypes := #[]
  resolved := #[]
  callSites := []
  init := .initialized
  statics := none
  mirror := none

def pool0 : Array CpInfo := pool [(5, u "<init>"), (0, u "()V"), (1, .class_ 10), (1, u "java/lang/Object")] 113

def k0m0 : Method := { name := "<init>", desc := "()V", sig := { parameters := [], returnType := none }, accessFlags := 1, code := none }
/-- java/lang/Object -/
def k0 : Class := { plain "java/lang/Object" none with
  accessFlags := 33
  interfaces := #[]
  cf := some (fileOf pool0 8 #[] #[{ accessFlags := 1, nameIndex := 5, descriptorIndex := 6, attributes := #[] }] 33 0 #[] #[])
  fields := #[]
  methods := #[k0m0]
  instanceTypes := #[]
  staticTypes := #[]
  resolved := Array.replicate 124 none
  statics := none }

def pool1 : Array CpInfo := pool [(2, .class_ 4), (1, u "java/lang/Object"), (0, u "<init>"), (0, u "()V"), (0, .integer 983039), (0, .integer 55296), (0, .integer 63743), (0, .integer 64976), (0, .integer 65007), (0, .integer 65534), (0, .integer 65535), (0, .integer 55295), (0, .integer 63744), (0, .integer 64975), (0, .integer 65008), (0, .integer 65533), (0, .integer 65536), (0, .integer 2147483647), (0, .methodref 22 23), (0, .class_ 24), (0, .nameAndType 25 26), (0, u site_211.cls), (0, u "isPnCharsBase"), (0, u "(I)Z"), (0, .methodref 28 29), (0, .class_ 30), (0, .nameAndType 31 26), (0, u x.cls), (0, u "ref"), (3, u "law"), (0, u "(III)Z")] 4

def k1m0 : Method := { name := "<init>", desc := "()V", sig := { parameters := [], returnType := none }, accessFlags := 2, code := none }
def k1c1 : Code := { maxStack := 2, maxLocals := 1, code := method_2_code, exceptionTable := #[], attributes := #[] }
def k1m1 : Method := { name := "ref", desc := "(I)Z", sig := { parameters := [.int], returnType := some .boolean }, accessFlags := 10, code := some k1c1 }
def k1c2 : Code := { maxStack := 4, maxLocals := 8, code := code, exceptionTable := #[], attributes := #[] }
def k1m2 : Method := { name := "law", desc := "(III)Z", sig := { parameters := [.int, .int, .int], returnType := some .boolean }, accessFlags := 9, code := some k1c2 }
def k1 : Class := { plain x.cls (some 0) with
  accessFlags := 49
  interfaces := #[]
  cf := some (fileOf pool1 28 #[] #[{ accessFlags := 2, nameIndex := 5, descriptorIndex := 6, attributes := #[] }, { accessFlags := 10, nameIndex := 31, descriptorIndex := 26, attributes := #[] }, { accessFlags := 9, nameIndex := 35, descriptorIndex := 36, attributes := #[] }] 49 2 #[] #[])
  fields := #[]
  methods := #[k1m0, k1m1, k1m2]
  instanceTypes := #[]
  staticTypes := #[]
  resolved := Array.replicate 41 none
  statics := none }

def pool2 : Array CpInfo := pool [(2, .class_ 4), (1, u "java/lang/Object"), (0, u "<init>"), (0, u "()V"), (0, .integer 55295), (0, .integer 63744), (0, .integer 64975), (0, .integer 65008), (0, .integer 65533), (0, .integer 65536), (0, .integer 983039), (1, .class_ 17), (1, u site_211.cls), (0, u "isPnCharsBase"), (0, u "(I)Z")] 65

def k2m0 : Method := { name := "<init>", desc := "()V", sig := { parameters := [], returnType := none }, accessFlags := 2, code := none }
def k2c1 : Code := { maxStack := 2, maxLocals := 1, code := prog_91_method_2_code, exceptionTable := #[], attributes := #[] }
def k2m1 : Method := { name := "isPnCharsBase", desc := "(I)Z", sig := { parameters := [.int], returnType := some .boolean }, accessFlags := 9, code := some k2c1 }
def k2 : Class := { plain site_211.cls (some 0) with
  accessFlags := 49
  interfaces := #[]
  cf := some (fileOf pool2 15 #[] #[{ accessFlags := 2, nameIndex := 5, descriptorIndex := 6, attributes := #[] }, { accessFlags := 9, nameIndex := 18, descriptorIndex := 19, attributes := #[] }] 49 2 #[] #[])
  fields := #[]
  methods := #[k2m0, k2m1]
  instanceTypes := #[]
  staticTypes := #[]
  resolved := Array.replicate 85 none
  statics := none }

def pool3 : Array CpInfo := pool [(1, u "java/lang/Cloneable"), (0, .class_ 1), (0, u "java/lang/Object"), (0, .class_ 3)] 3

/-- java/lang/Cloneable -/
def k3 : Class := { plain "java/lang/Cloneable" (some 0) with
  accessFlags := 1537
  interfaces := #[]
  cf := some (fileOf pool3 2 #[] #[] 1537 4 #[] #[])
  fields := #[]
  methods := #[]
  instanceTypes := #[]
  staticTypes := #[]
  resolved := Array.replicate 8 none
  statics := none }

def pool4 : Array CpInfo := pool [(1, u "java/io/Serializable"), (0, .class_ 1), (0, u "java/lang/Object"), (0, .class_ 3)] 3

/-- java/io/Serializable -/
def k4 : Class := { plain "java/io/Serializable" (some 0) with
  accessFlags := 1537
  interfaces := #[]
  cf := some (fileOf pool4 2 #[] #[] 1537 4 #[] #[])
  fields := #[]
  methods := #[]
  instanceTypes := #[]
  staticTypes := #[]
  resolved := Array.replicate 8 none
  statics := none }

/-- the primitive byte -/
def k5 : Class := { plain "byte" none with kind := .primitive 'B', accessFlags := 0x411 }
/-- [B -/
def k6 : Class := { plain "[B" (some 0) with kind := .array 5 .byte, interfaces := #[3, 4], accessFlags := 1041 }

/-- the primitive int -/
def k7 : Class := { plain "int" none with kind := .primitive 'I', accessFlags := 0x411 }
/-- [I -/
def k8 : Class := { plain "[I" (some 0) with kind := .array 7 .int, interfaces := #[3, 4], accessFlags := 1041 }

def heap : Heap := #[]
def classes : Array Class := #[k0, k1, k2, k3, k4, k5, k6, k7, k8]
def interned : List (Array UInt16 × Addr) := []
def slotsUsed : Nat := 0
def theMethod : MethodId := ⟨1, 2⟩
def args0 : Array Value := #[.int 5, .int 5, .int 5]
def aboutOver (below : List Frame) : State where
  vm := { classes := classes, interned := interned.toArray }
  heap := heap
  slotsUsed := slotsUsed
  threads := #[{ frames := .invoking theMethod args0 :: below }]
def below0 : List Frame := [.native { method := ⟨0, 0⟩, args := #[] }]
def about1 : State := aboutOver below0
def p0 : Program := .bare "" "" ""
def e0 : Env := launch0.env 0 0 0
theorem w_frames : about1.frames = Frame.invoking theMethod args0 :: below0 := rfl
set_option maxRecDepth 65536 in
theorem w_args : argsFit about1.vm theMethod args0 = true := by decide +kernel
set_option maxRecDepth 65536 in
theorem w_heap : heapFits about1 = true := by decide +kernel
set_option maxRecDepth 65536 in
theorem w_runnable : about1.curStatus? = some .runnable := by decide +kernel
set_option maxRecDepth 65536 in
theorem w_alone : about1.alone = true := by decide +kernel
set_option maxRecDepth 65536 in
theorem w_named : about1.methodNamed? x = some theMethod := by decide +kernel
set_option maxRecDepth 65536 in
theorem w_hears : about1.hears theMethod below0 = true := by decide +kernel
set_option maxRecDepth 65536 in
theorem w_ripe : about1.ripe theMethod args0 below0 = true := by decide +kernel
theorem w_running : about1.status = .running := rfl
set_option maxRecDepth 65536 in
theorem w_room : about1.hasRoom e0.platform room_1 = true :=
  launch0.hasRoom_least _ room_1 (by decide +kernel) (by decide +kernel) (by decide +kernel) (by decide +kernel) (by decide +kernel) (by decide +kernel)
theorem allAtoms_all (ts : List Jvm.Cond) (a : Array Jvm.Value) (st : Jvm.State) : (allAtoms ts).before a st = ts.all (fun c => c.before a st) := by
  induction ts with
  | nil => rfl
  | cons c t ih =>
    show (Jvm.Cond.and c (allAtoms t)).before a st = _
    rw [Jvm.Cond.before_and, ih, List.all_cons]
def words1 : List Jvm.Cond := Jvm.Cond.code x code maxLocals ret :: tables_1
/-- a 'code' word, met by the world's own term for the bytes: nothing is compared byte by byte -/
theorem code_word {y : MethodName} {bytes : ByteArray} {mx : Nat} {rt : Option FieldType} {a : Array Value} {s : State} {m : MethodId} {meth : Method} {c : Code} (h1 : s.methodNamed? y = some m) (h2 : s.vm.method? m = some meth) (h3 : meth.code = some c) (h4 : c.code = bytes)
    (h5 : (c.maxLocals == mx && c.exceptionTable.isEmpty && decide (c.maxStack ≤ mostOperands) && decide (meth.sig.returnType = rt) && !meth.locks && decide (parseMethodDescriptor y.desc = some meth.sig)) = true) : (Jvm.Cond.code y bytes mx rt).before a s = true := by
  simp only [Bool.and_eq_true, beq_iff_eq, Bool.not_eq_true', decide_eq_true_eq] at h5
  obtain ⟨⟨⟨⟨⟨g1, g2⟩, g3⟩, g4⟩, g5⟩, g6⟩ := h5
  simp [Cond.before, Cond.holds, Cond.value, h1, h2, h3, h4, g1, g2, g3, g4, g5, g6]
def isCode : Jvm.Cond → Bool
  | .code _ _ _ _ => true
  | _ => false
theorem all_split {L : List Jvm.Cond} {P : Jvm.Cond → Bool} (h1 : L.all (fun c => isCode c || P c) = true) (h2 : ∀ c ∈ L.filter isCode, P c = true) : L.all P = true := by
  refine List.all_eq_true.mpr fun c hc => ?_
  have h := List.all_eq_true.mp h1 c hc
  rcases Bool.eq_false_or_eq_true (isCode c) with hi | hi
  · exact h2 c (List.mem_filter.mpr ⟨hc, hi⟩)
  · simpa [hi] using h
set_option maxRecDepth 65536 in
theorem w_c0 : (Jvm.Cond.code x code maxLocals ret).before args0 about1 = true := code_word (m := ⟨1, 2⟩) (meth := k1m2) (c := k1c2) (by decide +kernel) rfl rfl rfl (by decide +kernel)
set_option maxRecDepth 65536 in
theorem w_c1 : (Jvm.Cond.code ({ cls := site_211.cls, name := "isPnCharsBase", desc := "(I)Z" } : Jvm.MethodName) prog_91_method_2_code (1 : Nat) (Option.some Jvm.ClassFile.FieldType.boolean)).before args0 about1 = true := code_word (m := ⟨2, 1⟩) (meth := k2m1) (c := k2c1) (by decide +kernel) rfl rfl rfl (by decide +kernel)
set_option maxRecDepth 65536 in
theorem w_c2 : (Jvm.Cond.code ({ cls := x.cls, name := "ref", desc := "(I)Z" } : Jvm.MethodName) method_2_code (1 : Nat) (Option.some Jvm.ClassFile.FieldType.boolean)).before args0 about1 = true := code_word (m := ⟨1, 1⟩) (meth := k1m1) (c := k1c1) (by decide +kernel) rfl rfl rfl (by decide +kernel)
def codes1 : List Jvm.Cond := [Jvm.Cond.code x code maxLocals ret, Jvm.Cond.code ({ cls := site_211.cls, name := "isPnCharsBase", desc := "(I)Z" } : Jvm.MethodName) prog_91_method_2_code (1 : Nat) (Option.some Jvm.ClassFile.FieldType.boolean), Jvm.Cond.code ({ cls := x.cls, name := "ref", desc := "(I)Z" } : Jvm.MethodName) method_2_code (1 : Nat) (Option.some Jvm.ClassFile.FieldType.boolean)]
set_option maxRecDepth 65536 in
theorem codes_eq : words1.filter isCode = codes1 := rfl
theorem w_codes : ∀ c ∈ words1.filter isCode, c.before args0 about1 = true := by
  rw [codes_eq]
  intro c hc
  simp only [codes1, List.mem_cons, List.not_mem_nil, or_false] at hc
  rcases hc with rfl | rfl | rfl
  · exact w_c0
  · exact w_c1
  · exact w_c2
set_option maxRecDepth 65536 in
theorem w_t1 : (words1.take 24).all (fun c => isCode c || c.before args0 about1) = true := by decide +kernel
set_option maxRecDepth 65536 in
theorem w_t2 : (words1.drop 24).all (fun c => isCode c || c.before args0 about1) = true := by decide +kernel
theorem w_tables : (allAtoms (Jvm.Cond.code x code maxLocals ret :: tables_1)).before args0 about1 = true := by
  rw [allAtoms_all]
  show words1.all (fun c => c.before args0 about1) = true
  refine all_split ?_ w_codes
  rw [← List.take_append_drop 24 words1, List.all_append, w_t1, w_t2]
  rfl
set_option maxRecDepth 65536 in
theorem w_case : (Jvm.Cond.and given_1 narrow_1).before args0 about1 = true := by decide +kernel
theorem w_applies : (headSpec (Jvm.Cond.code x code maxLocals ret :: tables_1) room_1).applies x e0.platform about1 = true :=
  (Spec.applies_iff w_frames).mpr ⟨w_running, w_runnable, w_alone, w_named, w_hears, w_ripe, w_room, w_tables⟩
theorem atStart : AtStart classFile x code maxLocals ret World_1 tables_1 room_1 Calls_1 rest_1 Pre_1 launch0 p0 e0 about1 theMethod args0 below0 :=
  ⟨lists_1, trivial, launch0.admits_env _ _ _, launch0.least_env, fairChoices_fair.cas, fairChoices_fair.clock, w_frames, w_args, w_heap, w_applies, trivial, trivial, w_case⟩
end start1
theorem witness_1 : WitnessClaimed_1 := ⟨start1.p0, start1.e0, start1.about1, start1.theMethod, start1.args0, start1.below0, start1.atStart⟩
end Jvm.Pilot.@@N@@
