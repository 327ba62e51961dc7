import JvmDerived
import JvmDerived.Pilot.@@N@@Statement
import JvmDerived.Pilot.@@N@@Code
set_option linter.unusedVariables false
set_option linter.unusedSimpArgs false
namespace Jvm.Pilot.@@N@@
open Jvm Jvm.ClassFile Sem Op Lib Jvm.Free Jvm.Stand Jvm.LawKit Jvm.RoadKit Bundle Jvm.Pilot.@@N@@.Jvm.D
/-! Own kit. own_Fin: from this frame the run comes to the method's end, and Q holds of what it leaves. -/
def own_Fin (p : Program) (e : Env) (below : List Frame) (s : State) (Q : Option Value → Heap → List Loc → Prop) (cl sl : Nat) (T : State) (f : JFrame) : Prop :=
  ∃ s₂ o, Steps p.tables e below (T.setTop f) s₂ ∧ s₂.status = .running ∧ Ended s₂ below o ∧ (∃ v L, o = .returned v ∧ Q v s₂.heap L ∧ FrameEnd s o s₂ L cl sl)
section OwnKit
variable {p : Program} {l : Launch} {e : Env} {R : Room} {s : State} {m : MethodId} {args : Array Value} {below : List Frame} {meth : Method} {c : Code} {T : State} {locs : List Loc} {cells slots : Nat} {Q : Option Value → Heap → List Loc → Prop} {cl sl : Nat} {Z : State} {a0 : Array Value} {h h' : Heap} {a b : Addr}
theorem own_step {T' : State} {f f' : JFrame} (k : ∀ t, Steps p.tables e below (T'.setTop f') t → Steps p.tables e below (T.setTop f) t) (r : own_Fin p e below s Q cl sl T' f') : own_Fin p e below s Q cl sl T f := by
  obtain ⟨s₂, o, h1, h2⟩ := r
  exact ⟨s₂, o, k _ h1, h2⟩
theorem own_stepT {T' : State} {f f' : JFrame} (k : Steps p.tables e below (T.setTop f) (T'.setTop f')) (r : own_Fin p e below s Q cl sl T' f') : own_Fin p e below s Q cl sl T f := by
  obtain ⟨s₂, o, h1, h2⟩ := r
  exact ⟨s₂, o, k.trans h1, h2⟩
theorem own_retZ (X : Stand p l e R s m args below meth c T locs cells slots) (hx : p.tables.exec = Jvm.exec) (hlocks : meth.locks = false) (hret : meth.sig.returnType = some .boolean) {pc : Nat} {Ls : Array Slot} {z z' : Int32} {rest : List Value} (hd : decode c.code pc = .ok (.ireturn, 1))
    (hn : nar .boolean z = z') (hc : cells ≤ cl) (hs : slots ≤ sl) (hT : T.heap = h) (hq : Q (some (.int z')) h locs) : own_Fin p e below s Q cl sl T (mkF m pc Ls (.int z :: rest)) := by
  subst hn hT
  obtain ⟨fs, hr, hrun, hended, hW, hsame⟩ := X.leave (v := some (.int (nar .boolean z))) (fun h => by rw [hret] at h; cases h)
  exact ⟨_, _, retN X hx hret (by simp) hd hr, hrun, hended, _, _, rfl, hq, ⟨_, rfl⟩, hW, hsame.mono hc hs⟩
theorem own_retI (X : Stand p l e R s m args below meth c T locs cells slots) (hx : p.tables.exec = Jvm.exec) (hlocks : meth.locks = false) (hret : meth.sig.returnType = some .int) {pc : Nat} {Ls : Array Slot} {z : Int32} {rest : List Value} (hd : decode c.code pc = .ok (.ireturn, 1))
    (hc : cells ≤ cl) (hs : slots ≤ sl) (hT : T.heap = h) (hq : Q (some (.int z)) h locs) : own_Fin p e below s Q cl sl T (mkF m pc Ls (.int z :: rest)) := by
  subst hT
  obtain ⟨fs, hr, hrun, hended, hW, hsame⟩ := X.leave (v := some (.int z)) (fun h => by rw [hret] at h; cases h)
  refine ⟨_, _, ?_, hrun, hended, _, _, rfl, hq, ⟨_, rfl⟩, hW, hsame.mono hc hs⟩
  have hm' : T.vm.method? m = some meth := X.method'
  have hn : narrow .int (.int z) = .int z := rfl
  show Steps p.tables e below (T.setTop { method := m, pc := pc, locals := Ls, stack := _ :: rest, locked := none }) _
  jvm_step X.here [X.here.top, hx, hd, hm', hret, hn]
  first | (intro acts; rw [hr _ acts rfl rfl rfl]) | rw [hr _ _ rfl rfl rfl]
  exact Steps.refl _
theorem own_retJ (X : Stand p l e R s m args below meth c T locs cells slots) (hx : p.tables.exec = Jvm.exec) (hlocks : meth.locks = false) (hret : meth.sig.returnType = some .long) {pc : Nat} {Ls : Array Slot} {z : Int64} (hd : decode c.code pc = .ok (.lreturn, 1))
    (hc : cells ≤ cl) (hs : slots ≤ sl) (hT : T.heap = h) (hq : Q (some (.long z)) h locs) : own_Fin p e below s Q cl sl T (mkF m pc Ls [.long z]) := by
  subst hT
  obtain ⟨fs, hr, hrun, hended, hW, hsame⟩ := X.leave (v := some (.long z)) (fun h => by rw [hret] at h; cases h)
  exact ⟨_, _, X.lreturnOut hx hret hd hr, hrun, hended, _, _, rfl, hq, ⟨_, rfl⟩, hW, hsame.mono hc hs⟩
theorem own_retV (X : Stand p l e R s m args below meth c T locs cells slots) (hx : p.tables.exec = Jvm.exec) (hlocks : meth.locks = false) (hret : meth.sig.returnType = none) {pc : Nat} {Ls : Array Slot} (hd : decode c.code pc = .ok (.return_, 1))
    (hc : cells ≤ cl) (hs : slots ≤ sl) (hT : T.heap = h) (hq : Q none h locs) : own_Fin p e below s Q cl sl T (mkF m pc Ls []) := by
  subst hT
  obtain ⟨fs, hr, hrun, hended, hW, hsame⟩ := X.leave (v := none) (fun _ => rfl)
  exact ⟨_, _, X.returnOut hx hret hd hr, hrun, hended, _, _, rfl, hq, ⟨_, rfl⟩, hW, hsame.mono hc hs⟩
theorem own_retR (X : Stand p l e R s m args below meth c T locs cells slots) (hx : p.tables.exec = Jvm.exec) (hlocks : meth.locks = false) {t : FieldType} (hret : meth.sig.returnType = some t) (ht : t.isReference = true) {pc : Nat} {Ls : Array Slot} {z : Value} (hz : z.isRef = true) (hd : decode c.code pc = .ok (.areturn, 1))
    (hc : cells ≤ cl) (hs : slots ≤ sl) (hT : T.heap = h) (hq : Q (some z) h locs) : own_Fin p e below s Q cl sl T (mkF m pc Ls [z]) := by
  subst hT
  obtain ⟨fs, hr, hrun, hended, hW, hsame⟩ := X.leave (v := some z) (fun h => by rw [hret] at h; cases h)
  refine ⟨_, _, ?_, hrun, hended, _, _, rfl, hq, ⟨_, rfl⟩, hW, hsame.mono hc hs⟩
  have hm' : T.vm.method? m = some meth := X.method'
  jvm_step X.here [X.here.top, hx, hd, hm', hret, ht, hz]
  first | (intro acts; rw [hr _ acts rfl rfl rfl]) | rw [hr _ _ rfl rfl rfl]
  exact Steps.refl _
/-! comparisons, said over Int -/
theorem own_cl {x y : Int32} {a b : Int} (ha : x.toInt = a) (hb : y.toInt = b) (h : a < b) : if_icmp.holds .lt x y = true ∧ if_icmp.holds .ge x y = false ∧ if_icmp.holds .gt y x = true ∧ if_icmp.holds .le y x = false := tlt (by rw [Int32.lt_iff_toInt_lt, ha, hb]; exact h)
theorem own_cn {x y : Int32} {a b : Int} (ha : x.toInt = a) (hb : y.toInt = b) (h : ¬ a < b) : if_icmp.holds .lt x y = false ∧ if_icmp.holds .ge x y = true ∧ if_icmp.holds .gt y x = false ∧ if_icmp.holds .le y x = true := flt (by rw [Int32.lt_iff_toInt_lt, ha, hb]; exact h)
theorem own_ce {x y : Int32} {a b : Int} (ha : x.toInt = a) (hb : y.toInt = b) (h : a = b) : if_icmp.holds .eq x y = true ∧ if_icmp.holds .ne x y = false := teq (by rw [← Int32.toInt_inj, ha, hb]; exact h)
theorem own_cu {x y : Int32} {a b : Int} (ha : x.toInt = a) (hb : y.toInt = b) (h : ¬ a = b) : if_icmp.holds .eq x y = false ∧ if_icmp.holds .ne x y = true := feq (by rw [← Int32.toInt_inj, ha, hb]; exact h)
theorem own_ll {x y : Int64} {a b : Int} (ha : x.toInt = a) (hb : y.toInt = b) (h : a < b) : ifCond.holds .lt (lcmpW x y) = true ∧ ifCond.holds .ge (lcmpW x y) = false ∧ ifCond.holds .gt (lcmpW y x) = true ∧ ifCond.holds .le (lcmpW y x) = false := by
  have q : x < y := by rw [Int64.lt_iff_toInt_lt, ha, hb]; exact h
  have h1 := tlt ((lw_lt x y).mpr q)
  have h2 := tlt ((lw_gt y x).mpr q)
  exact ⟨(if0 _ _).trans h1.1, (if0 _ _).trans h1.2.1, (if0 _ _).trans h2.2.2.1, (if0 _ _).trans h2.2.2.2⟩
theorem own_ln {x y : Int64} {a b : Int} (ha : x.toInt = a) (hb : y.toInt = b) (h : ¬ a < b) : ifCond.holds .lt (lcmpW x y) = false ∧ ifCond.holds .ge (lcmpW x y) = true ∧ ifCond.holds .gt (lcmpW y x) = false ∧ ifCond.holds .le (lcmpW y x) = true := by
  have q : ¬ x < y := by rw [Int64.lt_iff_toInt_lt, ha, hb]; exact h
  have h1 := flt (fun r => q ((lw_lt x y).mp r))
  have h2 := flt (fun r => q ((lw_gt y x).mp r))
  exact ⟨(if0 _ _).trans h1.1, (if0 _ _).trans h1.2.1, (if0 _ _).trans h2.2.2.1, (if0 _ _).trans h2.2.2.2⟩
theorem own_le {x y : Int64} {a b : Int} (ha : x.toInt = a) (hb : y.toInt = b) (h : a = b) : ifCond.holds .eq (lcmpW x y) = true ∧ ifCond.holds .ne (lcmpW x y) = false := by
  have q : x = y := by rw [← Int64.toInt_inj, ha, hb]; exact h
  have h1 := teq ((lw_eq x y).mpr q)
  exact ⟨(if0 _ _).trans h1.1, (if0 _ _).trans h1.2⟩
theorem own_lu {x y : Int64} {a b : Int} (ha : x.toInt = a) (hb : y.toInt = b) (h : ¬ a = b) : ifCond.holds .eq (lcmpW x y) = false ∧ ifCond.holds .ne (lcmpW x y) = true := by
  have q : ¬ x = y := by rw [← Int64.toInt_inj, ha, hb]; exact h
  have h1 := feq (fun r => q ((lw_eq x y).mp r))
  exact ⟨(if0 _ _).trans h1.1, (if0 _ _).trans h1.2⟩
/-! a boolean as an int -/
abbrev own_B (r : Int32) (P : Prop) : Prop := (r.toInt = 1 ∧ P) ∨ (r.toInt = 0 ∧ ¬ P)
theorem own_B1 {P : Prop} (h : P) : own_B 1 P := Or.inl ⟨rfl, h⟩
theorem own_B0 {P : Prop} (h : ¬ P) : own_B 0 P := Or.inr ⟨rfl, h⟩
theorem own_B.lit {r : Int32} {P : Prop} (H : own_B r P) : (r = 1 ∧ P) ∨ (r = 0 ∧ ¬ P) := by
  rcases H with ⟨q, h⟩ | ⟨q, h⟩
  · exact Or.inl ⟨Int32.toInt_inj.mp q, h⟩
  · exact Or.inr ⟨Int32.toInt_inj.mp q, h⟩
/-! arrays: their length and what each place holds -/
def own_A (Z : State) (h : Heap) (a : Addr) (ty : FieldType) (n : Nat) (f : Nat → Value) : Prop := ∃ c : Cell, Arr Z h a c ty ∧ c.slots.size = n ∧ ∀ i, i < n → c.slots[i]? = some (f i)
def own_AI (Z : State) (h : Heap) (a : Addr) (ty : FieldType) (n : Nat) (f : Nat → Int32) : Prop := own_A Z h a ty n (fun i => .int (f i))
def own_AJ (Z : State) (h : Heap) (a : Addr) (n : Nat) (f : Nat → Int64) : Prop := own_A Z h a .long n (fun i => .long (f i))
variable {ty : FieldType} {n : Nat} {fv : Nat → Value} {fi : Nat → Int32} {fj : Nat → Int64}
theorem own_A.lt (F : own_A Z h a ty n fv) : a < h.size := by obtain ⟨c, A, -⟩ := F; exact A.lt
theorem own_A.ext (F : own_A Z h a ty n fv) (E : Ext h h') : own_A Z h' a ty n fv := by obtain ⟨c, A, r⟩ := F; exact ⟨c, A.ext E, r⟩
theorem own_A.other {sl : Nat} {v : Value} (F : own_A Z h a ty n fv) (W : Wr h h' b sl v) (q : a ≠ b) : own_A Z h' a ty n fv := by obtain ⟨c, A, r⟩ := F; exact ⟨c, A.other W q, r⟩
theorem own_A.keep {ws : List Addr} (F : own_A Z h a ty n fv) (K : Keep h h' ws) (q : a ∉ ws) : own_A Z h' a ty n fv := by obtain ⟨c, A, r⟩ := F; exact ⟨c, ⟨K.2.1 a c A.1 q, A.2⟩, r⟩
theorem own_A.congr {gv : Nat → Value} (F : own_A Z h a ty n fv) (q : ∀ i, i < n → fv i = gv i) : own_A Z h a ty n gv := by obtain ⟨c, A, r, t⟩ := F; exact ⟨c, A, r, fun i hi => by rw [t i hi, q i hi]⟩
theorem own_A.set {j : Nat} {v : Value} (F : own_A Z h a ty n fv) (W : Wr h h' a j v) : own_A Z h' a ty n (fun i => if i = j then v else fv i) := by
  obtain ⟨c, A, r, t⟩ := F
  have W0 := W
  obtain ⟨c2, h1, -, h3, -⟩ := W0
  have ec : c2 = c := Option.some.inj (h1.symm.trans A.1)
  subst ec
  refine ⟨_, A.same W, by rw [sz_set]; exact r, fun i hi => ?_⟩
  by_cases q : i = j
  · subst q; simp [Cell.setSlot, h3]
  · simp only [q, if_false]; rw [← t i hi]; simp only [Cell.setSlot]; exact Array.getElem?_setIfInBounds_ne fun z => q z.symm
theorem own_A.new {k : ClassId} {z : Int32} (A : Arr Z h a (newA k ty z) ty) (q : z.toNatClampNeg = n) : own_A Z h a ty n (fun _ => defaultValue ty) := by
  subst q
  exact ⟨_, A, sz_new _ _ _, fun i hi => by simp [newA, hi]⟩
theorem own_AI.lt (F : own_AI Z h a ty n fi) : a < h.size := own_A.lt F
theorem own_AI.ext (F : own_AI Z h a ty n fi) (E : Ext h h') : own_AI Z h' a ty n fi := own_A.ext F E
theorem own_AI.other {sl : Nat} {v : Value} (F : own_AI Z h a ty n fi) (W : Wr h h' b sl v) (q : a ≠ b) : own_AI Z h' a ty n fi := own_A.other F W q
theorem own_AI.keep {ws : List Addr} (F : own_AI Z h a ty n fi) (K : Keep h h' ws) (q : a ∉ ws) : own_AI Z h' a ty n fi := own_A.keep F K q
theorem own_AI.congr {gi : Nat → Int32} (F : own_AI Z h a ty n fi) (q : ∀ i, i < n → fi i = gi i) : own_AI Z h a ty n gi := own_A.congr F fun i hi => by rw [q i hi]
theorem own_AI.set {j : Nat} {x : Int32} (F : own_AI Z h a ty n fi) (W : Wr h h' a j (.int x)) : own_AI Z h' a ty n (fun i => if i = j then x else fi i) := (own_A.set F W).congr fun i _ => by by_cases q : i = j <;> simp [q]
theorem own_AI.newI {k : ClassId} {z : Int32} (A : Arr Z h a (newA k .int z) .int) (q : z.toNatClampNeg = n) : own_AI Z h a .int n (fun _ => 0) := own_A.new A q
theorem own_AI.newB {k : ClassId} {z : Int32} (A : Arr Z h a (newA k .byte z) .byte) (q : z.toNatClampNeg = n) : own_AI Z h a .byte n (fun _ => 0) := own_A.new A q
theorem own_AJ.lt (F : own_AJ Z h a n fj) : a < h.size := own_A.lt F
theorem own_AJ.ext (F : own_AJ Z h a n fj) (E : Ext h h') : own_AJ Z h' a n fj := own_A.ext F E
theorem own_AJ.other {sl : Nat} {v : Value} (F : own_AJ Z h a n fj) (W : Wr h h' b sl v) (q : a ≠ b) : own_AJ Z h' a n fj := own_A.other F W q
theorem own_AJ.keep {ws : List Addr} (F : own_AJ Z h a n fj) (K : Keep h h' ws) (q : a ∉ ws) : own_AJ Z h' a n fj := own_A.keep F K q
theorem own_AJ.congr {gj : Nat → Int64} (F : own_AJ Z h a n fj) (q : ∀ i, i < n → fj i = gj i) : own_AJ Z h a n gj := own_A.congr F fun i hi => by rw [q i hi]
theorem own_AJ.set {j : Nat} {x : Int64} (F : own_AJ Z h a n fj) (W : Wr h h' a j (.long x)) : own_AJ Z h' a n (fun i => if i = j then x else fj i) := (own_A.set F W).congr fun i _ => by by_cases q : i = j <;> simp [q]
theorem own_AJ.new {k : ClassId} {z : Int32} (A : Arr Z h a (newA k .long z) .long) (q : z.toNatClampNeg = n) : own_AJ Z h a n (fun _ => 0) := own_A.new A q
theorem own_in {j : Int32} {k n : Nat} (hj : j.toInt = (k : Int)) (hk : k < n) : j.toNatClampNeg = k ∧ ¬ (j < 0 ∨ n ≤ j.toNatClampNeg) := by
  have q : j.toNatClampNeg = k := by simp only [Int32.toNatClampNeg, hj]; omega
  refine ⟨q, fun z => ?_⟩
  rcases z with z | z
  · rw [Int32.lt_iff_toInt_lt, hj] at z
    have : (0 : Int32).toInt = 0 := rfl
    omega
  · omega
theorem own_iaload (X : Stand p l e R s m args below meth c T locs cells slots) (hx : p.tables.exec = Jvm.exec) (hZ : Z.Warmed39 s.vm) (eT : T.heap = h) (F : own_AI Z h a .int n fi) {j : Int32} {k : Nat} (hj : j.toInt = (k : Int)) (hk : k < n) {v : Int32} (hv : fi k = v) {pc pc' : Nat} {Ls : Array Slot} {rest : List Value}
    (hd : decode c.code pc = .ok (.iaload, 1)) (hp : pc + 1 = pc') (r : own_Fin p e below s Q cl sl T (mkF m pc' Ls (.int v :: rest))) : own_Fin p e below s Q cl sl T (mkF m pc Ls (.int j :: .ref a :: rest)) := by
  obtain ⟨cc, A, h1, h2⟩ := F
  obtain ⟨q1, q2⟩ := own_in hj hk
  subst hp hv
  exact own_step (fun t k' => X.iaload hx (j := j) (v := .int (fi k)) (by rw [eT]; exact A.1) (State.isArrayOf_alike hZ.alike A.2.1) A.2.2 (by rw [h1]; exact q2) (by rw [q1]; exact h2 k hk) (g := mkF m pc Ls (.int j :: .ref a :: rest)) rfl rfl hd _ k') r
theorem own_baload (X : Stand p l e R s m args below meth c T locs cells slots) (hx : p.tables.exec = Jvm.exec) (hZ : Z.Warmed39 s.vm) (eT : T.heap = h) (F : own_AI Z h a .byte n fi) {j : Int32} {k : Nat} (hj : j.toInt = (k : Int)) (hk : k < n) {v : Int32} (hv : fi k = v) {pc pc' : Nat} {Ls : Array Slot} {rest : List Value}
    (hd : decode c.code pc = .ok (.baload, 1)) (hp : pc + 1 = pc') (r : own_Fin p e below s Q cl sl T (mkF m pc' Ls (.int v :: rest))) : own_Fin p e below s Q cl sl T (mkF m pc Ls (.int j :: .ref a :: rest)) := by
  obtain ⟨cc, A, h1, h2⟩ := F
  obtain ⟨q1, q2⟩ := own_in hj hk
  subst hp hv
  exact own_step (fun t k' => X.baloadBytes hx (j := j) (v := .int (fi k)) (by rw [eT]; exact A.1) (State.isArrayOf_alike hZ.alike A.2.1) A.2.2 (by rw [h1]; exact q2) (by rw [q1]; exact h2 k hk) (g := mkF m pc Ls (.int j :: .ref a :: rest)) rfl rfl hd _ k') r
theorem own_laload (X : Stand p l e R s m args below meth c T locs cells slots) (hx : p.tables.exec = Jvm.exec) (hZ : Z.Warmed39 s.vm) (eT : T.heap = h) (F : own_AJ Z h a n fj) {j : Int32} {k : Nat} (hj : j.toInt = (k : Int)) (hk : k < n) {v : Int64} (hv : fj k = v) {pc pc' : Nat} {Ls : Array Slot} {rest : List Value}
    (hd : decode c.code pc = .ok (.laload, 1)) (hp : pc + 1 = pc') (r : own_Fin p e below s Q cl sl T (mkF m pc' Ls (.long v :: rest))) : own_Fin p e below s Q cl sl T (mkF m pc Ls (.int j :: .ref a :: rest)) := by
  obtain ⟨cc, A, h1, h2⟩ := F
  obtain ⟨q1, q2⟩ := own_in hj hk
  subst hp hv
  exact own_step (fun t k' => X.laload hx (j := j) (v := .long (fj k)) (by rw [eT]; exact A.1) (State.isArrayOf_alike hZ.alike A.2.1) A.2.2 (by rw [h1]; exact q2) (by rw [q1]; exact h2 k hk) (g := mkF m pc Ls (.int j :: .ref a :: rest)) rfl rfl hd _ k') r
theorem own_arrlen (X : Stand p l e R s m args below meth c T locs cells slots) (hx : p.tables.exec = Jvm.exec) (hZ : Z.Warmed39 s.vm) (eT : T.heap = h) (F : own_A Z h a ty n fv) {z : Int32} (hz : n.toInt32 = z) {pc pc' : Nat} {Ls : Array Slot} {rest : List Value}
    (hd : decode c.code pc = .ok (.arraylength, 1)) (hp : pc + 1 = pc') (r : own_Fin p e below s Q cl sl T (mkF m pc' Ls (.int z :: rest))) : own_Fin p e below s Q cl sl T (mkF m pc Ls (.ref a :: rest)) := by
  obtain ⟨cc, A, h1, h2⟩ := F
  subst hp hz
  exact own_step (fun t k' => X.arraylength hx (by rw [eT]; exact A.1) (State.isArrayOf_alike hZ.alike A.2.1) (g := mkF m pc Ls (.ref a :: rest)) rfl rfl hd _ (by rw [h1]; exact k')) r
theorem own_iastore (X : Stand p l e R s m args below meth c T locs cells slots) (hx : p.tables.exec = Jvm.exec) (hZ : Z.Warmed39 s.vm) (eT : T.heap = h) (F : own_AI Z h a .int n fi) {j : Int32} {k : Nat} (hj : j.toInt = (k : Int)) (hk : k < n) {x : Int32} {pc pc' : Nat} {Ls : Array Slot} {rest : List Value}
    (hd : decode c.code pc = .ok (.iastore, 1)) (hp : pc + 1 = pc') :
    ∃ T' h', Stand p l e R s m args below meth c T' (locs ++ [⟨a, k⟩]) cells slots ∧ T'.heap = h' ∧ Wr h h' a k (.int x) ∧ own_AI Z h' a .int n (fun i => if i = k then x else fi i) ∧ ∀ t, Steps p.tables e below (T'.setTop (mkF m pc' Ls rest)) t → Steps p.tables e below (T.setTop (mkF m pc Ls (.int x :: .int j :: .ref a :: rest))) t := by
  obtain ⟨q1, q2⟩ := own_in hj hk
  have F' := F
  obtain ⟨cc, A, h1, h2⟩ := F
  subst hp q1
  obtain ⟨T', h', X', e', W', st⟩ := stI X hx hZ eT A (j := j) (x := x) (by rw [h1]; exact q2) (g := mkF m pc Ls (.int x :: .int j :: .ref a :: rest)) rfl rfl hd
  exact ⟨T', h', X', e', W', F'.set W', st⟩
theorem own_bastore (X : Stand p l e R s m args below meth c T locs cells slots) (hx : p.tables.exec = Jvm.exec) (hZ : Z.Warmed39 s.vm) (eT : T.heap = h) (F : own_AI Z h a .byte n fi) {j : Int32} {k : Nat} (hj : j.toInt = (k : Int)) (hk : k < n) {x y : Int32} (hn : nar .byte x = y) {pc pc' : Nat} {Ls : Array Slot} {rest : List Value}
    (hd : decode c.code pc = .ok (.bastore, 1)) (hp : pc + 1 = pc') :
    ∃ T' h', Stand p l e R s m args below meth c T' (locs ++ [⟨a, k⟩]) cells slots ∧ T'.heap = h' ∧ Wr h h' a k (.int y) ∧ own_AI Z h' a .byte n (fun i => if i = k then y else fi i) ∧ ∀ t, Steps p.tables e below (T'.setTop (mkF m pc' Ls rest)) t → Steps p.tables e below (T.setTop (mkF m pc Ls (.int x :: .int j :: .ref a :: rest))) t := by
  obtain ⟨q1, q2⟩ := own_in hj hk
  have F' := F
  obtain ⟨cc, A, h1, h2⟩ := F
  subst hp q1 hn
  obtain ⟨T', h', X', e', W', st⟩ := stB X hx hZ eT A (j := j) (x := x) (by rw [h1]; exact q2) (g := mkF m pc Ls (.int x :: .int j :: .ref a :: rest)) rfl rfl hd
  exact ⟨T', h', X', e', W', F'.set W', st⟩
theorem own_lastore (X : Stand p l e R s m args below meth c T locs cells slots) (hx : p.tables.exec = Jvm.exec) (hZ : Z.Warmed39 s.vm) (eT : T.heap = h) (F : own_AJ Z h a n fj) {j : Int32} {k : Nat} (hj : j.toInt = (k : Int)) (hk : k < n) {x : Int64} {pc pc' : Nat} {Ls : Array Slot} {rest : List Value}
    (hd : decode c.code pc = .ok (.lastore, 1)) (hp : pc + 1 = pc') :
    ∃ T' h', Stand p l e R s m args below meth c T' (locs ++ [⟨a, k⟩]) cells slots ∧ T'.heap = h' ∧ Wr h h' a k (.long x) ∧ own_AJ Z h' a n (fun i => if i = k then x else fj i) ∧ ∀ t, Steps p.tables e below (T'.setTop (mkF m pc' Ls rest)) t → Steps p.tables e below (T.setTop (mkF m pc Ls (.long x :: .int j :: .ref a :: rest))) t := by
  obtain ⟨q1, q2⟩ := own_in hj hk
  have F' := F
  obtain ⟨cc, A, h1, h2⟩ := F
  subst hp q1
  obtain ⟨T', h', X', e', W', st⟩ := stJ X hx hZ eT A (j := j) (x := x) (by rw [h1]; exact q2) (g := mkF m pc Ls (.long x :: .int j :: .ref a :: rest)) rfl rfl hd
  exact ⟨T', h', X', e', W', F'.set W', st⟩
theorem own_nar8 (x : Int32) : nar .byte x.toInt8.toInt32 = x.toInt8.toInt32 := by
  show (x.toInt8.toInt32).toInt8.toInt32 = x.toInt8.toInt32
  simp
end OwnKit
def own_s16 (z : Int32) : Int32 := z ^^^ ((z.toUInt32 >>> ((16 : Int32) &&& 31).toUInt32).toInt32)
def own_s13 (z : Int32) : Int32 := z ^^^ ((z.toUInt32 >>> ((13 : Int32) &&& 31).toUInt32).toInt32)
def own_t13 (z : Int32) : Int32 := z ^^^ (((z.toUInt32 >>> ((13 : Int32) &&& 31).toUInt32).toInt32) ^^^ ((z.toUInt32 >>> ((26 : Int32) &&& 31).toUInt32).toInt32))
def own_mix (z : Int32) : Int32 := own_s16 (own_s13 (own_s16 z * (-2048144789 : Int32)) * (-1028477387 : Int32))
def own_unmix (z : Int32) : Int32 := own_s16 (own_t13 (own_s16 z * (2127672349 : Int32)) * (-1513385405 : Int32))
theorem own_ST (y : BitVec 32) (j : Nat) (h : 32 ≤ j + (j + j)) : (y ^^^ y >>> j) ^^^ ((y ^^^ y >>> j) >>> j ^^^ (y ^^^ y >>> j) >>> (j + j)) = y := by
  have e1 : (y ^^^ y >>> j) >>> j = y >>> j ^^^ y >>> (j + j) := by rw [BitVec.ushiftRight_xor_distrib, ← BitVec.shiftRight_add]
  have e2 : (y ^^^ y >>> j) >>> (j + j) = y >>> (j + j) ^^^ 0#32 := by rw [BitVec.ushiftRight_xor_distrib, ← BitVec.shiftRight_add, BitVec.ushiftRight_eq_zero h]
  rw [e1, e2]
  generalize y >>> j = b
  generalize y >>> (j + j) = c
  apply BitVec.eq_of_getLsbD_eq
  intro i hi
  simp only [BitVec.getLsbD_xor, BitVec.getLsbD_zero]
  cases y.getLsbD i <;> cases b.getLsbD i <;> cases c.getLsbD i <;> rfl
theorem own_SS (y : BitVec 32) (j : Nat) (h : 32 ≤ j + j) : (y ^^^ y >>> j) ^^^ (y ^^^ y >>> j) >>> j = y := by
  have e1 : (y ^^^ y >>> j) >>> j = y >>> j ^^^ 0#32 := by rw [BitVec.ushiftRight_xor_distrib, ← BitVec.shiftRight_add, BitVec.ushiftRight_eq_zero h]
  rw [e1]
  generalize y >>> j = b
  apply BitVec.eq_of_getLsbD_eq
  intro i hi
  simp only [BitVec.getLsbD_xor, BitVec.getLsbD_zero]
  cases y.getLsbD i <;> cases b.getLsbD i <;> rfl
theorem own_ss16 (y : Int32) : own_s16 (own_s16 y) = y := by
  apply Int32.toBitVec_inj.mp
  exact own_SS y.toBitVec 16 (by decide)
theorem own_ts13 (y : Int32) : own_t13 (own_s13 y) = y := by
  apply Int32.toBitVec_inj.mp
  exact own_ST y.toBitVec 13 (by decide)
theorem own_back (z : Int32) : own_unmix (own_mix z) = z := by
  have a1 : (-2048144789 : Int32) * (-1513385405 : Int32) = 1 := by decide +kernel
  have a2 : (-1028477387 : Int32) * (2127672349 : Int32) = 1 := by decide +kernel
  unfold own_unmix own_mix
  rw [own_ss16, Int32.mul_assoc, a2, Int32.mul_one, own_ts13, Int32.mul_assoc, a1, Int32.mul_one, own_ss16]
theorem own_cases (sel n : Int32) (h : (sel &&& (7 : Int32)) % (5 : Int32) = n) : n = 0 ∨ n = 1 ∨ n = 2 ∨ n = 3 ∨ n = 4 := by
  have q := c_mask sel 7 3 (by decide) (by decide)
  have r := (c_irem (sel &&& 7) 5 5 (by decide)).1 (by omega)
  rw [h] at r
  have t : n.toInt = 0 ∨ n.toInt = 1 ∨ n.toInt = 2 ∨ n.toInt = 3 ∨ n.toInt = 4 := by omega
  rcases t with t | t | t | t | t
  · exact Or.inl (Int32.toInt_inj.mp t)
  · exact Or.inr (Or.inl (Int32.toInt_inj.mp t))
  · exact Or.inr (Or.inr (Or.inl (Int32.toInt_inj.mp t)))
  · exact Or.inr (Or.inr (Or.inr (Or.inl (Int32.toInt_inj.mp t))))
  · exact Or.inr (Or.inr (Or.inr (Or.inr (Int32.toInt_inj.mp t))))
theorem own_p2 (a b : Int32) : ((31 : Int32) * ((0 : Int32) + a)) + b = ((31 : Int32) * a) + b := by rw [Int32.zero_add]
theorem own_p3 (a b c : Int32) : ((31 : Int32) * (((31 : Int32) * ((0 : Int32) + a)) + b)) + c = (((961 : Int32) * a) + ((31 : Int32) * b)) + c := by
  rw [Int32.zero_add, Int32.mul_add, ← Int32.mul_assoc, show (31 : Int32) * 31 = 961 from by decide]
theorem own_p4 (a b c d : Int32) : ((31 : Int32) * (((31 : Int32) * (((31 : Int32) * ((0 : Int32) + a)) + b)) + c)) + d = ((((29791 : Int32) * a) + ((961 : Int32) * b)) + ((31 : Int32) * c)) + d := by
  rw [Int32.zero_add, Int32.mul_add, Int32.mul_add, Int32.mul_add, ← Int32.mul_assoc 31 31 b, ← Int32.mul_assoc 31 31 a, ← Int32.mul_assoc 31 (31 * 31) a, show (31 : Int32) * (31 * 31) = 29791 from by decide, show (31 : Int32) * 31 = 961 from by decide]
theorem d1_0 : decode prog_64_method_10_code 0 = .ok (.iconst 0, 1) := by decide +kernel
theorem d1_1 : decode prog_64_method_10_code 1 = .ok (.istore_n 1, 1) := by decide +kernel
theorem d1_2 : decode prog_64_method_10_code 2 = .ok (.aload_n 0, 1) := by decide +kernel
theorem d1_3 : decode prog_64_method_10_code 3 = .ok (.astore_n 2, 1) := by decide +kernel
theorem d1_4 : decode prog_64_method_10_code 4 = .ok (.aload_n 2, 1) := by decide +kernel
theorem d1_5 : decode prog_64_method_10_code 5 = .ok (.arraylength, 1) := by decide +kernel
theorem d1_6 : decode prog_64_method_10_code 6 = .ok (.istore_n 3, 1) := by decide +kernel
theorem d1_7 : decode prog_64_method_10_code 7 = .ok (.iconst 0, 1) := by decide +kernel
theorem d1_8 : decode prog_64_method_10_code 8 = .ok (.istore 4, 2) := by decide +kernel
theorem d1_10 : decode prog_64_method_10_code 10 = .ok (.iload 4, 2) := by decide +kernel
theorem d1_12 : decode prog_64_method_10_code 12 = .ok (.iload_n 3, 1) := by decide +kernel
theorem d1_13 : decode prog_64_method_10_code 13 = .ok (.if_icmp .ge 23, 3) := by decide +kernel
theorem d1_36 : decode prog_64_method_10_code 36 = .ok (.iload_n 1, 1) := by decide +kernel
theorem d1_37 : decode prog_64_method_10_code 37 = .ok (.iload_n 1, 1) := by decide +kernel
theorem d1_38 : decode prog_64_method_10_code 38 = .ok (.bipush 16, 2) := by decide +kernel
theorem d1_40 : decode prog_64_method_10_code 40 = .ok (.iushr, 1) := by decide +kernel
theorem d1_41 : decode prog_64_method_10_code 41 = .ok (.ixor, 1) := by decide +kernel
theorem d1_42 : decode prog_64_method_10_code 42 = .ok (.istore_n 1, 1) := by decide +kernel
theorem d1_43 : decode prog_64_method_10_code 43 = .ok (.iload_n 1, 1) := by decide +kernel
theorem d1_44 : decode prog_64_method_10_code 44 = .ok (.ldc 100, 2) := by decide +kernel
theorem d1_46 : decode prog_64_method_10_code 46 = .ok (.imul, 1) := by decide +kernel
theorem d1_47 : decode prog_64_method_10_code 47 = .ok (.istore_n 1, 1) := by decide +kernel
theorem d1_48 : decode prog_64_method_10_code 48 = .ok (.iload_n 1, 1) := by decide +kernel
theorem d1_49 : decode prog_64_method_10_code 49 = .ok (.iload_n 1, 1) := by decide +kernel
theorem d1_50 : decode prog_64_method_10_code 50 = .ok (.bipush 13, 2) := by decide +kernel
theorem d1_52 : decode prog_64_method_10_code 52 = .ok (.iushr, 1) := by decide +kernel
theorem d1_53 : decode prog_64_method_10_code 53 = .ok (.ixor, 1) := by decide +kernel
theorem d1_54 : decode prog_64_method_10_code 54 = .ok (.istore_n 1, 1) := by decide +kernel
theorem d1_55 : decode prog_64_method_10_code 55 = .ok (.iload_n 1, 1) := by decide +kernel
theorem d1_56 : decode prog_64_method_10_code 56 = .ok (.ldc 101, 2) := by decide +kernel
theorem d1_58 : decode prog_64_method_10_code 58 = .ok (.imul, 1) := by decide +kernel
theorem d1_59 : decode prog_64_method_10_code 59 = .ok (.istore_n 1, 1) := by decide +kernel
theorem d1_60 : decode prog_64_method_10_code 60 = .ok (.iload_n 1, 1) := by decide +kernel
theorem d1_61 : decode prog_64_method_10_code 61 = .ok (.iload_n 1, 1) := by decide +kernel
theorem d1_62 : decode prog_64_method_10_code 62 = .ok (.bipush 16, 2) := by decide +kernel
theorem d1_64 : decode prog_64_method_10_code 64 = .ok (.iushr, 1) := by decide +kernel
theorem d1_65 : decode prog_64_method_10_code 65 = .ok (.ixor, 1) := by decide +kernel
theorem d1_66 : decode prog_64_method_10_code 66 = .ok (.istore_n 1, 1) := by decide +kernel
theorem d1_67 : decode prog_64_method_10_code 67 = .ok (.iload_n 1, 1) := by decide +kernel
theorem d1_68 : decode prog_64_method_10_code 68 = .ok (.ireturn, 1) := by decide +kernel
theorem own_pn_1 : plainName "com/example/limfjord/limfjord/engine/StateStore" = true := by first | (simp [plainName, overriddenIn]; done) | decide +kernel
theorem own_ef_1 (m : MethodId) (a1 : Addr) : entryFrame m #[(.ref a1)] 6 = mkF m 0 #[.val (.ref a1), .unset, .unset, .unset, .unset, .unset] [] := by first | (simp [entryFrame, mkF, argsToLocals, Value.category]; done) | rfl
abbrev own_R1 : Room := { frames := 0, cells := 0, slots := 0, locals := 0 }
def own_Q1 (Z : State) (a1 : Addr) (f1 : Nat → Int32) (h0 : Heap) (n0 : Nat) (v : Option Value) (h : Heap) (L : List Loc) : Prop := v = some (.int (own_mix (0 : Int32))) ∧ Fr n0 L ∧ h = h0
set_option maxRecDepth 65536 in
set_option maxHeartbeats 40000000 in
theorem rm1 (l : Launch) (Z : State) (a0 : Array Value) (hw : ∀ d ∈ tables_1, d.before a0 Z = true) (ws : List Jvm.Cond) (a1 : Addr) (f1 : Nat → Int32) (h0 : Heap) (n0 : Nat) (Z0 : n0 ≤ h0.size) (V_a1 : own_AI Z h0 a1 .int 0 f1) :
    MetFree l (⟨"com/example/limfjord/limfjord/engine/StateStore", "hash", "([I)I"⟩ : MethodName) (head1 (Jvm.Cond.code (⟨"com/example/limfjord/limfjord/engine/StateStore", "hash", "([I)I"⟩ : MethodName) prog_64_method_10_code 6 (some .int) :: ws) own_R1) (fun a U => a = #[(.ref a1)] ∧ Z.Warmed39 U.vm ∧ U.heap = h0) (fun _ _ _ _ _ => True) (fun _ U o U' => ∃ v L, o = .returned v ∧ own_Q1 Z a1 f1 h0 n0 v U'.heap L ∧ FrameEnd U o U' L own_R1.cells own_R1.slots) := by
  refine MetFree.of_bodySF (plainFor_of_name own_pn_1) hisR ?_
  intro p e s m args below meth c s₁ Bd hml0 hP hK
  obtain ⟨rfl, hZ, hh⟩ := hP
  have hx := Bd.exec
  have hby := Bd.bytes
  have hlk := BodyLoose.notSynchronized Bd
  have hml : c.maxLocals = 6 := hml0
  have hown : s.vm.findClass "com/example/limfjord/limfjord/engine/StateStore" = some m.cls := (findClass_of_methodNamed Bd.named : s.vm.findClass (⟨"com/example/limfjord/limfjord/engine/StateStore", "hash", "([I)I"⟩ : MethodName).cls = some m.cls)
  have hnm := (name_of_methodNamed Bd.named Bd.method).1
  have X0 : Stand p l e own_R1 s m #[(.ref a1)] below meth c s₁ [] 0 0 := Stand.of_body Bd
  have e0 : s₁.heap = h0 := by rw [← hh, Bd.state]; rfl
  have Nf := Fr.nil n0
  have Zs := Z0
  show own_Fin p e below s (own_Q1 Z a1 f1 h0 n0) 0 0 s₁ (entryFrame m #[(.ref a1)] 6)
  rw [own_ef_1 m a1]
  show own_Fin _ _ _ _ _ _ _ _ (mkF m 0 #[.val (.ref a1), .unset, .unset, .unset, .unset, .unset] [])
  refine own_step (fun t k => XS.iconst X0.here hx rfl (hb hby d1_0) k) ?_
  show own_Fin _ _ _ _ _ _ _ _ (mkF m 1 #[.val (.ref a1), .unset, .unset, .unset, .unset, .unset] [(.int (0 : Int32))])
  refine own_step (fun t k => XS.istoreN X0.here hx rfl (hb hby d1_1) rfl (l' := #[.val (.ref a1), .val (.int (0 : Int32)), .unset, .unset, .unset, .unset]) rfl k) ?_
  show own_Fin _ _ _ _ _ _ _ _ (mkF m 2 #[.val (.ref a1), .val (.int (0 : Int32)), .unset, .unset, .unset, .unset] [])
  refine own_step (fun t k => XS.aloadN X0.here hx rfl (hb hby d1_2) rfl rfl k) ?_
  show own_Fin _ _ _ _ _ _ _ _ (mkF m 3 #[.val (.ref a1), .val (.int (0 : Int32)), .unset, .unset, .unset, .unset] [(.ref a1)])
  refine own_step (fun t k => XS.astoreN X0.here hx rfl (hb hby d1_3) rfl rfl (l' := #[.val (.ref a1), .val (.int (0 : Int32)), .val (.ref a1), .unset, .unset, .unset]) rfl k) ?_
  show own_Fin _ _ _ _ _ _ _ _ (mkF m 4 #[.val (.ref a1), .val (.int (0 : Int32)), .val (.ref a1), .unset, .unset, .unset] [])
  refine own_step (fun t k => XS.aloadN X0.here hx rfl (hb hby d1_4) rfl rfl k) ?_
  show own_Fin _ _ _ _ _ _ _ _ (mkF m 5 #[.val (.ref a1), .val (.int (0 : Int32)), .val (.ref a1), .unset, .unset, .unset] [(.ref a1)])
  refine own_arrlen X0 hx hZ e0 V_a1 (z := (0 : Int32)) rfl (hb hby d1_5) rfl ?_
  show own_Fin _ _ _ _ _ _ _ _ (mkF m 6 #[.val (.ref a1), .val (.int (0 : Int32)), .val (.ref a1), .unset, .unset, .unset] [(.int (0 : Int32))])
  refine own_step (fun t k => XS.istoreN X0.here hx rfl (hb hby d1_6) rfl (l' := #[.val (.ref a1), .val (.int (0 : Int32)), .val (.ref a1), .val (.int (0 : Int32)), .unset, .unset]) rfl k) ?_
  show own_Fin _ _ _ _ _ _ _ _ (mkF m 7 #[.val (.ref a1), .val (.int (0 : Int32)), .val (.ref a1), .val (.int (0 : Int32)), .unset, .unset] [])
  refine own_step (fun t k => XS.iconst X0.here hx rfl (hb hby d1_7) k) ?_
  show own_Fin _ _ _ _ _ _ _ _ (mkF m 8 #[.val (.ref a1), .val (.int (0 : Int32)), .val (.ref a1), .val (.int (0 : Int32)), .unset, .unset] [(.int (0 : Int32))])
  refine own_step (fun t k => XS.istore X0.here hx rfl (hb hby d1_8) rfl (l' := #[.val (.ref a1), .val (.int (0 : Int32)), .val (.ref a1), .val (.int (0 : Int32)), .val (.int (0 : Int32)), .unset]) rfl k) ?_
  show own_Fin _ _ _ _ _ _ _ _ (mkF m 10 #[.val (.ref a1), .val (.int (0 : Int32)), .val (.ref a1), .val (.int (0 : Int32)), .val (.int (0 : Int32)), .unset] [])
  refine own_step (fun t k => XS.iload X0.here hx rfl (hb hby d1_10) rfl k) ?_
  show own_Fin _ _ _ _ _ _ _ _ (mkF m 12 #[.val (.ref a1), .val (.int (0 : Int32)), .val (.ref a1), .val (.int (0 : Int32)), .val (.int (0 : Int32)), .unset] [(.int (0 : Int32))])
  refine own_step (fun t k => XS.iloadN X0.here hx rfl (hb hby d1_12) rfl k) ?_
  show own_Fin _ _ _ _ _ _ _ _ (mkF m 13 #[.val (.ref a1), .val (.int (0 : Int32)), .val (.ref a1), .val (.int (0 : Int32)), .val (.int (0 : Int32)), .unset] [(.int (0 : Int32)), (.int (0 : Int32))])
  refine own_step (fun t k => XS.icmpYes X0.here hx rfl (pc0 := 13) (pc' := 36) rfl (hb hby d1_13) rfl (by decide) (by decide) (by decide) k) ?_
  show own_Fin _ _ _ _ _ _ _ _ (mkF m 36 #[.val (.ref a1), .val (.int (0 : Int32)), .val (.ref a1), .val (.int (0 : Int32)), .val (.int (0 : Int32)), .unset] [])
  refine own_step (fun t k => XS.iloadN X0.here hx rfl (hb hby d1_36) rfl k) ?_
  show own_Fin _ _ _ _ _ _ _ _ (mkF m 37 #[.val (.ref a1), .val (.int (0 : Int32)), .val (.ref a1), .val (.int (0 : Int32)), .val (.int (0 : Int32)), .unset] [(.int (0 : Int32))])
  refine own_step (fun t k => XS.iloadN X0.here hx rfl (hb hby d1_37) rfl k) ?_
  show own_Fin _ _ _ _ _ _ _ _ (mkF m 38 #[.val (.ref a1), .val (.int (0 : Int32)), .val (.ref a1), .val (.int (0 : Int32)), .val (.int (0 : Int32)), .unset] [(.int (0 : Int32)), (.int (0 : Int32))])
  refine own_step (fun t k => XS.bipush X0.here hx rfl (hb hby d1_38) k) ?_
  show own_Fin _ _ _ _ _ _ _ _ (mkF m 40 #[.val (.ref a1), .val (.int (0 : Int32)), .val (.ref a1), .val (.int (0 : Int32)), .val (.int (0 : Int32)), .unset] [(.int (16 : Int32)), (.int (0 : Int32)), (.int (0 : Int32))])
  refine own_step (fun t k => XS.iushr X0.here hx rfl (hb hby d1_40) rfl k) ?_
  show own_Fin _ _ _ _ _ _ _ _ (mkF m 41 #[.val (.ref a1), .val (.int (0 : Int32)), .val (.ref a1), .val (.int (0 : Int32)), .val (.int (0 : Int32)), .unset] [(.int (((0 : Int32).toUInt32 >>> ((16 : Int32) &&& 31).toUInt32).toInt32)), (.int (0 : Int32))])
  refine own_step (fun t k => XS.ixor X0.here hx rfl (hb hby d1_41) rfl k) ?_
  show own_Fin _ _ _ _ _ _ _ _ (mkF m 42 #[.val (.ref a1), .val (.int (0 : Int32)), .val (.ref a1), .val (.int (0 : Int32)), .val (.int (0 : Int32)), .unset] [(.int ((0 : Int32) ^^^ (((0 : Int32).toUInt32 >>> ((16 : Int32) &&& 31).toUInt32).toInt32)))])
  generalize hz0 : ((0 : Int32) ^^^ (((0 : Int32).toUInt32 >>> ((16 : Int32) &&& 31).toUInt32).toInt32)) = z0
  refine own_step (fun t k => XS.istoreN X0.here hx rfl (hb hby d1_42) rfl (l' := #[.val (.ref a1), .val (.int z0), .val (.ref a1), .val (.int (0 : Int32)), .val (.int (0 : Int32)), .unset]) rfl k) ?_
  show own_Fin _ _ _ _ _ _ _ _ (mkF m 43 #[.val (.ref a1), .val (.int z0), .val (.ref a1), .val (.int (0 : Int32)), .val (.int (0 : Int32)), .unset] [])
  refine own_step (fun t k => XS.iloadN X0.here hx rfl (hb hby d1_43) rfl k) ?_
  show own_Fin _ _ _ _ _ _ _ _ (mkF m 44 #[.val (.ref a1), .val (.int z0), .val (.ref a1), .val (.int (0 : Int32)), .val (.int (0 : Int32)), .unset] [(.int z0)])
  refine own_step (fun t k => X0.ldcInt hx hown (mvT hZ (hw _ (List.mem_of_getElem? (i := 5) rfl))) (g := (mkF m 44 #[.val (.ref a1), .val (.int z0), .val (.ref a1), .val (.int (0 : Int32)), .val (.int (0 : Int32)), .unset] [(.int z0)])) rfl (hb hby d1_44) _ k) ?_
  show own_Fin _ _ _ _ _ _ _ _ (mkF m 46 #[.val (.ref a1), .val (.int z0), .val (.ref a1), .val (.int (0 : Int32)), .val (.int (0 : Int32)), .unset] [(.int (-2048144789 : Int32)), (.int z0)])
  refine own_step (fun t k => XS.imul X0.here hx rfl (hb hby d1_46) rfl k) ?_
  show own_Fin _ _ _ _ _ _ _ _ (mkF m 47 #[.val (.ref a1), .val (.int z0), .val (.ref a1), .val (.int (0 : Int32)), .val (.int (0 : Int32)), .unset] [(.int (z0 * (-2048144789 : Int32)))])
  generalize hz1 : (z0 * (-2048144789 : Int32)) = z1
  refine own_step (fun t k => XS.istoreN X0.here hx rfl (hb hby d1_47) rfl (l' := #[.val (.ref a1), .val (.int z1), .val (.ref a1), .val (.int (0 : Int32)), .val (.int (0 : Int32)), .unset]) rfl k) ?_
  show own_Fin _ _ _ _ _ _ _ _ (mkF m 48 #[.val (.ref a1), .val (.int z1), .val (.ref a1), .val (.int (0 : Int32)), .val (.int (0 : Int32)), .unset] [])
  refine own_step (fun t k => XS.iloadN X0.here hx rfl (hb hby d1_48) rfl k) ?_
  show own_Fin _ _ _ _ _ _ _ _ (mkF m 49 #[.val (.ref a1), .val (.int z1), .val (.ref a1), .val (.int (0 : Int32)), .val (.int (0 : Int32)), .unset] [(.int z1)])
  refine own_step (fun t k => XS.iloadN X0.here hx rfl (hb hby d1_49) rfl k) ?_
  show own_Fin _ _ _ _ _ _ _ _ (mkF m 50 #[.val (.ref a1), .val (.int z1), .val (.ref a1), .val (.int (0 : Int32)), .val (.int (0 : Int32)), .unset] [(.int z1), (.int z1)])
  refine own_step (fun t k => XS.bipush X0.here hx rfl (hb hby d1_50) k) ?_
  show own_Fin _ _ _ _ _ _ _ _ (mkF m 52 #[.val (.ref a1), .val (.int z1), .val (.ref a1), .val (.int (0 : Int32)), .val (.int (0 : Int32)), .unset] [(.int (13 : Int32)), (.int z1), (.int z1)])
  refine own_step (fun t k => XS.iushr X0.here hx rfl (hb hby d1_52) rfl k) ?_
  show own_Fin _ _ _ _ _ _ _ _ (mkF m 53 #[.val (.ref a1), .val (.int z1), .val (.ref a1), .val (.int (0 : Int32)), .val (.int (0 : Int32)), .unset] [(.int ((z1.toUInt32 >>> ((13 : Int32) &&& 31).toUInt32).toInt32)), (.int z1)])
  refine own_step (fun t k => XS.ixor X0.here hx rfl (hb hby d1_53) rfl k) ?_
  show own_Fin _ _ _ _ _ _ _ _ (mkF m 54 #[.val (.ref a1), .val (.int z1), .val (.ref a1), .val (.int (0 : Int32)), .val (.int (0 : Int32)), .unset] [(.int (z1 ^^^ ((z1.toUInt32 >>> ((13 : Int32) &&& 31).toUInt32).toInt32)))])
  generalize hz2 : (z1 ^^^ ((z1.toUInt32 >>> ((13 : Int32) &&& 31).toUInt32).toInt32)) = z2
  refine own_step (fun t k => XS.istoreN X0.here hx rfl (hb hby d1_54) rfl (l' := #[.val (.ref a1), .val (.int z2), .val (.ref a1), .val (.int (0 : Int32)), .val (.int (0 : Int32)), .unset]) rfl k) ?_
  show own_Fin _ _ _ _ _ _ _ _ (mkF m 55 #[.val (.ref a1), .val (.int z2), .val (.ref a1), .val (.int (0 : Int32)), .val (.int (0 : Int32)), .unset] [])
  refine own_step (fun t k => XS.iloadN X0.here hx rfl (hb hby d1_55) rfl k) ?_
  show own_Fin _ _ _ _ _ _ _ _ (mkF m 56 #[.val (.ref a1), .val (.int z2), .val (.ref a1), .val (.int (0 : Int32)), .val (.int (0 : Int32)), .unset] [(.int z2)])
  refine own_step (fun t k => X0.ldcInt hx hown (mvT hZ (hw _ (List.mem_of_getElem? (i := 6) rfl))) (g := (mkF m 56 #[.val (.ref a1), .val (.int z2), .val (.ref a1), .val (.int (0 : Int32)), .val (.int (0 : Int32)), .unset] [(.int z2)])) rfl (hb hby d1_56) _ k) ?_
  show own_Fin _ _ _ _ _ _ _ _ (mkF m 58 #[.val (.ref a1), .val (.int z2), .val (.ref a1), .val (.int (0 : Int32)), .val (.int (0 : Int32)), .unset] [(.int (-1028477387 : Int32)), (.int z2)])
  refine own_step (fun t k => XS.imul X0.here hx rfl (hb hby d1_58) rfl k) ?_
  show own_Fin _ _ _ _ _ _ _ _ (mkF m 59 #[.val (.ref a1), .val (.int z2), .val (.ref a1), .val (.int (0 : Int32)), .val (.int (0 : Int32)), .unset] [(.int (z2 * (-1028477387 : Int32)))])
  generalize hz3 : (z2 * (-1028477387 : Int32)) = z3
  refine own_step (fun t k => XS.istoreN X0.here hx rfl (hb hby d1_59) rfl (l' := #[.val (.ref a1), .val (.int z3), .val (.ref a1), .val (.int (0 : Int32)), .val (.int (0 : Int32)), .unset]) rfl k) ?_
  show own_Fin _ _ _ _ _ _ _ _ (mkF m 60 #[.val (.ref a1), .val (.int z3), .val (.ref a1), .val (.int (0 : Int32)), .val (.int (0 : Int32)), .unset] [])
  refine own_step (fun t k => XS.iloadN X0.here hx rfl (hb hby d1_60) rfl k) ?_
  show own_Fin _ _ _ _ _ _ _ _ (mkF m 61 #[.val (.ref a1), .val (.int z3), .val (.ref a1), .val (.int (0 : Int32)), .val (.int (0 : Int32)), .unset] [(.int z3)])
  refine own_step (fun t k => XS.iloadN X0.here hx rfl (hb hby d1_61) rfl k) ?_
  show own_Fin _ _ _ _ _ _ _ _ (mkF m 62 #[.val (.ref a1), .val (.int z3), .val (.ref a1), .val (.int (0 : Int32)), .val (.int (0 : Int32)), .unset] [(.int z3), (.int z3)])
  refine own_step (fun t k => XS.bipush X0.here hx rfl (hb hby d1_62) k) ?_
  show own_Fin _ _ _ _ _ _ _ _ (mkF m 64 #[.val (.ref a1), .val (.int z3), .val (.ref a1), .val (.int (0 : Int32)), .val (.int (0 : Int32)), .unset] [(.int (16 : Int32)), (.int z3), (.int z3)])
  refine own_step (fun t k => XS.iushr X0.here hx rfl (hb hby d1_64) rfl k) ?_
  show own_Fin _ _ _ _ _ _ _ _ (mkF m 65 #[.val (.ref a1), .val (.int z3), .val (.ref a1), .val (.int (0 : Int32)), .val (.int (0 : Int32)), .unset] [(.int ((z3.toUInt32 >>> ((16 : Int32) &&& 31).toUInt32).toInt32)), (.int z3)])
  refine own_step (fun t k => XS.ixor X0.here hx rfl (hb hby d1_65) rfl k) ?_
  show own_Fin _ _ _ _ _ _ _ _ (mkF m 66 #[.val (.ref a1), .val (.int z3), .val (.ref a1), .val (.int (0 : Int32)), .val (.int (0 : Int32)), .unset] [(.int (z3 ^^^ ((z3.toUInt32 >>> ((16 : Int32) &&& 31).toUInt32).toInt32)))])
  refine own_step (fun t k => XS.istoreN X0.here hx rfl (hb hby d1_66) rfl (l' := #[.val (.ref a1), .val (.int (z3 ^^^ ((z3.toUInt32 >>> ((16 : Int32) &&& 31).toUInt32).toInt32))), .val (.ref a1), .val (.int (0 : Int32)), .val (.int (0 : Int32)), .unset]) rfl k) ?_
  show own_Fin _ _ _ _ _ _ _ _ (mkF m 67 #[.val (.ref a1), .val (.int (z3 ^^^ ((z3.toUInt32 >>> ((16 : Int32) &&& 31).toUInt32).toInt32))), .val (.ref a1), .val (.int (0 : Int32)), .val (.int (0 : Int32)), .unset] [])
  refine own_step (fun t k => XS.iloadN X0.here hx rfl (hb hby d1_67) rfl k) ?_
  show own_Fin _ _ _ _ _ _ _ _ (mkF m 68 #[.val (.ref a1), .val (.int (z3 ^^^ ((z3.toUInt32 >>> ((16 : Int32) &&& 31).toUInt32).toInt32))), .val (.ref a1), .val (.int (0 : Int32)), .val (.int (0 : Int32)), .unset] [(.int (z3 ^^^ ((z3.toUInt32 >>> ((16 : Int32) &&& 31).toUInt32).toInt32)))])
  refine own_retI X0 hx hlk Bd.returns (hb hby d1_68) (by decide) (by decide) e0 ?_
  subst hz3 hz2 hz1 hz0; exact ⟨rfl, Nf, rfl⟩
theorem d2_0 : decode prog_64_method_10_code 0 = .ok (.iconst 0, 1) := by decide +kernel
theorem d2_1 : decode prog_64_method_10_code 1 = .ok (.istore_n 1, 1) := by decide +kernel
theorem d2_2 : decode prog_64_method_10_code 2 = .ok (.aload_n 0, 1) := by decide +kernel
theorem d2_3 : decode prog_64_method_10_code 3 = .ok (.astore_n 2, 1) := by decide +kernel
theorem d2_4 : decode prog_64_method_10_code 4 = .ok (.aload_n 2, 1) := by decide +kernel
theorem d2_5 : decode prog_64_method_10_code 5 = .ok (.arraylength, 1) := by decide +kernel
theorem d2_6 : decode prog_64_method_10_code 6 = .ok (.istore_n 3, 1) := by decide +kernel
theorem d2_7 : decode prog_64_method_10_code 7 = .ok (.iconst 0, 1) := by decide +kernel
theorem d2_8 : decode prog_64_method_10_code 8 = .ok (.istore 4, 2) := by decide +kernel
theorem d2_10 : decode prog_64_method_10_code 10 = .ok (.iload 4, 2) := by decide +kernel
theorem d2_12 : decode prog_64_method_10_code 12 = .ok (.iload_n 3, 1) := by decide +kernel
theorem d2_13 : decode prog_64_method_10_code 13 = .ok (.if_icmp .ge 23, 3) := by decide +kernel
theorem d2_16 : decode prog_64_method_10_code 16 = .ok (.aload_n 2, 1) := by decide +kernel
theorem d2_17 : decode prog_64_method_10_code 17 = .ok (.iload 4, 2) := by decide +kernel
theorem d2_19 : decode prog_64_method_10_code 19 = .ok (.iaload, 1) := by decide +kernel
theorem d2_20 : decode prog_64_method_10_code 20 = .ok (.istore 5, 2) := by decide +kernel
theorem d2_22 : decode prog_64_method_10_code 22 = .ok (.bipush 31, 2) := by decide +kernel
theorem d2_24 : decode prog_64_method_10_code 24 = .ok (.iload_n 1, 1) := by decide +kernel
theorem d2_25 : decode prog_64_method_10_code 25 = .ok (.imul, 1) := by decide +kernel
theorem d2_26 : decode prog_64_method_10_code 26 = .ok (.iload 5, 2) := by decide +kernel
theorem d2_28 : decode prog_64_method_10_code 28 = .ok (.iadd, 1) := by decide +kernel
theorem d2_29 : decode prog_64_method_10_code 29 = .ok (.istore_n 1, 1) := by decide +kernel
theorem d2_30 : decode prog_64_method_10_code 30 = .ok (.iinc 4 1, 3) := by decide +kernel
theorem d2_33 : decode prog_64_method_10_code 33 = .ok (.goto (-23), 3) := by decide +kernel
theorem d2_36 : decode prog_64_method_10_code 36 = .ok (.iload_n 1, 1) := by decide +kernel
theorem d2_37 : decode prog_64_method_10_code 37 = .ok (.iload_n 1, 1) := by decide +kernel
theorem d2_38 : decode prog_64_method_10_code 38 = .ok (.bipush 16, 2) := by decide +kernel
theorem d2_40 : decode prog_64_method_10_code 40 = .ok (.iushr, 1) := by decide +kernel
theorem d2_41 : decode prog_64_method_10_code 41 = .ok (.ixor, 1) := by decide +kernel
theorem d2_42 : decode prog_64_method_10_code 42 = .ok (.istore_n 1, 1) := by decide +kernel
theorem d2_43 : decode prog_64_method_10_code 43 = .ok (.iload_n 1, 1) := by decide +kernel
theorem d2_44 : decode prog_64_method_10_code 44 = .ok (.ldc 100, 2) := by decide +kernel
theorem d2_46 : decode prog_64_method_10_code 46 = .ok (.imul, 1) := by decide +kernel
theorem d2_47 : decode prog_64_method_10_code 47 = .ok (.istore_n 1, 1) := by decide +kernel
theorem d2_48 : decode prog_64_method_10_code 48 = .ok (.iload_n 1, 1) := by decide +kernel
theorem d2_49 : decode prog_64_method_10_code 49 = .ok (.iload_n 1, 1) := by decide +kernel
theorem d2_50 : decode prog_64_method_10_code 50 = .ok (.bipush 13, 2) := by decide +kernel
theorem d2_52 : decode prog_64_method_10_code 52 = .ok (.iushr, 1) := by decide +kernel
theorem d2_53 : decode prog_64_method_10_code 53 = .ok (.ixor, 1) := by decide +kernel
theorem d2_54 : decode prog_64_method_10_code 54 = .ok (.istore_n 1, 1) := by decide +kernel
theorem d2_55 : decode prog_64_method_10_code 55 = .ok (.iload_n 1, 1) := by decide +kernel
theorem d2_56 : decode prog_64_method_10_code 56 = .ok (.ldc 101, 2) := by decide +kernel
theorem d2_58 : decode prog_64_method_10_code 58 = .ok (.imul, 1) := by decide +kernel
theorem d2_59 : decode prog_64_method_10_code 59 = .ok (.istore_n 1, 1) := by decide +kernel
theorem d2_60 : decode prog_64_method_10_code 60 = .ok (.iload_n 1, 1) := by decide +kernel
theorem d2_61 : decode prog_64_method_10_code 61 = .ok (.iload_n 1, 1) := by decide +kernel
theorem d2_62 : decode prog_64_method_10_code 62 = .ok (.bipush 16, 2) := by decide +kernel
theorem d2_64 : decode prog_64_method_10_code 64 = .ok (.iushr, 1) := by decide +kernel
theorem d2_65 : decode prog_64_method_10_code 65 = .ok (.ixor, 1) := by decide +kernel
theorem d2_66 : decode prog_64_method_10_code 66 = .ok (.istore_n 1, 1) := by decide +kernel
theorem d2_67 : decode prog_64_method_10_code 67 = .ok (.iload_n 1, 1) := by decide +kernel
theorem d2_68 : decode prog_64_method_10_code 68 = .ok (.ireturn, 1) := by decide +kernel
theorem own_pn_2 : plainName "com/example/limfjord/limfjord/engine/StateStore" = true := by first | (simp [plainName, overriddenIn]; done) | decide +kernel
theorem own_ef_2 (m : MethodId) (a1 : Addr) : entryFrame m #[(.ref a1)] 6 = mkF m 0 #[.val (.ref a1), .unset, .unset, .unset, .unset, .unset] [] := by first | (simp [entryFrame, mkF, argsToLocals, Value.category]; done) | rfl
abbrev own_R2 : Room := { frames := 0, cells := 0, slots := 0, locals := 0 }
def own_Q2 (Z : State) (a1 : Addr) (f1 : Nat → Int32) (h0 : Heap) (n0 : Nat) (v : Option Value) (h : Heap) (L : List Loc) : Prop := v = some (.int (own_mix ((0 : Int32) + (f1 0)))) ∧ Fr n0 L ∧ h = h0
set_option maxRecDepth 65536 in
set_option maxHeartbeats 40000000 in
theorem rm2 (l : Launch) (Z : State) (a0 : Array Value) (hw : ∀ d ∈ tables_1, d.before a0 Z = true) (ws : List Jvm.Cond) (a1 : Addr) (f1 : Nat → Int32) (h0 : Heap) (n0 : Nat) (Z0 : n0 ≤ h0.size) (V_a1 : own_AI Z h0 a1 .int 1 f1) :
    MetFree l (⟨"com/example/limfjord/limfjord/engine/StateStore", "hash", "([I)I"⟩ : MethodName) (head1 (Jvm.Cond.code (⟨"com/example/limfjord/limfjord/engine/StateStore", "hash", "([I)I"⟩ : MethodName) prog_64_method_10_code 6 (some .int) :: ws) own_R2) (fun a U => a = #[(.ref a1)] ∧ Z.Warmed39 U.vm ∧ U.heap = h0) (fun _ _ _ _ _ => True) (fun _ U o U' => ∃ v L, o = .returned v ∧ own_Q2 Z a1 f1 h0 n0 v U'.heap L ∧ FrameEnd U o U' L own_R2.cells own_R2.slots) := by
  refine MetFree.of_bodySF (plainFor_of_name own_pn_2) hisR ?_
  intro p e s m args below meth c s₁ Bd hml0 hP hK
  obtain ⟨rfl, hZ, hh⟩ := hP
  have hx := Bd.exec
  have hby := Bd.bytes
  have hlk := BodyLoose.notSynchronized Bd
  have hml : c.maxLocals = 6 := hml0
  have hown : s.vm.findClass "com/example/limfjord/limfjord/engine/StateStore" = some m.cls := (findClass_of_methodNamed Bd.named : s.vm.findClass (⟨"com/example/limfjord/limfjord/engine/StateStore", "hash", "([I)I"⟩ : MethodName).cls = some m.cls)
  have hnm := (name_of_methodNamed Bd.named Bd.method).1
  have X0 : Stand p l e own_R2 s m #[(.ref a1)] below meth c s₁ [] 0 0 := Stand.of_body Bd
  have e0 : s₁.heap = h0 := by rw [← hh, Bd.state]; rfl
  have Nf := Fr.nil n0
  have Zs := Z0
  show own_Fin p e below s (own_Q2 Z a1 f1 h0 n0) 0 0 s₁ (entryFrame m #[(.ref a1)] 6)
  rw [own_ef_2 m a1]
  show own_Fin _ _ _ _ _ _ _ _ (mkF m 0 #[.val (.ref a1), .unset, .unset, .unset, .unset, .unset] [])
  refine own_step (fun t k => XS.iconst X0.here hx rfl (hb hby d2_0) k) ?_
  show own_Fin _ _ _ _ _ _ _ _ (mkF m 1 #[.val (.ref a1), .unset, .unset, .unset, .unset, .unset] [(.int (0 : Int32))])
  refine own_step (fun t k => XS.istoreN X0.here hx rfl (hb hby d2_1) rfl (l' := #[.val (.ref a1), .val (.int (0 : Int32)), .unset, .unset, .unset, .unset]) rfl k) ?_
  show own_Fin _ _ _ _ _ _ _ _ (mkF m 2 #[.val (.ref a1), .val (.int (0 : Int32)), .unset, .unset, .unset, .unset] [])
  refine own_step (fun t k => XS.aloadN X0.here hx rfl (hb hby d2_2) rfl rfl k) ?_
  show own_Fin _ _ _ _ _ _ _ _ (mkF m 3 #[.val (.ref a1), .val (.int (0 : Int32)), .unset, .unset, .unset, .unset] [(.ref a1)])
  refine own_step (fun t k => XS.astoreN X0.here hx rfl (hb hby d2_3) rfl rfl (l' := #[.val (.ref a1), .val (.int (0 : Int32)), .val (.ref a1), .unset, .unset, .unset]) rfl k) ?_
  show own_Fin _ _ _ _ _ _ _ _ (mkF m 4 #[.val (.ref a1), .val (.int (0 : Int32)), .val (.ref a1), .unset, .unset, .unset] [])
  refine own_step (fun t k => XS.aloadN X0.here hx rfl (hb hby d2_4) rfl rfl k) ?_
  show own_Fin _ _ _ _ _ _ _ _ (mkF m 5 #[.val (.ref a1), .val (.int (0 : Int32)), .val (.ref a1), .unset, .unset, .unset] [(.ref a1)])
  refine own_arrlen X0 hx hZ e0 V_a1 (z := (1 : Int32)) rfl (hb hby d2_5) rfl ?_
  show own_Fin _ _ _ _ _ _ _ _ (mkF m 6 #[.val (.ref a1), .val (.int (0 : Int32)), .val (.ref a1), .unset, .unset, .unset] [(.int (1 : Int32))])
  refine own_step (fun t k => XS.istoreN X0.here hx rfl (hb hby d2_6) rfl (l' := #[.val (.ref a1), .val (.int (0 : Int32)), .val (.ref a1), .val (.int (1 : Int32)), .unset, .unset]) rfl k) ?_
  show own_Fin _ _ _ _ _ _ _ _ (mkF m 7 #[.val (.ref a1), .val (.int (0 : Int32)), .val (.ref a1), .val (.int (1 : Int32)), .unset, .unset] [])
  refine own_step (fun t k => XS.iconst X0.here hx rfl (hb hby d2_7) k) ?_
  show own_Fin _ _ _ _ _ _ _ _ (mkF m 8 #[.val (.ref a1), .val (.int (0 : Int32)), .val (.ref a1), .val (.int (1 : Int32)), .unset, .unset] [(.int (0 : Int32))])
  refine own_step (fun t k => XS.istore X0.here hx rfl (hb hby d2_8) rfl (l' := #[.val (.ref a1), .val (.int (0 : Int32)), .val (.ref a1), .val (.int (1 : Int32)), .val (.int (0 : Int32)), .unset]) rfl k) ?_
  show own_Fin _ _ _ _ _ _ _ _ (mkF m 10 #[.val (.ref a1), .val (.int (0 : Int32)), .val (.ref a1), .val (.int (1 : Int32)), .val (.int (0 : Int32)), .unset] [])
  refine own_step (fun t k => XS.iload X0.here hx rfl (hb hby d2_10) rfl k) ?_
  show own_Fin _ _ _ _ _ _ _ _ (mkF m 12 #[.val (.ref a1), .val (.int (0 : Int32)), .val (.ref a1), .val (.int (1 : Int32)), .val (.int (0 : Int32)), .unset] [(.int (0 : Int32))])
  refine own_step (fun t k => XS.iloadN X0.here hx rfl (hb hby d2_12) rfl k) ?_
  show own_Fin _ _ _ _ _ _ _ _ (mkF m 13 #[.val (.ref a1), .val (.int (0 : Int32)), .val (.ref a1), .val (.int (1 : Int32)), .val (.int (0 : Int32)), .unset] [(.int (1 : Int32)), (.int (0 : Int32))])
  refine own_step (fun t k => XS.icmpNo X0.here hx rfl (hb hby d2_13) rfl (by decide) k) ?_
  show own_Fin _ _ _ _ _ _ _ _ (mkF m 16 #[.val (.ref a1), .val (.int (0 : Int32)), .val (.ref a1), .val (.int (1 : Int32)), .val (.int (0 : Int32)), .unset] [])
  refine own_step (fun t k => XS.aloadN X0.here hx rfl (hb hby d2_16) rfl rfl k) ?_
  show own_Fin _ _ _ _ _ _ _ _ (mkF m 17 #[.val (.ref a1), .val (.int (0 : Int32)), .val (.ref a1), .val (.int (1 : Int32)), .val (.int (0 : Int32)), .unset] [(.ref a1)])
  refine own_step (fun t k => XS.iload X0.here hx rfl (hb hby d2_17) rfl k) ?_
  show own_Fin _ _ _ _ _ _ _ _ (mkF m 19 #[.val (.ref a1), .val (.int (0 : Int32)), .val (.ref a1), .val (.int (1 : Int32)), .val (.int (0 : Int32)), .unset] [(.int (0 : Int32)), (.ref a1)])
  refine own_iaload X0 hx hZ e0 V_a1 (k := 0) rfl (by decide) (v := (f1 0)) rfl (hb hby d2_19) rfl ?_
  show own_Fin _ _ _ _ _ _ _ _ (mkF m 20 #[.val (.ref a1), .val (.int (0 : Int32)), .val (.ref a1), .val (.int (1 : Int32)), .val (.int (0 : Int32)), .unset] [(.int (f1 0))])
  refine own_step (fun t k => XS.istore X0.here hx rfl (hb hby d2_20) rfl (l' := #[.val (.ref a1), .val (.int (0 : Int32)), .val (.ref a1), .val (.int (1 : Int32)), .val (.int (0 : Int32)), .val (.int (f1 0))]) rfl k) ?_
  show own_Fin _ _ _ _ _ _ _ _ (mkF m 22 #[.val (.ref a1), .val (.int (0 : Int32)), .val (.ref a1), .val (.int (1 : Int32)), .val (.int (0 : Int32)), .val (.int (f1 0))] [])
  refine own_step (fun t k => XS.bipush X0.here hx rfl (hb hby d2_22) k) ?_
  show own_Fin _ _ _ _ _ _ _ _ (mkF m 24 #[.val (.ref a1), .val (.int (0 : Int32)), .val (.ref a1), .val (.int (1 : Int32)), .val (.int (0 : Int32)), .val (.int (f1 0))] [(.int (31 : Int32))])
  refine own_step (fun t k => XS.iloadN X0.here hx rfl (hb hby d2_24) rfl k) ?_
  show own_Fin _ _ _ _ _ _ _ _ (mkF m 25 #[.val (.ref a1), .val (.int (0 : Int32)), .val (.ref a1), .val (.int (1 : Int32)), .val (.int (0 : Int32)), .val (.int (f1 0))] [(.int (0 : Int32)), (.int (31 : Int32))])
  refine own_step (fun t k => XS.imul X0.here hx rfl (hb hby d2_25) rfl k) ?_
  show own_Fin _ _ _ _ _ _ _ _ (mkF m 26 #[.val (.ref a1), .val (.int (0 : Int32)), .val (.ref a1), .val (.int (1 : Int32)), .val (.int (0 : Int32)), .val (.int (f1 0))] [(.int (0 : Int32))])
  refine own_step (fun t k => XS.iload X0.here hx rfl (hb hby d2_26) rfl k) ?_
  show own_Fin _ _ _ _ _ _ _ _ (mkF m 28 #[.val (.ref a1), .val (.int (0 : Int32)), .val (.ref a1), .val (.int (1 : Int32)), .val (.int (0 : Int32)), .val (.int (f1 0))] [(.int (f1 0)), (.int (0 : Int32))])
  refine own_step (fun t k => XS.iadd X0.here hx rfl (hb hby d2_28) rfl k) ?_
  show own_Fin _ _ _ _ _ _ _ _ (mkF m 29 #[.val (.ref a1), .val (.int (0 : Int32)), .val (.ref a1), .val (.int (1 : Int32)), .val (.int (0 : Int32)), .val (.int (f1 0))] [(.int ((0 : Int32) + (f1 0)))])
  refine own_step (fun t k => XS.istoreN X0.here hx rfl (hb hby d2_29) rfl (l' := #[.val (.ref a1), .val (.int ((0 : Int32) + (f1 0))), .val (.ref a1), .val (.int (1 : Int32)), .val (.int (0 : Int32)), .val (.int (f1 0))]) rfl k) ?_
  show own_Fin _ _ _ _ _ _ _ _ (mkF m 30 #[.val (.ref a1), .val (.int ((0 : Int32) + (f1 0))), .val (.ref a1), .val (.int (1 : Int32)), .val (.int (0 : Int32)), .val (.int (f1 0))] [])
  refine own_step (fun t k => XS.iinc X0.here hx rfl (hb hby d2_30) rfl (l' := #[.val (.ref a1), .val (.int ((0 : Int32) + (f1 0))), .val (.ref a1), .val (.int (1 : Int32)), .val (.int (1 : Int32)), .val (.int (f1 0))]) rfl k) ?_
  show own_Fin _ _ _ _ _ _ _ _ (mkF m 33 #[.val (.ref a1), .val (.int ((0 : Int32) + (f1 0))), .val (.ref a1), .val (.int (1 : Int32)), .val (.int (1 : Int32)), .val (.int (f1 0))] [])
  refine own_step (fun t k => XS.goto X0.here hx rfl (pc0 := 33) (pc' := 10) rfl (hb hby d2_33) (by decide) (by decide) k) ?_
  show own_Fin _ _ _ _ _ _ _ _ (mkF m 10 #[.val (.ref a1), .val (.int ((0 : Int32) + (f1 0))), .val (.ref a1), .val (.int (1 : Int32)), .val (.int (1 : Int32)), .val (.int (f1 0))] [])
  refine own_step (fun t k => XS.iload X0.here hx rfl (hb hby d2_10) rfl k) ?_
  show own_Fin _ _ _ _ _ _ _ _ (mkF m 12 #[.val (.ref a1), .val (.int ((0 : Int32) + (f1 0))), .val (.ref a1), .val (.int (1 : Int32)), .val (.int (1 : Int32)), .val (.int (f1 0))] [(.int (1 : Int32))])
  refine own_step (fun t k => XS.iloadN X0.here hx rfl (hb hby d2_12) rfl k) ?_
  show own_Fin _ _ _ _ _ _ _ _ (mkF m 13 #[.val (.ref a1), .val (.int ((0 : Int32) + (f1 0))), .val (.ref a1), .val (.int (1 : Int32)), .val (.int (1 : Int32)), .val (.int (f1 0))] [(.int (1 : Int32)), (.int (1 : Int32))])
  refine own_step (fun t k => XS.icmpYes X0.here hx rfl (pc0 := 13) (pc' := 36) rfl (hb hby d2_13) rfl (by decide) (by decide) (by decide) k) ?_
  show own_Fin _ _ _ _ _ _ _ _ (mkF m 36 #[.val (.ref a1), .val (.int ((0 : Int32) + (f1 0))), .val (.ref a1), .val (.int (1 : Int32)), .val (.int (1 : Int32)), .val (.int (f1 0))] [])
  refine own_step (fun t k => XS.iloadN X0.here hx rfl (hb hby d2_36) rfl k) ?_
  show own_Fin _ _ _ _ _ _ _ _ (mkF m 37 #[.val (.ref a1), .val (.int ((0 : Int32) + (f1 0))), .val (.ref a1), .val (.int (1 : Int32)), .val (.int (1 : Int32)), .val (.int (f1 0))] [(.int ((0 : Int32) + (f1 0)))])
  refine own_step (fun t k => XS.iloadN X0.here hx rfl (hb hby d2_37) rfl k) ?_
  show own_Fin _ _ _ _ _ _ _ _ (mkF m 38 #[.val (.ref a1), .val (.int ((0 : Int32) + (f1 0))), .val (.ref a1), .val (.int (1 : Int32)), .val (.int (1 : Int32)), .val (.int (f1 0))] [(.int ((0 : Int32) + (f1 0))), (.int ((0 : Int32) + (f1 0)))])
  refine own_step (fun t k => XS.bipush X0.here hx rfl (hb hby d2_38) k) ?_
  show own_Fin _ _ _ _ _ _ _ _ (mkF m 40 #[.val (.ref a1), .val (.int ((0 : Int32) + (f1 0))), .val (.ref a1), .val (.int (1 : Int32)), .val (.int (1 : Int32)), .val (.int (f1 0))] [(.int (16 : Int32)), (.int ((0 : Int32) + (f1 0))), (.int ((0 : Int32) + (f1 0)))])
  refine own_step (fun t k => XS.iushr X0.here hx rfl (hb hby d2_40) rfl k) ?_
  show own_Fin _ _ _ _ _ _ _ _ (mkF m 41 #[.val (.ref a1), .val (.int ((0 : Int32) + (f1 0))), .val (.ref a1), .val (.int (1 : Int32)), .val (.int (1 : Int32)), .val (.int (f1 0))] [(.int ((((0 : Int32) + (f1 0)).toUInt32 >>> ((16 : Int32) &&& 31).toUInt32).toInt32)), (.int ((0 : Int32) + (f1 0)))])
  refine own_step (fun t k => XS.ixor X0.here hx rfl (hb hby d2_41) rfl k) ?_
  show own_Fin _ _ _ _ _ _ _ _ (mkF m 42 #[.val (.ref a1), .val (.int ((0 : Int32) + (f1 0))), .val (.ref a1), .val (.int (1 : Int32)), .val (.int (1 : Int32)), .val (.int (f1 0))] [(.int (((0 : Int32) + (f1 0)) ^^^ ((((0 : Int32) + (f1 0)).toUInt32 >>> ((16 : Int32) &&& 31).toUInt32).toInt32)))])
  generalize hz0 : (((0 : Int32) + (f1 0)) ^^^ ((((0 : Int32) + (f1 0)).toUInt32 >>> ((16 : Int32) &&& 31).toUInt32).toInt32)) = z0
  refine own_step (fun t k => XS.istoreN X0.here hx rfl (hb hby d2_42) rfl (l' := #[.val (.ref a1), .val (.int z0), .val (.ref a1), .val (.int (1 : Int32)), .val (.int (1 : Int32)), .val (.int (f1 0))]) rfl k) ?_
  show own_Fin _ _ _ _ _ _ _ _ (mkF m 43 #[.val (.ref a1), .val (.int z0), .val (.ref a1), .val (.int (1 : Int32)), .val (.int (1 : Int32)), .val (.int (f1 0))] [])
  refine own_step (fun t k => XS.iloadN X0.here hx rfl (hb hby d2_43) rfl k) ?_
  show own_Fin _ _ _ _ _ _ _ _ (mkF m 44 #[.val (.ref a1), .val (.int z0), .val (.ref a1), .val (.int (1 : Int32)), .val (.int (1 : Int32)), .val (.int (f1 0))] [(.int z0)])
  refine own_step (fun t k => X0.ldcInt hx hown (mvT hZ (hw _ (List.mem_of_getElem? (i := 5) rfl))) (g := (mkF m 44 #[.val (.ref a1), .val (.int z0), .val (.ref a1), .val (.int (1 : Int32)), .val (.int (1 : Int32)), .val (.int (f1 0))] [(.int z0)])) rfl (hb hby d2_44) _ k) ?_
  show own_Fin _ _ _ _ _ _ _ _ (mkF m 46 #[.val (.ref a1), .val (.int z0), .val (.ref a1), .val (.int (1 : Int32)), .val (.int (1 : Int32)), .val (.int (f1 0))] [(.int (-2048144789 : Int32)), (.int z0)])
  refine own_step (fun t k => XS.imul X0.here hx rfl (hb hby d2_46) rfl k) ?_
  show own_Fin _ _ _ _ _ _ _ _ (mkF m 47 #[.val (.ref a1), .val (.int z0), .val (.ref a1), .val (.int (1 : Int32)), .val (.int (1 : Int32)), .val (.int (f1 0))] [(.int (z0 * (-2048144789 : Int32)))])
  generalize hz1 : (z0 * (-2048144789 : Int32)) = z1
  refine own_step (fun t k => XS.istoreN X0.here hx rfl (hb hby d2_47) rfl (l' := #[.val (.ref a1), .val (.int z1), .val (.ref a1), .val (.int (1 : Int32)), .val (.int (1 : Int32)), .val (.int (f1 0))]) rfl k) ?_
  show own_Fin _ _ _ _ _ _ _ _ (mkF m 48 #[.val (.ref a1), .val (.int z1), .val (.ref a1), .val (.int (1 : Int32)), .val (.int (1 : Int32)), .val (.int (f1 0))] [])
  refine own_step (fun t k => XS.iloadN X0.here hx rfl (hb hby d2_48) rfl k) ?_
  show own_Fin _ _ _ _ _ _ _ _ (mkF m 49 #[.val (.ref a1), .val (.int z1), .val (.ref a1), .val (.int (1 : Int32)), .val (.int (1 : Int32)), .val (.int (f1 0))] [(.int z1)])
  refine own_step (fun t k => XS.iloadN X0.here hx rfl (hb hby d2_49) rfl k) ?_
  show own_Fin _ _ _ _ _ _ _ _ (mkF m 50 #[.val (.ref a1), .val (.int z1), .val (.ref a1), .val (.int (1 : Int32)), .val (.int (1 : Int32)), .val (.int (f1 0))] [(.int z1), (.int z1)])
  refine own_step (fun t k => XS.bipush X0.here hx rfl (hb hby d2_50) k) ?_
  show own_Fin _ _ _ _ _ _ _ _ (mkF m 52 #[.val (.ref a1), .val (.int z1), .val (.ref a1), .val (.int (1 : Int32)), .val (.int (1 : Int32)), .val (.int (f1 0))] [(.int (13 : Int32)), (.int z1), (.int z1)])
  refine own_step (fun t k => XS.iushr X0.here hx rfl (hb hby d2_52) rfl k) ?_
  show own_Fin _ _ _ _ _ _ _ _ (mkF m 53 #[.val (.ref a1), .val (.int z1), .val (.ref a1), .val (.int (1 : Int32)), .val (.int (1 : Int32)), .val (.int (f1 0))] [(.int ((z1.toUInt32 >>> ((13 : Int32) &&& 31).toUInt32).toInt32)), (.int z1)])
  refine own_step (fun t k => XS.ixor X0.here hx rfl (hb hby d2_53) rfl k) ?_
  show own_Fin _ _ _ _ _ _ _ _ (mkF m 54 #[.val (.ref a1), .val (.int z1), .val (.ref a1), .val (.int (1 : Int32)), .val (.int (1 : Int32)), .val (.int (f1 0))] [(.int (z1 ^^^ ((z1.toUInt32 >>> ((13 : Int32) &&& 31).toUInt32).toInt32)))])
  generalize hz2 : (z1 ^^^ ((z1.toUInt32 >>> ((13 : Int32) &&& 31).toUInt32).toInt32)) = z2
  refine own_step (fun t k => XS.istoreN X0.here hx rfl (hb hby d2_54) rfl (l' := #[.val (.ref a1), .val (.int z2), .val (.ref a1), .val (.int (1 : Int32)), .val (.int (1 : Int32)), .val (.int (f1 0))]) rfl k) ?_
  show own_Fin _ _ _ _ _ _ _ _ (mkF m 55 #[.val (.ref a1), .val (.int z2), .val (.ref a1), .val (.int (1 : Int32)), .val (.int (1 : Int32)), .val (.int (f1 0))] [])
  refine own_step (fun t k => XS.iloadN X0.here hx rfl (hb hby d2_55) rfl k) ?_
  show own_Fin _ _ _ _ _ _ _ _ (mkF m 56 #[.val (.ref a1), .val (.int z2), .val (.ref a1), .val (.int (1 : Int32)), .val (.int (1 : Int32)), .val (.int (f1 0))] [(.int z2)])
  refine own_step (fun t k => X0.ldcInt hx hown (mvT hZ (hw _ (List.mem_of_getElem? (i := 6) rfl))) (g := (mkF m 56 #[.val (.ref a1), .val (.int z2), .val (.ref a1), .val (.int (1 : Int32)), .val (.int (1 : Int32)), .val (.int (f1 0))] [(.int z2)])) rfl (hb hby d2_56) _ k) ?_
  show own_Fin _ _ _ _ _ _ _ _ (mkF m 58 #[.val (.ref a1), .val (.int z2), .val (.ref a1), .val (.int (1 : Int32)), .val (.int (1 : Int32)), .val (.int (f1 0))] [(.int (-1028477387 : Int32)), (.int z2)])
  refine own_step (fun t k => XS.imul X0.here hx rfl (hb hby d2_58) rfl k) ?_
  show own_Fin _ _ _ _ _ _ _ _ (mkF m 59 #[.val (.ref a1), .val (.int z2), .val (.ref a1), .val (.int (1 : Int32)), .val (.int (1 : Int32)), .val (.int (f1 0))] [(.int (z2 * (-1028477387 : Int32)))])
  generalize hz3 : (z2 * (-1028477387 : Int32)) = z3
  refine own_step (fun t k => XS.istoreN X0.here hx rfl (hb hby d2_59) rfl (l' := #[.val (.ref a1), .val (.int z3), .val (.ref a1), .val (.int (1 : Int32)), .val (.int (1 : Int32)), .val (.int (f1 0))]) rfl k) ?_
  show own_Fin _ _ _ _ _ _ _ _ (mkF m 60 #[.val (.ref a1), .val (.int z3), .val (.ref a1), .val (.int (1 : Int32)), .val (.int (1 : Int32)), .val (.int (f1 0))] [])
  refine own_step (fun t k => XS.iloadN X0.here hx rfl (hb hby d2_60) rfl k) ?_
  show own_Fin _ _ _ _ _ _ _ _ (mkF m 61 #[.val (.ref a1), .val (.int z3), .val (.ref a1), .val (.int (1 : Int32)), .val (.int (1 : Int32)), .val (.int (f1 0))] [(.int z3)])
  refine own_step (fun t k => XS.iloadN X0.here hx rfl (hb hby d2_61) rfl k) ?_
  show own_Fin _ _ _ _ _ _ _ _ (mkF m 62 #[.val (.ref a1), .val (.int z3), .val (.ref a1), .val (.int (1 : Int32)), .val (.int (1 : Int32)), .val (.int (f1 0))] [(.int z3), (.int z3)])
  refine own_step (fun t k => XS.bipush X0.here hx rfl (hb hby d2_62) k) ?_
  show own_Fin _ _ _ _ _ _ _ _ (mkF m 64 #[.val (.ref a1), .val (.int z3), .val (.ref a1), .val (.int (1 : Int32)), .val (.int (1 : Int32)), .val (.int (f1 0))] [(.int (16 : Int32)), (.int z3), (.int z3)])
  refine own_step (fun t k => XS.iushr X0.here hx rfl (hb hby d2_64) rfl k) ?_
  show own_Fin _ _ _ _ _ _ _ _ (mkF m 65 #[.val (.ref a1), .val (.int z3), .val (.ref a1), .val (.int (1 : Int32)), .val (.int (1 : Int32)), .val (.int (f1 0))] [(.int ((z3.toUInt32 >>> ((16 : Int32) &&& 31).toUInt32).toInt32)), (.int z3)])
  refine own_step (fun t k => XS.ixor X0.here hx rfl (hb hby d2_65) rfl k) ?_
  show own_Fin _ _ _ _ _ _ _ _ (mkF m 66 #[.val (.ref a1), .val (.int z3), .val (.ref a1), .val (.int (1 : Int32)), .val (.int (1 : Int32)), .val (.int (f1 0))] [(.int (z3 ^^^ ((z3.toUInt32 >>> ((16 : Int32) &&& 31).toUInt32).toInt32)))])
  refine own_step (fun t k => XS.istoreN X0.here hx rfl (hb hby d2_66) rfl (l' := #[.val (.ref a1), .val (.int (z3 ^^^ ((z3.toUInt32 >>> ((16 : Int32) &&& 31).toUInt32).toInt32))), .val (.ref a1), .val (.int (1 : Int32)), .val (.int (1 : Int32)), .val (.int (f1 0))]) rfl k) ?_
  show own_Fin _ _ _ _ _ _ _ _ (mkF m 67 #[.val (.ref a1), .val (.int (z3 ^^^ ((z3.toUInt32 >>> ((16 : Int32) &&& 31).toUInt32).toInt32))), .val (.ref a1), .val (.int (1 : Int32)), .val (.int (1 : Int32)), .val (.int (f1 0))] [])
  refine own_step (fun t k => XS.iloadN X0.here hx rfl (hb hby d2_67) rfl k) ?_
  show own_Fin _ _ _ _ _ _ _ _ (mkF m 68 #[.val (.ref a1), .val (.int (z3 ^^^ ((z3.toUInt32 >>> ((16 : Int32) &&& 31).toUInt32).toInt32))), .val (.ref a1), .val (.int (1 : Int32)), .val (.int (1 : Int32)), .val (.int (f1 0))] [(.int (z3 ^^^ ((z3.toUInt32 >>> ((16 : Int32) &&& 31).toUInt32).toInt32)))])
  refine own_retI X0 hx hlk Bd.returns (hb hby d2_68) (by decide) (by decide) e0 ?_
  subst hz3 hz2 hz1 hz0; exact ⟨rfl, Nf, rfl⟩
theorem d3_0 : decode prog_64_method_10_code 0 = .ok (.iconst 0, 1) := by decide +kernel
theorem d3_1 : decode prog_64_method_10_code 1 = .ok (.istore_n 1, 1) := by decide +kernel
theorem d3_2 : decode prog_64_method_10_code 2 = .ok (.aload_n 0, 1) := by decide +kernel
theorem d3_3 : decode prog_64_method_10_code 3 = .ok (.astore_n 2, 1) := by decide +kernel
theorem d3_4 : decode prog_64_method_10_code 4 = .ok (.aload_n 2, 1) := by decide +kernel
theorem d3_5 : decode prog_64_method_10_code 5 = .ok (.arraylength, 1) := by decide +kernel
theorem d3_6 : decode prog_64_method_10_code 6 = .ok (.istore_n 3, 1) := by decide +kernel
theorem d3_7 : decode prog_64_method_10_code 7 = .ok (.iconst 0, 1) := by decide +kernel
theorem d3_8 : decode prog_64_method_10_code 8 = .ok (.istore 4, 2) := by decide +kernel
theorem d3_10 : decode prog_64_method_10_code 10 = .ok (.iload 4, 2) := by decide +kernel
theorem d3_12 : decode prog_64_method_10_code 12 = .ok (.iload_n 3, 1) := by decide +kernel
theorem d3_13 : decode prog_64_method_10_code 13 = .ok (.if_icmp .ge 23, 3) := by decide +kernel
theorem d3_16 : decode prog_64_method_10_code 16 = .ok (.aload_n 2, 1) := by decide +kernel
theorem d3_17 : decode prog_64_method_10_code 17 = .ok (.iload 4, 2) := by decide +kernel
theorem d3_19 : decode prog_64_method_10_code 19 = .ok (.iaload, 1) := by decide +kernel
theorem d3_20 : decode prog_64_method_10_code 20 = .ok (.istore 5, 2) := by decide +kernel
theorem d3_22 : decode prog_64_method_10_code 22 = .ok (.bipush 31, 2) := by decide +kernel
theorem d3_24 : decode prog_64_method_10_code 24 = .ok (.iload_n 1, 1) := by decide +kernel
theorem d3_25 : decode prog_64_method_10_code 25 = .ok (.imul, 1) := by decide +kernel
theorem d3_26 : decode prog_64_method_10_code 26 = .ok (.iload 5, 2) := by decide +kernel
theorem d3_28 : decode prog_64_method_10_code 28 = .ok (.iadd, 1) := by decide +kernel
theorem d3_29 : decode prog_64_method_10_code 29 = .ok (.istore_n 1, 1) := by decide +kernel
theorem d3_30 : decode prog_64_method_10_code 30 = .ok (.iinc 4 1, 3) := by decide +kernel
theorem d3_33 : decode prog_64_method_10_code 33 = .ok (.goto (-23), 3) := by decide +kernel
theorem d3_36 : decode prog_64_method_10_code 36 = .ok (.iload_n 1, 1) := by decide +kernel
theorem d3_37 : decode prog_64_method_10_code 37 = .ok (.iload_n 1, 1) := by decide +kernel
theorem d3_38 : decode prog_64_method_10_code 38 = .ok (.bipush 16, 2) := by decide +kernel
theorem d3_40 : decode prog_64_method_10_code 40 = .ok (.iushr, 1) := by decide +kernel
theorem d3_41 : decode prog_64_method_10_code 41 = .ok (.ixor, 1) := by decide +kernel
theorem d3_42 : decode prog_64_method_10_code 42 = .ok (.istore_n 1, 1) := by decide +kernel
theorem d3_43 : decode prog_64_method_10_code 43 = .ok (.iload_n 1, 1) := by decide +kernel
theorem d3_44 : decode prog_64_method_10_code 44 = .ok (.ldc 100, 2) := by decide +kernel
theorem d3_46 : decode prog_64_method_10_code 46 = .ok (.imul, 1) := by decide +kernel
theorem d3_47 : decode prog_64_method_10_code 47 = .ok (.istore_n 1, 1) := by decide +kernel
theorem d3_48 : decode prog_64_method_10_code 48 = .ok (.iload_n 1, 1) := by decide +kernel
theorem d3_49 : decode prog_64_method_10_code 49 = .ok (.iload_n 1, 1) := by decide +kernel
theorem d3_50 : decode prog_64_method_10_code 50 = .ok (.bipush 13, 2) := by decide +kernel
theorem d3_52 : decode prog_64_method_10_code 52 = .ok (.iushr, 1) := by decide +kernel
theorem d3_53 : decode prog_64_method_10_code 53 = .ok (.ixor, 1) := by decide +kernel
theorem d3_54 : decode prog_64_method_10_code 54 = .ok (.istore_n 1, 1) := by decide +kernel
theorem d3_55 : decode prog_64_method_10_code 55 = .ok (.iload_n 1, 1) := by decide +kernel
theorem d3_56 : decode prog_64_method_10_code 56 = .ok (.ldc 101, 2) := by decide +kernel
theorem d3_58 : decode prog_64_method_10_code 58 = .ok (.imul, 1) := by decide +kernel
theorem d3_59 : decode prog_64_method_10_code 59 = .ok (.istore_n 1, 1) := by decide +kernel
theorem d3_60 : decode prog_64_method_10_code 60 = .ok (.iload_n 1, 1) := by decide +kernel
theorem d3_61 : decode prog_64_method_10_code 61 = .ok (.iload_n 1, 1) := by decide +kernel
theorem d3_62 : decode prog_64_method_10_code 62 = .ok (.bipush 16, 2) := by decide +kernel
theorem d3_64 : decode prog_64_method_10_code 64 = .ok (.iushr, 1) := by decide +kernel
theorem d3_65 : decode prog_64_method_10_code 65 = .ok (.ixor, 1) := by decide +kernel
theorem d3_66 : decode prog_64_method_10_code 66 = .ok (.istore_n 1, 1) := by decide +kernel
theorem d3_67 : decode prog_64_method_10_code 67 = .ok (.iload_n 1, 1) := by decide +kernel
theorem d3_68 : decode prog_64_method_10_code 68 = .ok (.ireturn, 1) := by decide +kernel
theorem own_pn_3 : plainName "com/example/limfjord/limfjord/engine/StateStore" = true := by first | (simp [plainName, overriddenIn]; done) | decide +kernel
theorem own_ef_3 (m : MethodId) (a1 : Addr) : entryFrame m #[(.ref a1)] 6 = mkF m 0 #[.val (.ref a1), .unset, .unset, .unset, .unset, .unset] [] := by first | (simp [entryFrame, mkF, argsToLocals, Value.category]; done) | rfl
abbrev own_R3 : Room := { frames := 0, cells := 0, slots := 0, locals := 0 }
def own_Q3 (Z : State) (a1 : Addr) (f1 : Nat → Int32) (h0 : Heap) (n0 : Nat) (v : Option Value) (h : Heap) (L : List Loc) : Prop := v = some (.int (own_mix (((31 : Int32) * ((0 : Int32) + (f1 0))) + (f1 1)))) ∧ Fr n0 L ∧ h = h0
set_option maxRecDepth 65536 in
set_option maxHeartbeats 40000000 in
theorem rm3 (l : Launch) (Z : State) (a0 : Array Value) (hw : ∀ d ∈ tables_1, d.before a0 Z = true) (ws : List Jvm.Cond) (a1 : Addr) (f1 : Nat → Int32) (h0 : Heap) (n0 : Nat) (Z0 : n0 ≤ h0.size) (V_a1 : own_AI Z h0 a1 .int 2 f1) :
    MetFree l (⟨"com/example/limfjord/limfjord/engine/StateStore", "hash", "([I)I"⟩ : MethodName) (head1 (Jvm.Cond.code (⟨"com/example/limfjord/limfjord/engine/StateStore", "hash", "([I)I"⟩ : MethodName) prog_64_method_10_code 6 (some .int) :: ws) own_R3) (fun a U => a = #[(.ref a1)] ∧ Z.Warmed39 U.vm ∧ U.heap = h0) (fun _ _ _ _ _ => True) (fun _ U o U' => ∃ v L, o = .returned v ∧ own_Q3 Z a1 f1 h0 n0 v U'.heap L ∧ FrameEnd U o U' L own_R3.cells own_R3.slots) := by
  refine MetFree.of_bodySF (plainFor_of_name own_pn_3) hisR ?_
  intro p e s m args below meth c s₁ Bd hml0 hP hK
  obtain ⟨rfl, hZ, hh⟩ := hP
  have hx := Bd.exec
  have hby := Bd.bytes
  have hlk := BodyLoose.notSynchronized Bd
  have hml : c.maxLocals = 6 := hml0
  have hown : s.vm.findClass "com/example/limfjord/limfjord/engine/StateStore" = some m.cls := (findClass_of_methodNamed Bd.named : s.vm.findClass (⟨"com/example/limfjord/limfjord/engine/StateStore", "hash", "([I)I"⟩ : MethodName).cls = some m.cls)
  have hnm := (name_of_methodNamed Bd.named Bd.method).1
  have X0 : Stand p l e own_R3 s m #[(.ref a1)] below meth c s₁ [] 0 0 := Stand.of_body Bd
  have e0 : s₁.heap = h0 := by rw [← hh, Bd.state]; rfl
  have Nf := Fr.nil n0
  have Zs := Z0
  show own_Fin p e below s (own_Q3 Z a1 f1 h0 n0) 0 0 s₁ (entryFrame m #[(.ref a1)] 6)
  rw [own_ef_3 m a1]
  show own_Fin _ _ _ _ _ _ _ _ (mkF m 0 #[.val (.ref a1), .unset, .unset, .unset, .unset, .unset] [])
  refine own_step (fun t k => XS.iconst X0.here hx rfl (hb hby d3_0) k) ?_
  show own_Fin _ _ _ _ _ _ _ _ (mkF m 1 #[.val (.ref a1), .unset, .unset, .unset, .unset, .unset] [(.int (0 : Int32))])
  refine own_step (fun t k => XS.istoreN X0.here hx rfl (hb hby d3_1) rfl (l' := #[.val (.ref a1), .val (.int (0 : Int32)), .unset, .unset, .unset, .unset]) rfl k) ?_
  show own_Fin _ _ _ _ _ _ _ _ (mkF m 2 #[.val (.ref a1), .val (.int (0 : Int32)), .unset, .unset, .unset, .unset] [])
  refine own_step (fun t k => XS.aloadN X0.here hx rfl (hb hby d3_2) rfl rfl k) ?_
  show own_Fin _ _ _ _ _ _ _ _ (mkF m 3 #[.val (.ref a1), .val (.int (0 : Int32)), .unset, .unset, .unset, .unset] [(.ref a1)])
  refine own_step (fun t k => XS.astoreN X0.here hx rfl (hb hby d3_3) rfl rfl (l' := #[.val (.ref a1), .val (.int (0 : Int32)), .val (.ref a1), .unset, .unset, .unset]) rfl k) ?_
  show own_Fin _ _ _ _ _ _ _ _ (mkF m 4 #[.val (.ref a1), .val (.int (0 : Int32)), .val (.ref a1), .unset, .unset, .unset] [])
  refine own_step (fun t k => XS.aloadN X0.here hx rfl (hb hby d3_4) rfl rfl k) ?_
  show own_Fin _ _ _ _ _ _ _ _ (mkF m 5 #[.val (.ref a1), .val (.int (0 : Int32)), .val (.ref a1), .unset, .unset, .unset] [(.ref a1)])
  refine own_arrlen X0 hx hZ e0 V_a1 (z := (2 : Int32)) rfl (hb hby d3_5) rfl ?_
  show own_Fin _ _ _ _ _ _ _ _ (mkF m 6 #[.val (.ref a1), .val (.int (0 : Int32)), .val (.ref a1), .unset, .unset, .unset] [(.int (2 : Int32))])
  refine own_step (fun t k => XS.istoreN X0.here hx rfl (hb hby d3_6) rfl (l' := #[.val (.ref a1), .val (.int (0 : Int32)), .val (.ref a1), .val (.int (2 : Int32)), .unset, .unset]) rfl k) ?_
  show own_Fin _ _ _ _ _ _ _ _ (mkF m 7 #[.val (.ref a1), .val (.int (0 : Int32)), .val (.ref a1), .val (.int (2 : Int32)), .unset, .unset] [])
  refine own_step (fun t k => XS.iconst X0.here hx rfl (hb hby d3_7) k) ?_
  show own_Fin _ _ _ _ _ _ _ _ (mkF m 8 #[.val (.ref a1), .val (.int (0 : Int32)), .val (.ref a1), .val (.int (2 : Int32)), .unset, .unset] [(.int (0 : Int32))])
  refine own_step (fun t k => XS.istore X0.here hx rfl (hb hby d3_8) rfl (l' := #[.val (.ref a1), .val (.int (0 : Int32)), .val (.ref a1), .val (.int (2 : Int32)), .val (.int (0 : Int32)), .unset]) rfl k) ?_
  show own_Fin _ _ _ _ _ _ _ _ (mkF m 10 #[.val (.ref a1), .val (.int (0 : Int32)), .val (.ref a1), .val (.int (2 : Int32)), .val (.int (0 : Int32)), .unset] [])
  refine own_step (fun t k => XS.iload X0.here hx rfl (hb hby d3_10) rfl k) ?_
  show own_Fin _ _ _ _ _ _ _ _ (mkF m 12 #[.val (.ref a1), .val (.int (0 : Int32)), .val (.ref a1), .val (.int (2 : Int32)), .val (.int (0 : Int32)), .unset] [(.int (0 : Int32))])
  refine own_step (fun t k => XS.iloadN X0.here hx rfl (hb hby d3_12) rfl k) ?_
  show own_Fin _ _ _ _ _ _ _ _ (mkF m 13 #[.val (.ref a1), .val (.int (0 : Int32)), .val (.ref a1), .val (.int (2 : Int32)), .val (.int (0 : Int32)), .unset] [(.int (2 : Int32)), (.int (0 : Int32))])
  refine own_step (fun t k => XS.icmpNo X0.here hx rfl (hb hby d3_13) rfl (by decide) k) ?_
  show own_Fin _ _ _ _ _ _ _ _ (mkF m 16 #[.val (.ref a1), .val (.int (0 : Int32)), .val (.ref a1), .val (.int (2 : Int32)), .val (.int (0 : Int32)), .unset] [])
  refine own_step (fun t k => XS.aloadN X0.here hx rfl (hb hby d3_16) rfl rfl k) ?_
  show own_Fin _ _ _ _ _ _ _ _ (mkF m 17 #[.val (.ref a1), .val (.int (0 : Int32)), .val (.ref a1), .val (.int (2 : Int32)), .val (.int (0 : Int32)), .unset] [(.ref a1)])
  refine own_step (fun t k => XS.iload X0.here hx rfl (hb hby d3_17) rfl k) ?_
  show own_Fin _ _ _ _ _ _ _ _ (mkF m 19 #[.val (.ref a1), .val (.int (0 : Int32)), .val (.ref a1), .val (.int (2 : Int32)), .val (.int (0 : Int32)), .unset] [(.int (0 : Int32)), (.ref a1)])
  refine own_iaload X0 hx hZ e0 V_a1 (k := 0) rfl (by decide) (v := (f1 0)) rfl (hb hby d3_19) rfl ?_
  show own_Fin _ _ _ _ _ _ _ _ (mkF m 20 #[.val (.ref a1), .val (.int (0 : Int32)), .val (.ref a1), .val (.int (2 : Int32)), .val (.int (0 : Int32)), .unset] [(.int (f1 0))])
  refine own_step (fun t k => XS.istore X0.here hx rfl (hb hby d3_20) rfl (l' := #[.val (.ref a1), .val (.int (0 : Int32)), .val (.ref a1), .val (.int (2 : Int32)), .val (.int (0 : Int32)), .val (.int (f1 0))]) rfl k) ?_
  show own_Fin _ _ _ _ _ _ _ _ (mkF m 22 #[.val (.ref a1), .val (.int (0 : Int32)), .val (.ref a1), .val (.int (2 : Int32)), .val (.int (0 : Int32)), .val (.int (f1 0))] [])
  refine own_step (fun t k => XS.bipush X0.here hx rfl (hb hby d3_22) k) ?_
  show own_Fin _ _ _ _ _ _ _ _ (mkF m 24 #[.val (.ref a1), .val (.int (0 : Int32)), .val (.ref a1), .val (.int (2 : Int32)), .val (.int (0 : Int32)), .val (.int (f1 0))] [(.int (31 : Int32))])
  refine own_step (fun t k => XS.iloadN X0.here hx rfl (hb hby d3_24) rfl k) ?_
  show own_Fin _ _ _ _ _ _ _ _ (mkF m 25 #[.val (.ref a1), .val (.int (0 : Int32)), .val (.ref a1), .val (.int (2 : Int32)), .val (.int (0 : Int32)), .val (.int (f1 0))] [(.int (0 : Int32)), (.int (31 : Int32))])
  refine own_step (fun t k => XS.imul X0.here hx rfl (hb hby d3_25) rfl k) ?_
  show own_Fin _ _ _ _ _ _ _ _ (mkF m 26 #[.val (.ref a1), .val (.int (0 : Int32)), .val (.ref a1), .val (.int (2 : Int32)), .val (.int (0 : Int32)), .val (.int (f1 0))] [(.int (0 : Int32))])
  refine own_step (fun t k => XS.iload X0.here hx rfl (hb hby d3_26) rfl k) ?_
  show own_Fin _ _ _ _ _ _ _ _ (mkF m 28 #[.val (.ref a1), .val (.int (0 : Int32)), .val (.ref a1), .val (.int (2 : Int32)), .val (.int (0 : Int32)), .val (.int (f1 0))] [(.int (f1 0)), (.int (0 : Int32))])
  refine own_step (fun t k => XS.iadd X0.here hx rfl (hb hby d3_28) rfl k) ?_
  show own_Fin _ _ _ _ _ _ _ _ (mkF m 29 #[.val (.ref a1), .val (.int (0 : Int32)), .val (.ref a1), .val (.int (2 : Int32)), .val (.int (0 : Int32)), .val (.int (f1 0))] [(.int ((0 : Int32) + (f1 0)))])
  refine own_step (fun t k => XS.istoreN X0.here hx rfl (hb hby d3_29) rfl (l' := #[.val (.ref a1), .val (.int ((0 : Int32) + (f1 0))), .val (.ref a1), .val (.int (2 : Int32)), .val (.int (0 : Int32)), .val (.int (f1 0))]) rfl k) ?_
  show own_Fin _ _ _ _ _ _ _ _ (mkF m 30 #[.val (.ref a1), .val (.int ((0 : Int32) + (f1 0))), .val (.ref a1), .val (.int (2 : Int32)), .val (.int (0 : Int32)), .val (.int (f1 0))] [])
  refine own_step (fun t k => XS.iinc X0.here hx rfl (hb hby d3_30) rfl (l' := #[.val (.ref a1), .val (.int ((0 : Int32) + (f1 0))), .val (.ref a1), .val (.int (2 : Int32)), .val (.int (1 : Int32)), .val (.int (f1 0))]) rfl k) ?_
  show own_Fin _ _ _ _ _ _ _ _ (mkF m 33 #[.val (.ref a1), .val (.int ((0 : Int32) + (f1 0))), .val (.ref a1), .val (.int (2 : Int32)), .val (.int (1 : Int32)), .val (.int (f1 0))] [])
  refine own_step (fun t k => XS.goto X0.here hx rfl (pc0 := 33) (pc' := 10) rfl (hb hby d3_33) (by decide) (by decide) k) ?_
  show own_Fin _ _ _ _ _ _ _ _ (mkF m 10 #[.val (.ref a1), .val (.int ((0 : Int32) + (f1 0))), .val (.ref a1), .val (.int (2 : Int32)), .val (.int (1 : Int32)), .val (.int (f1 0))] [])
  refine own_step (fun t k => XS.iload X0.here hx rfl (hb hby d3_10) rfl k) ?_
  show own_Fin _ _ _ _ _ _ _ _ (mkF m 12 #[.val (.ref a1), .val (.int ((0 : Int32) + (f1 0))), .val (.ref a1), .val (.int (2 : Int32)), .val (.int (1 : Int32)), .val (.int (f1 0))] [(.int (1 : Int32))])
  refine own_step (fun t k => XS.iloadN X0.here hx rfl (hb hby d3_12) rfl k) ?_
  show own_Fin _ _ _ _ _ _ _ _ (mkF m 13 #[.val (.ref a1), .val (.int ((0 : Int32) + (f1 0))), .val (.ref a1), .val (.int (2 : Int32)), .val (.int (1 : Int32)), .val (.int (f1 0))] [(.int (2 : Int32)), (.int (1 : Int32))])
  refine own_step (fun t k => XS.icmpNo X0.here hx rfl (hb hby d3_13) rfl (by decide) k) ?_
  show own_Fin _ _ _ _ _ _ _ _ (mkF m 16 #[.val (.ref a1), .val (.int ((0 : Int32) + (f1 0))), .val (.ref a1), .val (.int (2 : Int32)), .val (.int (1 : Int32)), .val (.int (f1 0))] [])
  refine own_step (fun t k => XS.aloadN X0.here hx rfl (hb hby d3_16) rfl rfl k) ?_
  show own_Fin _ _ _ _ _ _ _ _ (mkF m 17 #[.val (.ref a1), .val (.int ((0 : Int32) + (f1 0))), .val (.ref a1), .val (.int (2 : Int32)), .val (.int (1 : Int32)), .val (.int (f1 0))] [(.ref a1)])
  refine own_step (fun t k => XS.iload X0.here hx rfl (hb hby d3_17) rfl k) ?_
  show own_Fin _ _ _ _ _ _ _ _ (mkF m 19 #[.val (.ref a1), .val (.int ((0 : Int32) + (f1 0))), .val (.ref a1), .val (.int (2 : Int32)), .val (.int (1 : Int32)), .val (.int (f1 0))] [(.int (1 : Int32)), (.ref a1)])
  refine own_iaload X0 hx hZ e0 V_a1 (k := 1) rfl (by decide) (v := (f1 1)) rfl (hb hby d3_19) rfl ?_
  show own_Fin _ _ _ _ _ _ _ _ (mkF m 20 #[.val (.ref a1), .val (.int ((0 : Int32) + (f1 0))), .val (.ref a1), .val (.int (2 : Int32)), .val (.int (1 : Int32)), .val (.int (f1 0))] [(.int (f1 1))])
  refine own_step (fun t k => XS.istore X0.here hx rfl (hb hby d3_20) rfl (l' := #[.val (.ref a1), .val (.int ((0 : Int32) + (f1 0))), .val (.ref a1), .val (.int (2 : Int32)), .val (.int (1 : Int32)), .val (.int (f1 1))]) rfl k) ?_
  show own_Fin _ _ _ _ _ _ _ _ (mkF m 22 #[.val (.ref a1), .val (.int ((0 : Int32) + (f1 0))), .val (.ref a1), .val (.int (2 : Int32)), .val (.int (1 : Int32)), .val (.int (f1 1))] [])
  refine own_step (fun t k => XS.bipush X0.here hx rfl (hb hby d3_22) k) ?_
  show own_Fin _ _ _ _ _ _ _ _ (mkF m 24 #[.val (.ref a1), .val (.int ((0 : Int32) + (f1 0))), .val (.ref a1), .val (.int (2 : Int32)), .val (.int (1 : Int32)), .val (.int (f1 1))] [(.int (31 : Int32))])
  refine own_step (fun t k => XS.iloadN X0.here hx rfl (hb hby d3_24) rfl k) ?_
  show own_Fin _ _ _ _ _ _ _ _ (mkF m 25 #[.val (.ref a1), .val (.int ((0 : Int32) + (f1 0))), .val (.ref a1), .val (.int (2 : Int32)), .val (.int (1 : Int32)), .val (.int (f1 1))] [(.int ((0 : Int32) + (f1 0))), (.int (31 : Int32))])
  refine own_step (fun t k => XS.imul X0.here hx rfl (hb hby d3_25) rfl k) ?_
  show own_Fin _ _ _ _ _ _ _ _ (mkF m 26 #[.val (.ref a1), .val (.int ((0 : Int32) + (f1 0))), .val (.ref a1), .val (.int (2 : Int32)), .val (.int (1 : Int32)), .val (.int (f1 1))] [(.int ((31 : Int32) * ((0 : Int32) + (f1 0))))])
  refine own_step (fun t k => XS.iload X0.here hx rfl (hb hby d3_26) rfl k) ?_
  show own_Fin _ _ _ _ _ _ _ _ (mkF m 28 #[.val (.ref a1), .val (.int ((0 : Int32) + (f1 0))), .val (.ref a1), .val (.int (2 : Int32)), .val (.int (1 : Int32)), .val (.int (f1 1))] [(.int (f1 1)), (.int ((31 : Int32) * ((0 : Int32) + (f1 0))))])
  refine own_step (fun t k => XS.iadd X0.here hx rfl (hb hby d3_28) rfl k) ?_
  show own_Fin _ _ _ _ _ _ _ _ (mkF m 29 #[.val (.ref a1), .val (.int ((0 : Int32) + (f1 0))), .val (.ref a1), .val (.int (2 : Int32)), .val (.int (1 : Int32)), .val (.int (f1 1))] [(.int (((31 : Int32) * ((0 : Int32) + (f1 0))) + (f1 1)))])
  refine own_step (fun t k => XS.istoreN X0.here hx rfl (hb hby d3_29) rfl (l' := #[.val (.ref a1), .val (.int (((31 : Int32) * ((0 : Int32) + (f1 0))) + (f1 1))), .val (.ref a1), .val (.int (2 : Int32)), .val (.int (1 : Int32)), .val (.int (f1 1))]) rfl k) ?_
  show own_Fin _ _ _ _ _ _ _ _ (mkF m 30 #[.val (.ref a1), .val (.int (((31 : Int32) * ((0 : Int32) + (f1 0))) + (f1 1))), .val (.ref a1), .val (.int (2 : Int32)), .val (.int (1 : Int32)), .val (.int (f1 1))] [])
  refine own_step (fun t k => XS.iinc X0.here hx rfl (hb hby d3_30) rfl (l' := #[.val (.ref a1), .val (.int (((31 : Int32) * ((0 : Int32) + (f1 0))) + (f1 1))), .val (.ref a1), .val (.int (2 : Int32)), .val (.int (2 : Int32)), .val (.int (f1 1))]) rfl k) ?_
  show own_Fin _ _ _ _ _ _ _ _ (mkF m 33 #[.val (.ref a1), .val (.int (((31 : Int32) * ((0 : Int32) + (f1 0))) + (f1 1))), .val (.ref a1), .val (.int (2 : Int32)), .val (.int (2 : Int32)), .val (.int (f1 1))] [])
  refine own_step (fun t k => XS.goto X0.here hx rfl (pc0 := 33) (pc' := 10) rfl (hb hby d3_33) (by decide) (by decide) k) ?_
  show own_Fin _ _ _ _ _ _ _ _ (mkF m 10 #[.val (.ref a1), .val (.int (((31 : Int32) * ((0 : Int32) + (f1 0))) + (f1 1))), .val (.ref a1), .val (.int (2 : Int32)), .val (.int (2 : Int32)), .val (.int (f1 1))] [])
  refine own_step (fun t k => XS.iload X0.here hx rfl (hb hby d3_10) rfl k) ?_
  show own_Fin _ _ _ _ _ _ _ _ (mkF m 12 #[.val (.ref a1), .val (.int (((31 : Int32) * ((0 : Int32) + (f1 0))) + (f1 1))), .val (.ref a1), .val (.int (2 : Int32)), .val (.int (2 : Int32)), .val (.int (f1 1))] [(.int (2 : Int32))])
  refine own_step (fun t k => XS.iloadN X0.here hx rfl (hb hby d3_12) rfl k) ?_
  show own_Fin _ _ _ _ _ _ _ _ (mkF m 13 #[.val (.ref a1), .val (.int (((31 : Int32) * ((0 : Int32) + (f1 0))) + (f1 1))), .val (.ref a1), .val (.int (2 : Int32)), .val (.int (2 : Int32)), .val (.int (f1 1))] [(.int (2 : Int32)), (.int (2 : Int32))])
  refine own_step (fun t k => XS.icmpYes X0.here hx rfl (pc0 := 13) (pc' := 36) rfl (hb hby d3_13) rfl (by decide) (by decide) (by decide) k) ?_
  show own_Fin _ _ _ _ _ _ _ _ (mkF m 36 #[.val (.ref a1), .val (.int (((31 : Int32) * ((0 : Int32) + (f1 0))) + (f1 1))), .val (.ref a1), .val (.int (2 : Int32)), .val (.int (2 : Int32)), .val (.int (f1 1))] [])
  refine own_step (fun t k => XS.iloadN X0.here hx rfl (hb hby d3_36) rfl k) ?_
  show own_Fin _ _ _ _ _ _ _ _ (mkF m 37 #[.val (.ref a1), .val (.int (((31 : Int32) * ((0 : Int32) + (f1 0))) + (f1 1))), .val (.ref a1), .val (.int (2 : Int32)), .val (.int (2 : Int32)), .val (.int (f1 1))] [(.int (((31 : Int32) * ((0 : Int32) + (f1 0))) + (f1 1)))])
  refine own_step (fun t k => XS.iloadN X0.here hx rfl (hb hby d3_37) rfl k) ?_
  show own_Fin _ _ _ _ _ _ _ _ (mkF m 38 #[.val (.ref a1), .val (.int (((31 : Int32) * ((0 : Int32) + (f1 0))) + (f1 1))), .val (.ref a1), .val (.int (2 : Int32)), .val (.int (2 : Int32)), .val (.int (f1 1))] [(.int (((31 : Int32) * ((0 : Int32) + (f1 0))) + (f1 1))), (.int (((31 : Int32) * ((0 : Int32) + (f1 0))) + (f1 1)))])
  refine own_step (fun t k => XS.bipush X0.here hx rfl (hb hby d3_38) k) ?_
  show own_Fin _ _ _ _ _ _ _ _ (mkF m 40 #[.val (.ref a1), .val (.int (((31 : Int32) * ((0 : Int32) + (f1 0))) + (f1 1))), .val (.ref a1), .val (.int (2 : Int32)), .val (.int (2 : Int32)), .val (.int (f1 1))] [(.int (16 : Int32)), (.int (((31 : Int32) * ((0 : Int32) + (f1 0))) + (f1 1))), (.int (((31 : Int32) * ((0 : Int32) + (f1 0))) + (f1 1)))])
  refine own_step (fun t k => XS.iushr X0.here hx rfl (hb hby d3_40) rfl k) ?_
  show own_Fin _ _ _ _ _ _ _ _ (mkF m 41 #[.val (.ref a1), .val (.int (((31 : Int32) * ((0 : Int32) + (f1 0))) + (f1 1))), .val (.ref a1), .val (.int (2 : Int32)), .val (.int (2 : Int32)), .val (.int (f1 1))] [(.int (((((31 : Int32) * ((0 : Int32) + (f1 0))) + (f1 1)).toUInt32 >>> ((16 : Int32) &&& 31).toUInt32).toInt32)), (.int (((31 : Int32) * ((0 : Int32) + (f1 0))) + (f1 1)))])
  refine own_step (fun t k => XS.ixor X0.here hx rfl (hb hby d3_41) rfl k) ?_
  show own_Fin _ _ _ _ _ _ _ _ (mkF m 42 #[.val (.ref a1), .val (.int (((31 : Int32) * ((0 : Int32) + (f1 0))) + (f1 1))), .val (.ref a1), .val (.int (2 : Int32)), .val (.int (2 : Int32)), .val (.int (f1 1))] [(.int ((((31 : Int32) * ((0 : Int32) + (f1 0))) + (f1 1)) ^^^ (((((31 : Int32) * ((0 : Int32) + (f1 0))) + (f1 1)).toUInt32 >>> ((16 : Int32) &&& 31).toUInt32).toInt32)))])
  generalize hz0 : ((((31 : Int32) * ((0 : Int32) + (f1 0))) + (f1 1)) ^^^ (((((31 : Int32) * ((0 : Int32) + (f1 0))) + (f1 1)).toUInt32 >>> ((16 : Int32) &&& 31).toUInt32).toInt32)) = z0
  refine own_step (fun t k => XS.istoreN X0.here hx rfl (hb hby d3_42) rfl (l' := #[.val (.ref a1), .val (.int z0), .val (.ref a1), .val (.int (2 : Int32)), .val (.int (2 : Int32)), .val (.int (f1 1))]) rfl k) ?_
  show own_Fin _ _ _ _ _ _ _ _ (mkF m 43 #[.val (.ref a1), .val (.int z0), .val (.ref a1), .val (.int (2 : Int32)), .val (.int (2 : Int32)), .val (.int (f1 1))] [])
  refine own_step (fun t k => XS.iloadN X0.here hx rfl (hb hby d3_43) rfl k) ?_
  show own_Fin _ _ _ _ _ _ _ _ (mkF m 44 #[.val (.ref a1), .val (.int z0), .val (.ref a1), .val (.int (2 : Int32)), .val (.int (2 : Int32)), .val (.int (f1 1))] [(.int z0)])
  refine own_step (fun t k => X0.ldcInt hx hown (mvT hZ (hw _ (List.mem_of_getElem? (i := 5) rfl))) (g := (mkF m 44 #[.val (.ref a1), .val (.int z0), .val (.ref a1), .val (.int (2 : Int32)), .val (.int (2 : Int32)), .val (.int (f1 1))] [(.int z0)])) rfl (hb hby d3_44) _ k) ?_
  show own_Fin _ _ _ _ _ _ _ _ (mkF m 46 #[.val (.ref a1), .val (.int z0), .val (.ref a1), .val (.int (2 : Int32)), .val (.int (2 : Int32)), .val (.int (f1 1))] [(.int (-2048144789 : Int32)), (.int z0)])
  refine own_step (fun t k => XS.imul X0.here hx rfl (hb hby d3_46) rfl k) ?_
  show own_Fin _ _ _ _ _ _ _ _ (mkF m 47 #[.val (.ref a1), .val (.int z0), .val (.ref a1), .val (.int (2 : Int32)), .val (.int (2 : Int32)), .val (.int (f1 1))] [(.int (z0 * (-2048144789 : Int32)))])
  generalize hz1 : (z0 * (-2048144789 : Int32)) = z1
  refine own_step (fun t k => XS.istoreN X0.here hx rfl (hb hby d3_47) rfl (l' := #[.val (.ref a1), .val (.int z1), .val (.ref a1), .val (.int (2 : Int32)), .val (.int (2 : Int32)), .val (.int (f1 1))]) rfl k) ?_
  show own_Fin _ _ _ _ _ _ _ _ (mkF m 48 #[.val (.ref a1), .val (.int z1), .val (.ref a1), .val (.int (2 : Int32)), .val (.int (2 : Int32)), .val (.int (f1 1))] [])
  refine own_step (fun t k => XS.iloadN X0.here hx rfl (hb hby d3_48) rfl k) ?_
  show own_Fin _ _ _ _ _ _ _ _ (mkF m 49 #[.val (.ref a1), .val (.int z1), .val (.ref a1), .val (.int (2 : Int32)), .val (.int (2 : Int32)), .val (.int (f1 1))] [(.int z1)])
  refine own_step (fun t k => XS.iloadN X0.here hx rfl (hb hby d3_49) rfl k) ?_
  show own_Fin _ _ _ _ _ _ _ _ (mkF m 50 #[.val (.ref a1), .val (.int z1), .val (.ref a1), .val (.int (2 : Int32)), .val (.int (2 : Int32)), .val (.int (f1 1))] [(.int z1), (.int z1)])
  refine own_step (fun t k => XS.bipush X0.here hx rfl (hb hby d3_50) k) ?_
  show own_Fin _ _ _ _ _ _ _ _ (mkF m 52 #[.val (.ref a1), .val (.int z1), .val (.ref a1), .val (.int (2 : Int32)), .val (.int (2 : Int32)), .val (.int (f1 1))] [(.int (13 : Int32)), (.int z1), (.int z1)])
  refine own_step (fun t k => XS.iushr X0.here hx rfl (hb hby d3_52) rfl k) ?_
  show own_Fin _ _ _ _ _ _ _ _ (mkF m 53 #[.val (.ref a1), .val (.int z1), .val (.ref a1), .val (.int (2 : Int32)), .val (.int (2 : Int32)), .val (.int (f1 1))] [(.int ((z1.toUInt32 >>> ((13 : Int32) &&& 31).toUInt32).toInt32)), (.int z1)])
  refine own_step (fun t k => XS.ixor X0.here hx rfl (hb hby d3_53) rfl k) ?_
  show own_Fin _ _ _ _ _ _ _ _ (mkF m 54 #[.val (.ref a1), .val (.int z1), .val (.ref a1), .val (.int (2 : Int32)), .val (.int (2 : Int32)), .val (.int (f1 1))] [(.int (z1 ^^^ ((z1.toUInt32 >>> ((13 : Int32) &&& 31).toUInt32).toInt32)))])
  generalize hz2 : (z1 ^^^ ((z1.toUInt32 >>> ((13 : Int32) &&& 31).toUInt32).toInt32)) = z2
  refine own_step (fun t k => XS.istoreN X0.here hx rfl (hb hby d3_54) rfl (l' := #[.val (.ref a1), .val (.int z2), .val (.ref a1), .val (.int (2 : Int32)), .val (.int (2 : Int32)), .val (.int (f1 1))]) rfl k) ?_
  show own_Fin _ _ _ _ _ _ _ _ (mkF m 55 #[.val (.ref a1), .val (.int z2), .val (.ref a1), .val (.int (2 : Int32)), .val (.int (2 : Int32)), .val (.int (f1 1))] [])
  refine own_step (fun t k => XS.iloadN X0.here hx rfl (hb hby d3_55) rfl k) ?_
  show own_Fin _ _ _ _ _ _ _ _ (mkF m 56 #[.val (.ref a1), .val (.int z2), .val (.ref a1), .val (.int (2 : Int32)), .val (.int (2 : Int32)), .val (.int (f1 1))] [(.int z2)])
  refine own_step (fun t k => X0.ldcInt hx hown (mvT hZ (hw _ (List.mem_of_getElem? (i := 6) rfl))) (g := (mkF m 56 #[.val (.ref a1), .val (.int z2), .val (.ref a1), .val (.int (2 : Int32)), .val (.int (2 : Int32)), .val (.int (f1 1))] [(.int z2)])) rfl (hb hby d3_56) _ k) ?_
  show own_Fin _ _ _ _ _ _ _ _ (mkF m 58 #[.val (.ref a1), .val (.int z2), .val (.ref a1), .val (.int (2 : Int32)), .val (.int (2 : Int32)), .val (.int (f1 1))] [(.int (-1028477387 : Int32)), (.int z2)])
  refine own_step (fun t k => XS.imul X0.here hx rfl (hb hby d3_58) rfl k) ?_
  show own_Fin _ _ _ _ _ _ _ _ (mkF m 59 #[.val (.ref a1), .val (.int z2), .val (.ref a1), .val (.int (2 : Int32)), .val (.int (2 : Int32)), .val (.int (f1 1))] [(.int (z2 * (-1028477387 : Int32)))])
  generalize hz3 : (z2 * (-1028477387 : Int32)) = z3
  refine own_step (fun t k => XS.istoreN X0.here hx rfl (hb hby d3_59) rfl (l' := #[.val (.ref a1), .val (.int z3), .val (.ref a1), .val (.int (2 : Int32)), .val (.int (2 : Int32)), .val (.int (f1 1))]) rfl k) ?_
  show own_Fin _ _ _ _ _ _ _ _ (mkF m 60 #[.val (.ref a1), .val (.int z3), .val (.ref a1), .val (.int (2 : Int32)), .val (.int (2 : Int32)), .val (.int (f1 1))] [])
  refine own_step (fun t k => XS.iloadN X0.here hx rfl (hb hby d3_60) rfl k) ?_
  show own_Fin _ _ _ _ _ _ _ _ (mkF m 61 #[.val (.ref a1), .val (.int z3), .val (.ref a1), .val (.int (2 : Int32)), .val (.int (2 : Int32)), .val (.int (f1 1))] [(.int z3)])
  refine own_step (fun t k => XS.iloadN X0.here hx rfl (hb hby d3_61) rfl k) ?_
  show own_Fin _ _ _ _ _ _ _ _ (mkF m 62 #[.val (.ref a1), .val (.int z3), .val (.ref a1), .val (.int (2 : Int32)), .val (.int (2 : Int32)), .val (.int (f1 1))] [(.int z3), (.int z3)])
  refine own_step (fun t k => XS.bipush X0.here hx rfl (hb hby d3_62) k) ?_
  show own_Fin _ _ _ _ _ _ _ _ (mkF m 64 #[.val (.ref a1), .val (.int z3), .val (.ref a1), .val (.int (2 : Int32)), .val (.int (2 : Int32)), .val (.int (f1 1))] [(.int (16 : Int32)), (.int z3), (.int z3)])
  refine own_step (fun t k => XS.iushr X0.here hx rfl (hb hby d3_64) rfl k) ?_
  show own_Fin _ _ _ _ _ _ _ _ (mkF m 65 #[.val (.ref a1), .val (.int z3), .val (.ref a1), .val (.int (2 : Int32)), .val (.int (2 : Int32)), .val (.int (f1 1))] [(.int ((z3.toUInt32 >>> ((16 : Int32) &&& 31).toUInt32).toInt32)), (.int z3)])
  refine own_step (fun t k => XS.ixor X0.here hx rfl (hb hby d3_65) rfl k) ?_
  show own_Fin _ _ _ _ _ _ _ _ (mkF m 66 #[.val (.ref a1), .val (.int z3), .val (.ref a1), .val (.int (2 : Int32)), .val (.int (2 : Int32)), .val (.int (f1 1))] [(.int (z3 ^^^ ((z3.toUInt32 >>> ((16 : Int32) &&& 31).toUInt32).toInt32)))])
  refine own_step (fun t k => XS.istoreN X0.here hx rfl (hb hby d3_66) rfl (l' := #[.val (.ref a1), .val (.int (z3 ^^^ ((z3.toUInt32 >>> ((16 : Int32) &&& 31).toUInt32).toInt32))), .val (.ref a1), .val (.int (2 : Int32)), .val (.int (2 : Int32)), .val (.int (f1 1))]) rfl k) ?_
  show own_Fin _ _ _ _ _ _ _ _ (mkF m 67 #[.val (.ref a1), .val (.int (z3 ^^^ ((z3.toUInt32 >>> ((16 : Int32) &&& 31).toUInt32).toInt32))), .val (.ref a1), .val (.int (2 : Int32)), .val (.int (2 : Int32)), .val (.int (f1 1))] [])
  refine own_step (fun t k => XS.iloadN X0.here hx rfl (hb hby d3_67) rfl k) ?_
  show own_Fin _ _ _ _ _ _ _ _ (mkF m 68 #[.val (.ref a1), .val (.int (z3 ^^^ ((z3.toUInt32 >>> ((16 : Int32) &&& 31).toUInt32).toInt32))), .val (.ref a1), .val (.int (2 : Int32)), .val (.int (2 : Int32)), .val (.int (f1 1))] [(.int (z3 ^^^ ((z3.toUInt32 >>> ((16 : Int32) &&& 31).toUInt32).toInt32)))])
  refine own_retI X0 hx hlk Bd.returns (hb hby d3_68) (by decide) (by decide) e0 ?_
  subst hz3 hz2 hz1 hz0; exact ⟨rfl, Nf, rfl⟩
theorem d4_0 : decode prog_64_method_10_code 0 = .ok (.iconst 0, 1) := by decide +kernel
theorem d4_1 : decode prog_64_method_10_code 1 = .ok (.istore_n 1, 1) := by decide +kernel
theorem d4_2 : decode prog_64_method_10_code 2 = .ok (.aload_n 0, 1) := by decide +kernel
theorem d4_3 : decode prog_64_method_10_code 3 = .ok (.astore_n 2, 1) := by decide +kernel
theorem d4_4 : decode prog_64_method_10_code 4 = .ok (.aload_n 2, 1) := by decide +kernel
theorem d4_5 : decode prog_64_method_10_code 5 = .ok (.arraylength, 1) := by decide +kernel
theorem d4_6 : decode prog_64_method_10_code 6 = .ok (.istore_n 3, 1) := by decide +kernel
theorem d4_7 : decode prog_64_method_10_code 7 = .ok (.iconst 0, 1) := by decide +kernel
theorem d4_8 : decode prog_64_method_10_code 8 = .ok (.istore 4, 2) := by decide +kernel
theorem d4_10 : decode prog_64_method_10_code 10 = .ok (.iload 4, 2) := by decide +kernel
theorem d4_12 : decode prog_64_method_10_code 12 = .ok (.iload_n 3, 1) := by decide +kernel
theorem d4_13 : decode prog_64_method_10_code 13 = .ok (.if_icmp .ge 23, 3) := by decide +kernel
theorem d4_16 : decode prog_64_method_10_code 16 = .ok (.aload_n 2, 1) := by decide +kernel
theorem d4_17 : decode prog_64_method_10_code 17 = .ok (.iload 4, 2) := by decide +kernel
theorem d4_19 : decode prog_64_method_10_code 19 = .ok (.iaload, 1) := by decide +kernel
theorem d4_20 : decode prog_64_method_10_code 20 = .ok (.istore 5, 2) := by decide +kernel
theorem d4_22 : decode prog_64_method_10_code 22 = .ok (.bipush 31, 2) := by decide +kernel
theorem d4_24 : decode prog_64_method_10_code 24 = .ok (.iload_n 1, 1) := by decide +kernel
theorem d4_25 : decode prog_64_method_10_code 25 = .ok (.imul, 1) := by decide +kernel
theorem d4_26 : decode prog_64_method_10_code 26 = .ok (.iload 5, 2) := by decide +kernel
theorem d4_28 : decode prog_64_method_10_code 28 = .ok (.iadd, 1) := by decide +kernel
theorem d4_29 : decode prog_64_method_10_code 29 = .ok (.istore_n 1, 1) := by decide +kernel
theorem d4_30 : decode prog_64_method_10_code 30 = .ok (.iinc 4 1, 3) := by decide +kernel
theorem d4_33 : decode prog_64_method_10_code 33 = .ok (.goto (-23), 3) := by decide +kernel
theorem d4_36 : decode prog_64_method_10_code 36 = .ok (.iload_n 1, 1) := by decide +kernel
theorem d4_37 : decode prog_64_method_10_code 37 = .ok (.iload_n 1, 1) := by decide +kernel
theorem d4_38 : decode prog_64_method_10_code 38 = .ok (.bipush 16, 2) := by decide +kernel
theorem d4_40 : decode prog_64_method_10_code 40 = .ok (.iushr, 1) := by decide +kernel
theorem d4_41 : decode prog_64_method_10_code 41 = .ok (.ixor, 1) := by decide +kernel
theorem d4_42 : decode prog_64_method_10_code 42 = .ok (.istore_n 1, 1) := by decide +kernel
theorem d4_43 : decode prog_64_method_10_code 43 = .ok (.iload_n 1, 1) := by decide +kernel
theorem d4_44 : decode prog_64_method_10_code 44 = .ok (.ldc 100, 2) := by decide +kernel
theorem d4_46 : decode prog_64_method_10_code 46 = .ok (.imul, 1) := by decide +kernel
theorem d4_47 : decode prog_64_method_10_code 47 = .ok (.istore_n 1, 1) := by decide +kernel
theorem d4_48 : decode prog_64_method_10_code 48 = .ok (.iload_n 1, 1) := by decide +kernel
theorem d4_49 : decode prog_64_method_10_code 49 = .ok (.iload_n 1, 1) := by decide +kernel
theorem d4_50 : decode prog_64_method_10_code 50 = .ok (.bipush 13, 2) := by decide +kernel
theorem d4_52 : decode prog_64_method_10_code 52 = .ok (.iushr, 1) := by decide +kernel
theorem d4_53 : decode prog_64_method_10_code 53 = .ok (.ixor, 1) := by decide +kernel
theorem d4_54 : decode prog_64_method_10_code 54 = .ok (.istore_n 1, 1) := by decide +kernel
theorem d4_55 : decode prog_64_method_10_code 55 = .ok (.iload_n 1, 1) := by decide +kernel
theorem d4_56 : decode prog_64_method_10_code 56 = .ok (.ldc 101, 2) := by decide +kernel
theorem d4_58 : decode prog_64_method_10_code 58 = .ok (.imul, 1) := by decide +kernel
theorem d4_59 : decode prog_64_method_10_code 59 = .ok (.istore_n 1, 1) := by decide +kernel
theorem d4_60 : decode prog_64_method_10_code 60 = .ok (.iload_n 1, 1) := by decide +kernel
theorem d4_61 : decode prog_64_method_10_code 61 = .ok (.iload_n 1, 1) := by decide +kernel
theorem d4_62 : decode prog_64_method_10_code 62 = .ok (.bipush 16, 2) := by decide +kernel
theorem d4_64 : decode prog_64_method_10_code 64 = .ok (.iushr, 1) := by decide +kernel
theorem d4_65 : decode prog_64_method_10_code 65 = .ok (.ixor, 1) := by decide +kernel
theorem d4_66 : decode prog_64_method_10_code 66 = .ok (.istore_n 1, 1) := by decide +kernel
theorem d4_67 : decode prog_64_method_10_code 67 = .ok (.iload_n 1, 1) := by decide +kernel
theorem d4_68 : decode prog_64_method_10_code 68 = .ok (.ireturn, 1) := by decide +kernel
theorem own_pn_4 : plainName "com/example/limfjord/limfjord/engine/StateStore" = true := by first | (simp [plainName, overriddenIn]; done) | decide +kernel
theorem own_ef_4 (m : MethodId) (a1 : Addr) : entryFrame m #[(.ref a1)] 6 = mkF m 0 #[.val (.ref a1), .unset, .unset, .unset, .unset, .unset] [] := by first | (simp [entryFrame, mkF, argsToLocals, Value.category]; done) | rfl
abbrev own_R4 : Room := { frames := 0, cells := 0, slots := 0, locals := 0 }
def own_Q4 (Z : State) (a1 : Addr) (f1 : Nat → Int32) (h0 : Heap) (n0 : Nat) (v : Option Value) (h : Heap) (L : List Loc) : Prop := v = some (.int (own_mix (((31 : Int32) * (((31 : Int32) * ((0 : Int32) + (f1 0))) + (f1 1))) + (f1 2)))) ∧ Fr n0 L ∧ h = h0
set_option maxRecDepth 65536 in
set_option maxHeartbeats 40000000 in
theorem rm4 (l : Launch) (Z : State) (a0 : Array Value) (hw : ∀ d ∈ tables_1, d.before a0 Z = true) (ws : List Jvm.Cond) (a1 : Addr) (f1 : Nat → Int32) (h0 : Heap) (n0 : Nat) (Z0 : n0 ≤ h0.size) (V_a1 : own_AI Z h0 a1 .int 3 f1) :
    MetFree l (⟨"com/example/limfjord/limfjord/engine/StateStore", "hash", "([I)I"⟩ : MethodName) (head1 (Jvm.Cond.code (⟨"com/example/limfjord/limfjord/engine/StateStore", "hash", "([I)I"⟩ : MethodName) prog_64_method_10_code 6 (some .int) :: ws) own_R4) (fun a U => a = #[(.ref a1)] ∧ Z.Warmed39 U.vm ∧ U.heap = h0) (fun _ _ _ _ _ => True) (fun _ U o U' => ∃ v L, o = .returned v ∧ own_Q4 Z a1 f1 h0 n0 v U'.heap L ∧ FrameEnd U o U' L own_R4.cells own_R4.slots) := by
  refine MetFree.of_bodySF (plainFor_of_name own_pn_4) hisR ?_
  intro p e s m args below meth c s₁ Bd hml0 hP hK
  obtain ⟨rfl, hZ, hh⟩ := hP
  have hx := Bd.exec
  have hby := Bd.bytes
  have hlk := BodyLoose.notSynchronized Bd
  have hml : c.maxLocals = 6 := hml0
  have hown : s.vm.findClass "com/example/limfjord/limfjord/engine/StateStore" = some m.cls := (findClass_of_methodNamed Bd.named : s.vm.findClass (⟨"com/example/limfjord/limfjord/engine/StateStore", "hash", "([I)I"⟩ : MethodName).cls = some m.cls)
  have hnm := (name_of_methodNamed Bd.named Bd.method).1
  have X0 : Stand p l e own_R4 s m #[(.ref a1)] below meth c s₁ [] 0 0 := Stand.of_body Bd
  have e0 : s₁.heap = h0 := by rw [← hh, Bd.state]; rfl
  have Nf := Fr.nil n0
  have Zs := Z0
  show own_Fin p e below s (own_Q4 Z a1 f1 h0 n0) 0 0 s₁ (entryFrame m #[(.ref a1)] 6)
  rw [own_ef_4 m a1]
  show own_Fin _ _ _ _ _ _ _ _ (mkF m 0 #[.val (.ref a1), .unset, .unset, .unset, .unset, .unset] [])
  refine own_step (fun t k => XS.iconst X0.here hx rfl (hb hby d4_0) k) ?_
  show own_Fin _ _ _ _ _ _ _ _ (mkF m 1 #[.val (.ref a1), .unset, .unset, .unset, .unset, .unset] [(.int (0 : Int32))])
  refine own_step (fun t k => XS.istoreN X0.here hx rfl (hb hby d4_1) rfl (l' := #[.val (.ref a1), .val (.int (0 : Int32)), .unset, .unset, .unset, .unset]) rfl k) ?_
  show own_Fin _ _ _ _ _ _ _ _ (mkF m 2 #[.val (.ref a1), .val (.int (0 : Int32)), .unset, .unset, .unset, .unset] [])
  refine own_step (fun t k => XS.aloadN X0.here hx rfl (hb hby d4_2) rfl rfl k) ?_
  show own_Fin _ _ _ _ _ _ _ _ (mkF m 3 #[.val (.ref a1), .val (.int (0 : Int32)), .unset, .unset, .unset, .unset] [(.ref a1)])
  refine own_step (fun t k => XS.astoreN X0.here hx rfl (hb hby d4_3) rfl rfl (l' := #[.val (.ref a1), .val (.int (0 : Int32)), .val (.ref a1), .unset, .unset, .unset]) rfl k) ?_
  show own_Fin _ _ _ _ _ _ _ _ (mkF m 4 #[.val (.ref a1), .val (.int (0 : Int32)), .val (.ref a1), .unset, .unset, .unset] [])
  refine own_step (fun t k => XS.aloadN X0.here hx rfl (hb hby d4_4) rfl rfl k) ?_
  show own_Fin _ _ _ _ _ _ _ _ (mkF m 5 #[.val (.ref a1), .val (.int (0 : Int32)), .val (.ref a1), .unset, .unset, .unset] [(.ref a1)])
  refine own_arrlen X0 hx hZ e0 V_a1 (z := (3 : Int32)) rfl (hb hby d4_5) rfl ?_
  show own_Fin _ _ _ _ _ _ _ _ (mkF m 6 #[.val (.ref a1), .val (.int (0 : Int32)), .val (.ref a1), .unset, .unset, .unset] [(.int (3 : Int32))])
  refine own_step (fun t k => XS.istoreN X0.here hx rfl (hb hby d4_6) rfl (l' := #[.val (.ref a1), .val (.int (0 : Int32)), .val (.ref a1), .val (.int (3 : Int32)), .unset, .unset]) rfl k) ?_
  show own_Fin _ _ _ _ _ _ _ _ (mkF m 7 #[.val (.ref a1), .val (.int (0 : Int32)), .val (.ref a1), .val (.int (3 : Int32)), .unset, .unset] [])
  refine own_step (fun t k => XS.iconst X0.here hx rfl (hb hby d4_7) k) ?_
  show own_Fin _ _ _ _ _ _ _ _ (mkF m 8 #[.val (.ref a1), .val (.int (0 : Int32)), .val (.ref a1), .val (.int (3 : Int32)), .unset, .unset] [(.int (0 : Int32))])
  refine own_step (fun t k => XS.istore X0.here hx rfl (hb hby d4_8) rfl (l' := #[.val (.ref a1), .val (.int (0 : Int32)), .val (.ref a1), .val (.int (3 : Int32)), .val (.int (0 : Int32)), .unset]) rfl k) ?_
  show own_Fin _ _ _ _ _ _ _ _ (mkF m 10 #[.val (.ref a1), .val (.int (0 : Int32)), .val (.ref a1), .val (.int (3 : Int32)), .val (.int (0 : Int32)), .unset] [])
  refine own_step (fun t k => XS.iload X0.here hx rfl (hb hby d4_10) rfl k) ?_
  show own_Fin _ _ _ _ _ _ _ _ (mkF m 12 #[.val (.ref a1), .val (.int (0 : Int32)), .val (.ref a1), .val (.int (3 : Int32)), .val (.int (0 : Int32)), .unset] [(.int (0 : Int32))])
  refine own_step (fun t k => XS.iloadN X0.here hx rfl (hb hby d4_12) rfl k) ?_
  show own_Fin _ _ _ _ _ _ _ _ (mkF m 13 #[.val (.ref a1), .val (.int (0 : Int32)), .val (.ref a1), .val (.int (3 : Int32)), .val (.int (0 : Int32)), .unset] [(.int (3 : Int32)), (.int (0 : Int32))])
  refine own_step (fun t k => XS.icmpNo X0.here hx rfl (hb hby d4_13) rfl (by decide) k) ?_
  show own_Fin _ _ _ _ _ _ _ _ (mkF m 16 #[.val (.ref a1), .val (.int (0 : Int32)), .val (.ref a1), .val (.int (3 : Int32)), .val (.int (0 : Int32)), .unset] [])
  refine own_step (fun t k => XS.aloadN X0.here hx rfl (hb hby d4_16) rfl rfl k) ?_
  show own_Fin _ _ _ _ _ _ _ _ (mkF m 17 #[.val (.ref a1), .val (.int (0 : Int32)), .val (.ref a1), .val (.int (3 : Int32)), .val (.int (0 : Int32)), .unset] [(.ref a1)])
  refine own_step (fun t k => XS.iload X0.here hx rfl (hb hby d4_17) rfl k) ?_
  show own_Fin _ _ _ _ _ _ _ _ (mkF m 19 #[.val (.ref a1), .val (.int (0 : Int32)), .val (.ref a1), .val (.int (3 : Int32)), .val (.int (0 : Int32)), .unset] [(.int (0 : Int32)), (.ref a1)])
  refine own_iaload X0 hx hZ e0 V_a1 (k := 0) rfl (by decide) (v := (f1 0)) rfl (hb hby d4_19) rfl ?_
  show own_Fin _ _ _ _ _ _ _ _ (mkF m 20 #[.val (.ref a1), .val (.int (0 : Int32)), .val (.ref a1), .val (.int (3 : Int32)), .val (.int (0 : Int32)), .unset] [(.int (f1 0))])
  refine own_step (fun t k => XS.istore X0.here hx rfl (hb hby d4_20) rfl (l' := #[.val (.ref a1), .val (.int (0 : Int32)), .val (.ref a1), .val (.int (3 : Int32)), .val (.int (0 : Int32)), .val (.int (f1 0))]) rfl k) ?_
  show own_Fin _ _ _ _ _ _ _ _ (mkF m 22 #[.val (.ref a1), .val (.int (0 : Int32)), .val (.ref a1), .val (.int (3 : Int32)), .val (.int (0 : Int32)), .val (.int (f1 0))] [])
  refine own_step (fun t k => XS.bipush X0.here hx rfl (hb hby d4_22) k) ?_
  show own_Fin _ _ _ _ _ _ _ _ (mkF m 24 #[.val (.ref a1), .val (.int (0 : Int32)), .val (.ref a1), .val (.int (3 : Int32)), .val (.int (0 : Int32)), .val (.int (f1 0))] [(.int (31 : Int32))])
  refine own_step (fun t k => XS.iloadN X0.here hx rfl (hb hby d4_24) rfl k) ?_
  show own_Fin _ _ _ _ _ _ _ _ (mkF m 25 #[.val (.ref a1), .val (.int (0 : Int32)), .val (.ref a1), .val (.int (3 : Int32)), .val (.int (0 : Int32)), .val (.int (f1 0))] [(.int (0 : Int32)), (.int (31 : Int32))])
  refine own_step (fun t k => XS.imul X0.here hx rfl (hb hby d4_25) rfl k) ?_
  show own_Fin _ _ _ _ _ _ _ _ (mkF m 26 #[.val (.ref a1), .val (.int (0 : Int32)), .val (.ref a1), .val (.int (3 : Int32)), .val (.int (0 : Int32)), .val (.int (f1 0))] [(.int (0 : Int32))])
  refine own_step (fun t k => XS.iload X0.here hx rfl (hb hby d4_26) rfl k) ?_
  show own_Fin _ _ _ _ _ _ _ _ (mkF m 28 #[.val (.ref a1), .val (.int (0 : Int32)), .val (.ref a1), .val (.int (3 : Int32)), .val (.int (0 : Int32)), .val (.int (f1 0))] [(.int (f1 0)), (.int (0 : Int32))])
  refine own_step (fun t k => XS.iadd X0.here hx rfl (hb hby d4_28) rfl k) ?_
  show own_Fin _ _ _ _ _ _ _ _ (mkF m 29 #[.val (.ref a1), .val (.int (0 : Int32)), .val (.ref a1), .val (.int (3 : Int32)), .val (.int (0 : Int32)), .val (.int (f1 0))] [(.int ((0 : Int32) + (f1 0)))])
  refine own_step (fun t k => XS.istoreN X0.here hx rfl (hb hby d4_29) rfl (l' := #[.val (.ref a1), .val (.int ((0 : Int32) + (f1 0))), .val (.ref a1), .val (.int (3 : Int32)), .val (.int (0 : Int32)), .val (.int (f1 0))]) rfl k) ?_
  show own_Fin _ _ _ _ _ _ _ _ (mkF m 30 #[.val (.ref a1), .val (.int ((0 : Int32) + (f1 0))), .val (.ref a1), .val (.int (3 : Int32)), .val (.int (0 : Int32)), .val (.int (f1 0))] [])
  refine own_step (fun t k => XS.iinc X0.here hx rfl (hb hby d4_30) rfl (l' := #[.val (.ref a1), .val (.int ((0 : Int32) + (f1 0))), .val (.ref a1), .val (.int (3 : Int32)), .val (.int (1 : Int32)), .val (.int (f1 0))]) rfl k) ?_
  show own_Fin _ _ _ _ _ _ _ _ (mkF m 33 #[.val (.ref a1), .val (.int ((0 : Int32) + (f1 0))), .val (.ref a1), .val (.int (3 : Int32)), .val (.int (1 : Int32)), .val (.int (f1 0))] [])
  refine own_step (fun t k => XS.goto X0.here hx rfl (pc0 := 33) (pc' := 10) rfl (hb hby d4_33) (by decide) (by decide) k) ?_
  show own_Fin _ _ _ _ _ _ _ _ (mkF m 10 #[.val (.ref a1), .val (.int ((0 : Int32) + (f1 0))), .val (.ref a1), .val (.int (3 : Int32)), .val (.int (1 : Int32)), .val (.int (f1 0))] [])
  refine own_step (fun t k => XS.iload X0.here hx rfl (hb hby d4_10) rfl k) ?_
  show own_Fin _ _ _ _ _ _ _ _ (mkF m 12 #[.val (.ref a1), .val (.int ((0 : Int32) + (f1 0))), .val (.ref a1), .val (.int (3 : Int32)), .val (.int (1 : Int32)), .val (.int (f1 0))] [(.int (1 : Int32))])
  refine own_step (fun t k => XS.iloadN X0.here hx rfl (hb hby d4_12) rfl k) ?_
  show own_Fin _ _ _ _ _ _ _ _ (mkF m 13 #[.val (.ref a1), .val (.int ((0 : Int32) + (f1 0))), .val (.ref a1), .val (.int (3 : Int32)), .val (.int (1 : Int32)), .val (.int (f1 0))] [(.int (3 : Int32)), (.int (1 : Int32))])
  refine own_step (fun t k => XS.icmpNo X0.here hx rfl (hb hby d4_13) rfl (by decide) k) ?_
  show own_Fin _ _ _ _ _ _ _ _ (mkF m 16 #[.val (.ref a1), .val (.int ((0 : Int32) + (f1 0))), .val (.ref a1), .val (.int (3 : Int32)), .val (.int (1 : Int32)), .val (.int (f1 0))] [])
  refine own_step (fun t k => XS.aloadN X0.here hx rfl (hb hby d4_16) rfl rfl k) ?_
  show own_Fin _ _ _ _ _ _ _ _ (mkF m 17 #[.val (.ref a1), .val (.int ((0 : Int32) + (f1 0))), .val (.ref a1), .val (.int (3 : Int32)), .val (.int (1 : Int32)), .val (.int (f1 0))] [(.ref a1)])
  refine own_step (fun t k => XS.iload X0.here hx rfl (hb hby d4_17) rfl k) ?_
  show own_Fin _ _ _ _ _ _ _ _ (mkF m 19 #[.val (.ref a1), .val (.int ((0 : Int32) + (f1 0))), .val (.ref a1), .val (.int (3 : Int32)), .val (.int (1 : Int32)), .val (.int (f1 0))] [(.int (1 : Int32)), (.ref a1)])
  refine own_iaload X0 hx hZ e0 V_a1 (k := 1) rfl (by decide) (v := (f1 1)) rfl (hb hby d4_19) rfl ?_
  show own_Fin _ _ _ _ _ _ _ _ (mkF m 20 #[.val (.ref a1), .val (.int ((0 : Int32) + (f1 0))), .val (.ref a1), .val (.int (3 : Int32)), .val (.int (1 : Int32)), .val (.int (f1 0))] [(.int (f1 1))])
  refine own_step (fun t k => XS.istore X0.here hx rfl (hb hby d4_20) rfl (l' := #[.val (.ref a1), .val (.int ((0 : Int32) + (f1 0))), .val (.ref a1), .val (.int (3 : Int32)), .val (.int (1 : Int32)), .val (.int (f1 1))]) rfl k) ?_
  show own_Fin _ _ _ _ _ _ _ _ (mkF m 22 #[.val (.ref a1), .val (.int ((0 : Int32) + (f1 0))), .val (.ref a1), .val (.int (3 : Int32)), .val (.int (1 : Int32)), .val (.int (f1 1))] [])
  refine own_step (fun t k => XS.bipush X0.here hx rfl (hb hby d4_22) k) ?_
  show own_Fin _ _ _ _ _ _ _ _ (mkF m 24 #[.val (.ref a1), .val (.int ((0 : Int32) + (f1 0))), .val (.ref a1), .val (.int (3 : Int32)), .val (.int (1 : Int32)), .val (.int (f1 1))] [(.int (31 : Int32))])
  refine own_step (fun t k => XS.iloadN X0.here hx rfl (hb hby d4_24) rfl k) ?_
  show own_Fin _ _ _ _ _ _ _ _ (mkF m 25 #[.val (.ref a1), .val (.int ((0 : Int32) + (f1 0))), .val (.ref a1), .val (.int (3 : Int32)), .val (.int (1 : Int32)), .val (.int (f1 1))] [(.int ((0 : Int32) + (f1 0))), (.int (31 : Int32))])
  refine own_step (fun t k => XS.imul X0.here hx rfl (hb hby d4_25) rfl k) ?_
  show own_Fin _ _ _ _ _ _ _ _ (mkF m 26 #[.val (.ref a1), .val (.int ((0 : Int32) + (f1 0))), .val (.ref a1), .val (.int (3 : Int32)), .val (.int (1 : Int32)), .val (.int (f1 1))] [(.int ((31 : Int32) * ((0 : Int32) + (f1 0))))])
  refine own_step (fun t k => XS.iload X0.here hx rfl (hb hby d4_26) rfl k) ?_
  show own_Fin _ _ _ _ _ _ _ _ (mkF m 28 #[.val (.ref a1), .val (.int ((0 : Int32) + (f1 0))), .val (.ref a1), .val (.int (3 : Int32)), .val (.int (1 : Int32)), .val (.int (f1 1))] [(.int (f1 1)), (.int ((31 : Int32) * ((0 : Int32) + (f1 0))))])
  refine own_step (fun t k => XS.iadd X0.here hx rfl (hb hby d4_28) rfl k) ?_
  show own_Fin _ _ _ _ _ _ _ _ (mkF m 29 #[.val (.ref a1), .val (.int ((0 : Int32) + (f1 0))), .val (.ref a1), .val (.int (3 : Int32)), .val (.int (1 : Int32)), .val (.int (f1 1))] [(.int (((31 : Int32) * ((0 : Int32) + (f1 0))) + (f1 1)))])
  refine own_step (fun t k => XS.istoreN X0.here hx rfl (hb hby d4_29) rfl (l' := #[.val (.ref a1), .val (.int (((31 : Int32) * ((0 : Int32) + (f1 0))) + (f1 1))), .val (.ref a1), .val (.int (3 : Int32)), .val (.int (1 : Int32)), .val (.int (f1 1))]) rfl k) ?_
  show own_Fin _ _ _ _ _ _ _ _ (mkF m 30 #[.val (.ref a1), .val (.int (((31 : Int32) * ((0 : Int32) + (f1 0))) + (f1 1))), .val (.ref a1), .val (.int (3 : Int32)), .val (.int (1 : Int32)), .val (.int (f1 1))] [])
  refine own_step (fun t k => XS.iinc X0.here hx rfl (hb hby d4_30) rfl (l' := #[.val (.ref a1), .val (.int (((31 : Int32) * ((0 : Int32) + (f1 0))) + (f1 1))), .val (.ref a1), .val (.int (3 : Int32)), .val (.int (2 : Int32)), .val (.int (f1 1))]) rfl k) ?_
  show own_Fin _ _ _ _ _ _ _ _ (mkF m 33 #[.val (.ref a1), .val (.int (((31 : Int32) * ((0 : Int32) + (f1 0))) + (f1 1))), .val (.ref a1), .val (.int (3 : Int32)), .val (.int (2 : Int32)), .val (.int (f1 1))] [])
  refine own_step (fun t k => XS.goto X0.here hx rfl (pc0 := 33) (pc' := 10) rfl (hb hby d4_33) (by decide) (by decide) k) ?_
  show own_Fin _ _ _ _ _ _ _ _ (mkF m 10 #[.val (.ref a1), .val (.int (((31 : Int32) * ((0 : Int32) + (f1 0))) + (f1 1))), .val (.ref a1), .val (.int (3 : Int32)), .val (.int (2 : Int32)), .val (.int (f1 1))] [])
  refine own_step (fun t k => XS.iload X0.here hx rfl (hb hby d4_10) rfl k) ?_
  show own_Fin _ _ _ _ _ _ _ _ (mkF m 12 #[.val (.ref a1), .val (.int (((31 : Int32) * ((0 : Int32) + (f1 0))) + (f1 1))), .val (.ref a1), .val (.int (3 : Int32)), .val (.int (2 : Int32)), .val (.int (f1 1))] [(.int (2 : Int32))])
  refine own_step (fun t k => XS.iloadN X0.here hx rfl (hb hby d4_12) rfl k) ?_
  show own_Fin _ _ _ _ _ _ _ _ (mkF m 13 #[.val (.ref a1), .val (.int (((31 : Int32) * ((0 : Int32) + (f1 0))) + (f1 1))), .val (.ref a1), .val (.int (3 : Int32)), .val (.int (2 : Int32)), .val (.int (f1 1))] [(.int (3 : Int32)), (.int (2 : Int32))])
  refine own_step (fun t k => XS.icmpNo X0.here hx rfl (hb hby d4_13) rfl (by decide) k) ?_
  show own_Fin _ _ _ _ _ _ _ _ (mkF m 16 #[.val (.ref a1), .val (.int (((31 : Int32) * ((0 : Int32) + (f1 0))) + (f1 1))), .val (.ref a1), .val (.int (3 : Int32)), .val (.int (2 : Int32)), .val (.int (f1 1))] [])
  refine own_step (fun t k => XS.aloadN X0.here hx rfl (hb hby d4_16) rfl rfl k) ?_
  show own_Fin _ _ _ _ _ _ _ _ (mkF m 17 #[.val (.ref a1), .val (.int (((31 : Int32) * ((0 : Int32) + (f1 0))) + (f1 1))), .val (.ref a1), .val (.int (3 : Int32)), .val (.int (2 : Int32)), .val (.int (f1 1))] [(.ref a1)])
  refine own_step (fun t k => XS.iload X0.here hx rfl (hb hby d4_17) rfl k) ?_
  show own_Fin _ _ _ _ _ _ _ _ (mkF m 19 #[.val (.ref a1), .val (.int (((31 : Int32) * ((0 : Int32) + (f1 0))) + (f1 1))), .val (.ref a1), .val (.int (3 : Int32)), .val (.int (2 : Int32)), .val (.int (f1 1))] [(.int (2 : Int32)), (.ref a1)])
  refine own_iaload X0 hx hZ e0 V_a1 (k := 2) rfl (by decide) (v := (f1 2)) rfl (hb hby d4_19) rfl ?_
  show own_Fin _ _ _ _ _ _ _ _ (mkF m 20 #[.val (.ref a1), .val (.int (((31 : Int32) * ((0 : Int32) + (f1 0))) + (f1 1))), .val (.ref a1), .val (.int (3 : Int32)), .val (.int (2 : Int32)), .val (.int (f1 1))] [(.int (f1 2))])
  refine own_step (fun t k => XS.istore X0.here hx rfl (hb hby d4_20) rfl (l' := #[.val (.ref a1), .val (.int (((31 : Int32) * ((0 : Int32) + (f1 0))) + (f1 1))), .val (.ref a1), .val (.int (3 : Int32)), .val (.int (2 : Int32)), .val (.int (f1 2))]) rfl k) ?_
  show own_Fin _ _ _ _ _ _ _ _ (mkF m 22 #[.val (.ref a1), .val (.int (((31 : Int32) * ((0 : Int32) + (f1 0))) + (f1 1))), .val (.ref a1), .val (.int (3 : Int32)), .val (.int (2 : Int32)), .val (.int (f1 2))] [])
  refine own_step (fun t k => XS.bipush X0.here hx rfl (hb hby d4_22) k) ?_
  show own_Fin _ _ _ _ _ _ _ _ (mkF m 24 #[.val (.ref a1), .val (.int (((31 : Int32) * ((0 : Int32) + (f1 0))) + (f1 1))), .val (.ref a1), .val (.int (3 : Int32)), .val (.int (2 : Int32)), .val (.int (f1 2))] [(.int (31 : Int32))])
  refine own_step (fun t k => XS.iloadN X0.here hx rfl (hb hby d4_24) rfl k) ?_
  show own_Fin _ _ _ _ _ _ _ _ (mkF m 25 #[.val (.ref a1), .val (.int (((31 : Int32) * ((0 : Int32) + (f1 0))) + (f1 1))), .val (.ref a1), .val (.int (3 : Int32)), .val (.int (2 : Int32)), .val (.int (f1 2))] [(.int (((31 : Int32) * ((0 : Int32) + (f1 0))) + (f1 1))), (.int (31 : Int32))])
  refine own_step (fun t k => XS.imul X0.here hx rfl (hb hby d4_25) rfl k) ?_
  show own_Fin _ _ _ _ _ _ _ _ (mkF m 26 #[.val (.ref a1), .val (.int (((31 : Int32) * ((0 : Int32) + (f1 0))) + (f1 1))), .val (.ref a1), .val (.int (3 : Int32)), .val (.int (2 : Int32)), .val (.int (f1 2))] [(.int ((31 : Int32) * (((31 : Int32) * ((0 : Int32) + (f1 0))) + (f1 1))))])
  refine own_step (fun t k => XS.iload X0.here hx rfl (hb hby d4_26) rfl k) ?_
  show own_Fin _ _ _ _ _ _ _ _ (mkF m 28 #[.val (.ref a1), .val (.int (((31 : Int32) * ((0 : Int32) + (f1 0))) + (f1 1))), .val (.ref a1), .val (.int (3 : Int32)), .val (.int (2 : Int32)), .val (.int (f1 2))] [(.int (f1 2)), (.int ((31 : Int32) * (((31 : Int32) * ((0 : Int32) + (f1 0))) + (f1 1))))])
  refine own_step (fun t k => XS.iadd X0.here hx rfl (hb hby d4_28) rfl k) ?_
  show own_Fin _ _ _ _ _ _ _ _ (mkF m 29 #[.val (.ref a1), .val (.int (((31 : Int32) * ((0 : Int32) + (f1 0))) + (f1 1))), .val (.ref a1), .val (.int (3 : Int32)), .val (.int (2 : Int32)), .val (.int (f1 2))] [(.int (((31 : Int32) * (((31 : Int32) * ((0 : Int32) + (f1 0))) + (f1 1))) + (f1 2)))])
  refine own_step (fun t k => XS.istoreN X0.here hx rfl (hb hby d4_29) rfl (l' := #[.val (.ref a1), .val (.int (((31 : Int32) * (((31 : Int32) * ((0 : Int32) + (f1 0))) + (f1 1))) + (f1 2))), .val (.ref a1), .val (.int (3 : Int32)), .val (.int (2 : Int32)), .val (.int (f1 2))]) rfl k) ?_
  show own_Fin _ _ _ _ _ _ _ _ (mkF m 30 #[.val (.ref a1), .val (.int (((31 : Int32) * (((31 : Int32) * ((0 : Int32) + (f1 0))) + (f1 1))) + (f1 2))), .val (.ref a1), .val (.int (3 : Int32)), .val (.int (2 : Int32)), .val (.int (f1 2))] [])
  refine own_step (fun t k => XS.iinc X0.here hx rfl (hb hby d4_30) rfl (l' := #[.val (.ref a1), .val (.int (((31 : Int32) * (((31 : Int32) * ((0 : Int32) + (f1 0))) + (f1 1))) + (f1 2))), .val (.ref a1), .val (.int (3 : Int32)), .val (.int (3 : Int32)), .val (.int (f1 2))]) rfl k) ?_
  show own_Fin _ _ _ _ _ _ _ _ (mkF m 33 #[.val (.ref a1), .val (.int (((31 : Int32) * (((31 : Int32) * ((0 : Int32) + (f1 0))) + (f1 1))) + (f1 2))), .val (.ref a1), .val (.int (3 : Int32)), .val (.int (3 : Int32)), .val (.int (f1 2))] [])
  refine own_step (fun t k => XS.goto X0.here hx rfl (pc0 := 33) (pc' := 10) rfl (hb hby d4_33) (by decide) (by decide) k) ?_
  show own_Fin _ _ _ _ _ _ _ _ (mkF m 10 #[.val (.ref a1), .val (.int (((31 : Int32) * (((31 : Int32) * ((0 : Int32) + (f1 0))) + (f1 1))) + (f1 2))), .val (.ref a1), .val (.int (3 : Int32)), .val (.int (3 : Int32)), .val (.int (f1 2))] [])
  refine own_step (fun t k => XS.iload X0.here hx rfl (hb hby d4_10) rfl k) ?_
  show own_Fin _ _ _ _ _ _ _ _ (mkF m 12 #[.val (.ref a1), .val (.int (((31 : Int32) * (((31 : Int32) * ((0 : Int32) + (f1 0))) + (f1 1))) + (f1 2))), .val (.ref a1), .val (.int (3 : Int32)), .val (.int (3 : Int32)), .val (.int (f1 2))] [(.int (3 : Int32))])
  refine own_step (fun t k => XS.iloadN X0.here hx rfl (hb hby d4_12) rfl k) ?_
  show own_Fin _ _ _ _ _ _ _ _ (mkF m 13 #[.val (.ref a1), .val (.int (((31 : Int32) * (((31 : Int32) * ((0 : Int32) + (f1 0))) + (f1 1))) + (f1 2))), .val (.ref a1), .val (.int (3 : Int32)), .val (.int (3 : Int32)), .val (.int (f1 2))] [(.int (3 : Int32)), (.int (3 : Int32))])
  refine own_step (fun t k => XS.icmpYes X0.here hx rfl (pc0 := 13) (pc' := 36) rfl (hb hby d4_13) rfl (by decide) (by decide) (by decide) k) ?_
  show own_Fin _ _ _ _ _ _ _ _ (mkF m 36 #[.val (.ref a1), .val (.int (((31 : Int32) * (((31 : Int32) * ((0 : Int32) + (f1 0))) + (f1 1))) + (f1 2))), .val (.ref a1), .val (.int (3 : Int32)), .val (.int (3 : Int32)), .val (.int (f1 2))] [])
  refine own_step (fun t k => XS.iloadN X0.here hx rfl (hb hby d4_36) rfl k) ?_
  show own_Fin _ _ _ _ _ _ _ _ (mkF m 37 #[.val (.ref a1), .val (.int (((31 : Int32) * (((31 : Int32) * ((0 : Int32) + (f1 0))) + (f1 1))) + (f1 2))), .val (.ref a1), .val (.int (3 : Int32)), .val (.int (3 : Int32)), .val (.int (f1 2))] [(.int (((31 : Int32) * (((31 : Int32) * ((0 : Int32) + (f1 0))) + (f1 1))) + (f1 2)))])
  refine own_step (fun t k => XS.iloadN X0.here hx rfl (hb hby d4_37) rfl k) ?_
  show own_Fin _ _ _ _ _ _ _ _ (mkF m 38 #[.val (.ref a1), .val (.int (((31 : Int32) * (((31 : Int32) * ((0 : Int32) + (f1 0))) + (f1 1))) + (f1 2))), .val (.ref a1), .val (.int (3 : Int32)), .val (.int (3 : Int32)), .val (.int (f1 2))] [(.int (((31 : Int32) * (((31 : Int32) * ((0 : Int32) + (f1 0))) + (f1 1))) + (f1 2))), (.int (((31 : Int32) * (((31 : Int32) * ((0 : Int32) + (f1 0))) + (f1 1))) + (f1 2)))])
  refine own_step (fun t k => XS.bipush X0.here hx rfl (hb hby d4_38) k) ?_
  show own_Fin _ _ _ _ _ _ _ _ (mkF m 40 #[.val (.ref a1), .val (.int (((31 : Int32) * (((31 : Int32) * ((0 : Int32) + (f1 0))) + (f1 1))) + (f1 2))), .val (.ref a1), .val (.int (3 : Int32)), .val (.int (3 : Int32)), .val (.int (f1 2))] [(.int (16 : Int32)), (.int (((31 : Int32) * (((31 : Int32) * ((0 : Int32) + (f1 0))) + (f1 1))) + (f1 2))), (.int (((31 : Int32) * (((31 : Int32) * ((0 : Int32) + (f1 0))) + (f1 1))) + (f1 2)))])
  refine own_step (fun t k => XS.iushr X0.here hx rfl (hb hby d4_40) rfl k) ?_
  show own_Fin _ _ _ _ _ _ _ _ (mkF m 41 #[.val (.ref a1), .val (.int (((31 : Int32) * (((31 : Int32) * ((0 : Int32) + (f1 0))) + (f1 1))) + (f1 2))), .val (.ref a1), .val (.int (3 : Int32)), .val (.int (3 : Int32)), .val (.int (f1 2))] [(.int (((((31 : Int32) * (((31 : Int32) * ((0 : Int32) + (f1 0))) + (f1 1))) + (f1 2)).toUInt32 >>> ((16 : Int32) &&& 31).toUInt32).toInt32)), (.int (((31 : Int32) * (((31 : Int32) * ((0 : Int32) + (f1 0))) + (f1 1))) + (f1 2)))])
  refine own_step (fun t k => XS.ixor X0.here hx rfl (hb hby d4_41) rfl k) ?_
  show own_Fin _ _ _ _ _ _ _ _ (mkF m 42 #[.val (.ref a1), .val (.int (((31 : Int32) * (((31 : Int32) * ((0 : Int32) + (f1 0))) + (f1 1))) + (f1 2))), .val (.ref a1), .val (.int (3 : Int32)), .val (.int (3 : Int32)), .val (.int (f1 2))] [(.int ((((31 : Int32) * (((31 : Int32) * ((0 : Int32) + (f1 0))) + (f1 1))) + (f1 2)) ^^^ (((((31 : Int32) * (((31 : Int32) * ((0 : Int32) + (f1 0))) + (f1 1))) + (f1 2)).toUInt32 >>> ((16 : Int32) &&& 31).toUInt32).toInt32)))])
  generalize hz0 : ((((31 : Int32) * (((31 : Int32) * ((0 : Int32) + (f1 0))) + (f1 1))) + (f1 2)) ^^^ (((((31 : Int32) * (((31 : Int32) * ((0 : Int32) + (f1 0))) + (f1 1))) + (f1 2)).toUInt32 >>> ((16 : Int32) &&& 31).toUInt32).toInt32)) = z0
  refine own_step (fun t k => XS.istoreN X0.here hx rfl (hb hby d4_42) rfl (l' := #[.val (.ref a1), .val (.int z0), .val (.ref a1), .val (.int (3 : Int32)), .val (.int (3 : Int32)), .val (.int (f1 2))]) rfl k) ?_
  show own_Fin _ _ _ _ _ _ _ _ (mkF m 43 #[.val (.ref a1), .val (.int z0), .val (.ref a1), .val (.int (3 : Int32)), .val (.int (3 : Int32)), .val (.int (f1 2))] [])
  refine own_step (fun t k => XS.iloadN X0.here hx rfl (hb hby d4_43) rfl k) ?_
  show own_Fin _ _ _ _ _ _ _ _ (mkF m 44 #[.val (.ref a1), .val (.int z0), .val (.ref a1), .val (.int (3 : Int32)), .val (.int (3 : Int32)), .val (.int (f1 2))] [(.int z0)])
  refine own_step (fun t k => X0.ldcInt hx hown (mvT hZ (hw _ (List.mem_of_getElem? (i := 5) rfl))) (g := (mkF m 44 #[.val (.ref a1), .val (.int z0), .val (.ref a1), .val (.int (3 : Int32)), .val (.int (3 : Int32)), .val (.int (f1 2))] [(.int z0)])) rfl (hb hby d4_44) _ k) ?_
  show own_Fin _ _ _ _ _ _ _ _ (mkF m 46 #[.val (.ref a1), .val (.int z0), .val (.ref a1), .val (.int (3 : Int32)), .val (.int (3 : Int32)), .val (.int (f1 2))] [(.int (-2048144789 : Int32)), (.int z0)])
  refine own_step (fun t k => XS.imul X0.here hx rfl (hb hby d4_46) rfl k) ?_
  show own_Fin _ _ _ _ _ _ _ _ (mkF m 47 #[.val (.ref a1), .val (.int z0), .val (.ref a1), .val (.int (3 : Int32)), .val (.int (3 : Int32)), .val (.int (f1 2))] [(.int (z0 * (-2048144789 : Int32)))])
  generalize hz1 : (z0 * (-2048144789 : Int32)) = z1
  refine own_step (fun t k => XS.istoreN X0.here hx rfl (hb hby d4_47) rfl (l' := #[.val (.ref a1), .val (.int z1), .val (.ref a1), .val (.int (3 : Int32)), .val (.int (3 : Int32)), .val (.int (f1 2))]) rfl k) ?_
  show own_Fin _ _ _ _ _ _ _ _ (mkF m 48 #[.val (.ref a1), .val (.int z1), .val (.ref a1), .val (.int (3 : Int32)), .val (.int (3 : Int32)), .val (.int (f1 2))] [])
  refine own_step (fun t k => XS.iloadN X0.here hx rfl (hb hby d4_48) rfl k) ?_
  show own_Fin _ _ _ _ _ _ _ _ (mkF m 49 #[.val (.ref a1), .val (.int z1), .val (.ref a1), .val (.int (3 : Int32)), .val (.int (3 : Int32)), .val (.int (f1 2))] [(.int z1)])
  refine own_step (fun t k => XS.iloadN X0.here hx rfl (hb hby d4_49) rfl k) ?_
  show own_Fin _ _ _ _ _ _ _ _ (mkF m 50 #[.val (.ref a1), .val (.int z1), .val (.ref a1), .val (.int (3 : Int32)), .val (.int (3 : Int32)), .val (.int (f1 2))] [(.int z1), (.int z1)])
  refine own_step (fun t k => XS.bipush X0.here hx rfl (hb hby d4_50) k) ?_
  show own_Fin _ _ _ _ _ _ _ _ (mkF m 52 #[.val (.ref a1), .val (.int z1), .val (.ref a1), .val (.int (3 : Int32)), .val (.int (3 : Int32)), .val (.int (f1 2))] [(.int (13 : Int32)), (.int z1), (.int z1)])
  refine own_step (fun t k => XS.iushr X0.here hx rfl (hb hby d4_52) rfl k) ?_
  show own_Fin _ _ _ _ _ _ _ _ (mkF m 53 #[.val (.ref a1), .val (.int z1), .val (.ref a1), .val (.int (3 : Int32)), .val (.int (3 : Int32)), .val (.int (f1 2))] [(.int ((z1.toUInt32 >>> ((13 : Int32) &&& 31).toUInt32).toInt32)), (.int z1)])
  refine own_step (fun t k => XS.ixor X0.here hx rfl (hb hby d4_53) rfl k) ?_
  show own_Fin _ _ _ _ _ _ _ _ (mkF m 54 #[.val (.ref a1), .val (.int z1), .val (.ref a1), .val (.int (3 : Int32)), .val (.int (3 : Int32)), .val (.int (f1 2))] [(.int (z1 ^^^ ((z1.toUInt32 >>> ((13 : Int32) &&& 31).toUInt32).toInt32)))])
  generalize hz2 : (z1 ^^^ ((z1.toUInt32 >>> ((13 : Int32) &&& 31).toUInt32).toInt32)) = z2
  refine own_step (fun t k => XS.istoreN X0.here hx rfl (hb hby d4_54) rfl (l' := #[.val (.ref a1), .val (.int z2), .val (.ref a1), .val (.int (3 : Int32)), .val (.int (3 : Int32)), .val (.int (f1 2))]) rfl k) ?_
  show own_Fin _ _ _ _ _ _ _ _ (mkF m 55 #[.val (.ref a1), .val (.int z2), .val (.ref a1), .val (.int (3 : Int32)), .val (.int (3 : Int32)), .val (.int (f1 2))] [])
  refine own_step (fun t k => XS.iloadN X0.here hx rfl (hb hby d4_55) rfl k) ?_
  show own_Fin _ _ _ _ _ _ _ _ (mkF m 56 #[.val (.ref a1), .val (.int z2), .val (.ref a1), .val (.int (3 : Int32)), .val (.int (3 : Int32)), .val (.int (f1 2))] [(.int z2)])
  refine own_step (fun t k => X0.ldcInt hx hown (mvT hZ (hw _ (List.mem_of_getElem? (i := 6) rfl))) (g := (mkF m 56 #[.val (.ref a1), .val (.int z2), .val (.ref a1), .val (.int (3 : Int32)), .val (.int (3 : Int32)), .val (.int (f1 2))] [(.int z2)])) rfl (hb hby d4_56) _ k) ?_
  show own_Fin _ _ _ _ _ _ _ _ (mkF m 58 #[.val (.ref a1), .val (.int z2), .val (.ref a1), .val (.int (3 : Int32)), .val (.int (3 : Int32)), .val (.int (f1 2))] [(.int (-1028477387 : Int32)), (.int z2)])
  refine own_step (fun t k => XS.imul X0.here hx rfl (hb hby d4_58) rfl k) ?_
  show own_Fin _ _ _ _ _ _ _ _ (mkF m 59 #[.val (.ref a1), .val (.int z2), .val (.ref a1), .val (.int (3 : Int32)), .val (.int (3 : Int32)), .val (.int (f1 2))] [(.int (z2 * (-1028477387 : Int32)))])
  generalize hz3 : (z2 * (-1028477387 : Int32)) = z3
  refine own_step (fun t k => XS.istoreN X0.here hx rfl (hb hby d4_59) rfl (l' := #[.val (.ref a1), .val (.int z3), .val (.ref a1), .val (.int (3 : Int32)), .val (.int (3 : Int32)), .val (.int (f1 2))]) rfl k) ?_
  show own_Fin _ _ _ _ _ _ _ _ (mkF m 60 #[.val (.ref a1), .val (.int z3), .val (.ref a1), .val (.int (3 : Int32)), .val (.int (3 : Int32)), .val (.int (f1 2))] [])
  refine own_step (fun t k => XS.iloadN X0.here hx rfl (hb hby d4_60) rfl k) ?_
  show own_Fin _ _ _ _ _ _ _ _ (mkF m 61 #[.val (.ref a1), .val (.int z3), .val (.ref a1), .val (.int (3 : Int32)), .val (.int (3 : Int32)), .val (.int (f1 2))] [(.int z3)])
  refine own_step (fun t k => XS.iloadN X0.here hx rfl (hb hby d4_61) rfl k) ?_
  show own_Fin _ _ _ _ _ _ _ _ (mkF m 62 #[.val (.ref a1), .val (.int z3), .val (.ref a1), .val (.int (3 : Int32)), .val (.int (3 : Int32)), .val (.int (f1 2))] [(.int z3), (.int z3)])
  refine own_step (fun t k => XS.bipush X0.here hx rfl (hb hby d4_62) k) ?_
  show own_Fin _ _ _ _ _ _ _ _ (mkF m 64 #[.val (.ref a1), .val (.int z3), .val (.ref a1), .val (.int (3 : Int32)), .val (.int (3 : Int32)), .val (.int (f1 2))] [(.int (16 : Int32)), (.int z3), (.int z3)])
  refine own_step (fun t k => XS.iushr X0.here hx rfl (hb hby d4_64) rfl k) ?_
  show own_Fin _ _ _ _ _ _ _ _ (mkF m 65 #[.val (.ref a1), .val (.int z3), .val (.ref a1), .val (.int (3 : Int32)), .val (.int (3 : Int32)), .val (.int (f1 2))] [(.int ((z3.toUInt32 >>> ((16 : Int32) &&& 31).toUInt32).toInt32)), (.int z3)])
  refine own_step (fun t k => XS.ixor X0.here hx rfl (hb hby d4_65) rfl k) ?_
  show own_Fin _ _ _ _ _ _ _ _ (mkF m 66 #[.val (.ref a1), .val (.int z3), .val (.ref a1), .val (.int (3 : Int32)), .val (.int (3 : Int32)), .val (.int (f1 2))] [(.int (z3 ^^^ ((z3.toUInt32 >>> ((16 : Int32) &&& 31).toUInt32).toInt32)))])
  refine own_step (fun t k => XS.istoreN X0.here hx rfl (hb hby d4_66) rfl (l' := #[.val (.ref a1), .val (.int (z3 ^^^ ((z3.toUInt32 >>> ((16 : Int32) &&& 31).toUInt32).toInt32))), .val (.ref a1), .val (.int (3 : Int32)), .val (.int (3 : Int32)), .val (.int (f1 2))]) rfl k) ?_
  show own_Fin _ _ _ _ _ _ _ _ (mkF m 67 #[.val (.ref a1), .val (.int (z3 ^^^ ((z3.toUInt32 >>> ((16 : Int32) &&& 31).toUInt32).toInt32))), .val (.ref a1), .val (.int (3 : Int32)), .val (.int (3 : Int32)), .val (.int (f1 2))] [])
  refine own_step (fun t k => XS.iloadN X0.here hx rfl (hb hby d4_67) rfl k) ?_
  show own_Fin _ _ _ _ _ _ _ _ (mkF m 68 #[.val (.ref a1), .val (.int (z3 ^^^ ((z3.toUInt32 >>> ((16 : Int32) &&& 31).toUInt32).toInt32))), .val (.ref a1), .val (.int (3 : Int32)), .val (.int (3 : Int32)), .val (.int (f1 2))] [(.int (z3 ^^^ ((z3.toUInt32 >>> ((16 : Int32) &&& 31).toUInt32).toInt32)))])
  refine own_retI X0 hx hlk Bd.returns (hb hby d4_68) (by decide) (by decide) e0 ?_
  subst hz3 hz2 hz1 hz0; exact ⟨rfl, Nf, rfl⟩
theorem d5_0 : decode prog_64_method_10_code 0 = .ok (.iconst 0, 1) := by decide +kernel
theorem d5_1 : decode prog_64_method_10_code 1 = .ok (.istore_n 1, 1) := by decide +kernel
theorem d5_2 : decode prog_64_method_10_code 2 = .ok (.aload_n 0, 1) := by decide +kernel
theorem d5_3 : decode prog_64_method_10_code 3 = .ok (.astore_n 2, 1) := by decide +kernel
theorem d5_4 : decode prog_64_method_10_code 4 = .ok (.aload_n 2, 1) := by decide +kernel
theorem d5_5 : decode prog_64_method_10_code 5 = .ok (.arraylength, 1) := by decide +kernel
theorem d5_6 : decode prog_64_method_10_code 6 = .ok (.istore_n 3, 1) := by decide +kernel
theorem d5_7 : decode prog_64_method_10_code 7 = .ok (.iconst 0, 1) := by decide +kernel
theorem d5_8 : decode prog_64_method_10_code 8 = .ok (.istore 4, 2) := by decide +kernel
theorem d5_10 : decode prog_64_method_10_code 10 = .ok (.iload 4, 2) := by decide +kernel
theorem d5_12 : decode prog_64_method_10_code 12 = .ok (.iload_n 3, 1) := by decide +kernel
theorem d5_13 : decode prog_64_method_10_code 13 = .ok (.if_icmp .ge 23, 3) := by decide +kernel
theorem d5_16 : decode prog_64_method_10_code 16 = .ok (.aload_n 2, 1) := by decide +kernel
theorem d5_17 : decode prog_64_method_10_code 17 = .ok (.iload 4, 2) := by decide +kernel
theorem d5_19 : decode prog_64_method_10_code 19 = .ok (.iaload, 1) := by decide +kernel
theorem d5_20 : decode prog_64_method_10_code 20 = .ok (.istore 5, 2) := by decide +kernel
theorem d5_22 : decode prog_64_method_10_code 22 = .ok (.bipush 31, 2) := by decide +kernel
theorem d5_24 : decode prog_64_method_10_code 24 = .ok (.iload_n 1, 1) := by decide +kernel
theorem d5_25 : decode prog_64_method_10_code 25 = .ok (.imul, 1) := by decide +kernel
theorem d5_26 : decode prog_64_method_10_code 26 = .ok (.iload 5, 2) := by decide +kernel
theorem d5_28 : decode prog_64_method_10_code 28 = .ok (.iadd, 1) := by decide +kernel
theorem d5_29 : decode prog_64_method_10_code 29 = .ok (.istore_n 1, 1) := by decide +kernel
theorem d5_30 : decode prog_64_method_10_code 30 = .ok (.iinc 4 1, 3) := by decide +kernel
theorem d5_33 : decode prog_64_method_10_code 33 = .ok (.goto (-23), 3) := by decide +kernel
theorem d5_36 : decode prog_64_method_10_code 36 = .ok (.iload_n 1, 1) := by decide +kernel
theorem d5_37 : decode prog_64_method_10_code 37 = .ok (.iload_n 1, 1) := by decide +kernel
theorem d5_38 : decode prog_64_method_10_code 38 = .ok (.bipush 16, 2) := by decide +kernel
theorem d5_40 : decode prog_64_method_10_code 40 = .ok (.iushr, 1) := by decide +kernel
theorem d5_41 : decode prog_64_method_10_code 41 = .ok (.ixor, 1) := by decide +kernel
theorem d5_42 : decode prog_64_method_10_code 42 = .ok (.istore_n 1, 1) := by decide +kernel
theorem d5_43 : decode prog_64_method_10_code 43 = .ok (.iload_n 1, 1) := by decide +kernel
theorem d5_44 : decode prog_64_method_10_code 44 = .ok (.ldc 100, 2) := by decide +kernel
theorem d5_46 : decode prog_64_method_10_code 46 = .ok (.imul, 1) := by decide +kernel
theorem d5_47 : decode prog_64_method_10_code 47 = .ok (.istore_n 1, 1) := by decide +kernel
theorem d5_48 : decode prog_64_method_10_code 48 = .ok (.iload_n 1, 1) := by decide +kernel
theorem d5_49 : decode prog_64_method_10_code 49 = .ok (.iload_n 1, 1) := by decide +kernel
theorem d5_50 : decode prog_64_method_10_code 50 = .ok (.bipush 13, 2) := by decide +kernel
theorem d5_52 : decode prog_64_method_10_code 52 = .ok (.iushr, 1) := by decide +kernel
theorem d5_53 : decode prog_64_method_10_code 53 = .ok (.ixor, 1) := by decide +kernel
theorem d5_54 : decode prog_64_method_10_code 54 = .ok (.istore_n 1, 1) := by decide +kernel
theorem d5_55 : decode prog_64_method_10_code 55 = .ok (.iload_n 1, 1) := by decide +kernel
theorem d5_56 : decode prog_64_method_10_code 56 = .ok (.ldc 101, 2) := by decide +kernel
theorem d5_58 : decode prog_64_method_10_code 58 = .ok (.imul, 1) := by decide +kernel
theorem d5_59 : decode prog_64_method_10_code 59 = .ok (.istore_n 1, 1) := by decide +kernel
theorem d5_60 : decode prog_64_method_10_code 60 = .ok (.iload_n 1, 1) := by decide +kernel
theorem d5_61 : decode prog_64_method_10_code 61 = .ok (.iload_n 1, 1) := by decide +kernel
theorem d5_62 : decode prog_64_method_10_code 62 = .ok (.bipush 16, 2) := by decide +kernel
theorem d5_64 : decode prog_64_method_10_code 64 = .ok (.iushr, 1) := by decide +kernel
theorem d5_65 : decode prog_64_method_10_code 65 = .ok (.ixor, 1) := by decide +kernel
theorem d5_66 : decode prog_64_method_10_code 66 = .ok (.istore_n 1, 1) := by decide +kernel
theorem d5_67 : decode prog_64_method_10_code 67 = .ok (.iload_n 1, 1) := by decide +kernel
theorem d5_68 : decode prog_64_method_10_code 68 = .ok (.ireturn, 1) := by decide +kernel
theorem own_pn_5 : plainName "com/example/limfjord/limfjord/engine/StateStore" = true := by first | (simp [plainName, overriddenIn]; done) | decide +kernel
theorem own_ef_5 (m : MethodId) (a1 : Addr) : entryFrame m #[(.ref a1)] 6 = mkF m 0 #[.val (.ref a1), .unset, .unset, .unset, .unset, .unset] [] := by first | (simp [entryFrame, mkF, argsToLocals, Value.category]; done) | rfl
abbrev own_R5 : Room := { frames := 0, cells := 0, slots := 0, locals := 0 }
def own_Q5 (Z : State) (a1 : Addr) (f1 : Nat → Int32) (h0 : Heap) (n0 : Nat) (v : Option Value) (h : Heap) (L : List Loc) : Prop := v = some (.int (own_mix (((31 : Int32) * (((31 : Int32) * (((31 : Int32) * ((0 : Int32) + (f1 0))) + (f1 1))) + (f1 2))) + (f1 3)))) ∧ Fr n0 L ∧ h = h0
set_option maxRecDepth 65536 in
set_option maxHeartbeats 40000000 in
theorem rm5 (l : Launch) (Z : State) (a0 : Array Value) (hw : ∀ d ∈ tables_1, d.before a0 Z = true) (ws : List Jvm.Cond) (a1 : Addr) (f1 : Nat → Int32) (h0 : Heap) (n0 : Nat) (Z0 : n0 ≤ h0.size) (V_a1 : own_AI Z h0 a1 .int 4 f1) :
    MetFree l (⟨"com/example/limfjord/limfjord/engine/StateStore", "hash", "([I)I"⟩ : MethodName) (head1 (Jvm.Cond.code (⟨"com/example/limfjord/limfjord/engine/StateStore", "hash", "([I)I"⟩ : MethodName) prog_64_method_10_code 6 (some .int) :: ws) own_R5) (fun a U => a = #[(.ref a1)] ∧ Z.Warmed39 U.vm ∧ U.heap = h0) (fun _ _ _ _ _ => True) (fun _ U o U' => ∃ v L, o = .returned v ∧ own_Q5 Z a1 f1 h0 n0 v U'.heap L ∧ FrameEnd U o U' L own_R5.cells own_R5.slots) := by
  refine MetFree.of_bodySF (plainFor_of_name own_pn_5) hisR ?_
  intro p e s m args below meth c s₁ Bd hml0 hP hK
  obtain ⟨rfl, hZ, hh⟩ := hP
  have hx := Bd.exec
  have hby := Bd.bytes
  have hlk := BodyLoose.notSynchronized Bd
  have hml : c.maxLocals = 6 := hml0
  have hown : s.vm.findClass "com/example/limfjord/limfjord/engine/StateStore" = some m.cls := (findClass_of_methodNamed Bd.named : s.vm.findClass (⟨"com/example/limfjord/limfjord/engine/StateStore", "hash", "([I)I"⟩ : MethodName).cls = some m.cls)
  have hnm := (name_of_methodNamed Bd.named Bd.method).1
  have X0 : Stand p l e own_R5 s m #[(.ref a1)] below meth c s₁ [] 0 0 := Stand.of_body Bd
  have e0 : s₁.heap = h0 := by rw [← hh, Bd.state]; rfl
  have Nf := Fr.nil n0
  have Zs := Z0
  show own_Fin p e below s (own_Q5 Z a1 f1 h0 n0) 0 0 s₁ (entryFrame m #[(.ref a1)] 6)
  rw [own_ef_5 m a1]
  show own_Fin _ _ _ _ _ _ _ _ (mkF m 0 #[.val (.ref a1), .unset, .unset, .unset, .unset, .unset] [])
  refine own_step (fun t k => XS.iconst X0.here hx rfl (hb hby d5_0) k) ?_
  show own_Fin _ _ _ _ _ _ _ _ (mkF m 1 #[.val (.ref a1), .unset, .unset, .unset, .unset, .unset] [(.int (0 : Int32))])
  refine own_step (fun t k => XS.istoreN X0.here hx rfl (hb hby d5_1) rfl (l' := #[.val (.ref a1), .val (.int (0 : Int32)), .unset, .unset, .unset, .unset]) rfl k) ?_
  show own_Fin _ _ _ _ _ _ _ _ (mkF m 2 #[.val (.ref a1), .val (.int (0 : Int32)), .unset, .unset, .unset, .unset] [])
  refine own_step (fun t k => XS.aloadN X0.here hx rfl (hb hby d5_2) rfl rfl k) ?_
  show own_Fin _ _ _ _ _ _ _ _ (mkF m 3 #[.val (.ref a1), .val (.int (0 : Int32)), .unset, .unset, .unset, .unset] [(.ref a1)])
  refine own_step (fun t k => XS.astoreN X0.here hx rfl (hb hby d5_3) rfl rfl (l' := #[.val (.ref a1), .val (.int (0 : Int32)), .val (.ref a1), .unset, .unset, .unset]) rfl k) ?_
  show own_Fin _ _ _ _ _ _ _ _ (mkF m 4 #[.val (.ref a1), .val (.int (0 : Int32)), .val (.ref a1), .unset, .unset, .unset] [])
  refine own_step (fun t k => XS.aloadN X0.here hx rfl (hb hby d5_4) rfl rfl k) ?_
  show own_Fin _ _ _ _ _ _ _ _ (mkF m 5 #[.val (.ref a1), .val (.int (0 : Int32)), .val (.ref a1), .unset, .unset, .unset] [(.ref a1)])
  refine own_arrlen X0 hx hZ e0 V_a1 (z := (4 : Int32)) rfl (hb hby d5_5) rfl ?_
  show own_Fin _ _ _ _ _ _ _ _ (mkF m 6 #[.val (.ref a1), .val (.int (0 : Int32)), .val (.ref a1), .unset, .unset, .unset] [(.int (4 : Int32))])
  refine own_step (fun t k => XS.istoreN X0.here hx rfl (hb hby d5_6) rfl (l' := #[.val (.ref a1), .val (.int (0 : Int32)), .val (.ref a1), .val (.int (4 : Int32)), .unset, .unset]) rfl k) ?_
  show own_Fin _ _ _ _ _ _ _ _ (mkF m 7 #[.val (.ref a1), .val (.int (0 : Int32)), .val (.ref a1), .val (.int (4 : Int32)), .unset, .unset] [])
  refine own_step (fun t k => XS.iconst X0.here hx rfl (hb hby d5_7) k) ?_
  show own_Fin _ _ _ _ _ _ _ _ (mkF m 8 #[.val (.ref a1), .val (.int (0 : Int32)), .val (.ref a1), .val (.int (4 : Int32)), .unset, .unset] [(.int (0 : Int32))])
  refine own_step (fun t k => XS.istore X0.here hx rfl (hb hby d5_8) rfl (l' := #[.val (.ref a1), .val (.int (0 : Int32)), .val (.ref a1), .val (.int (4 : Int32)), .val (.int (0 : Int32)), .unset]) rfl k) ?_
  show own_Fin _ _ _ _ _ _ _ _ (mkF m 10 #[.val (.ref a1), .val (.int (0 : Int32)), .val (.ref a1), .val (.int (4 : Int32)), .val (.int (0 : Int32)), .unset] [])
  refine own_step (fun t k => XS.iload X0.here hx rfl (hb hby d5_10) rfl k) ?_
  show own_Fin _ _ _ _ _ _ _ _ (mkF m 12 #[.val (.ref a1), .val (.int (0 : Int32)), .val (.ref a1), .val (.int (4 : Int32)), .val (.int (0 : Int32)), .unset] [(.int (0 : Int32))])
  refine own_step (fun t k => XS.iloadN X0.here hx rfl (hb hby d5_12) rfl k) ?_
  show own_Fin _ _ _ _ _ _ _ _ (mkF m 13 #[.val (.ref a1), .val (.int (0 : Int32)), .val (.ref a1), .val (.int (4 : Int32)), .val (.int (0 : Int32)), .unset] [(.int (4 : Int32)), (.int (0 : Int32))])
  refine own_step (fun t k => XS.icmpNo X0.here hx rfl (hb hby d5_13) rfl (by decide) k) ?_
  show own_Fin _ _ _ _ _ _ _ _ (mkF m 16 #[.val (.ref a1), .val (.int (0 : Int32)), .val (.ref a1), .val (.int (4 : Int32)), .val (.int (0 : Int32)), .unset] [])
  refine own_step (fun t k => XS.aloadN X0.here hx rfl (hb hby d5_16) rfl rfl k) ?_
  show own_Fin _ _ _ _ _ _ _ _ (mkF m 17 #[.val (.ref a1), .val (.int (0 : Int32)), .val (.ref a1), .val (.int (4 : Int32)), .val (.int (0 : Int32)), .unset] [(.ref a1)])
  refine own_step (fun t k => XS.iload X0.here hx rfl (hb hby d5_17) rfl k) ?_
  show own_Fin _ _ _ _ _ _ _ _ (mkF m 19 #[.val (.ref a1), .val (.int (0 : Int32)), .val (.ref a1), .val (.int (4 : Int32)), .val (.int (0 : Int32)), .unset] [(.int (0 : Int32)), (.ref a1)])
  refine own_iaload X0 hx hZ e0 V_a1 (k := 0) rfl (by decide) (v := (f1 0)) rfl (hb hby d5_19) rfl ?_
  show own_Fin _ _ _ _ _ _ _ _ (mkF m 20 #[.val (.ref a1), .val (.int (0 : Int32)), .val (.ref a1), .val (.int (4 : Int32)), .val (.int (0 : Int32)), .unset] [(.int (f1 0))])
  refine own_step (fun t k => XS.istore X0.here hx rfl (hb hby d5_20) rfl (l' := #[.val (.ref a1), .val (.int (0 : Int32)), .val (.ref a1), .val (.int (4 : Int32)), .val (.int (0 : Int32)), .val (.int (f1 0))]) rfl k) ?_
  show own_Fin _ _ _ _ _ _ _ _ (mkF m 22 #[.val (.ref a1), .val (.int (0 : Int32)), .val (.ref a1), .val (.int (4 : Int32)), .val (.int (0 : Int32)), .val (.int (f1 0))] [])
  refine own_step (fun t k => XS.bipush X0.here hx rfl (hb hby d5_22) k) ?_
  show own_Fin _ _ _ _ _ _ _ _ (mkF m 24 #[.val (.ref a1), .val (.int (0 : Int32)), .val (.ref a1), .val (.int (4 : Int32)), .val (.int (0 : Int32)), .val (.int (f1 0))] [(.int (31 : Int32))])
  refine own_step (fun t k => XS.iloadN X0.here hx rfl (hb hby d5_24) rfl k) ?_
  show own_Fin _ _ _ _ _ _ _ _ (mkF m 25 #[.val (.ref a1), .val (.int (0 : Int32)), .val (.ref a1), .val (.int (4 : Int32)), .val (.int (0 : Int32)), .val (.int (f1 0))] [(.int (0 : Int32)), (.int (31 : Int32))])
  refine own_step (fun t k => XS.imul X0.here hx rfl (hb hby d5_25) rfl k) ?_
  show own_Fin _ _ _ _ _ _ _ _ (mkF m 26 #[.val (.ref a1), .val (.int (0 : Int32)), .val (.ref a1), .val (.int (4 : Int32)), .val (.int (0 : Int32)), .val (.int (f1 0))] [(.int (0 : Int32))])
  refine own_step (fun t k => XS.iload X0.here hx rfl (hb hby d5_26) rfl k) ?_
  show own_Fin _ _ _ _ _ _ _ _ (mkF m 28 #[.val (.ref a1), .val (.int (0 : Int32)), .val (.ref a1), .val (.int (4 : Int32)), .val (.int (0 : Int32)), .val (.int (f1 0))] [(.int (f1 0)), (.int (0 : Int32))])
  refine own_step (fun t k => XS.iadd X0.here hx rfl (hb hby d5_28) rfl k) ?_
  show own_Fin _ _ _ _ _ _ _ _ (mkF m 29 #[.val (.ref a1), .val (.int (0 : Int32)), .val (.ref a1), .val (.int (4 : Int32)), .val (.int (0 : Int32)), .val (.int (f1 0))] [(.int ((0 : Int32) + (f1 0)))])
  refine own_step (fun t k => XS.istoreN X0.here hx rfl (hb hby d5_29) rfl (l' := #[.val (.ref a1), .val (.int ((0 : Int32) + (f1 0))), .val (.ref a1), .val (.int (4 : Int32)), .val (.int (0 : Int32)), .val (.int (f1 0))]) rfl k) ?_
  show own_Fin _ _ _ _ _ _ _ _ (mkF m 30 #[.val (.ref a1), .val (.int ((0 : Int32) + (f1 0))), .val (.ref a1), .val (.int (4 : Int32)), .val (.int (0 : Int32)), .val (.int (f1 0))] [])
  refine own_step (fun t k => XS.iinc X0.here hx rfl (hb hby d5_30) rfl (l' := #[.val (.ref a1), .val (.int ((0 : Int32) + (f1 0))), .val (.ref a1), .val (.int (4 : Int32)), .val (.int (1 : Int32)), .val (.int (f1 0))]) rfl k) ?_
  show own_Fin _ _ _ _ _ _ _ _ (mkF m 33 #[.val (.ref a1), .val (.int ((0 : Int32) + (f1 0))), .val (.ref a1), .val (.int (4 : Int32)), .val (.int (1 : Int32)), .val (.int (f1 0))] [])
  refine own_step (fun t k => XS.goto X0.here hx rfl (pc0 := 33) (pc' := 10) rfl (hb hby d5_33) (by decide) (by decide) k) ?_
  show own_Fin _ _ _ _ _ _ _ _ (mkF m 10 #[.val (.ref a1), .val (.int ((0 : Int32) + (f1 0))), .val (.ref a1), .val (.int (4 : Int32)), .val (.int (1 : Int32)), .val (.int (f1 0))] [])
  refine own_step (fun t k => XS.iload X0.here hx rfl (hb hby d5_10) rfl k) ?_
  show own_Fin _ _ _ _ _ _ _ _ (mkF m 12 #[.val (.ref a1), .val (.int ((0 : Int32) + (f1 0))), .val (.ref a1), .val (.int (4 : Int32)), .val (.int (1 : Int32)), .val (.int (f1 0))] [(.int (1 : Int32))])
  refine own_step (fun t k => XS.iloadN X0.here hx rfl (hb hby d5_12) rfl k) ?_
  show own_Fin _ _ _ _ _ _ _ _ (mkF m 13 #[.val (.ref a1), .val (.int ((0 : Int32) + (f1 0))), .val (.ref a1), .val (.int (4 : Int32)), .val (.int (1 : Int32)), .val (.int (f1 0))] [(.int (4 : Int32)), (.int (1 : Int32))])
  refine own_step (fun t k => XS.icmpNo X0.here hx rfl (hb hby d5_13) rfl (by decide) k) ?_
  show own_Fin _ _ _ _ _ _ _ _ (mkF m 16 #[.val (.ref a1), .val (.int ((0 : Int32) + (f1 0))), .val (.ref a1), .val (.int (4 : Int32)), .val (.int (1 : Int32)), .val (.int (f1 0))] [])
  refine own_step (fun t k => XS.aloadN X0.here hx rfl (hb hby d5_16) rfl rfl k) ?_
  show own_Fin _ _ _ _ _ _ _ _ (mkF m 17 #[.val (.ref a1), .val (.int ((0 : Int32) + (f1 0))), .val (.ref a1), .val (.int (4 : Int32)), .val (.int (1 : Int32)), .val (.int (f1 0))] [(.ref a1)])
  refine own_step (fun t k => XS.iload X0.here hx rfl (hb hby d5_17) rfl k) ?_
  show own_Fin _ _ _ _ _ _ _ _ (mkF m 19 #[.val (.ref a1), .val (.int ((0 : Int32) + (f1 0))), .val (.ref a1), .val (.int (4 : Int32)), .val (.int (1 : Int32)), .val (.int (f1 0))] [(.int (1 : Int32)), (.ref a1)])
  refine own_iaload X0 hx hZ e0 V_a1 (k := 1) rfl (by decide) (v := (f1 1)) rfl (hb hby d5_19) rfl ?_
  show own_Fin _ _ _ _ _ _ _ _ (mkF m 20 #[.val (.ref a1), .val (.int ((0 : Int32) + (f1 0))), .val (.ref a1), .val (.int (4 : Int32)), .val (.int (1 : Int32)), .val (.int (f1 0))] [(.int (f1 1))])
  refine own_step (fun t k => XS.istore X0.here hx rfl (hb hby d5_20) rfl (l' := #[.val (.ref a1), .val (.int ((0 : Int32) + (f1 0))), .val (.ref a1), .val (.int (4 : Int32)), .val (.int (1 : Int32)), .val (.int (f1 1))]) rfl k) ?_
  show own_Fin _ _ _ _ _ _ _ _ (mkF m 22 #[.val (.ref a1), .val (.int ((0 : Int32) + (f1 0))), .val (.ref a1), .val (.int (4 : Int32)), .val (.int (1 : Int32)), .val (.int (f1 1))] [])
  refine own_step (fun t k => XS.bipush X0.here hx rfl (hb hby d5_22) k) ?_
  show own_Fin _ _ _ _ _ _ _ _ (mkF m 24 #[.val (.ref a1), .val (.int ((0 : Int32) + (f1 0))), .val (.ref a1), .val (.int (4 : Int32)), .val (.int (1 : Int32)), .val (.int (f1 1))] [(.int (31 : Int32))])
  refine own_step (fun t k => XS.iloadN X0.here hx rfl (hb hby d5_24) rfl k) ?_
  show own_Fin _ _ _ _ _ _ _ _ (mkF m 25 #[.val (.ref a1), .val (.int ((0 : Int32) + (f1 0))), .val (.ref a1), .val (.int (4 : Int32)), .val (.int (1 : Int32)), .val (.int (f1 1))] [(.int ((0 : Int32) + (f1 0))), (.int (31 : Int32))])
  refine own_step (fun t k => XS.imul X0.here hx rfl (hb hby d5_25) rfl k) ?_
  show own_Fin _ _ _ _ _ _ _ _ (mkF m 26 #[.val (.ref a1), .val (.int ((0 : Int32) + (f1 0))), .val (.ref a1), .val (.int (4 : Int32)), .val (.int (1 : Int32)), .val (.int (f1 1))] [(.int ((31 : Int32) * ((0 : Int32) + (f1 0))))])
  refine own_step (fun t k => XS.iload X0.here hx rfl (hb hby d5_26) rfl k) ?_
  show own_Fin _ _ _ _ _ _ _ _ (mkF m 28 #[.val (.ref a1), .val (.int ((0 : Int32) + (f1 0))), .val (.ref a1), .val (.int (4 : Int32)), .val (.int (1 : Int32)), .val (.int (f1 1))] [(.int (f1 1)), (.int ((31 : Int32) * ((0 : Int32) + (f1 0))))])
  refine own_step (fun t k => XS.iadd X0.here hx rfl (hb hby d5_28) rfl k) ?_
  show own_Fin _ _ _ _ _ _ _ _ (mkF m 29 #[.val (.ref a1), .val (.int ((0 : Int32) + (f1 0))), .val (.ref a1), .val (.int (4 : Int32)), .val (.int (1 : Int32)), .val (.int (f1 1))] [(.int (((31 : Int32) * ((0 : Int32) + (f1 0))) + (f1 1)))])
  refine own_step (fun t k => XS.istoreN X0.here hx rfl (hb hby d5_29) rfl (l' := #[.val (.ref a1), .val (.int (((31 : Int32) * ((0 : Int32) + (f1 0))) + (f1 1))), .val (.ref a1), .val (.int (4 : Int32)), .val (.int (1 : Int32)), .val (.int (f1 1))]) rfl k) ?_
  show own_Fin _ _ _ _ _ _ _ _ (mkF m 30 #[.val (.ref a1), .val (.int (((31 : Int32) * ((0 : Int32) + (f1 0))) + (f1 1))), .val (.ref a1), .val (.int (4 : Int32)), .val (.int (1 : Int32)), .val (.int (f1 1))] [])
  refine own_step (fun t k => XS.iinc X0.here hx rfl (hb hby d5_30) rfl (l' := #[.val (.ref a1), .val (.int (((31 : Int32) * ((0 : Int32) + (f1 0))) + (f1 1))), .val (.ref a1), .val (.int (4 : Int32)), .val (.int (2 : Int32)), .val (.int (f1 1))]) rfl k) ?_
  show own_Fin _ _ _ _ _ _ _ _ (mkF m 33 #[.val (.ref a1), .val (.int (((31 : Int32) * ((0 : Int32) + (f1 0))) + (f1 1))), .val (.ref a1), .val (.int (4 : Int32)), .val (.int (2 : Int32)), .val (.int (f1 1))] [])
  refine own_step (fun t k => XS.goto X0.here hx rfl (pc0 := 33) (pc' := 10) rfl (hb hby d5_33) (by decide) (by decide) k) ?_
  show own_Fin _ _ _ _ _ _ _ _ (mkF m 10 #[.val (.ref a1), .val (.int (((31 : Int32) * ((0 : Int32) + (f1 0))) + (f1 1))), .val (.ref a1), .val (.int (4 : Int32)), .val (.int (2 : Int32)), .val (.int (f1 1))] [])
  refine own_step (fun t k => XS.iload X0.here hx rfl (hb hby d5_10) rfl k) ?_
  show own_Fin _ _ _ _ _ _ _ _ (mkF m 12 #[.val (.ref a1), .val (.int (((31 : Int32) * ((0 : Int32) + (f1 0))) + (f1 1))), .val (.ref a1), .val (.int (4 : Int32)), .val (.int (2 : Int32)), .val (.int (f1 1))] [(.int (2 : Int32))])
  refine own_step (fun t k => XS.iloadN X0.here hx rfl (hb hby d5_12) rfl k) ?_
  show own_Fin _ _ _ _ _ _ _ _ (mkF m 13 #[.val (.ref a1), .val (.int (((31 : Int32) * ((0 : Int32) + (f1 0))) + (f1 1))), .val (.ref a1), .val (.int (4 : Int32)), .val (.int (2 : Int32)), .val (.int (f1 1))] [(.int (4 : Int32)), (.int (2 : Int32))])
  refine own_step (fun t k => XS.icmpNo X0.here hx rfl (hb hby d5_13) rfl (by decide) k) ?_
  show own_Fin _ _ _ _ _ _ _ _ (mkF m 16 #[.val (.ref a1), .val (.int (((31 : Int32) * ((0 : Int32) + (f1 0))) + (f1 1))), .val (.ref a1), .val (.int (4 : Int32)), .val (.int (2 : Int32)), .val (.int (f1 1))] [])
  refine own_step (fun t k => XS.aloadN X0.here hx rfl (hb hby d5_16) rfl rfl k) ?_
  show own_Fin _ _ _ _ _ _ _ _ (mkF m 17 #[.val (.ref a1), .val (.int (((31 : Int32) * ((0 : Int32) + (f1 0))) + (f1 1))), .val (.ref a1), .val (.int (4 : Int32)), .val (.int (2 : Int32)), .val (.int (f1 1))] [(.ref a1)])
  refine own_step (fun t k => XS.iload X0.here hx rfl (hb hby d5_17) rfl k) ?_
  show own_Fin _ _ _ _ _ _ _ _ (mkF m 19 #[.val (.ref a1), .val (.int (((31 : Int32) * ((0 : Int32) + (f1 0))) + (f1 1))), .val (.ref a1), .val (.int (4 : Int32)), .val (.int (2 : Int32)), .val (.int (f1 1))] [(.int (2 : Int32)), (.ref a1)])
  refine own_iaload X0 hx hZ e0 V_a1 (k := 2) rfl (by decide) (v := (f1 2)) rfl (hb hby d5_19) rfl ?_
  show own_Fin _ _ _ _ _ _ _ _ (mkF m 20 #[.val (.ref a1), .val (.int (((31 : Int32) * ((0 : Int32) + (f1 0))) + (f1 1))), .val (.ref a1), .val (.int (4 : Int32)), .val (.int (2 : Int32)), .val (.int (f1 1))] [(.int (f1 2))])
  refine own_step (fun t k => XS.istore X0.here hx rfl (hb hby d5_20) rfl (l' := #[.val (.ref a1), .val (.int (((31 : Int32) * ((0 : Int32) + (f1 0))) + (f1 1))), .val (.ref a1), .val (.int (4 : Int32)), .val (.int (2 : Int32)), .val (.int (f1 2))]) rfl k) ?_
  show own_Fin _ _ _ _ _ _ _ _ (mkF m 22 #[.val (.ref a1), .val (.int (((31 : Int32) * ((0 : Int32) + (f1 0))) + (f1 1))), .val (.ref a1), .val (.int (4 : Int32)), .val (.int (2 : Int32)), .val (.int (f1 2))] [])
  refine own_step (fun t k => XS.bipush X0.here hx rfl (hb hby d5_22) k) ?_
  show own_Fin _ _ _ _ _ _ _ _ (mkF m 24 #[.val (.ref a1), .val (.int (((31 : Int32) * ((0 : Int32) + (f1 0))) + (f1 1))), .val (.ref a1), .val (.int (4 : Int32)), .val (.int (2 : Int32)), .val (.int (f1 2))] [(.int (31 : Int32))])
  refine own_step (fun t k => XS.iloadN X0.here hx rfl (hb hby d5_24) rfl k) ?_
  show own_Fin _ _ _ _ _ _ _ _ (mkF m 25 #[.val (.ref a1), .val (.int (((31 : Int32) * ((0 : Int32) + (f1 0))) + (f1 1))), .val (.ref a1), .val (.int (4 : Int32)), .val (.int (2 : Int32)), .val (.int (f1 2))] [(.int (((31 : Int32) * ((0 : Int32) + (f1 0))) + (f1 1))), (.int (31 : Int32))])
  refine own_step (fun t k => XS.imul X0.here hx rfl (hb hby d5_25) rfl k) ?_
  show own_Fin _ _ _ _ _ _ _ _ (mkF m 26 #[.val (.ref a1), .val (.int (((31 : Int32) * ((0 : Int32) + (f1 0))) + (f1 1))), .val (.ref a1), .val (.int (4 : Int32)), .val (.int (2 : Int32)), .val (.int (f1 2))] [(.int ((31 : Int32) * (((31 : Int32) * ((0 : Int32) + (f1 0))) + (f1 1))))])
  refine own_step (fun t k => XS.iload X0.here hx rfl (hb hby d5_26) rfl k) ?_
  show own_Fin _ _ _ _ _ _ _ _ (mkF m 28 #[.val (.ref a1), .val (.int (((31 : Int32) * ((0 : Int32) + (f1 0))) + (f1 1))), .val (.ref a1), .val (.int (4 : Int32)), .val (.int (2 : Int32)), .val (.int (f1 2))] [(.int (f1 2)), (.int ((31 : Int32) * (((31 : Int32) * ((0 : Int32) + (f1 0))) + (f1 1))))])
  refine own_step (fun t k => XS.iadd X0.here hx rfl (hb hby d5_28) rfl k) ?_
  show own_Fin _ _ _ _ _ _ _ _ (mkF m 29 #[.val (.ref a1), .val (.int (((31 : Int32) * ((0 : Int32) + (f1 0))) + (f1 1))), .val (.ref a1), .val (.int (4 : Int32)), .val (.int (2 : Int32)), .val (.int (f1 2))] [(.int (((31 : Int32) * (((31 : Int32) * ((0 : Int32) + (f1 0))) + (f1 1))) + (f1 2)))])
  refine own_step (fun t k => XS.istoreN X0.here hx rfl (hb hby d5_29) rfl (l' := #[.val (.ref a1), .val (.int (((31 : Int32) * (((31 : Int32) * ((0 : Int32) + (f1 0))) + (f1 1))) + (f1 2))), .val (.ref a1), .val (.int (4 : Int32)), .val (.int (2 : Int32)), .val (.int (f1 2))]) rfl k) ?_
  show own_Fin _ _ _ _ _ _ _ _ (mkF m 30 #[.val (.ref a1), .val (.int (((31 : Int32) * (((31 : Int32) * ((0 : Int32) + (f1 0))) + (f1 1))) + (f1 2))), .val (.ref a1), .val (.int (4 : Int32)), .val (.int (2 : Int32)), .val (.int (f1 2))] [])
  refine own_step (fun t k => XS.iinc X0.here hx rfl (hb hby d5_30) rfl (l' := #[.val (.ref a1), .val (.int (((31 : Int32) * (((31 : Int32) * ((0 : Int32) + (f1 0))) + (f1 1))) + (f1 2))), .val (.ref a1), .val (.int (4 : Int32)), .val (.int (3 : Int32)), .val (.int (f1 2))]) rfl k) ?_
  show own_Fin _ _ _ _ _ _ _ _ (mkF m 33 #[.val (.ref a1), .val (.int (((31 : Int32) * (((31 : Int32) * ((0 : Int32) + (f1 0))) + (f1 1))) + (f1 2))), .val (.ref a1), .val (.int (4 : Int32)), .val (.int (3 : Int32)), .val (.int (f1 2))] [])
  refine own_step (fun t k => XS.goto X0.here hx rfl (pc0 := 33) (pc' := 10) rfl (hb hby d5_33) (by decide) (by decide) k) ?_
  show own_Fin _ _ _ _ _ _ _ _ (mkF m 10 #[.val (.ref a1), .val (.int (((31 : Int32) * (((31 : Int32) * ((0 : Int32) + (f1 0))) + (f1 1))) + (f1 2))), .val (.ref a1), .val (.int (4 : Int32)), .val (.int (3 : Int32)), .val (.int (f1 2))] [])
  refine own_step (fun t k => XS.iload X0.here hx rfl (hb hby d5_10) rfl k) ?_
  show own_Fin _ _ _ _ _ _ _ _ (mkF m 12 #[.val (.ref a1), .val (.int (((31 : Int32) * (((31 : Int32) * ((0 : Int32) + (f1 0))) + (f1 1))) + (f1 2))), .val (.ref a1), .val (.int (4 : Int32)), .val (.int (3 : Int32)), .val (.int (f1 2))] [(.int (3 : Int32))])
  refine own_step (fun t k => XS.iloadN X0.here hx rfl (hb hby d5_12) rfl k) ?_
  show own_Fin _ _ _ _ _ _ _ _ (mkF m 13 #[.val (.ref a1), .val (.int (((31 : Int32) * (((31 : Int32) * ((0 : Int32) + (f1 0))) + (f1 1))) + (f1 2))), .val (.ref a1), .val (.int (4 : Int32)), .val (.int (3 : Int32)), .val (.int (f1 2))] [(.int (4 : Int32)), (.int (3 : Int32))])
  refine own_step (fun t k => XS.icmpNo X0.here hx rfl (hb hby d5_13) rfl (by decide) k) ?_
  show own_Fin _ _ _ _ _ _ _ _ (mkF m 16 #[.val (.ref a1), .val (.int (((31 : Int32) * (((31 : Int32) * ((0 : Int32) + (f1 0))) + (f1 1))) + (f1 2))), .val (.ref a1), .val (.int (4 : Int32)), .val (.int (3 : Int32)), .val (.int (f1 2))] [])
  refine own_step (fun t k => XS.aloadN X0.here hx rfl (hb hby d5_16) rfl rfl k) ?_
  show own_Fin _ _ _ _ _ _ _ _ (mkF m 17 #[.val (.ref a1), .val (.int (((31 : Int32) * (((31 : Int32) * ((0 : Int32) + (f1 0))) + (f1 1))) + (f1 2))), .val (.ref a1), .val (.int (4 : Int32)), .val (.int (3 : Int32)), .val (.int (f1 2))] [(.ref a1)])
  refine own_step (fun t k => XS.iload X0.here hx rfl (hb hby d5_17) rfl k) ?_
  show own_Fin _ _ _ _ _ _ _ _ (mkF m 19 #[.val (.ref a1), .val (.int (((31 : Int32) * (((31 : Int32) * ((0 : Int32) + (f1 0))) + (f1 1))) + (f1 2))), .val (.ref a1), .val (.int (4 : Int32)), .val (.int (3 : Int32)), .val (.int (f1 2))] [(.int (3 : Int32)), (.ref a1)])
  refine own_iaload X0 hx hZ e0 V_a1 (k := 3) rfl (by decide) (v := (f1 3)) rfl (hb hby d5_19) rfl ?_
  show own_Fin _ _ _ _ _ _ _ _ (mkF m 20 #[.val (.ref a1), .val (.int (((31 : Int32) * (((31 : Int32) * ((0 : Int32) + (f1 0))) + (f1 1))) + (f1 2))), .val (.ref a1), .val (.int (4 : Int32)), .val (.int (3 : Int32)), .val (.int (f1 2))] [(.int (f1 3))])
  refine own_step (fun t k => XS.istore X0.here hx rfl (hb hby d5_20) rfl (l' := #[.val (.ref a1), .val (.int (((31 : Int32) * (((31 : Int32) * ((0 : Int32) + (f1 0))) + (f1 1))) + (f1 2))), .val (.ref a1), .val (.int (4 : Int32)), .val (.int (3 : Int32)), .val (.int (f1 3))]) rfl k) ?_
  show own_Fin _ _ _ _ _ _ _ _ (mkF m 22 #[.val (.ref a1), .val (.int (((31 : Int32) * (((31 : Int32) * ((0 : Int32) + (f1 0))) + (f1 1))) + (f1 2))), .val (.ref a1), .val (.int (4 : Int32)), .val (.int (3 : Int32)), .val (.int (f1 3))] [])
  refine own_step (fun t k => XS.bipush X0.here hx rfl (hb hby d5_22) k) ?_
  show own_Fin _ _ _ _ _ _ _ _ (mkF m 24 #[.val (.ref a1), .val (.int (((31 : Int32) * (((31 : Int32) * ((0 : Int32) + (f1 0))) + (f1 1))) + (f1 2))), .val (.ref a1), .val (.int (4 : Int32)), .val (.int (3 : Int32)), .val (.int (f1 3))] [(.int (31 : Int32))])
  refine own_step (fun t k => XS.iloadN X0.here hx rfl (hb hby d5_24) rfl k) ?_
  show own_Fin _ _ _ _ _ _ _ _ (mkF m 25 #[.val (.ref a1), .val (.int (((31 : Int32) * (((31 : Int32) * ((0 : Int32) + (f1 0))) + (f1 1))) + (f1 2))), .val (.ref a1), .val (.int (4 : Int32)), .val (.int (3 : Int32)), .val (.int (f1 3))] [(.int (((31 : Int32) * (((31 : Int32) * ((0 : Int32) + (f1 0))) + (f1 1))) + (f1 2))), (.int (31 : Int32))])
  refine own_step (fun t k => XS.imul X0.here hx rfl (hb hby d5_25) rfl k) ?_
  show own_Fin _ _ _ _ _ _ _ _ (mkF m 26 #[.val (.ref a1), .val (.int (((31 : Int32) * (((31 : Int32) * ((0 : Int32) + (f1 0))) + (f1 1))) + (f1 2))), .val (.ref a1), .val (.int (4 : Int32)), .val (.int (3 : Int32)), .val (.int (f1 3))] [(.int ((31 : Int32) * (((31 : Int32) * (((31 : Int32) * ((0 : Int32) + (f1 0))) + (f1 1))) + (f1 2))))])
  refine own_step (fun t k => XS.iload X0.here hx rfl (hb hby d5_26) rfl k) ?_
  show own_Fin _ _ _ _ _ _ _ _ (mkF m 28 #[.val (.ref a1), .val (.int (((31 : Int32) * (((31 : Int32) * ((0 : Int32) + (f1 0))) + (f1 1))) + (f1 2))), .val (.ref a1), .val (.int (4 : Int32)), .val (.int (3 : Int32)), .val (.int (f1 3))] [(.int (f1 3)), (.int ((31 : Int32) * (((31 : Int32) * (((31 : Int32) * ((0 : Int32) + (f1 0))) + (f1 1))) + (f1 2))))])
  refine own_step (fun t k => XS.iadd X0.here hx rfl (hb hby d5_28) rfl k) ?_
  show own_Fin _ _ _ _ _ _ _ _ (mkF m 29 #[.val (.ref a1), .val (.int (((31 : Int32) * (((31 : Int32) * ((0 : Int32) + (f1 0))) + (f1 1))) + (f1 2))), .val (.ref a1), .val (.int (4 : Int32)), .val (.int (3 : Int32)), .val (.int (f1 3))] [(.int (((31 : Int32) * (((31 : Int32) * (((31 : Int32) * ((0 : Int32) + (f1 0))) + (f1 1))) + (f1 2))) + (f1 3)))])
  refine own_step (fun t k => XS.istoreN X0.here hx rfl (hb hby d5_29) rfl (l' := #[.val (.ref a1), .val (.int (((31 : Int32) * (((31 : Int32) * (((31 : Int32) * ((0 : Int32) + (f1 0))) + (f1 1))) + (f1 2))) + (f1 3))), .val (.ref a1), .val (.int (4 : Int32)), .val (.int (3 : Int32)), .val (.int (f1 3))]) rfl k) ?_
  show own_Fin _ _ _ _ _ _ _ _ (mkF m 30 #[.val (.ref a1), .val (.int (((31 : Int32) * (((31 : Int32) * (((31 : Int32) * ((0 : Int32) + (f1 0))) + (f1 1))) + (f1 2))) + (f1 3))), .val (.ref a1), .val (.int (4 : Int32)), .val (.int (3 : Int32)), .val (.int (f1 3))] [])
  refine own_step (fun t k => XS.iinc X0.here hx rfl (hb hby d5_30) rfl (l' := #[.val (.ref a1), .val (.int (((31 : Int32) * (((31 : Int32) * (((31 : Int32) * ((0 : Int32) + (f1 0))) + (f1 1))) + (f1 2))) + (f1 3))), .val (.ref a1), .val (.int (4 : Int32)), .val (.int (4 : Int32)), .val (.int (f1 3))]) rfl k) ?_
  show own_Fin _ _ _ _ _ _ _ _ (mkF m 33 #[.val (.ref a1), .val (.int (((31 : Int32) * (((31 : Int32) * (((31 : Int32) * ((0 : Int32) + (f1 0))) + (f1 1))) + (f1 2))) + (f1 3))), .val (.ref a1), .val (.int (4 : Int32)), .val (.int (4 : Int32)), .val (.int (f1 3))] [])
  refine own_step (fun t k => XS.goto X0.here hx rfl (pc0 := 33) (pc' := 10) rfl (hb hby d5_33) (by decide) (by decide) k) ?_
  show own_Fin _ _ _ _ _ _ _ _ (mkF m 10 #[.val (.ref a1), .val (.int (((31 : Int32) * (((31 : Int32) * (((31 : Int32) * ((0 : Int32) + (f1 0))) + (f1 1))) + (f1 2))) + (f1 3))), .val (.ref a1), .val (.int (4 : Int32)), .val (.int (4 : Int32)), .val (.int (f1 3))] [])
  refine own_step (fun t k => XS.iload X0.here hx rfl (hb hby d5_10) rfl k) ?_
  show own_Fin _ _ _ _ _ _ _ _ (mkF m 12 #[.val (.ref a1), .val (.int (((31 : Int32) * (((31 : Int32) * (((31 : Int32) * ((0 : Int32) + (f1 0))) + (f1 1))) + (f1 2))) + (f1 3))), .val (.ref a1), .val (.int (4 : Int32)), .val (.int (4 : Int32)), .val (.int (f1 3))] [(.int (4 : Int32))])
  refine own_step (fun t k => XS.iloadN X0.here hx rfl (hb hby d5_12) rfl k) ?_
  show own_Fin _ _ _ _ _ _ _ _ (mkF m 13 #[.val (.ref a1), .val (.int (((31 : Int32) * (((31 : Int32) * (((31 : Int32) * ((0 : Int32) + (f1 0))) + (f1 1))) + (f1 2))) + (f1 3))), .val (.ref a1), .val (.int (4 : Int32)), .val (.int (4 : Int32)), .val (.int (f1 3))] [(.int (4 : Int32)), (.int (4 : Int32))])
  refine own_step (fun t k => XS.icmpYes X0.here hx rfl (pc0 := 13) (pc' := 36) rfl (hb hby d5_13) rfl (by decide) (by decide) (by decide) k) ?_
  show own_Fin _ _ _ _ _ _ _ _ (mkF m 36 #[.val (.ref a1), .val (.int (((31 : Int32) * (((31 : Int32) * (((31 : Int32) * ((0 : Int32) + (f1 0))) + (f1 1))) + (f1 2))) + (f1 3))), .val (.ref a1), .val (.int (4 : Int32)), .val (.int (4 : Int32)), .val (.int (f1 3))] [])
  refine own_step (fun t k => XS.iloadN X0.here hx rfl (hb hby d5_36) rfl k) ?_
  show own_Fin _ _ _ _ _ _ _ _ (mkF m 37 #[.val (.ref a1), .val (.int (((31 : Int32) * (((31 : Int32) * (((31 : Int32) * ((0 : Int32) + (f1 0))) + (f1 1))) + (f1 2))) + (f1 3))), .val (.ref a1), .val (.int (4 : Int32)), .val (.int (4 : Int32)), .val (.int (f1 3))] [(.int (((31 : Int32) * (((31 : Int32) * (((31 : Int32) * ((0 : Int32) + (f1 0))) + (f1 1))) + (f1 2))) + (f1 3)))])
  refine own_step (fun t k => XS.iloadN X0.here hx rfl (hb hby d5_37) rfl k) ?_
  show own_Fin _ _ _ _ _ _ _ _ (mkF m 38 #[.val (.ref a1), .val (.int (((31 : Int32) * (((31 : Int32) * (((31 : Int32) * ((0 : Int32) + (f1 0))) + (f1 1))) + (f1 2))) + (f1 3))), .val (.ref a1), .val (.int (4 : Int32)), .val (.int (4 : Int32)), .val (.int (f1 3))] [(.int (((31 : Int32) * (((31 : Int32) * (((31 : Int32) * ((0 : Int32) + (f1 0))) + (f1 1))) + (f1 2))) + (f1 3))), (.int (((31 : Int32) * (((31 : Int32) * (((31 : Int32) * ((0 : Int32) + (f1 0))) + (f1 1))) + (f1 2))) + (f1 3)))])
  refine own_step (fun t k => XS.bipush X0.here hx rfl (hb hby d5_38) k) ?_
  show own_Fin _ _ _ _ _ _ _ _ (mkF m 40 #[.val (.ref a1), .val (.int (((31 : Int32) * (((31 : Int32) * (((31 : Int32) * ((0 : Int32) + (f1 0))) + (f1 1))) + (f1 2))) + (f1 3))), .val (.ref a1), .val (.int (4 : Int32)), .val (.int (4 : Int32)), .val (.int (f1 3))] [(.int (16 : Int32)), (.int (((31 : Int32) * (((31 : Int32) * (((31 : Int32) * ((0 : Int32) + (f1 0))) + (f1 1))) + (f1 2))) + (f1 3))), (.int (((31 : Int32) * (((31 : Int32) * (((31 : Int32) * ((0 : Int32) + (f1 0))) + (f1 1))) + (f1 2))) + (f1 3)))])
  refine own_step (fun t k => XS.iushr X0.here hx rfl (hb hby d5_40) rfl k) ?_
  show own_Fin _ _ _ _ _ _ _ _ (mkF m 41 #[.val (.ref a1), .val (.int (((31 : Int32) * (((31 : Int32) * (((31 : Int32) * ((0 : Int32) + (f1 0))) + (f1 1))) + (f1 2))) + (f1 3))), .val (.ref a1), .val (.int (4 : Int32)), .val (.int (4 : Int32)), .val (.int (f1 3))] [(.int (((((31 : Int32) * (((31 : Int32) * (((31 : Int32) * ((0 : Int32) + (f1 0))) + (f1 1))) + (f1 2))) + (f1 3)).toUInt32 >>> ((16 : Int32) &&& 31).toUInt32).toInt32)), (.int (((31 : Int32) * (((31 : Int32) * (((31 : Int32) * ((0 : Int32) + (f1 0))) + (f1 1))) + (f1 2))) + (f1 3)))])
  refine own_step (fun t k => XS.ixor X0.here hx rfl (hb hby d5_41) rfl k) ?_
  show own_Fin _ _ _ _ _ _ _ _ (mkF m 42 #[.val (.ref a1), .val (.int (((31 : Int32) * (((31 : Int32) * (((31 : Int32) * ((0 : Int32) + (f1 0))) + (f1 1))) + (f1 2))) + (f1 3))), .val (.ref a1), .val (.int (4 : Int32)), .val (.int (4 : Int32)), .val (.int (f1 3))] [(.int ((((31 : Int32) * (((31 : Int32) * (((31 : Int32) * ((0 : Int32) + (f1 0))) + (f1 1))) + (f1 2))) + (f1 3)) ^^^ (((((31 : Int32) * (((31 : Int32) * (((31 : Int32) * ((0 : Int32) + (f1 0))) + (f1 1))) + (f1 2))) + (f1 3)).toUInt32 >>> ((16 : Int32) &&& 31).toUInt32).toInt32)))])
  generalize hz0 : ((((31 : Int32) * (((31 : Int32) * (((31 : Int32) * ((0 : Int32) + (f1 0))) + (f1 1))) + (f1 2))) + (f1 3)) ^^^ (((((31 : Int32) * (((31 : Int32) * (((31 : Int32) * ((0 : Int32) + (f1 0))) + (f1 1))) + (f1 2))) + (f1 3)).toUInt32 >>> ((16 : Int32) &&& 31).toUInt32).toInt32)) = z0
  refine own_step (fun t k => XS.istoreN X0.here hx rfl (hb hby d5_42) rfl (l' := #[.val (.ref a1), .val (.int z0), .val (.ref a1), .val (.int (4 : Int32)), .val (.int (4 : Int32)), .val (.int (f1 3))]) rfl k) ?_
  show own_Fin _ _ _ _ _ _ _ _ (mkF m 43 #[.val (.ref a1), .val (.int z0), .val (.ref a1), .val (.int (4 : Int32)), .val (.int (4 : Int32)), .val (.int (f1 3))] [])
  refine own_step (fun t k => XS.iloadN X0.here hx rfl (hb hby d5_43) rfl k) ?_
  show own_Fin _ _ _ _ _ _ _ _ (mkF m 44 #[.val (.ref a1), .val (.int z0), .val (.ref a1), .val (.int (4 : Int32)), .val (.int (4 : Int32)), .val (.int (f1 3))] [(.int z0)])
  refine own_step (fun t k => X0.ldcInt hx hown (mvT hZ (hw _ (List.mem_of_getElem? (i := 5) rfl))) (g := (mkF m 44 #[.val (.ref a1), .val (.int z0), .val (.ref a1), .val (.int (4 : Int32)), .val (.int (4 : Int32)), .val (.int (f1 3))] [(.int z0)])) rfl (hb hby d5_44) _ k) ?_
  show own_Fin _ _ _ _ _ _ _ _ (mkF m 46 #[.val (.ref a1), .val (.int z0), .val (.ref a1), .val (.int (4 : Int32)), .val (.int (4 : Int32)), .val (.int (f1 3))] [(.int (-2048144789 : Int32)), (.int z0)])
  refine own_step (fun t k => XS.imul X0.here hx rfl (hb hby d5_46) rfl k) ?_
  show own_Fin _ _ _ _ _ _ _ _ (mkF m 47 #[.val (.ref a1), .val (.int z0), .val (.ref a1), .val (.int (4 : Int32)), .val (.int (4 : Int32)), .val (.int (f1 3))] [(.int (z0 * (-2048144789 : Int32)))])
  generalize hz1 : (z0 * (-2048144789 : Int32)) = z1
  refine own_step (fun t k => XS.istoreN X0.here hx rfl (hb hby d5_47) rfl (l' := #[.val (.ref a1), .val (.int z1), .val (.ref a1), .val (.int (4 : Int32)), .val (.int (4 : Int32)), .val (.int (f1 3))]) rfl k) ?_
  show own_Fin _ _ _ _ _ _ _ _ (mkF m 48 #[.val (.ref a1), .val (.int z1), .val (.ref a1), .val (.int (4 : Int32)), .val (.int (4 : Int32)), .val (.int (f1 3))] [])
  refine own_step (fun t k => XS.iloadN X0.here hx rfl (hb hby d5_48) rfl k) ?_
  show own_Fin _ _ _ _ _ _ _ _ (mkF m 49 #[.val (.ref a1), .val (.int z1), .val (.ref a1), .val (.int (4 : Int32)), .val (.int (4 : Int32)), .val (.int (f1 3))] [(.int z1)])
  refine own_step (fun t k => XS.iloadN X0.here hx rfl (hb hby d5_49) rfl k) ?_
  show own_Fin _ _ _ _ _ _ _ _ (mkF m 50 #[.val (.ref a1), .val (.int z1), .val (.ref a1), .val (.int (4 : Int32)), .val (.int (4 : Int32)), .val (.int (f1 3))] [(.int z1), (.int z1)])
  refine own_step (fun t k => XS.bipush X0.here hx rfl (hb hby d5_50) k) ?_
  show own_Fin _ _ _ _ _ _ _ _ (mkF m 52 #[.val (.ref a1), .val (.int z1), .val (.ref a1), .val (.int (4 : Int32)), .val (.int (4 : Int32)), .val (.int (f1 3))] [(.int (13 : Int32)), (.int z1), (.int z1)])
  refine own_step (fun t k => XS.iushr X0.here hx rfl (hb hby d5_52) rfl k) ?_
  show own_Fin _ _ _ _ _ _ _ _ (mkF m 53 #[.val (.ref a1), .val (.int z1), .val (.ref a1), .val (.int (4 : Int32)), .val (.int (4 : Int32)), .val (.int (f1 3))] [(.int ((z1.toUInt32 >>> ((13 : Int32) &&& 31).toUInt32).toInt32)), (.int z1)])
  refine own_step (fun t k => XS.ixor X0.here hx rfl (hb hby d5_53) rfl k) ?_
  show own_Fin _ _ _ _ _ _ _ _ (mkF m 54 #[.val (.ref a1), .val (.int z1), .val (.ref a1), .val (.int (4 : Int32)), .val (.int (4 : Int32)), .val (.int (f1 3))] [(.int (z1 ^^^ ((z1.toUInt32 >>> ((13 : Int32) &&& 31).toUInt32).toInt32)))])
  generalize hz2 : (z1 ^^^ ((z1.toUInt32 >>> ((13 : Int32) &&& 31).toUInt32).toInt32)) = z2
  refine own_step (fun t k => XS.istoreN X0.here hx rfl (hb hby d5_54) rfl (l' := #[.val (.ref a1), .val (.int z2), .val (.ref a1), .val (.int (4 : Int32)), .val (.int (4 : Int32)), .val (.int (f1 3))]) rfl k) ?_
  show own_Fin _ _ _ _ _ _ _ _ (mkF m 55 #[.val (.ref a1), .val (.int z2), .val (.ref a1), .val (.int (4 : Int32)), .val (.int (4 : Int32)), .val (.int (f1 3))] [])
  refine own_step (fun t k => XS.iloadN X0.here hx rfl (hb hby d5_55) rfl k) ?_
  show own_Fin _ _ _ _ _ _ _ _ (mkF m 56 #[.val (.ref a1), .val (.int z2), .val (.ref a1), .val (.int (4 : Int32)), .val (.int (4 : Int32)), .val (.int (f1 3))] [(.int z2)])
  refine own_step (fun t k => X0.ldcInt hx hown (mvT hZ (hw _ (List.mem_of_getElem? (i := 6) rfl))) (g := (mkF m 56 #[.val (.ref a1), .val (.int z2), .val (.ref a1), .val (.int (4 : Int32)), .val (.int (4 : Int32)), .val (.int (f1 3))] [(.int z2)])) rfl (hb hby d5_56) _ k) ?_
  show own_Fin _ _ _ _ _ _ _ _ (mkF m 58 #[.val (.ref a1), .val (.int z2), .val (.ref a1), .val (.int (4 : Int32)), .val (.int (4 : Int32)), .val (.int (f1 3))] [(.int (-1028477387 : Int32)), (.int z2)])
  refine own_step (fun t k => XS.imul X0.here hx rfl (hb hby d5_58) rfl k) ?_
  show own_Fin _ _ _ _ _ _ _ _ (mkF m 59 #[.val (.ref a1), .val (.int z2), .val (.ref a1), .val (.int (4 : Int32)), .val (.int (4 : Int32)), .val (.int (f1 3))] [(.int (z2 * (-1028477387 : Int32)))])
  generalize hz3 : (z2 * (-1028477387 : Int32)) = z3
  refine own_step (fun t k => XS.istoreN X0.here hx rfl (hb hby d5_59) rfl (l' := #[.val (.ref a1), .val (.int z3), .val (.ref a1), .val (.int (4 : Int32)), .val (.int (4 : Int32)), .val (.int (f1 3))]) rfl k) ?_
  show own_Fin _ _ _ _ _ _ _ _ (mkF m 60 #[.val (.ref a1), .val (.int z3), .val (.ref a1), .val (.int (4 : Int32)), .val (.int (4 : Int32)), .val (.int (f1 3))] [])
  refine own_step (fun t k => XS.iloadN X0.here hx rfl (hb hby d5_60) rfl k) ?_
  show own_Fin _ _ _ _ _ _ _ _ (mkF m 61 #[.val (.ref a1), .val (.int z3), .val (.ref a1), .val (.int (4 : Int32)), .val (.int (4 : Int32)), .val (.int (f1 3))] [(.int z3)])
  refine own_step (fun t k => XS.iloadN X0.here hx rfl (hb hby d5_61) rfl k) ?_
  show own_Fin _ _ _ _ _ _ _ _ (mkF m 62 #[.val (.ref a1), .val (.int z3), .val (.ref a1), .val (.int (4 : Int32)), .val (.int (4 : Int32)), .val (.int (f1 3))] [(.int z3), (.int z3)])
  refine own_step (fun t k => XS.bipush X0.here hx rfl (hb hby d5_62) k) ?_
  show own_Fin _ _ _ _ _ _ _ _ (mkF m 64 #[.val (.ref a1), .val (.int z3), .val (.ref a1), .val (.int (4 : Int32)), .val (.int (4 : Int32)), .val (.int (f1 3))] [(.int (16 : Int32)), (.int z3), (.int z3)])
  refine own_step (fun t k => XS.iushr X0.here hx rfl (hb hby d5_64) rfl k) ?_
  show own_Fin _ _ _ _ _ _ _ _ (mkF m 65 #[.val (.ref a1), .val (.int z3), .val (.ref a1), .val (.int (4 : Int32)), .val (.int (4 : Int32)), .val (.int (f1 3))] [(.int ((z3.toUInt32 >>> ((16 : Int32) &&& 31).toUInt32).toInt32)), (.int z3)])
  refine own_step (fun t k => XS.ixor X0.here hx rfl (hb hby d5_65) rfl k) ?_
  show own_Fin _ _ _ _ _ _ _ _ (mkF m 66 #[.val (.ref a1), .val (.int z3), .val (.ref a1), .val (.int (4 : Int32)), .val (.int (4 : Int32)), .val (.int (f1 3))] [(.int (z3 ^^^ ((z3.toUInt32 >>> ((16 : Int32) &&& 31).toUInt32).toInt32)))])
  refine own_step (fun t k => XS.istoreN X0.here hx rfl (hb hby d5_66) rfl (l' := #[.val (.ref a1), .val (.int (z3 ^^^ ((z3.toUInt32 >>> ((16 : Int32) &&& 31).toUInt32).toInt32))), .val (.ref a1), .val (.int (4 : Int32)), .val (.int (4 : Int32)), .val (.int (f1 3))]) rfl k) ?_
  show own_Fin _ _ _ _ _ _ _ _ (mkF m 67 #[.val (.ref a1), .val (.int (z3 ^^^ ((z3.toUInt32 >>> ((16 : Int32) &&& 31).toUInt32).toInt32))), .val (.ref a1), .val (.int (4 : Int32)), .val (.int (4 : Int32)), .val (.int (f1 3))] [])
  refine own_step (fun t k => XS.iloadN X0.here hx rfl (hb hby d5_67) rfl k) ?_
  show own_Fin _ _ _ _ _ _ _ _ (mkF m 68 #[.val (.ref a1), .val (.int (z3 ^^^ ((z3.toUInt32 >>> ((16 : Int32) &&& 31).toUInt32).toInt32))), .val (.ref a1), .val (.int (4 : Int32)), .val (.int (4 : Int32)), .val (.int (f1 3))] [(.int (z3 ^^^ ((z3.toUInt32 >>> ((16 : Int32) &&& 31).toUInt32).toInt32)))])
  refine own_retI X0 hx hlk Bd.returns (hb hby d5_68) (by decide) (by decide) e0 ?_
  subst hz3 hz2 hz1 hz0; exact ⟨rfl, Nf, rfl⟩
theorem d7_0 : decode method_2_code 0 = .ok (.iload_n 0, 1) := by decide +kernel
theorem d7_1 : decode method_2_code 1 = .ok (.iload_n 0, 1) := by decide +kernel
theorem d7_2 : decode method_2_code 2 = .ok (.bipush 16, 2) := by decide +kernel
theorem d7_4 : decode method_2_code 4 = .ok (.iushr, 1) := by decide +kernel
theorem d7_5 : decode method_2_code 5 = .ok (.ixor, 1) := by decide +kernel
theorem d7_6 : decode method_2_code 6 = .ok (.istore_n 0, 1) := by decide +kernel
theorem d7_7 : decode method_2_code 7 = .ok (.iload_n 0, 1) := by decide +kernel
theorem d7_8 : decode method_2_code 8 = .ok (.ldc 7, 2) := by decide +kernel
theorem d7_10 : decode method_2_code 10 = .ok (.imul, 1) := by decide +kernel
theorem d7_11 : decode method_2_code 11 = .ok (.istore_n 0, 1) := by decide +kernel
theorem d7_12 : decode method_2_code 12 = .ok (.iload_n 0, 1) := by decide +kernel
theorem d7_13 : decode method_2_code 13 = .ok (.iload_n 0, 1) := by decide +kernel
theorem d7_14 : decode method_2_code 14 = .ok (.bipush 13, 2) := by decide +kernel
theorem d7_16 : decode method_2_code 16 = .ok (.iushr, 1) := by decide +kernel
theorem d7_17 : decode method_2_code 17 = .ok (.iload_n 0, 1) := by decide +kernel
theorem d7_18 : decode method_2_code 18 = .ok (.bipush 26, 2) := by decide +kernel
theorem d7_20 : decode method_2_code 20 = .ok (.iushr, 1) := by decide +kernel
theorem d7_21 : decode method_2_code 21 = .ok (.ixor, 1) := by decide +kernel
theorem d7_22 : decode method_2_code 22 = .ok (.ixor, 1) := by decide +kernel
theorem d7_23 : decode method_2_code 23 = .ok (.istore_n 0, 1) := by decide +kernel
theorem d7_24 : decode method_2_code 24 = .ok (.iload_n 0, 1) := by decide +kernel
theorem d7_25 : decode method_2_code 25 = .ok (.ldc 8, 2) := by decide +kernel
theorem d7_27 : decode method_2_code 27 = .ok (.imul, 1) := by decide +kernel
theorem d7_28 : decode method_2_code 28 = .ok (.istore_n 0, 1) := by decide +kernel
theorem d7_29 : decode method_2_code 29 = .ok (.iload_n 0, 1) := by decide +kernel
theorem d7_30 : decode method_2_code 30 = .ok (.iload_n 0, 1) := by decide +kernel
theorem d7_31 : decode method_2_code 31 = .ok (.bipush 16, 2) := by decide +kernel
theorem d7_33 : decode method_2_code 33 = .ok (.iushr, 1) := by decide +kernel
theorem d7_34 : decode method_2_code 34 = .ok (.ixor, 1) := by decide +kernel
theorem d7_35 : decode method_2_code 35 = .ok (.istore_n 0, 1) := by decide +kernel
theorem d7_36 : decode method_2_code 36 = .ok (.iload_n 0, 1) := by decide +kernel
theorem d7_37 : decode method_2_code 37 = .ok (.ireturn, 1) := by decide +kernel
theorem own_pn_7 : plainName "com/example/limfjord/limfjord/engine/StateStoreHashPinLaw" = true := by first | (simp [plainName, overriddenIn]; done) | decide +kernel
theorem own_ef_7 (m : MethodId) (p1 : Int32) : entryFrame m #[(.int p1)] 1 = mkF m 0 #[.val (.int p1)] [] := by first | (simp [entryFrame, mkF, argsToLocals, Value.category]; done) | rfl
abbrev own_R7 : Room := { frames := 0, cells := 0, slots := 0, locals := 0 }
def own_Q7 (Z : State) (p1 : Int32) (h0 : Heap) (n0 : Nat) (v : Option Value) (h : Heap) (L : List Loc) : Prop := v = some (.int (own_unmix p1)) ∧ Fr n0 L ∧ h = h0
set_option maxRecDepth 65536 in
set_option maxHeartbeats 40000000 in
theorem rm7 (l : Launch) (Z : State) (a0 : Array Value) (hw : ∀ d ∈ tables_1, d.before a0 Z = true) (ws : List Jvm.Cond) (p1 : Int32) (h0 : Heap) (n0 : Nat) (Z0 : n0 ≤ h0.size) :
    MetFree l (⟨"com/example/limfjord/limfjord/engine/StateStoreHashPinLaw", "unmix", "(I)I"⟩ : MethodName) (head1 (Jvm.Cond.code (⟨"com/example/limfjord/limfjord/engine/StateStoreHashPinLaw", "unmix", "(I)I"⟩ : MethodName) method_2_code 1 (some .int) :: ws) own_R7) (fun a U => a = #[(.int p1)] ∧ Z.Warmed39 U.vm ∧ U.heap = h0) (fun _ _ _ _ _ => True) (fun _ U o U' => ∃ v L, o = .returned v ∧ own_Q7 Z p1 h0 n0 v U'.heap L ∧ FrameEnd U o U' L own_R7.cells own_R7.slots) := by
  refine MetFree.of_bodySF (plainFor_of_name own_pn_7) hisR ?_
  intro p e s m args below meth c s₁ Bd hml0 hP hK
  obtain ⟨rfl, hZ, hh⟩ := hP
  have hx := Bd.exec
  have hby := Bd.bytes
  have hlk := BodyLoose.notSynchronized Bd
  have hml : c.maxLocals = 1 := hml0
  have hown : s.vm.findClass "com/example/limfjord/limfjord/engine/StateStoreHashPinLaw" = some m.cls := (findClass_of_methodNamed Bd.named : s.vm.findClass (⟨"com/example/limfjord/limfjord/engine/StateStoreHashPinLaw", "unmix", "(I)I"⟩ : MethodName).cls = some m.cls)
  have hnm := (name_of_methodNamed Bd.named Bd.method).1
  have X0 : Stand p l e own_R7 s m #[(.int p1)] below meth c s₁ [] 0 0 := Stand.of_body Bd
  have e0 : s₁.heap = h0 := by rw [← hh, Bd.state]; rfl
  have Nf := Fr.nil n0
  have Zs := Z0
  show own_Fin p e below s (own_Q7 Z p1 h0 n0) 0 0 s₁ (entryFrame m #[(.int p1)] 1)
  rw [own_ef_7 m p1]
  show own_Fin _ _ _ _ _ _ _ _ (mkF m 0 #[.val (.int p1)] [])
  refine own_step (fun t k => XS.iloadN X0.here hx rfl (hb hby d7_0) rfl k) ?_
  show own_Fin _ _ _ _ _ _ _ _ (mkF m 1 #[.val (.int p1)] [(.int p1)])
  refine own_step (fun t k => XS.iloadN X0.here hx rfl (hb hby d7_1) rfl k) ?_
  show own_Fin _ _ _ _ _ _ _ _ (mkF m 2 #[.val (.int p1)] [(.int p1), (.int p1)])
  refine own_step (fun t k => XS.bipush X0.here hx rfl (hb hby d7_2) k) ?_
  show own_Fin _ _ _ _ _ _ _ _ (mkF m 4 #[.val (.int p1)] [(.int (16 : Int32)), (.int p1), (.int p1)])
  refine own_step (fun t k => XS.iushr X0.here hx rfl (hb hby d7_4) rfl k) ?_
  show own_Fin _ _ _ _ _ _ _ _ (mkF m 5 #[.val (.int p1)] [(.int ((p1.toUInt32 >>> ((16 : Int32) &&& 31).toUInt32).toInt32)), (.int p1)])
  refine own_step (fun t k => XS.ixor X0.here hx rfl (hb hby d7_5) rfl k) ?_
  show own_Fin _ _ _ _ _ _ _ _ (mkF m 6 #[.val (.int p1)] [(.int (p1 ^^^ ((p1.toUInt32 >>> ((16 : Int32) &&& 31).toUInt32).toInt32)))])
  generalize hz0 : (p1 ^^^ ((p1.toUInt32 >>> ((16 : Int32) &&& 31).toUInt32).toInt32)) = z0
  refine own_step (fun t k => XS.istoreN X0.here hx rfl (hb hby d7_6) rfl (l' := #[.val (.int z0)]) rfl k) ?_
  show own_Fin _ _ _ _ _ _ _ _ (mkF m 7 #[.val (.int z0)] [])
  refine own_step (fun t k => XS.iloadN X0.here hx rfl (hb hby d7_7) rfl k) ?_
  show own_Fin _ _ _ _ _ _ _ _ (mkF m 8 #[.val (.int z0)] [(.int z0)])
  refine own_step (fun t k => X0.ldcInt hx hown (mvT hZ (hw _ (List.mem_of_getElem? (i := 11) rfl))) (g := (mkF m 8 #[.val (.int z0)] [(.int z0)])) rfl (hb hby d7_8) _ k) ?_
  show own_Fin _ _ _ _ _ _ _ _ (mkF m 10 #[.val (.int z0)] [(.int (2127672349 : Int32)), (.int z0)])
  refine own_step (fun t k => XS.imul X0.here hx rfl (hb hby d7_10) rfl k) ?_
  show own_Fin _ _ _ _ _ _ _ _ (mkF m 11 #[.val (.int z0)] [(.int (z0 * (2127672349 : Int32)))])
  generalize hz1 : (z0 * (2127672349 : Int32)) = z1
  refine own_step (fun t k => XS.istoreN X0.here hx rfl (hb hby d7_11) rfl (l' := #[.val (.int z1)]) rfl k) ?_
  show own_Fin _ _ _ _ _ _ _ _ (mkF m 12 #[.val (.int z1)] [])
  refine own_step (fun t k => XS.iloadN X0.here hx rfl (hb hby d7_12) rfl k) ?_
  show own_Fin _ _ _ _ _ _ _ _ (mkF m 13 #[.val (.int z1)] [(.int z1)])
  refine own_step (fun t k => XS.iloadN X0.here hx rfl (hb hby d7_13) rfl k) ?_
  show own_Fin _ _ _ _ _ _ _ _ (mkF m 14 #[.val (.int z1)] [(.int z1), (.int z1)])
  refine own_step (fun t k => XS.bipush X0.here hx rfl (hb hby d7_14) k) ?_
  show own_Fin _ _ _ _ _ _ _ _ (mkF m 16 #[.val (.int z1)] [(.int (13 : Int32)), (.int z1), (.int z1)])
  refine own_step (fun t k => XS.iushr X0.here hx rfl (hb hby d7_16) rfl k) ?_
  show own_Fin _ _ _ _ _ _ _ _ (mkF m 17 #[.val (.int z1)] [(.int ((z1.toUInt32 >>> ((13 : Int32) &&& 31).toUInt32).toInt32)), (.int z1)])
  refine own_step (fun t k => XS.iloadN X0.here hx rfl (hb hby d7_17) rfl k) ?_
  show own_Fin _ _ _ _ _ _ _ _ (mkF m 18 #[.val (.int z1)] [(.int z1), (.int ((z1.toUInt32 >>> ((13 : Int32) &&& 31).toUInt32).toInt32)), (.int z1)])
  refine own_step (fun t k => XS.bipush X0.here hx rfl (hb hby d7_18) k) ?_
  show own_Fin _ _ _ _ _ _ _ _ (mkF m 20 #[.val (.int z1)] [(.int (26 : Int32)), (.int z1), (.int ((z1.toUInt32 >>> ((13 : Int32) &&& 31).toUInt32).toInt32)), (.int z1)])
  refine own_step (fun t k => XS.iushr X0.here hx rfl (hb hby d7_20) rfl k) ?_
  show own_Fin _ _ _ _ _ _ _ _ (mkF m 21 #[.val (.int z1)] [(.int ((z1.toUInt32 >>> ((26 : Int32) &&& 31).toUInt32).toInt32)), (.int ((z1.toUInt32 >>> ((13 : Int32) &&& 31).toUInt32).toInt32)), (.int z1)])
  refine own_step (fun t k => XS.ixor X0.here hx rfl (hb hby d7_21) rfl k) ?_
  show own_Fin _ _ _ _ _ _ _ _ (mkF m 22 #[.val (.int z1)] [(.int (((z1.toUInt32 >>> ((13 : Int32) &&& 31).toUInt32).toInt32) ^^^ ((z1.toUInt32 >>> ((26 : Int32) &&& 31).toUInt32).toInt32))), (.int z1)])
  refine own_step (fun t k => XS.ixor X0.here hx rfl (hb hby d7_22) rfl k) ?_
  show own_Fin _ _ _ _ _ _ _ _ (mkF m 23 #[.val (.int z1)] [(.int (z1 ^^^ (((z1.toUInt32 >>> ((13 : Int32) &&& 31).toUInt32).toInt32) ^^^ ((z1.toUInt32 >>> ((26 : Int32) &&& 31).toUInt32).toInt32))))])
  generalize hz2 : (z1 ^^^ (((z1.toUInt32 >>> ((13 : Int32) &&& 31).toUInt32).toInt32) ^^^ ((z1.toUInt32 >>> ((26 : Int32) &&& 31).toUInt32).toInt32))) = z2
  refine own_step (fun t k => XS.istoreN X0.here hx rfl (hb hby d7_23) rfl (l' := #[.val (.int z2)]) rfl k) ?_
  show own_Fin _ _ _ _ _ _ _ _ (mkF m 24 #[.val (.int z2)] [])
  refine own_step (fun t k => XS.iloadN X0.here hx rfl (hb hby d7_24) rfl k) ?_
  show own_Fin _ _ _ _ _ _ _ _ (mkF m 25 #[.val (.int z2)] [(.int z2)])
  refine own_step (fun t k => X0.ldcInt hx hown (mvT hZ (hw _ (List.mem_of_getElem? (i := 12) rfl))) (g := (mkF m 25 #[.val (.int z2)] [(.int z2)])) rfl (hb hby d7_25) _ k) ?_
  show own_Fin _ _ _ _ _ _ _ _ (mkF m 27 #[.val (.int z2)] [(.int (-1513385405 : Int32)), (.int z2)])
  refine own_step (fun t k => XS.imul X0.here hx rfl (hb hby d7_27) rfl k) ?_
  show own_Fin _ _ _ _ _ _ _ _ (mkF m 28 #[.val (.int z2)] [(.int (z2 * (-1513385405 : Int32)))])
  generalize hz3 : (z2 * (-1513385405 : Int32)) = z3
  refine own_step (fun t k => XS.istoreN X0.here hx rfl (hb hby d7_28) rfl (l' := #[.val (.int z3)]) rfl k) ?_
  show own_Fin _ _ _ _ _ _ _ _ (mkF m 29 #[.val (.int z3)] [])
  refine own_step (fun t k => XS.iloadN X0.here hx rfl (hb hby d7_29) rfl k) ?_
  show own_Fin _ _ _ _ _ _ _ _ (mkF m 30 #[.val (.int z3)] [(.int z3)])
  refine own_step (fun t k => XS.iloadN X0.here hx rfl (hb hby d7_30) rfl k) ?_
  show own_Fin _ _ _ _ _ _ _ _ (mkF m 31 #[.val (.int z3)] [(.int z3), (.int z3)])
  refine own_step (fun t k => XS.bipush X0.here hx rfl (hb hby d7_31) k) ?_
  show own_Fin _ _ _ _ _ _ _ _ (mkF m 33 #[.val (.int z3)] [(.int (16 : Int32)), (.int z3), (.int z3)])
  refine own_step (fun t k => XS.iushr X0.here hx rfl (hb hby d7_33) rfl k) ?_
  show own_Fin _ _ _ _ _ _ _ _ (mkF m 34 #[.val (.int z3)] [(.int ((z3.toUInt32 >>> ((16 : Int32) &&& 31).toUInt32).toInt32)), (.int z3)])
  refine own_step (fun t k => XS.ixor X0.here hx rfl (hb hby d7_34) rfl k) ?_
  show own_Fin _ _ _ _ _ _ _ _ (mkF m 35 #[.val (.int z3)] [(.int (z3 ^^^ ((z3.toUInt32 >>> ((16 : Int32) &&& 31).toUInt32).toInt32)))])
  refine own_step (fun t k => XS.istoreN X0.here hx rfl (hb hby d7_35) rfl (l' := #[.val (.int (z3 ^^^ ((z3.toUInt32 >>> ((16 : Int32) &&& 31).toUInt32).toInt32)))]) rfl k) ?_
  show own_Fin _ _ _ _ _ _ _ _ (mkF m 36 #[.val (.int (z3 ^^^ ((z3.toUInt32 >>> ((16 : Int32) &&& 31).toUInt32).toInt32)))] [])
  refine own_step (fun t k => XS.iloadN X0.here hx rfl (hb hby d7_36) rfl k) ?_
  show own_Fin _ _ _ _ _ _ _ _ (mkF m 37 #[.val (.int (z3 ^^^ ((z3.toUInt32 >>> ((16 : Int32) &&& 31).toUInt32).toInt32)))] [(.int (z3 ^^^ ((z3.toUInt32 >>> ((16 : Int32) &&& 31).toUInt32).toInt32)))])
  refine own_retI X0 hx hlk Bd.returns (hb hby d7_37) (by decide) (by decide) e0 ?_
  subst hz3 hz2 hz1 hz0; exact ⟨rfl, Nf, rfl⟩
theorem own_pd_0 : parseMethodDescriptor "([I)I" = some ⟨[(.array .int)], some .int⟩ := by decide +kernel
theorem own_pd_1 : parseMethodDescriptor "(I)I" = some ⟨[.int], some .int⟩ := by decide +kernel
theorem own_pn_0 : plainName "com/example/limfjord/limfjord/engine/StateStoreHashPinLaw" = true := by first | (simp [plainName, overriddenIn]; done) | decide +kernel
theorem own_ef_0 (m : MethodId) (p1 : Int32) (p2 : Int32) (p3 : Int32) (p4 : Int32) (p5 : Int32) : entryFrame m #[(.int p1), (.int p2), (.int p3), (.int p4), (.int p5)] maxLocals = mkF m 0 #[.val (.int p1), .val (.int p2), .val (.int p3), .val (.int p4), .val (.int p5), .unset, .unset, .unset, .unset] [] := by first | (simp [entryFrame, mkF, argsToLocals, Value.category, maxLocals]; done) | rfl
def own_Q0 (Z : State) (p1 : Int32) (p2 : Int32) (p3 : Int32) (p4 : Int32) (p5 : Int32) (h0 : Heap) (n0 : Nat) (v : Option Value) (h : Heap) (L : List Loc) : Prop := v = some (.int 1) ∧ Fr n0 L
set_option maxRecDepth 65536 in
set_option maxHeartbeats 40000000 in
theorem rm0 (l : Launch) (Z : State) (a0 : Array Value) (hw : ∀ d ∈ tables_1, d.before a0 Z = true) (ws : List Jvm.Cond) (p1 : Int32) (p2 : Int32) (p3 : Int32) (p4 : Int32) (p5 : Int32) (h0 : Heap) (n0 : Nat) (Z0 : n0 ≤ h0.size) :
    MetFree l x (head1 (Jvm.Cond.code x code maxLocals ret :: ws) room_1) (fun a U => a = #[(.int p1), (.int p2), (.int p3), (.int p4), (.int p5)] ∧ Z.Warmed39 U.vm ∧ U.heap = h0) (fun _ _ _ _ _ => True) (fun _ U o U' => ∃ v L, o = .returned v ∧ own_Q0 Z p1 p2 p3 p4 p5 h0 n0 v U'.heap L ∧ FrameEnd U o U' L 16 128) := by
  refine MetFree.of_bodySF (plainFor_of_name own_pn_0) hisR ?_
  intro p e s m args below meth c s₁ Bd hml0 hP hK
  obtain ⟨rfl, hZ, hh⟩ := hP
  have hx := Bd.exec
  have hby := Bd.bytes
  have hlk := BodyLoose.notSynchronized Bd
  have hml : c.maxLocals = 9 := hml0
  have hown : s.vm.findClass "com/example/limfjord/limfjord/engine/StateStoreHashPinLaw" = some m.cls := (findClass_of_methodNamed Bd.named : s.vm.findClass x.cls = some m.cls)
  have hnm := (name_of_methodNamed Bd.named Bd.method).1
  have X0 : Stand p l e room_1 s m #[(.int p1), (.int p2), (.int p3), (.int p4), (.int p5)] below meth c s₁ [] 0 0 := Stand.of_body Bd
  have e0 : s₁.heap = h0 := by rw [← hh, Bd.state]; rfl
  have Nf := Fr.nil n0
  have Zs := Z0
  show own_Fin p e below s (own_Q0 Z p1 p2 p3 p4 p5 h0 n0) 16 128 s₁ (entryFrame m #[(.int p1), (.int p2), (.int p3), (.int p4), (.int p5)] maxLocals)
  rw [own_ef_0 m p1 p2 p3 p4 p5]
  show own_Fin _ _ _ _ _ _ _ _ (mkF m 0 #[.val (.int p1), .val (.int p2), .val (.int p3), .val (.int p4), .val (.int p5), .unset, .unset, .unset, .unset] [])
  refine own_step (fun t k => XS.iloadN X0.here hx rfl (hb hby at_0) rfl k) ?_
  show own_Fin _ _ _ _ _ _ _ _ (mkF m 1 #[.val (.int p1), .val (.int p2), .val (.int p3), .val (.int p4), .val (.int p5), .unset, .unset, .unset, .unset] [(.int p1)])
  refine own_step (fun t k => XS.bipush X0.here hx rfl (hb hby at_1) k) ?_
  show own_Fin _ _ _ _ _ _ _ _ (mkF m 3 #[.val (.int p1), .val (.int p2), .val (.int p3), .val (.int p4), .val (.int p5), .unset, .unset, .unset, .unset] [(.int (7 : Int32)), (.int p1)])
  refine own_step (fun t k => XS.iand X0.here hx rfl (hb hby at_3) rfl k) ?_
  show own_Fin _ _ _ _ _ _ _ _ (mkF m 4 #[.val (.int p1), .val (.int p2), .val (.int p3), .val (.int p4), .val (.int p5), .unset, .unset, .unset, .unset] [(.int (p1 &&& (7 : Int32)))])
  refine own_step (fun t k => XS.iconst X0.here hx rfl (hb hby at_4) k) ?_
  show own_Fin _ _ _ _ _ _ _ _ (mkF m 5 #[.val (.int p1), .val (.int p2), .val (.int p3), .val (.int p4), .val (.int p5), .unset, .unset, .unset, .unset] [(.int (5 : Int32)), (.int (p1 &&& (7 : Int32)))])
  refine own_step (fun t k => iremM X0 hx rfl (hb hby at_5) rfl (by decide) k) ?_
  show own_Fin _ _ _ _ _ _ _ _ (mkF m 6 #[.val (.int p1), .val (.int p2), .val (.int p3), .val (.int p4), .val (.int p5), .unset, .unset, .unset, .unset] [(.int ((p1 &&& (7 : Int32)) % (5 : Int32)))])
  generalize hnn : ((p1 &&& (7 : Int32)) % (5 : Int32)) = nn
  refine own_step (fun t k => XS.istore X0.here hx rfl (hb hby at_6) rfl (l' := #[.val (.int p1), .val (.int p2), .val (.int p3), .val (.int p4), .val (.int p5), .val (.int nn), .unset, .unset, .unset]) rfl k) ?_
  show own_Fin _ _ _ _ _ _ _ _ (mkF m 8 #[.val (.int p1), .val (.int p2), .val (.int p3), .val (.int p4), .val (.int p5), .val (.int nn), .unset, .unset, .unset] [])
  rcases own_cases p1 nn hnn with rfl | rfl | rfl | rfl | rfl
  · skip
    show own_Fin _ _ _ _ _ _ _ _ (mkF m 8 #[.val (.int p1), .val (.int p2), .val (.int p3), .val (.int p4), .val (.int p5), .val (.int (0 : Int32)), .unset, .unset, .unset] [])
    refine own_step (fun t k => XS.iload X0.here hx rfl (hb hby at_8) rfl k) ?_
    show own_Fin _ _ _ _ _ _ _ _ (mkF m 10 #[.val (.int p1), .val (.int p2), .val (.int p3), .val (.int p4), .val (.int p5), .val (.int (0 : Int32)), .unset, .unset, .unset] [(.int (0 : Int32))])
    obtain ⟨T1, h1, k1, X1, e1, E1, A1, st1⟩ := newP X0 hx hZ (hw _ (List.mem_of_getElem? (i := 0) rfl)) e0 (g := (mkF m 10 #[.val (.int p1), .val (.int p2), .val (.int p3), .val (.int p4), .val (.int p5), .val (.int (0 : Int32)), .unset, .unset, .unset] [(.int (0 : Int32))])) rfl (hb hby at_10) rfl (by decide) (cap := 0) (by decide) (by decide) (by decide) (by decide)
    obtain ⟨b1, g1⟩ : ∃ z, z = h0.size := ⟨_, rfl⟩
    rw [← g1] at A1 st1
    refine own_step st1 ?_
    have g_b1 : n0 ≤ b1 := Nat.le_trans Zs (Nat.le_of_eq g1.symm)
    replace Zs := Nat.le_trans Zs E1.1
    have V_b1 := own_AI.newI (n := 0) A1 (by decide)
    show own_Fin _ _ _ _ _ _ _ _ (mkF m 12 #[.val (.int p1), .val (.int p2), .val (.int p3), .val (.int p4), .val (.int p5), .val (.int (0 : Int32)), .unset, .unset, .unset] [(.ref b1)])
    refine own_step (fun t k => XS.astore X1.here hx rfl (hb hby at_12) rfl rfl (l' := #[.val (.int p1), .val (.int p2), .val (.int p3), .val (.int p4), .val (.int p5), .val (.int (0 : Int32)), .val (.ref b1), .unset, .unset]) rfl k) ?_
    show own_Fin _ _ _ _ _ _ _ _ (mkF m 14 #[.val (.int p1), .val (.int p2), .val (.int p3), .val (.int p4), .val (.int p5), .val (.int (0 : Int32)), .val (.ref b1), .unset, .unset] [])
    refine own_step (fun t k => XS.iload X1.here hx rfl (hb hby at_14) rfl k) ?_
    show own_Fin _ _ _ _ _ _ _ _ (mkF m 16 #[.val (.int p1), .val (.int p2), .val (.int p3), .val (.int p4), .val (.int p5), .val (.int (0 : Int32)), .val (.ref b1), .unset, .unset] [(.int (0 : Int32))])
    refine own_step (fun t k => XS.ifNo X1.here hx rfl (hb hby at_16) rfl (by decide) k) ?_
    show own_Fin _ _ _ _ _ _ _ _ (mkF m 19 #[.val (.int p1), .val (.int p2), .val (.int p3), .val (.int p4), .val (.int p5), .val (.int (0 : Int32)), .val (.ref b1), .unset, .unset] [])
    refine own_step (fun t k => XS.iconst X1.here hx rfl (hb hby at_19) k) ?_
    show own_Fin _ _ _ _ _ _ _ _ (mkF m 20 #[.val (.int p1), .val (.int p2), .val (.int p3), .val (.int p4), .val (.int p5), .val (.int (0 : Int32)), .val (.ref b1), .unset, .unset] [(.int (0 : Int32))])
    refine own_step (fun t k => XS.istore X1.here hx rfl (hb hby at_20) rfl (l' := #[.val (.int p1), .val (.int p2), .val (.int p3), .val (.int p4), .val (.int p5), .val (.int (0 : Int32)), .val (.ref b1), .val (.int (0 : Int32)), .unset]) rfl k) ?_
    show own_Fin _ _ _ _ _ _ _ _ (mkF m 22 #[.val (.int p1), .val (.int p2), .val (.int p3), .val (.int p4), .val (.int p5), .val (.int (0 : Int32)), .val (.ref b1), .val (.int (0 : Int32)), .unset] [])
    refine own_step (fun t k => XS.goto X1.here hx rfl (pc0 := 22) (pc' := 149) rfl (hb hby at_22) (by decide) (by decide) k) ?_
    show own_Fin _ _ _ _ _ _ _ _ (mkF m 149 #[.val (.int p1), .val (.int p2), .val (.int p3), .val (.int p4), .val (.int p5), .val (.int (0 : Int32)), .val (.ref b1), .val (.int (0 : Int32)), .unset] [])
    obtain ⟨fE, V_b1⟩ : ∃ f, own_AI Z h1 b1 .int 0 f := ⟨_, V_b1⟩
    refine own_step (fun t k => XS.aload X1.here hx rfl (hb hby at_149) rfl rfl k) ?_
    show own_Fin _ _ _ _ _ _ _ _ (mkF m 151 #[.val (.int p1), .val (.int p2), .val (.int p3), .val (.int p4), .val (.int p5), .val (.int (0 : Int32)), .val (.ref b1), .val (.int (0 : Int32)), .unset] [(.ref b1)])
    obtain ⟨_, _, ⟨T2, L2, k2, n2⟩, -, X2, ⟨Lc2, hQ2, l2, y2, z2⟩, st2⟩ := Jvm.LawKit.callS X1 hx (y := (⟨"com/example/limfjord/limfjord/engine/StateStore", "hash", "([I)I"⟩ : MethodName)) hown (mvT hZ (hw _ (List.mem_of_getElem? (i := 1) rfl))) (mvT hZ (hw _ (List.mem_of_getElem? (i := 2) rfl))) (mvT hZ (hw _ (List.mem_of_getElem? (i := 3) rfl))) (mvT hZ (hw _ (List.mem_of_getElem? (i := 4) rfl))) (by decide) (backOf (W := 0) (rm1 l Z a0 hw [] b1 _ h1 n0 Zs V_b1) hZ (hw _ (List.mem_of_getElem? (i := 4) rfl)) (hw _ (List.mem_of_getElem? (i := 3) rfl)) (by decide) (by decide)) (g := (mkF m 151 #[.val (.int p1), .val (.int p2), .val (.int p3), .val (.int p4), .val (.int p5), .val (.int (0 : Int32)), .val (.ref b1), .val (.int (0 : Int32)), .unset] [(.ref b1)])) rfl (by rw [hml]; rfl) (argsL := [(.ref b1)]) (rest := []) (lenOf own_pd_0 rfl) rfl (by show 2 * 0 + _ ≤ _; exact Nat.le_of_eq rfl) (hb hby at_151) (fun _ _ => ⟨rfl, e1, (by decide : 1 + 0 ≤ _), (by decide : 0 + 0 ≤ _)⟩)
    dsimp only [Pt.U, Pt.locs, Pt.cells, Pt.slots] at X2 l2 y2 z2 st2 hQ2
    subst l2 y2 z2
    obtain ⟨rfl, Nq2, hh2⟩ := hQ2
    replace Nf := Fr.app Nf Nq2
    refine own_step st2 ?_
    show own_Fin _ _ _ _ _ _ _ _ (mkF m 154 #[.val (.int p1), .val (.int p2), .val (.int p3), .val (.int p4), .val (.int p5), .val (.int (0 : Int32)), .val (.ref b1), .val (.int (0 : Int32)), .unset] [(.int (own_mix (0 : Int32)))])
    refine own_step (fun t k => XS.istore X2.here hx rfl (hb hby at_154) rfl (l' := #[.val (.int p1), .val (.int p2), .val (.int p3), .val (.int p4), .val (.int p5), .val (.int (0 : Int32)), .val (.ref b1), .val (.int (0 : Int32)), .val (.int (own_mix (0 : Int32)))]) rfl k) ?_
    show own_Fin _ _ _ _ _ _ _ _ (mkF m 156 #[.val (.int p1), .val (.int p2), .val (.int p3), .val (.int p4), .val (.int p5), .val (.int (0 : Int32)), .val (.ref b1), .val (.int (0 : Int32)), .val (.int (own_mix (0 : Int32)))] [])
    refine own_step (fun t k => XS.iload X2.here hx rfl (hb hby at_156) rfl k) ?_
    show own_Fin _ _ _ _ _ _ _ _ (mkF m 158 #[.val (.int p1), .val (.int p2), .val (.int p3), .val (.int p4), .val (.int p5), .val (.int (0 : Int32)), .val (.ref b1), .val (.int (0 : Int32)), .val (.int (own_mix (0 : Int32)))] [(.int (own_mix (0 : Int32)))])
    obtain ⟨_, _, ⟨T3, L3, k3, n3⟩, -, X3, ⟨Lc3, hQ3, l3, y3, z3⟩, st3⟩ := Jvm.LawKit.callS X2 hx (y := (⟨"com/example/limfjord/limfjord/engine/StateStoreHashPinLaw", "unmix", "(I)I"⟩ : MethodName)) hown (mvT hZ (hw _ (List.mem_of_getElem? (i := 7) rfl))) (mvT hZ (hw _ (List.mem_of_getElem? (i := 8) rfl))) (mvT hZ (hw _ (List.mem_of_getElem? (i := 9) rfl))) (mvT hZ (hw _ (List.mem_of_getElem? (i := 10) rfl))) (by decide) (backOf (W := 0) (rm7 l Z a0 hw [] (own_mix (0 : Int32)) h1 n0 Zs) hZ (hw _ (List.mem_of_getElem? (i := 10) rfl)) (hw _ (List.mem_of_getElem? (i := 9) rfl)) (by decide) (by decide)) (g := (mkF m 158 #[.val (.int p1), .val (.int p2), .val (.int p3), .val (.int p4), .val (.int p5), .val (.int (0 : Int32)), .val (.ref b1), .val (.int (0 : Int32)), .val (.int (own_mix (0 : Int32)))] [(.int (own_mix (0 : Int32)))])) rfl (by rw [hml]; rfl) (argsL := [(.int (own_mix (0 : Int32)))]) (rest := []) (lenOf own_pd_1 rfl) rfl (by show 2 * 0 + _ ≤ _; exact Nat.le_of_eq rfl) (hb hby at_158) (fun _ _ => ⟨rfl, hh2, (by decide : 1 + 0 ≤ _), (by decide : 0 + 0 ≤ _)⟩)
    dsimp only [Pt.U, Pt.locs, Pt.cells, Pt.slots] at X3 l3 y3 z3 st3 hQ3
    subst l3 y3 z3
    obtain ⟨rfl, Nq3, hh3⟩ := hQ3
    replace Nf := Fr.app Nf Nq3
    refine own_step st3 ?_
    show own_Fin _ _ _ _ _ _ _ _ (mkF m 161 #[.val (.int p1), .val (.int p2), .val (.int p3), .val (.int p4), .val (.int p5), .val (.int (0 : Int32)), .val (.ref b1), .val (.int (0 : Int32)), .val (.int (own_mix (0 : Int32)))] [(.int (own_unmix (own_mix (0 : Int32))))])
    refine own_step (fun t k => XS.iload X3.here hx rfl (hb hby at_161) rfl k) ?_
    show own_Fin _ _ _ _ _ _ _ _ (mkF m 163 #[.val (.int p1), .val (.int p2), .val (.int p3), .val (.int p4), .val (.int p5), .val (.int (0 : Int32)), .val (.ref b1), .val (.int (0 : Int32)), .val (.int (own_mix (0 : Int32)))] [(.int (0 : Int32)), (.int (own_unmix (own_mix (0 : Int32))))])
    have hc4 : ((own_unmix (own_mix (0 : Int32)))).toInt = 0 := (congrArg Int32.toInt (own_back 0)).trans rfl
    refine own_step (fun t k => XS.icmpNo X3.here hx rfl (hb hby at_163) rfl (own_ce (x := (own_unmix (own_mix (0 : Int32)))) (y := (0 : Int32)) rfl rfl hc4).2 k) ?_
    show own_Fin _ _ _ _ _ _ _ _ (mkF m 166 #[.val (.int p1), .val (.int p2), .val (.int p3), .val (.int p4), .val (.int p5), .val (.int (0 : Int32)), .val (.ref b1), .val (.int (0 : Int32)), .val (.int (own_mix (0 : Int32)))] [])
    refine own_step (fun t k => XS.iconst X3.here hx rfl (hb hby at_166) k) ?_
    show own_Fin _ _ _ _ _ _ _ _ (mkF m 167 #[.val (.int p1), .val (.int p2), .val (.int p3), .val (.int p4), .val (.int p5), .val (.int (0 : Int32)), .val (.ref b1), .val (.int (0 : Int32)), .val (.int (own_mix (0 : Int32)))] [(.int (1 : Int32))])
    refine own_step (fun t k => XS.goto X3.here hx rfl (pc0 := 167) (pc' := 171) rfl (hb hby at_167) (by decide) (by decide) k) ?_
    show own_Fin _ _ _ _ _ _ _ _ (mkF m 171 #[.val (.int p1), .val (.int p2), .val (.int p3), .val (.int p4), .val (.int p5), .val (.int (0 : Int32)), .val (.ref b1), .val (.int (0 : Int32)), .val (.int (own_mix (0 : Int32)))] [(.int (1 : Int32))])
    refine own_retZ X3 hx hlk Bd.returns (hb hby at_171) (z' := (1 : Int32)) (by decide) (by decide) (by decide) hh3 ?_
    exact ⟨rfl, Nf⟩
  · skip
    show own_Fin _ _ _ _ _ _ _ _ (mkF m 8 #[.val (.int p1), .val (.int p2), .val (.int p3), .val (.int p4), .val (.int p5), .val (.int (1 : Int32)), .unset, .unset, .unset] [])
    refine own_step (fun t k => XS.iload X0.here hx rfl (hb hby at_8) rfl k) ?_
    show own_Fin _ _ _ _ _ _ _ _ (mkF m 10 #[.val (.int p1), .val (.int p2), .val (.int p3), .val (.int p4), .val (.int p5), .val (.int (1 : Int32)), .unset, .unset, .unset] [(.int (1 : Int32))])
    obtain ⟨T5, h5, k5, X5, e5, E5, A5, st5⟩ := newP X0 hx hZ (hw _ (List.mem_of_getElem? (i := 0) rfl)) e0 (g := (mkF m 10 #[.val (.int p1), .val (.int p2), .val (.int p3), .val (.int p4), .val (.int p5), .val (.int (1 : Int32)), .unset, .unset, .unset] [(.int (1 : Int32))])) rfl (hb hby at_10) rfl (by decide) (cap := 1) (by decide) (by decide) (by decide) (by decide)
    obtain ⟨b5, g5⟩ : ∃ z, z = h0.size := ⟨_, rfl⟩
    rw [← g5] at A5 st5
    refine own_step st5 ?_
    have g_b5 : n0 ≤ b5 := Nat.le_trans Zs (Nat.le_of_eq g5.symm)
    replace Zs := Nat.le_trans Zs E5.1
    have V_b5 := own_AI.newI (n := 1) A5 (by decide)
    show own_Fin _ _ _ _ _ _ _ _ (mkF m 12 #[.val (.int p1), .val (.int p2), .val (.int p3), .val (.int p4), .val (.int p5), .val (.int (1 : Int32)), .unset, .unset, .unset] [(.ref b5)])
    refine own_step (fun t k => XS.astore X5.here hx rfl (hb hby at_12) rfl rfl (l' := #[.val (.int p1), .val (.int p2), .val (.int p3), .val (.int p4), .val (.int p5), .val (.int (1 : Int32)), .val (.ref b5), .unset, .unset]) rfl k) ?_
    show own_Fin _ _ _ _ _ _ _ _ (mkF m 14 #[.val (.int p1), .val (.int p2), .val (.int p3), .val (.int p4), .val (.int p5), .val (.int (1 : Int32)), .val (.ref b5), .unset, .unset] [])
    refine own_step (fun t k => XS.iload X5.here hx rfl (hb hby at_14) rfl k) ?_
    show own_Fin _ _ _ _ _ _ _ _ (mkF m 16 #[.val (.int p1), .val (.int p2), .val (.int p3), .val (.int p4), .val (.int p5), .val (.int (1 : Int32)), .val (.ref b5), .unset, .unset] [(.int (1 : Int32))])
    refine own_step (fun t k => XS.ifYes X5.here hx rfl (pc0 := 16) (pc' := 25) rfl (hb hby at_16) rfl (by decide) (by decide) (by decide) k) ?_
    show own_Fin _ _ _ _ _ _ _ _ (mkF m 25 #[.val (.int p1), .val (.int p2), .val (.int p3), .val (.int p4), .val (.int p5), .val (.int (1 : Int32)), .val (.ref b5), .unset, .unset] [])
    refine own_step (fun t k => XS.iload X5.here hx rfl (hb hby at_25) rfl k) ?_
    show own_Fin _ _ _ _ _ _ _ _ (mkF m 27 #[.val (.int p1), .val (.int p2), .val (.int p3), .val (.int p4), .val (.int p5), .val (.int (1 : Int32)), .val (.ref b5), .unset, .unset] [(.int (1 : Int32))])
    refine own_step (fun t k => XS.iconst X5.here hx rfl (hb hby at_27) k) ?_
    show own_Fin _ _ _ _ _ _ _ _ (mkF m 28 #[.val (.int p1), .val (.int p2), .val (.int p3), .val (.int p4), .val (.int p5), .val (.int (1 : Int32)), .val (.ref b5), .unset, .unset] [(.int (1 : Int32)), (.int (1 : Int32))])
    refine own_step (fun t k => XS.icmpNo X5.here hx rfl (hb hby at_28) rfl (by decide) k) ?_
    show own_Fin _ _ _ _ _ _ _ _ (mkF m 31 #[.val (.int p1), .val (.int p2), .val (.int p3), .val (.int p4), .val (.int p5), .val (.int (1 : Int32)), .val (.ref b5), .unset, .unset] [])
    refine own_step (fun t k => XS.aload X5.here hx rfl (hb hby at_31) rfl rfl k) ?_
    show own_Fin _ _ _ _ _ _ _ _ (mkF m 33 #[.val (.int p1), .val (.int p2), .val (.int p3), .val (.int p4), .val (.int p5), .val (.int (1 : Int32)), .val (.ref b5), .unset, .unset] [(.ref b5)])
    refine own_step (fun t k => XS.iconst X5.here hx rfl (hb hby at_33) k) ?_
    show own_Fin _ _ _ _ _ _ _ _ (mkF m 34 #[.val (.int p1), .val (.int p2), .val (.int p3), .val (.int p4), .val (.int p5), .val (.int (1 : Int32)), .val (.ref b5), .unset, .unset] [(.int (0 : Int32)), (.ref b5)])
    refine own_step (fun t k => XS.iloadN X5.here hx rfl (hb hby at_34) rfl k) ?_
    show own_Fin _ _ _ _ _ _ _ _ (mkF m 35 #[.val (.int p1), .val (.int p2), .val (.int p3), .val (.int p4), .val (.int p5), .val (.int (1 : Int32)), .val (.ref b5), .unset, .unset] [(.int p2), (.int (0 : Int32)), (.ref b5)])
    obtain ⟨T6, h6, X6, e6, W6, B6, st6⟩ := own_iastore X5 hx hZ e5 V_b5 (j := (0 : Int32)) (k := 0) rfl (by decide) (x := p2) (pc := 35) (Ls := #[.val (.int p1), .val (.int p2), .val (.int p3), .val (.int p4), .val (.int p5), .val (.int (1 : Int32)), .val (.ref b5), .unset, .unset]) (rest := []) (hb hby at_35) rfl
    refine own_step st6 ?_
    replace Zs : n0 ≤ h6.size := by rw [W6.size]; exact Zs
    replace V_b5 := B6
    replace Nf := Fr.snoc X6 Nf g_b5
    show own_Fin _ _ _ _ _ _ _ _ (mkF m 36 #[.val (.int p1), .val (.int p2), .val (.int p3), .val (.int p4), .val (.int p5), .val (.int (1 : Int32)), .val (.ref b5), .unset, .unset] [])
    refine own_step (fun t k => XS.iloadN X6.here hx rfl (hb hby at_36) rfl k) ?_
    show own_Fin _ _ _ _ _ _ _ _ (mkF m 37 #[.val (.int p1), .val (.int p2), .val (.int p3), .val (.int p4), .val (.int p5), .val (.int (1 : Int32)), .val (.ref b5), .unset, .unset] [(.int p2)])
    refine own_step (fun t k => XS.istore X6.here hx rfl (hb hby at_37) rfl (l' := #[.val (.int p1), .val (.int p2), .val (.int p3), .val (.int p4), .val (.int p5), .val (.int (1 : Int32)), .val (.ref b5), .val (.int p2), .unset]) rfl k) ?_
    show own_Fin _ _ _ _ _ _ _ _ (mkF m 39 #[.val (.int p1), .val (.int p2), .val (.int p3), .val (.int p4), .val (.int p5), .val (.int (1 : Int32)), .val (.ref b5), .val (.int p2), .unset] [])
    refine own_step (fun t k => XS.goto X6.here hx rfl (pc0 := 39) (pc' := 149) rfl (hb hby at_39) (by decide) (by decide) k) ?_
    show own_Fin _ _ _ _ _ _ _ _ (mkF m 149 #[.val (.int p1), .val (.int p2), .val (.int p3), .val (.int p4), .val (.int p5), .val (.int (1 : Int32)), .val (.ref b5), .val (.int p2), .unset] [])
    obtain ⟨fE, V_b5, hfE_0⟩ : ∃ f, own_AI Z h6 b5 .int 1 f ∧ f 0 = p2 := ⟨_, V_b5, rfl⟩
    refine own_step (fun t k => XS.aload X6.here hx rfl (hb hby at_149) rfl rfl k) ?_
    show own_Fin _ _ _ _ _ _ _ _ (mkF m 151 #[.val (.int p1), .val (.int p2), .val (.int p3), .val (.int p4), .val (.int p5), .val (.int (1 : Int32)), .val (.ref b5), .val (.int p2), .unset] [(.ref b5)])
    obtain ⟨_, _, ⟨T7, L7, k7, n7⟩, -, X7, ⟨Lc7, hQ7, l7, y7, z7⟩, st7⟩ := Jvm.LawKit.callS X6 hx (y := (⟨"com/example/limfjord/limfjord/engine/StateStore", "hash", "([I)I"⟩ : MethodName)) hown (mvT hZ (hw _ (List.mem_of_getElem? (i := 1) rfl))) (mvT hZ (hw _ (List.mem_of_getElem? (i := 2) rfl))) (mvT hZ (hw _ (List.mem_of_getElem? (i := 3) rfl))) (mvT hZ (hw _ (List.mem_of_getElem? (i := 4) rfl))) (by decide) (backOf (W := 0) (rm2 l Z a0 hw [] b5 _ h6 n0 Zs V_b5) hZ (hw _ (List.mem_of_getElem? (i := 4) rfl)) (hw _ (List.mem_of_getElem? (i := 3) rfl)) (by decide) (by decide)) (g := (mkF m 151 #[.val (.int p1), .val (.int p2), .val (.int p3), .val (.int p4), .val (.int p5), .val (.int (1 : Int32)), .val (.ref b5), .val (.int p2), .unset] [(.ref b5)])) rfl (by rw [hml]; rfl) (argsL := [(.ref b5)]) (rest := []) (lenOf own_pd_0 rfl) rfl (by show 2 * 0 + _ ≤ _; exact Nat.le_of_eq rfl) (hb hby at_151) (fun _ _ => ⟨rfl, e6, (by decide : 1 + 0 ≤ _), (by decide : 1 + 0 ≤ _)⟩)
    dsimp only [Pt.U, Pt.locs, Pt.cells, Pt.slots] at X7 l7 y7 z7 st7 hQ7
    subst l7 y7 z7
    obtain ⟨rfl, Nq7, hh7⟩ := hQ7
    replace Nf := Fr.app Nf Nq7
    refine own_step st7 ?_
    show own_Fin _ _ _ _ _ _ _ _ (mkF m 154 #[.val (.int p1), .val (.int p2), .val (.int p3), .val (.int p4), .val (.int p5), .val (.int (1 : Int32)), .val (.ref b5), .val (.int p2), .unset] [(.int (own_mix ((0 : Int32) + (fE 0))))])
    refine own_step (fun t k => XS.istore X7.here hx rfl (hb hby at_154) rfl (l' := #[.val (.int p1), .val (.int p2), .val (.int p3), .val (.int p4), .val (.int p5), .val (.int (1 : Int32)), .val (.ref b5), .val (.int p2), .val (.int (own_mix ((0 : Int32) + (fE 0))))]) rfl k) ?_
    show own_Fin _ _ _ _ _ _ _ _ (mkF m 156 #[.val (.int p1), .val (.int p2), .val (.int p3), .val (.int p4), .val (.int p5), .val (.int (1 : Int32)), .val (.ref b5), .val (.int p2), .val (.int (own_mix ((0 : Int32) + (fE 0))))] [])
    refine own_step (fun t k => XS.iload X7.here hx rfl (hb hby at_156) rfl k) ?_
    show own_Fin _ _ _ _ _ _ _ _ (mkF m 158 #[.val (.int p1), .val (.int p2), .val (.int p3), .val (.int p4), .val (.int p5), .val (.int (1 : Int32)), .val (.ref b5), .val (.int p2), .val (.int (own_mix ((0 : Int32) + (fE 0))))] [(.int (own_mix ((0 : Int32) + (fE 0))))])
    obtain ⟨_, _, ⟨T8, L8, k8, n8⟩, -, X8, ⟨Lc8, hQ8, l8, y8, z8⟩, st8⟩ := Jvm.LawKit.callS X7 hx (y := (⟨"com/example/limfjord/limfjord/engine/StateStoreHashPinLaw", "unmix", "(I)I"⟩ : MethodName)) hown (mvT hZ (hw _ (List.mem_of_getElem? (i := 7) rfl))) (mvT hZ (hw _ (List.mem_of_getElem? (i := 8) rfl))) (mvT hZ (hw _ (List.mem_of_getElem? (i := 9) rfl))) (mvT hZ (hw _ (List.mem_of_getElem? (i := 10) rfl))) (by decide) (backOf (W := 0) (rm7 l Z a0 hw [] (own_mix ((0 : Int32) + (fE 0))) h6 n0 Zs) hZ (hw _ (List.mem_of_getElem? (i := 10) rfl)) (hw _ (List.mem_of_getElem? (i := 9) rfl)) (by decide) (by decide)) (g := (mkF m 158 #[.val (.int p1), .val (.int p2), .val (.int p3), .val (.int p4), .val (.int p5), .val (.int (1 : Int32)), .val (.ref b5), .val (.int p2), .val (.int (own_mix ((0 : Int32) + (fE 0))))] [(.int (own_mix ((0 : Int32) + (fE 0))))])) rfl (by rw [hml]; rfl) (argsL := [(.int (own_mix ((0 : Int32) + (fE 0))))]) (rest := []) (lenOf own_pd_1 rfl) rfl (by show 2 * 0 + _ ≤ _; exact Nat.le_of_eq rfl) (hb hby at_158) (fun _ _ => ⟨rfl, hh7, (by decide : 1 + 0 ≤ _), (by decide : 1 + 0 ≤ _)⟩)
    dsimp only [Pt.U, Pt.locs, Pt.cells, Pt.slots] at X8 l8 y8 z8 st8 hQ8
    subst l8 y8 z8
    obtain ⟨rfl, Nq8, hh8⟩ := hQ8
    replace Nf := Fr.app Nf Nq8
    refine own_step st8 ?_
    show own_Fin _ _ _ _ _ _ _ _ (mkF m 161 #[.val (.int p1), .val (.int p2), .val (.int p3), .val (.int p4), .val (.int p5), .val (.int (1 : Int32)), .val (.ref b5), .val (.int p2), .val (.int (own_mix ((0 : Int32) + (fE 0))))] [(.int (own_unmix (own_mix ((0 : Int32) + (fE 0)))))])
    refine own_step (fun t k => XS.iload X8.here hx rfl (hb hby at_161) rfl k) ?_
    show own_Fin _ _ _ _ _ _ _ _ (mkF m 163 #[.val (.int p1), .val (.int p2), .val (.int p3), .val (.int p4), .val (.int p5), .val (.int (1 : Int32)), .val (.ref b5), .val (.int p2), .val (.int (own_mix ((0 : Int32) + (fE 0))))] [(.int p2), (.int (own_unmix (own_mix ((0 : Int32) + (fE 0)))))])
    have hc9 : ((own_unmix (own_mix ((0 : Int32) + (fE 0))))).toInt = (p2).toInt := by rw [own_back, hfE_0, Int32.zero_add]
    refine own_step (fun t k => XS.icmpNo X8.here hx rfl (hb hby at_163) rfl (own_ce (x := (own_unmix (own_mix ((0 : Int32) + (fE 0))))) (y := p2) rfl rfl hc9).2 k) ?_
    show own_Fin _ _ _ _ _ _ _ _ (mkF m 166 #[.val (.int p1), .val (.int p2), .val (.int p3), .val (.int p4), .val (.int p5), .val (.int (1 : Int32)), .val (.ref b5), .val (.int p2), .val (.int (own_mix ((0 : Int32) + (fE 0))))] [])
    refine own_step (fun t k => XS.iconst X8.here hx rfl (hb hby at_166) k) ?_
    show own_Fin _ _ _ _ _ _ _ _ (mkF m 167 #[.val (.int p1), .val (.int p2), .val (.int p3), .val (.int p4), .val (.int p5), .val (.int (1 : Int32)), .val (.ref b5), .val (.int p2), .val (.int (own_mix ((0 : Int32) + (fE 0))))] [(.int (1 : Int32))])
    refine own_step (fun t k => XS.goto X8.here hx rfl (pc0 := 167) (pc' := 171) rfl (hb hby at_167) (by decide) (by decide) k) ?_
    show own_Fin _ _ _ _ _ _ _ _ (mkF m 171 #[.val (.int p1), .val (.int p2), .val (.int p3), .val (.int p4), .val (.int p5), .val (.int (1 : Int32)), .val (.ref b5), .val (.int p2), .val (.int (own_mix ((0 : Int32) + (fE 0))))] [(.int (1 : Int32))])
    refine own_retZ X8 hx hlk Bd.returns (hb hby at_171) (z' := (1 : Int32)) (by decide) (by decide) (by decide) hh8 ?_
    exact ⟨rfl, Nf⟩
  · skip
    show own_Fin _ _ _ _ _ _ _ _ (mkF m 8 #[.val (.int p1), .val (.int p2), .val (.int p3), .val (.int p4), .val (.int p5), .val (.int (2 : Int32)), .unset, .unset, .unset] [])
    refine own_step (fun t k => XS.iload X0.here hx rfl (hb hby at_8) rfl k) ?_
    show own_Fin _ _ _ _ _ _ _ _ (mkF m 10 #[.val (.int p1), .val (.int p2), .val (.int p3), .val (.int p4), .val (.int p5), .val (.int (2 : Int32)), .unset, .unset, .unset] [(.int (2 : Int32))])
    obtain ⟨T10, h10, k10, X10, e10, E10, A10, st10⟩ := newP X0 hx hZ (hw _ (List.mem_of_getElem? (i := 0) rfl)) e0 (g := (mkF m 10 #[.val (.int p1), .val (.int p2), .val (.int p3), .val (.int p4), .val (.int p5), .val (.int (2 : Int32)), .unset, .unset, .unset] [(.int (2 : Int32))])) rfl (hb hby at_10) rfl (by decide) (cap := 2) (by decide) (by decide) (by decide) (by decide)
    obtain ⟨b10, g10⟩ : ∃ z, z = h0.size := ⟨_, rfl⟩
    rw [← g10] at A10 st10
    refine own_step st10 ?_
    have g_b10 : n0 ≤ b10 := Nat.le_trans Zs (Nat.le_of_eq g10.symm)
    replace Zs := Nat.le_trans Zs E10.1
    have V_b10 := own_AI.newI (n := 2) A10 (by decide)
    show own_Fin _ _ _ _ _ _ _ _ (mkF m 12 #[.val (.int p1), .val (.int p2), .val (.int p3), .val (.int p4), .val (.int p5), .val (.int (2 : Int32)), .unset, .unset, .unset] [(.ref b10)])
    refine own_step (fun t k => XS.astore X10.here hx rfl (hb hby at_12) rfl rfl (l' := #[.val (.int p1), .val (.int p2), .val (.int p3), .val (.int p4), .val (.int p5), .val (.int (2 : Int32)), .val (.ref b10), .unset, .unset]) rfl k) ?_
    show own_Fin _ _ _ _ _ _ _ _ (mkF m 14 #[.val (.int p1), .val (.int p2), .val (.int p3), .val (.int p4), .val (.int p5), .val (.int (2 : Int32)), .val (.ref b10), .unset, .unset] [])
    refine own_step (fun t k => XS.iload X10.here hx rfl (hb hby at_14) rfl k) ?_
    show own_Fin _ _ _ _ _ _ _ _ (mkF m 16 #[.val (.int p1), .val (.int p2), .val (.int p3), .val (.int p4), .val (.int p5), .val (.int (2 : Int32)), .val (.ref b10), .unset, .unset] [(.int (2 : Int32))])
    refine own_step (fun t k => XS.ifYes X10.here hx rfl (pc0 := 16) (pc' := 25) rfl (hb hby at_16) rfl (by decide) (by decide) (by decide) k) ?_
    show own_Fin _ _ _ _ _ _ _ _ (mkF m 25 #[.val (.int p1), .val (.int p2), .val (.int p3), .val (.int p4), .val (.int p5), .val (.int (2 : Int32)), .val (.ref b10), .unset, .unset] [])
    refine own_step (fun t k => XS.iload X10.here hx rfl (hb hby at_25) rfl k) ?_
    show own_Fin _ _ _ _ _ _ _ _ (mkF m 27 #[.val (.int p1), .val (.int p2), .val (.int p3), .val (.int p4), .val (.int p5), .val (.int (2 : Int32)), .val (.ref b10), .unset, .unset] [(.int (2 : Int32))])
    refine own_step (fun t k => XS.iconst X10.here hx rfl (hb hby at_27) k) ?_
    show own_Fin _ _ _ _ _ _ _ _ (mkF m 28 #[.val (.int p1), .val (.int p2), .val (.int p3), .val (.int p4), .val (.int p5), .val (.int (2 : Int32)), .val (.ref b10), .unset, .unset] [(.int (1 : Int32)), (.int (2 : Int32))])
    refine own_step (fun t k => XS.icmpYes X10.here hx rfl (pc0 := 28) (pc' := 42) rfl (hb hby at_28) rfl (by decide) (by decide) (by decide) k) ?_
    show own_Fin _ _ _ _ _ _ _ _ (mkF m 42 #[.val (.int p1), .val (.int p2), .val (.int p3), .val (.int p4), .val (.int p5), .val (.int (2 : Int32)), .val (.ref b10), .unset, .unset] [])
    refine own_step (fun t k => XS.iload X10.here hx rfl (hb hby at_42) rfl k) ?_
    show own_Fin _ _ _ _ _ _ _ _ (mkF m 44 #[.val (.int p1), .val (.int p2), .val (.int p3), .val (.int p4), .val (.int p5), .val (.int (2 : Int32)), .val (.ref b10), .unset, .unset] [(.int (2 : Int32))])
    refine own_step (fun t k => XS.iconst X10.here hx rfl (hb hby at_44) k) ?_
    show own_Fin _ _ _ _ _ _ _ _ (mkF m 45 #[.val (.int p1), .val (.int p2), .val (.int p3), .val (.int p4), .val (.int p5), .val (.int (2 : Int32)), .val (.ref b10), .unset, .unset] [(.int (2 : Int32)), (.int (2 : Int32))])
    refine own_step (fun t k => XS.icmpNo X10.here hx rfl (hb hby at_45) rfl (by decide) k) ?_
    show own_Fin _ _ _ _ _ _ _ _ (mkF m 48 #[.val (.int p1), .val (.int p2), .val (.int p3), .val (.int p4), .val (.int p5), .val (.int (2 : Int32)), .val (.ref b10), .unset, .unset] [])
    refine own_step (fun t k => XS.aload X10.here hx rfl (hb hby at_48) rfl rfl k) ?_
    show own_Fin _ _ _ _ _ _ _ _ (mkF m 50 #[.val (.int p1), .val (.int p2), .val (.int p3), .val (.int p4), .val (.int p5), .val (.int (2 : Int32)), .val (.ref b10), .unset, .unset] [(.ref b10)])
    refine own_step (fun t k => XS.iconst X10.here hx rfl (hb hby at_50) k) ?_
    show own_Fin _ _ _ _ _ _ _ _ (mkF m 51 #[.val (.int p1), .val (.int p2), .val (.int p3), .val (.int p4), .val (.int p5), .val (.int (2 : Int32)), .val (.ref b10), .unset, .unset] [(.int (0 : Int32)), (.ref b10)])
    refine own_step (fun t k => XS.iloadN X10.here hx rfl (hb hby at_51) rfl k) ?_
    show own_Fin _ _ _ _ _ _ _ _ (mkF m 52 #[.val (.int p1), .val (.int p2), .val (.int p3), .val (.int p4), .val (.int p5), .val (.int (2 : Int32)), .val (.ref b10), .unset, .unset] [(.int p2), (.int (0 : Int32)), (.ref b10)])
    obtain ⟨T11, h11, X11, e11, W11, B11, st11⟩ := own_iastore X10 hx hZ e10 V_b10 (j := (0 : Int32)) (k := 0) rfl (by decide) (x := p2) (pc := 52) (Ls := #[.val (.int p1), .val (.int p2), .val (.int p3), .val (.int p4), .val (.int p5), .val (.int (2 : Int32)), .val (.ref b10), .unset, .unset]) (rest := []) (hb hby at_52) rfl
    refine own_step st11 ?_
    replace Zs : n0 ≤ h11.size := by rw [W11.size]; exact Zs
    replace V_b10 := B11
    replace Nf := Fr.snoc X11 Nf g_b10
    show own_Fin _ _ _ _ _ _ _ _ (mkF m 53 #[.val (.int p1), .val (.int p2), .val (.int p3), .val (.int p4), .val (.int p5), .val (.int (2 : Int32)), .val (.ref b10), .unset, .unset] [])
    refine own_step (fun t k => XS.aload X11.here hx rfl (hb hby at_53) rfl rfl k) ?_
    show own_Fin _ _ _ _ _ _ _ _ (mkF m 55 #[.val (.int p1), .val (.int p2), .val (.int p3), .val (.int p4), .val (.int p5), .val (.int (2 : Int32)), .val (.ref b10), .unset, .unset] [(.ref b10)])
    refine own_step (fun t k => XS.iconst X11.here hx rfl (hb hby at_55) k) ?_
    show own_Fin _ _ _ _ _ _ _ _ (mkF m 56 #[.val (.int p1), .val (.int p2), .val (.int p3), .val (.int p4), .val (.int p5), .val (.int (2 : Int32)), .val (.ref b10), .unset, .unset] [(.int (1 : Int32)), (.ref b10)])
    refine own_step (fun t k => XS.iloadN X11.here hx rfl (hb hby at_56) rfl k) ?_
    show own_Fin _ _ _ _ _ _ _ _ (mkF m 57 #[.val (.int p1), .val (.int p2), .val (.int p3), .val (.int p4), .val (.int p5), .val (.int (2 : Int32)), .val (.ref b10), .unset, .unset] [(.int p3), (.int (1 : Int32)), (.ref b10)])
    obtain ⟨T12, h12, X12, e12, W12, B12, st12⟩ := own_iastore X11 hx hZ e11 V_b10 (j := (1 : Int32)) (k := 1) rfl (by decide) (x := p3) (pc := 57) (Ls := #[.val (.int p1), .val (.int p2), .val (.int p3), .val (.int p4), .val (.int p5), .val (.int (2 : Int32)), .val (.ref b10), .unset, .unset]) (rest := []) (hb hby at_57) rfl
    refine own_step st12 ?_
    replace Zs : n0 ≤ h12.size := by rw [W12.size]; exact Zs
    replace V_b10 := B12
    replace Nf := Fr.snoc X12 Nf g_b10
    show own_Fin _ _ _ _ _ _ _ _ (mkF m 58 #[.val (.int p1), .val (.int p2), .val (.int p3), .val (.int p4), .val (.int p5), .val (.int (2 : Int32)), .val (.ref b10), .unset, .unset] [])
    refine own_step (fun t k => XS.bipush X12.here hx rfl (hb hby at_58) k) ?_
    show own_Fin _ _ _ _ _ _ _ _ (mkF m 60 #[.val (.int p1), .val (.int p2), .val (.int p3), .val (.int p4), .val (.int p5), .val (.int (2 : Int32)), .val (.ref b10), .unset, .unset] [(.int (31 : Int32))])
    refine own_step (fun t k => XS.iloadN X12.here hx rfl (hb hby at_60) rfl k) ?_
    show own_Fin _ _ _ _ _ _ _ _ (mkF m 61 #[.val (.int p1), .val (.int p2), .val (.int p3), .val (.int p4), .val (.int p5), .val (.int (2 : Int32)), .val (.ref b10), .unset, .unset] [(.int p2), (.int (31 : Int32))])
    refine own_step (fun t k => XS.imul X12.here hx rfl (hb hby at_61) rfl k) ?_
    show own_Fin _ _ _ _ _ _ _ _ (mkF m 62 #[.val (.int p1), .val (.int p2), .val (.int p3), .val (.int p4), .val (.int p5), .val (.int (2 : Int32)), .val (.ref b10), .unset, .unset] [(.int ((31 : Int32) * p2))])
    refine own_step (fun t k => XS.iloadN X12.here hx rfl (hb hby at_62) rfl k) ?_
    show own_Fin _ _ _ _ _ _ _ _ (mkF m 63 #[.val (.int p1), .val (.int p2), .val (.int p3), .val (.int p4), .val (.int p5), .val (.int (2 : Int32)), .val (.ref b10), .unset, .unset] [(.int p3), (.int ((31 : Int32) * p2))])
    refine own_step (fun t k => XS.iadd X12.here hx rfl (hb hby at_63) rfl k) ?_
    show own_Fin _ _ _ _ _ _ _ _ (mkF m 64 #[.val (.int p1), .val (.int p2), .val (.int p3), .val (.int p4), .val (.int p5), .val (.int (2 : Int32)), .val (.ref b10), .unset, .unset] [(.int (((31 : Int32) * p2) + p3))])
    refine own_step (fun t k => XS.istore X12.here hx rfl (hb hby at_64) rfl (l' := #[.val (.int p1), .val (.int p2), .val (.int p3), .val (.int p4), .val (.int p5), .val (.int (2 : Int32)), .val (.ref b10), .val (.int (((31 : Int32) * p2) + p3)), .unset]) rfl k) ?_
    show own_Fin _ _ _ _ _ _ _ _ (mkF m 66 #[.val (.int p1), .val (.int p2), .val (.int p3), .val (.int p4), .val (.int p5), .val (.int (2 : Int32)), .val (.ref b10), .val (.int (((31 : Int32) * p2) + p3)), .unset] [])
    refine own_step (fun t k => XS.goto X12.here hx rfl (pc0 := 66) (pc' := 149) rfl (hb hby at_66) (by decide) (by decide) k) ?_
    show own_Fin _ _ _ _ _ _ _ _ (mkF m 149 #[.val (.int p1), .val (.int p2), .val (.int p3), .val (.int p4), .val (.int p5), .val (.int (2 : Int32)), .val (.ref b10), .val (.int (((31 : Int32) * p2) + p3)), .unset] [])
    obtain ⟨fE, V_b10, hfE_0, hfE_1⟩ : ∃ f, own_AI Z h12 b10 .int 2 f ∧ f 0 = p2 ∧ f 1 = p3 := ⟨_, V_b10, rfl, rfl⟩
    refine own_step (fun t k => XS.aload X12.here hx rfl (hb hby at_149) rfl rfl k) ?_
    show own_Fin _ _ _ _ _ _ _ _ (mkF m 151 #[.val (.int p1), .val (.int p2), .val (.int p3), .val (.int p4), .val (.int p5), .val (.int (2 : Int32)), .val (.ref b10), .val (.int (((31 : Int32) * p2) + p3)), .unset] [(.ref b10)])
    obtain ⟨_, _, ⟨T13, L13, k13, n13⟩, -, X13, ⟨Lc13, hQ13, l13, y13, z13⟩, st13⟩ := Jvm.LawKit.callS X12 hx (y := (⟨"com/example/limfjord/limfjord/engine/StateStore", "hash", "([I)I"⟩ : MethodName)) hown (mvT hZ (hw _ (List.mem_of_getElem? (i := 1) rfl))) (mvT hZ (hw _ (List.mem_of_getElem? (i := 2) rfl))) (mvT hZ (hw _ (List.mem_of_getElem? (i := 3) rfl))) (mvT hZ (hw _ (List.mem_of_getElem? (i := 4) rfl))) (by decide) (backOf (W := 0) (rm3 l Z a0 hw [] b10 _ h12 n0 Zs V_b10) hZ (hw _ (List.mem_of_getElem? (i := 4) rfl)) (hw _ (List.mem_of_getElem? (i := 3) rfl)) (by decide) (by decide)) (g := (mkF m 151 #[.val (.int p1), .val (.int p2), .val (.int p3), .val (.int p4), .val (.int p5), .val (.int (2 : Int32)), .val (.ref b10), .val (.int (((31 : Int32) * p2) + p3)), .unset] [(.ref b10)])) rfl (by rw [hml]; rfl) (argsL := [(.ref b10)]) (rest := []) (lenOf own_pd_0 rfl) rfl (by show 2 * 0 + _ ≤ _; exact Nat.le_of_eq rfl) (hb hby at_151) (fun _ _ => ⟨rfl, e12, (by decide : 1 + 0 ≤ _), (by decide : 2 + 0 ≤ _)⟩)
    dsimp only [Pt.U, Pt.locs, Pt.cells, Pt.slots] at X13 l13 y13 z13 st13 hQ13
    subst l13 y13 z13
    obtain ⟨rfl, Nq13, hh13⟩ := hQ13
    replace Nf := Fr.app Nf Nq13
    refine own_step st13 ?_
    show own_Fin _ _ _ _ _ _ _ _ (mkF m 154 #[.val (.int p1), .val (.int p2), .val (.int p3), .val (.int p4), .val (.int p5), .val (.int (2 : Int32)), .val (.ref b10), .val (.int (((31 : Int32) * p2) + p3)), .unset] [(.int (own_mix (((31 : Int32) * ((0 : Int32) + (fE 0))) + (fE 1))))])
    refine own_step (fun t k => XS.istore X13.here hx rfl (hb hby at_154) rfl (l' := #[.val (.int p1), .val (.int p2), .val (.int p3), .val (.int p4), .val (.int p5), .val (.int (2 : Int32)), .val (.ref b10), .val (.int (((31 : Int32) * p2) + p3)), .val (.int (own_mix (((31 : Int32) * ((0 : Int32) + (fE 0))) + (fE 1))))]) rfl k) ?_
    show own_Fin _ _ _ _ _ _ _ _ (mkF m 156 #[.val (.int p1), .val (.int p2), .val (.int p3), .val (.int p4), .val (.int p5), .val (.int (2 : Int32)), .val (.ref b10), .val (.int (((31 : Int32) * p2) + p3)), .val (.int (own_mix (((31 : Int32) * ((0 : Int32) + (fE 0))) + (fE 1))))] [])
    refine own_step (fun t k => XS.iload X13.here hx rfl (hb hby at_156) rfl k) ?_
    show own_Fin _ _ _ _ _ _ _ _ (mkF m 158 #[.val (.int p1), .val (.int p2), .val (.int p3), .val (.int p4), .val (.int p5), .val (.int (2 : Int32)), .val (.ref b10), .val (.int (((31 : Int32) * p2) + p3)), .val (.int (own_mix (((31 : Int32) * ((0 : Int32) + (fE 0))) + (fE 1))))] [(.int (own_mix (((31 : Int32) * ((0 : Int32) + (fE 0))) + (fE 1))))])
    obtain ⟨_, _, ⟨T14, L14, k14, n14⟩, -, X14, ⟨Lc14, hQ14, l14, y14, z14⟩, st14⟩ := Jvm.LawKit.callS X13 hx (y := (⟨"com/example/limfjord/limfjord/engine/StateStoreHashPinLaw", "unmix", "(I)I"⟩ : MethodName)) hown (mvT hZ (hw _ (List.mem_of_getElem? (i := 7) rfl))) (mvT hZ (hw _ (List.mem_of_getElem? (i := 8) rfl))) (mvT hZ (hw _ (List.mem_of_getElem? (i := 9) rfl))) (mvT hZ (hw _ (List.mem_of_getElem? (i := 10) rfl))) (by decide) (backOf (W := 0) (rm7 l Z a0 hw [] (own_mix (((31 : Int32) * ((0 : Int32) + (fE 0))) + (fE 1))) h12 n0 Zs) hZ (hw _ (List.mem_of_getElem? (i := 10) rfl)) (hw _ (List.mem_of_getElem? (i := 9) rfl)) (by decide) (by decide)) (g := (mkF m 158 #[.val (.int p1), .val (.int p2), .val (.int p3), .val (.int p4), .val (.int p5), .val (.int (2 : Int32)), .val (.ref b10), .val (.int (((31 : Int32) * p2) + p3)), .val (.int (own_mix (((31 : Int32) * ((0 : Int32) + (fE 0))) + (fE 1))))] [(.int (own_mix (((31 : Int32) * ((0 : Int32) + (fE 0))) + (fE 1))))])) rfl (by rw [hml]; rfl) (argsL := [(.int (own_mix (((31 : Int32) * ((0 : Int32) + (fE 0))) + (fE 1))))]) (rest := []) (lenOf own_pd_1 rfl) rfl (by show 2 * 0 + _ ≤ _; exact Nat.le_of_eq rfl) (hb hby at_158) (fun _ _ => ⟨rfl, hh13, (by decide : 1 + 0 ≤ _), (by decide : 2 + 0 ≤ _)⟩)
    dsimp only [Pt.U, Pt.locs, Pt.cells, Pt.slots] at X14 l14 y14 z14 st14 hQ14
    subst l14 y14 z14
    obtain ⟨rfl, Nq14, hh14⟩ := hQ14
    replace Nf := Fr.app Nf Nq14
    refine own_step st14 ?_
    show own_Fin _ _ _ _ _ _ _ _ (mkF m 161 #[.val (.int p1), .val (.int p2), .val (.int p3), .val (.int p4), .val (.int p5), .val (.int (2 : Int32)), .val (.ref b10), .val (.int (((31 : Int32) * p2) + p3)), .val (.int (own_mix (((31 : Int32) * ((0 : Int32) + (fE 0))) + (fE 1))))] [(.int (own_unmix (own_mix (((31 : Int32) * ((0 : Int32) + (fE 0))) + (fE 1)))))])
    refine own_step (fun t k => XS.iload X14.here hx rfl (hb hby at_161) rfl k) ?_
    show own_Fin _ _ _ _ _ _ _ _ (mkF m 163 #[.val (.int p1), .val (.int p2), .val (.int p3), .val (.int p4), .val (.int p5), .val (.int (2 : Int32)), .val (.ref b10), .val (.int (((31 : Int32) * p2) + p3)), .val (.int (own_mix (((31 : Int32) * ((0 : Int32) + (fE 0))) + (fE 1))))] [(.int (((31 : Int32) * p2) + p3)), (.int (own_unmix (own_mix (((31 : Int32) * ((0 : Int32) + (fE 0))) + (fE 1)))))])
    have hc15 : ((own_unmix (own_mix (((31 : Int32) * ((0 : Int32) + (fE 0))) + (fE 1))))).toInt = ((((31 : Int32) * p2) + p3)).toInt := by rw [own_back, hfE_0, hfE_1, own_p2]
    refine own_step (fun t k => XS.icmpNo X14.here hx rfl (hb hby at_163) rfl (own_ce (x := (own_unmix (own_mix (((31 : Int32) * ((0 : Int32) + (fE 0))) + (fE 1))))) (y := (((31 : Int32) * p2) + p3)) rfl rfl hc15).2 k) ?_
    show own_Fin _ _ _ _ _ _ _ _ (mkF m 166 #[.val (.int p1), .val (.int p2), .val (.int p3), .val (.int p4), .val (.int p5), .val (.int (2 : Int32)), .val (.ref b10), .val (.int (((31 : Int32) * p2) + p3)), .val (.int (own_mix (((31 : Int32) * ((0 : Int32) + (fE 0))) + (fE 1))))] [])
    refine own_step (fun t k => XS.iconst X14.here hx rfl (hb hby at_166) k) ?_
    show own_Fin _ _ _ _ _ _ _ _ (mkF m 167 #[.val (.int p1), .val (.int p2), .val (.int p3), .val (.int p4), .val (.int p5), .val (.int (2 : Int32)), .val (.ref b10), .val (.int (((31 : Int32) * p2) + p3)), .val (.int (own_mix (((31 : Int32) * ((0 : Int32) + (fE 0))) + (fE 1))))] [(.int (1 : Int32))])
    refine own_step (fun t k => XS.goto X14.here hx rfl (pc0 := 167) (pc' := 171) rfl (hb hby at_167) (by decide) (by decide) k) ?_
    show own_Fin _ _ _ _ _ _ _ _ (mkF m 171 #[.val (.int p1), .val (.int p2), .val (.int p3), .val (.int p4), .val (.int p5), .val (.int (2 : Int32)), .val (.ref b10), .val (.int (((31 : Int32) * p2) + p3)), .val (.int (own_mix (((31 : Int32) * ((0 : Int32) + (fE 0))) + (fE 1))))] [(.int (1 : Int32))])
    refine own_retZ X14 hx hlk Bd.returns (hb hby at_171) (z' := (1 : Int32)) (by decide) (by decide) (by decide) hh14 ?_
    exact ⟨rfl, Nf⟩
  · skip
    show own_Fin _ _ _ _ _ _ _ _ (mkF m 8 #[.val (.int p1), .val (.int p2), .val (.int p3), .val (.int p4), .val (.int p5), .val (.int (3 : Int32)), .unset, .unset, .unset] [])
    refine own_step (fun t k => XS.iload X0.here hx rfl (hb hby at_8) rfl k) ?_
    show own_Fin _ _ _ _ _ _ _ _ (mkF m 10 #[.val (.int p1), .val (.int p2), .val (.int p3), .val (.int p4), .val (.int p5), .val (.int (3 : Int32)), .unset, .unset, .unset] [(.int (3 : Int32))])
    obtain ⟨T16, h16, k16, X16, e16, E16, A16, st16⟩ := newP X0 hx hZ (hw _ (List.mem_of_getElem? (i := 0) rfl)) e0 (g := (mkF m 10 #[.val (.int p1), .val (.int p2), .val (.int p3), .val (.int p4), .val (.int p5), .val (.int (3 : Int32)), .unset, .unset, .unset] [(.int (3 : Int32))])) rfl (hb hby at_10) rfl (by decide) (cap := 3) (by decide) (by decide) (by decide) (by decide)
    obtain ⟨b16, g16⟩ : ∃ z, z = h0.size := ⟨_, rfl⟩
    rw [← g16] at A16 st16
    refine own_step st16 ?_
    have g_b16 : n0 ≤ b16 := Nat.le_trans Zs (Nat.le_of_eq g16.symm)
    replace Zs := Nat.le_trans Zs E16.1
    have V_b16 := own_AI.newI (n := 3) A16 (by decide)
    show own_Fin _ _ _ _ _ _ _ _ (mkF m 12 #[.val (.int p1), .val (.int p2), .val (.int p3), .val (.int p4), .val (.int p5), .val (.int (3 : Int32)), .unset, .unset, .unset] [(.ref b16)])
    refine own_step (fun t k => XS.astore X16.here hx rfl (hb hby at_12) rfl rfl (l' := #[.val (.int p1), .val (.int p2), .val (.int p3), .val (.int p4), .val (.int p5), .val (.int (3 : Int32)), .val (.ref b16), .unset, .unset]) rfl k) ?_
    show own_Fin _ _ _ _ _ _ _ _ (mkF m 14 #[.val (.int p1), .val (.int p2), .val (.int p3), .val (.int p4), .val (.int p5), .val (.int (3 : Int32)), .val (.ref b16), .unset, .unset] [])
    refine own_step (fun t k => XS.iload X16.here hx rfl (hb hby at_14) rfl k) ?_
    show own_Fin _ _ _ _ _ _ _ _ (mkF m 16 #[.val (.int p1), .val (.int p2), .val (.int p3), .val (.int p4), .val (.int p5), .val (.int (3 : Int32)), .val (.ref b16), .unset, .unset] [(.int (3 : Int32))])
    refine own_step (fun t k => XS.ifYes X16.here hx rfl (pc0 := 16) (pc' := 25) rfl (hb hby at_16) rfl (by decide) (by decide) (by decide) k) ?_
    show own_Fin _ _ _ _ _ _ _ _ (mkF m 25 #[.val (.int p1), .val (.int p2), .val (.int p3), .val (.int p4), .val (.int p5), .val (.int (3 : Int32)), .val (.ref b16), .unset, .unset] [])
    refine own_step (fun t k => XS.iload X16.here hx rfl (hb hby at_25) rfl k) ?_
    show own_Fin _ _ _ _ _ _ _ _ (mkF m 27 #[.val (.int p1), .val (.int p2), .val (.int p3), .val (.int p4), .val (.int p5), .val (.int (3 : Int32)), .val (.ref b16), .unset, .unset] [(.int (3 : Int32))])
    refine own_step (fun t k => XS.iconst X16.here hx rfl (hb hby at_27) k) ?_
    show own_Fin _ _ _ _ _ _ _ _ (mkF m 28 #[.val (.int p1), .val (.int p2), .val (.int p3), .val (.int p4), .val (.int p5), .val (.int (3 : Int32)), .val (.ref b16), .unset, .unset] [(.int (1 : Int32)), (.int (3 : Int32))])
    refine own_step (fun t k => XS.icmpYes X16.here hx rfl (pc0 := 28) (pc' := 42) rfl (hb hby at_28) rfl (by decide) (by decide) (by decide) k) ?_
    show own_Fin _ _ _ _ _ _ _ _ (mkF m 42 #[.val (.int p1), .val (.int p2), .val (.int p3), .val (.int p4), .val (.int p5), .val (.int (3 : Int32)), .val (.ref b16), .unset, .unset] [])
    refine own_step (fun t k => XS.iload X16.here hx rfl (hb hby at_42) rfl k) ?_
    show own_Fin _ _ _ _ _ _ _ _ (mkF m 44 #[.val (.int p1), .val (.int p2), .val (.int p3), .val (.int p4), .val (.int p5), .val (.int (3 : Int32)), .val (.ref b16), .unset, .unset] [(.int (3 : Int32))])
    refine own_step (fun t k => XS.iconst X16.here hx rfl (hb hby at_44) k) ?_
    show own_Fin _ _ _ _ _ _ _ _ (mkF m 45 #[.val (.int p1), .val (.int p2), .val (.int p3), .val (.int p4), .val (.int p5), .val (.int (3 : Int32)), .val (.ref b16), .unset, .unset] [(.int (2 : Int32)), (.int (3 : Int32))])
    refine own_step (fun t k => XS.icmpYes X16.here hx rfl (pc0 := 45) (pc' := 69) rfl (hb hby at_45) rfl (by decide) (by decide) (by decide) k) ?_
    show own_Fin _ _ _ _ _ _ _ _ (mkF m 69 #[.val (.int p1), .val (.int p2), .val (.int p3), .val (.int p4), .val (.int p5), .val (.int (3 : Int32)), .val (.ref b16), .unset, .unset] [])
    refine own_step (fun t k => XS.iload X16.here hx rfl (hb hby at_69) rfl k) ?_
    show own_Fin _ _ _ _ _ _ _ _ (mkF m 71 #[.val (.int p1), .val (.int p2), .val (.int p3), .val (.int p4), .val (.int p5), .val (.int (3 : Int32)), .val (.ref b16), .unset, .unset] [(.int (3 : Int32))])
    refine own_step (fun t k => XS.iconst X16.here hx rfl (hb hby at_71) k) ?_
    show own_Fin _ _ _ _ _ _ _ _ (mkF m 72 #[.val (.int p1), .val (.int p2), .val (.int p3), .val (.int p4), .val (.int p5), .val (.int (3 : Int32)), .val (.ref b16), .unset, .unset] [(.int (3 : Int32)), (.int (3 : Int32))])
    refine own_step (fun t k => XS.icmpNo X16.here hx rfl (hb hby at_72) rfl (by decide) k) ?_
    show own_Fin _ _ _ _ _ _ _ _ (mkF m 75 #[.val (.int p1), .val (.int p2), .val (.int p3), .val (.int p4), .val (.int p5), .val (.int (3 : Int32)), .val (.ref b16), .unset, .unset] [])
    refine own_step (fun t k => XS.aload X16.here hx rfl (hb hby at_75) rfl rfl k) ?_
    show own_Fin _ _ _ _ _ _ _ _ (mkF m 77 #[.val (.int p1), .val (.int p2), .val (.int p3), .val (.int p4), .val (.int p5), .val (.int (3 : Int32)), .val (.ref b16), .unset, .unset] [(.ref b16)])
    refine own_step (fun t k => XS.iconst X16.here hx rfl (hb hby at_77) k) ?_
    show own_Fin _ _ _ _ _ _ _ _ (mkF m 78 #[.val (.int p1), .val (.int p2), .val (.int p3), .val (.int p4), .val (.int p5), .val (.int (3 : Int32)), .val (.ref b16), .unset, .unset] [(.int (0 : Int32)), (.ref b16)])
    refine own_step (fun t k => XS.iloadN X16.here hx rfl (hb hby at_78) rfl k) ?_
    show own_Fin _ _ _ _ _ _ _ _ (mkF m 79 #[.val (.int p1), .val (.int p2), .val (.int p3), .val (.int p4), .val (.int p5), .val (.int (3 : Int32)), .val (.ref b16), .unset, .unset] [(.int p2), (.int (0 : Int32)), (.ref b16)])
    obtain ⟨T17, h17, X17, e17, W17, B17, st17⟩ := own_iastore X16 hx hZ e16 V_b16 (j := (0 : Int32)) (k := 0) rfl (by decide) (x := p2) (pc := 79) (Ls := #[.val (.int p1), .val (.int p2), .val (.int p3), .val (.int p4), .val (.int p5), .val (.int (3 : Int32)), .val (.ref b16), .unset, .unset]) (rest := []) (hb hby at_79) rfl
    refine own_step st17 ?_
    replace Zs : n0 ≤ h17.size := by rw [W17.size]; exact Zs
    replace V_b16 := B17
    replace Nf := Fr.snoc X17 Nf g_b16
    show own_Fin _ _ _ _ _ _ _ _ (mkF m 80 #[.val (.int p1), .val (.int p2), .val (.int p3), .val (.int p4), .val (.int p5), .val (.int (3 : Int32)), .val (.ref b16), .unset, .unset] [])
    refine own_step (fun t k => XS.aload X17.here hx rfl (hb hby at_80) rfl rfl k) ?_
    show own_Fin _ _ _ _ _ _ _ _ (mkF m 82 #[.val (.int p1), .val (.int p2), .val (.int p3), .val (.int p4), .val (.int p5), .val (.int (3 : Int32)), .val (.ref b16), .unset, .unset] [(.ref b16)])
    refine own_step (fun t k => XS.iconst X17.here hx rfl (hb hby at_82) k) ?_
    show own_Fin _ _ _ _ _ _ _ _ (mkF m 83 #[.val (.int p1), .val (.int p2), .val (.int p3), .val (.int p4), .val (.int p5), .val (.int (3 : Int32)), .val (.ref b16), .unset, .unset] [(.int (1 : Int32)), (.ref b16)])
    refine own_step (fun t k => XS.iloadN X17.here hx rfl (hb hby at_83) rfl k) ?_
    show own_Fin _ _ _ _ _ _ _ _ (mkF m 84 #[.val (.int p1), .val (.int p2), .val (.int p3), .val (.int p4), .val (.int p5), .val (.int (3 : Int32)), .val (.ref b16), .unset, .unset] [(.int p3), (.int (1 : Int32)), (.ref b16)])
    obtain ⟨T18, h18, X18, e18, W18, B18, st18⟩ := own_iastore X17 hx hZ e17 V_b16 (j := (1 : Int32)) (k := 1) rfl (by decide) (x := p3) (pc := 84) (Ls := #[.val (.int p1), .val (.int p2), .val (.int p3), .val (.int p4), .val (.int p5), .val (.int (3 : Int32)), .val (.ref b16), .unset, .unset]) (rest := []) (hb hby at_84) rfl
    refine own_step st18 ?_
    replace Zs : n0 ≤ h18.size := by rw [W18.size]; exact Zs
    replace V_b16 := B18
    replace Nf := Fr.snoc X18 Nf g_b16
    show own_Fin _ _ _ _ _ _ _ _ (mkF m 85 #[.val (.int p1), .val (.int p2), .val (.int p3), .val (.int p4), .val (.int p5), .val (.int (3 : Int32)), .val (.ref b16), .unset, .unset] [])
    refine own_step (fun t k => XS.aload X18.here hx rfl (hb hby at_85) rfl rfl k) ?_
    show own_Fin _ _ _ _ _ _ _ _ (mkF m 87 #[.val (.int p1), .val (.int p2), .val (.int p3), .val (.int p4), .val (.int p5), .val (.int (3 : Int32)), .val (.ref b16), .unset, .unset] [(.ref b16)])
    refine own_step (fun t k => XS.iconst X18.here hx rfl (hb hby at_87) k) ?_
    show own_Fin _ _ _ _ _ _ _ _ (mkF m 88 #[.val (.int p1), .val (.int p2), .val (.int p3), .val (.int p4), .val (.int p5), .val (.int (3 : Int32)), .val (.ref b16), .unset, .unset] [(.int (2 : Int32)), (.ref b16)])
    refine own_step (fun t k => XS.iloadN X18.here hx rfl (hb hby at_88) rfl k) ?_
    show own_Fin _ _ _ _ _ _ _ _ (mkF m 89 #[.val (.int p1), .val (.int p2), .val (.int p3), .val (.int p4), .val (.int p5), .val (.int (3 : Int32)), .val (.ref b16), .unset, .unset] [(.int p4), (.int (2 : Int32)), (.ref b16)])
    obtain ⟨T19, h19, X19, e19, W19, B19, st19⟩ := own_iastore X18 hx hZ e18 V_b16 (j := (2 : Int32)) (k := 2) rfl (by decide) (x := p4) (pc := 89) (Ls := #[.val (.int p1), .val (.int p2), .val (.int p3), .val (.int p4), .val (.int p5), .val (.int (3 : Int32)), .val (.ref b16), .unset, .unset]) (rest := []) (hb hby at_89) rfl
    refine own_step st19 ?_
    replace Zs : n0 ≤ h19.size := by rw [W19.size]; exact Zs
    replace V_b16 := B19
    replace Nf := Fr.snoc X19 Nf g_b16
    show own_Fin _ _ _ _ _ _ _ _ (mkF m 90 #[.val (.int p1), .val (.int p2), .val (.int p3), .val (.int p4), .val (.int p5), .val (.int (3 : Int32)), .val (.ref b16), .unset, .unset] [])
    refine own_step (fun t k => XS.sipush X19.here hx rfl (hb hby at_90) k) ?_
    show own_Fin _ _ _ _ _ _ _ _ (mkF m 93 #[.val (.int p1), .val (.int p2), .val (.int p3), .val (.int p4), .val (.int p5), .val (.int (3 : Int32)), .val (.ref b16), .unset, .unset] [(.int (961 : Int32))])
    refine own_step (fun t k => XS.iloadN X19.here hx rfl (hb hby at_93) rfl k) ?_
    show own_Fin _ _ _ _ _ _ _ _ (mkF m 94 #[.val (.int p1), .val (.int p2), .val (.int p3), .val (.int p4), .val (.int p5), .val (.int (3 : Int32)), .val (.ref b16), .unset, .unset] [(.int p2), (.int (961 : Int32))])
    refine own_step (fun t k => XS.imul X19.here hx rfl (hb hby at_94) rfl k) ?_
    show own_Fin _ _ _ _ _ _ _ _ (mkF m 95 #[.val (.int p1), .val (.int p2), .val (.int p3), .val (.int p4), .val (.int p5), .val (.int (3 : Int32)), .val (.ref b16), .unset, .unset] [(.int ((961 : Int32) * p2))])
    refine own_step (fun t k => XS.bipush X19.here hx rfl (hb hby at_95) k) ?_
    show own_Fin _ _ _ _ _ _ _ _ (mkF m 97 #[.val (.int p1), .val (.int p2), .val (.int p3), .val (.int p4), .val (.int p5), .val (.int (3 : Int32)), .val (.ref b16), .unset, .unset] [(.int (31 : Int32)), (.int ((961 : Int32) * p2))])
    refine own_step (fun t k => XS.iloadN X19.here hx rfl (hb hby at_97) rfl k) ?_
    show own_Fin _ _ _ _ _ _ _ _ (mkF m 98 #[.val (.int p1), .val (.int p2), .val (.int p3), .val (.int p4), .val (.int p5), .val (.int (3 : Int32)), .val (.ref b16), .unset, .unset] [(.int p3), (.int (31 : Int32)), (.int ((961 : Int32) * p2))])
    refine own_step (fun t k => XS.imul X19.here hx rfl (hb hby at_98) rfl k) ?_
    show own_Fin _ _ _ _ _ _ _ _ (mkF m 99 #[.val (.int p1), .val (.int p2), .val (.int p3), .val (.int p4), .val (.int p5), .val (.int (3 : Int32)), .val (.ref b16), .unset, .unset] [(.int ((31 : Int32) * p3)), (.int ((961 : Int32) * p2))])
    refine own_step (fun t k => XS.iadd X19.here hx rfl (hb hby at_99) rfl k) ?_
    show own_Fin _ _ _ _ _ _ _ _ (mkF m 100 #[.val (.int p1), .val (.int p2), .val (.int p3), .val (.int p4), .val (.int p5), .val (.int (3 : Int32)), .val (.ref b16), .unset, .unset] [(.int (((961 : Int32) * p2) + ((31 : Int32) * p3)))])
    refine own_step (fun t k => XS.iloadN X19.here hx rfl (hb hby at_100) rfl k) ?_
    show own_Fin _ _ _ _ _ _ _ _ (mkF m 101 #[.val (.int p1), .val (.int p2), .val (.int p3), .val (.int p4), .val (.int p5), .val (.int (3 : Int32)), .val (.ref b16), .unset, .unset] [(.int p4), (.int (((961 : Int32) * p2) + ((31 : Int32) * p3)))])
    refine own_step (fun t k => XS.iadd X19.here hx rfl (hb hby at_101) rfl k) ?_
    show own_Fin _ _ _ _ _ _ _ _ (mkF m 102 #[.val (.int p1), .val (.int p2), .val (.int p3), .val (.int p4), .val (.int p5), .val (.int (3 : Int32)), .val (.ref b16), .unset, .unset] [(.int ((((961 : Int32) * p2) + ((31 : Int32) * p3)) + p4))])
    refine own_step (fun t k => XS.istore X19.here hx rfl (hb hby at_102) rfl (l' := #[.val (.int p1), .val (.int p2), .val (.int p3), .val (.int p4), .val (.int p5), .val (.int (3 : Int32)), .val (.ref b16), .val (.int ((((961 : Int32) * p2) + ((31 : Int32) * p3)) + p4)), .unset]) rfl k) ?_
    show own_Fin _ _ _ _ _ _ _ _ (mkF m 104 #[.val (.int p1), .val (.int p2), .val (.int p3), .val (.int p4), .val (.int p5), .val (.int (3 : Int32)), .val (.ref b16), .val (.int ((((961 : Int32) * p2) + ((31 : Int32) * p3)) + p4)), .unset] [])
    refine own_step (fun t k => XS.goto X19.here hx rfl (pc0 := 104) (pc' := 149) rfl (hb hby at_104) (by decide) (by decide) k) ?_
    show own_Fin _ _ _ _ _ _ _ _ (mkF m 149 #[.val (.int p1), .val (.int p2), .val (.int p3), .val (.int p4), .val (.int p5), .val (.int (3 : Int32)), .val (.ref b16), .val (.int ((((961 : Int32) * p2) + ((31 : Int32) * p3)) + p4)), .unset] [])
    obtain ⟨fE, V_b16, hfE_0, hfE_1, hfE_2⟩ : ∃ f, own_AI Z h19 b16 .int 3 f ∧ f 0 = p2 ∧ f 1 = p3 ∧ f 2 = p4 := ⟨_, V_b16, rfl, rfl, rfl⟩
    refine own_step (fun t k => XS.aload X19.here hx rfl (hb hby at_149) rfl rfl k) ?_
    show own_Fin _ _ _ _ _ _ _ _ (mkF m 151 #[.val (.int p1), .val (.int p2), .val (.int p3), .val (.int p4), .val (.int p5), .val (.int (3 : Int32)), .val (.ref b16), .val (.int ((((961 : Int32) * p2) + ((31 : Int32) * p3)) + p4)), .unset] [(.ref b16)])
    obtain ⟨_, _, ⟨T20, L20, k20, n20⟩, -, X20, ⟨Lc20, hQ20, l20, y20, z20⟩, st20⟩ := Jvm.LawKit.callS X19 hx (y := (⟨"com/example/limfjord/limfjord/engine/StateStore", "hash", "([I)I"⟩ : MethodName)) hown (mvT hZ (hw _ (List.mem_of_getElem? (i := 1) rfl))) (mvT hZ (hw _ (List.mem_of_getElem? (i := 2) rfl))) (mvT hZ (hw _ (List.mem_of_getElem? (i := 3) rfl))) (mvT hZ (hw _ (List.mem_of_getElem? (i := 4) rfl))) (by decide) (backOf (W := 0) (rm4 l Z a0 hw [] b16 _ h19 n0 Zs V_b16) hZ (hw _ (List.mem_of_getElem? (i := 4) rfl)) (hw _ (List.mem_of_getElem? (i := 3) rfl)) (by decide) (by decide)) (g := (mkF m 151 #[.val (.int p1), .val (.int p2), .val (.int p3), .val (.int p4), .val (.int p5), .val (.int (3 : Int32)), .val (.ref b16), .val (.int ((((961 : Int32) * p2) + ((31 : Int32) * p3)) + p4)), .unset] [(.ref b16)])) rfl (by rw [hml]; rfl) (argsL := [(.ref b16)]) (rest := []) (lenOf own_pd_0 rfl) rfl (by show 2 * 0 + _ ≤ _; exact Nat.le_of_eq rfl) (hb hby at_151) (fun _ _ => ⟨rfl, e19, (by decide : 1 + 0 ≤ _), (by decide : 3 + 0 ≤ _)⟩)
    dsimp only [Pt.U, Pt.locs, Pt.cells, Pt.slots] at X20 l20 y20 z20 st20 hQ20
    subst l20 y20 z20
    obtain ⟨rfl, Nq20, hh20⟩ := hQ20
    replace Nf := Fr.app Nf Nq20
    refine own_step st20 ?_
    show own_Fin _ _ _ _ _ _ _ _ (mkF m 154 #[.val (.int p1), .val (.int p2), .val (.int p3), .val (.int p4), .val (.int p5), .val (.int (3 : Int32)), .val (.ref b16), .val (.int ((((961 : Int32) * p2) + ((31 : Int32) * p3)) + p4)), .unset] [(.int (own_mix (((31 : Int32) * (((31 : Int32) * ((0 : Int32) + (fE 0))) + (fE 1))) + (fE 2))))])
    refine own_step (fun t k => XS.istore X20.here hx rfl (hb hby at_154) rfl (l' := #[.val (.int p1), .val (.int p2), .val (.int p3), .val (.int p4), .val (.int p5), .val (.int (3 : Int32)), .val (.ref b16), .val (.int ((((961 : Int32) * p2) + ((31 : Int32) * p3)) + p4)), .val (.int (own_mix (((31 : Int32) * (((31 : Int32) * ((0 : Int32) + (fE 0))) + (fE 1))) + (fE 2))))]) rfl k) ?_
    show own_Fin _ _ _ _ _ _ _ _ (mkF m 156 #[.val (.int p1), .val (.int p2), .val (.int p3), .val (.int p4), .val (.int p5), .val (.int (3 : Int32)), .val (.ref b16), .val (.int ((((961 : Int32) * p2) + ((31 : Int32) * p3)) + p4)), .val (.int (own_mix (((31 : Int32) * (((31 : Int32) * ((0 : Int32) + (fE 0))) + (fE 1))) + (fE 2))))] [])
    refine own_step (fun t k => XS.iload X20.here hx rfl (hb hby at_156) rfl k) ?_
    show own_Fin _ _ _ _ _ _ _ _ (mkF m 158 #[.val (.int p1), .val (.int p2), .val (.int p3), .val (.int p4), .val (.int p5), .val (.int (3 : Int32)), .val (.ref b16), .val (.int ((((961 : Int32) * p2) + ((31 : Int32) * p3)) + p4)), .val (.int (own_mix (((31 : Int32) * (((31 : Int32) * ((0 : Int32) + (fE 0))) + (fE 1))) + (fE 2))))] [(.int (own_mix (((31 : Int32) * (((31 : Int32) * ((0 : Int32) + (fE 0))) + (fE 1))) + (fE 2))))])
    obtain ⟨_, _, ⟨T21, L21, k21, n21⟩, -, X21, ⟨Lc21, hQ21, l21, y21, z21⟩, st21⟩ := Jvm.LawKit.callS X20 hx (y := (⟨"com/example/limfjord/limfjord/engine/StateStoreHashPinLaw", "unmix", "(I)I"⟩ : MethodName)) hown (mvT hZ (hw _ (List.mem_of_getElem? (i := 7) rfl))) (mvT hZ (hw _ (List.mem_of_getElem? (i := 8) rfl))) (mvT hZ (hw _ (List.mem_of_getElem? (i := 9) rfl))) (mvT hZ (hw _ (List.mem_of_getElem? (i := 10) rfl))) (by decide) (backOf (W := 0) (rm7 l Z a0 hw [] (own_mix (((31 : Int32) * (((31 : Int32) * ((0 : Int32) + (fE 0))) + (fE 1))) + (fE 2))) h19 n0 Zs) hZ (hw _ (List.mem_of_getElem? (i := 10) rfl)) (hw _ (List.mem_of_getElem? (i := 9) rfl)) (by decide) (by decide)) (g := (mkF m 158 #[.val (.int p1), .val (.int p2), .val (.int p3), .val (.int p4), .val (.int p5), .val (.int (3 : Int32)), .val (.ref b16), .val (.int ((((961 : Int32) * p2) + ((31 : Int32) * p3)) + p4)), .val (.int (own_mix (((31 : Int32) * (((31 : Int32) * ((0 : Int32) + (fE 0))) + (fE 1))) + (fE 2))))] [(.int (own_mix (((31 : Int32) * (((31 : Int32) * ((0 : Int32) + (fE 0))) + (fE 1))) + (fE 2))))])) rfl (by rw [hml]; rfl) (argsL := [(.int (own_mix (((31 : Int32) * (((31 : Int32) * ((0 : Int32) + (fE 0))) + (fE 1))) + (fE 2))))]) (rest := []) (lenOf own_pd_1 rfl) rfl (by show 2 * 0 + _ ≤ _; exact Nat.le_of_eq rfl) (hb hby at_158) (fun _ _ => ⟨rfl, hh20, (by decide : 1 + 0 ≤ _), (by decide : 3 + 0 ≤ _)⟩)
    dsimp only [Pt.U, Pt.locs, Pt.cells, Pt.slots] at X21 l21 y21 z21 st21 hQ21
    subst l21 y21 z21
    obtain ⟨rfl, Nq21, hh21⟩ := hQ21
    replace Nf := Fr.app Nf Nq21
    refine own_step st21 ?_
    show own_Fin _ _ _ _ _ _ _ _ (mkF m 161 #[.val (.int p1), .val (.int p2), .val (.int p3), .val (.int p4), .val (.int p5), .val (.int (3 : Int32)), .val (.ref b16), .val (.int ((((961 : Int32) * p2) + ((31 : Int32) * p3)) + p4)), .val (.int (own_mix (((31 : Int32) * (((31 : Int32) * ((0 : Int32) + (fE 0))) + (fE 1))) + (fE 2))))] [(.int (own_unmix (own_mix (((31 : Int32) * (((31 : Int32) * ((0 : Int32) + (fE 0))) + (fE 1))) + (fE 2)))))])
    refine own_step (fun t k => XS.iload X21.here hx rfl (hb hby at_161) rfl k) ?_
    show own_Fin _ _ _ _ _ _ _ _ (mkF m 163 #[.val (.int p1), .val (.int p2), .val (.int p3), .val (.int p4), .val (.int p5), .val (.int (3 : Int32)), .val (.ref b16), .val (.int ((((961 : Int32) * p2) + ((31 : Int32) * p3)) + p4)), .val (.int (own_mix (((31 : Int32) * (((31 : Int32) * ((0 : Int32) + (fE 0))) + (fE 1))) + (fE 2))))] [(.int ((((961 : Int32) * p2) + ((31 : Int32) * p3)) + p4)), (.int (own_unmix (own_mix (((31 : Int32) * (((31 : Int32) * ((0 : Int32) + (fE 0))) + (fE 1))) + (fE 2)))))])
    have hc22 : ((own_unmix (own_mix (((31 : Int32) * (((31 : Int32) * ((0 : Int32) + (fE 0))) + (fE 1))) + (fE 2))))).toInt = (((((961 : Int32) * p2) + ((31 : Int32) * p3)) + p4)).toInt := by rw [own_back, hfE_0, hfE_1, hfE_2, own_p3]
    refine own_step (fun t k => XS.icmpNo X21.here hx rfl (hb hby at_163) rfl (own_ce (x := (own_unmix (own_mix (((31 : Int32) * (((31 : Int32) * ((0 : Int32) + (fE 0))) + (fE 1))) + (fE 2))))) (y := ((((961 : Int32) * p2) + ((31 : Int32) * p3)) + p4)) rfl rfl hc22).2 k) ?_
    show own_Fin _ _ _ _ _ _ _ _ (mkF m 166 #[.val (.int p1), .val (.int p2), .val (.int p3), .val (.int p4), .val (.int p5), .val (.int (3 : Int32)), .val (.ref b16), .val (.int ((((961 : Int32) * p2) + ((31 : Int32) * p3)) + p4)), .val (.int (own_mix (((31 : Int32) * (((31 : Int32) * ((0 : Int32) + (fE 0))) + (fE 1))) + (fE 2))))] [])
    refine own_step (fun t k => XS.iconst X21.here hx rfl (hb hby at_166) k) ?_
    show own_Fin _ _ _ _ _ _ _ _ (mkF m 167 #[.val (.int p1), .val (.int p2), .val (.int p3), .val (.int p4), .val (.int p5), .val (.int (3 : Int32)), .val (.ref b16), .val (.int ((((961 : Int32) * p2) + ((31 : Int32) * p3)) + p4)), .val (.int (own_mix (((31 : Int32) * (((31 : Int32) * ((0 : Int32) + (fE 0))) + (fE 1))) + (fE 2))))] [(.int (1 : Int32))])
    refine own_step (fun t k => XS.goto X21.here hx rfl (pc0 := 167) (pc' := 171) rfl (hb hby at_167) (by decide) (by decide) k) ?_
    show own_Fin _ _ _ _ _ _ _ _ (mkF m 171 #[.val (.int p1), .val (.int p2), .val (.int p3), .val (.int p4), .val (.int p5), .val (.int (3 : Int32)), .val (.ref b16), .val (.int ((((961 : Int32) * p2) + ((31 : Int32) * p3)) + p4)), .val (.int (own_mix (((31 : Int32) * (((31 : Int32) * ((0 : Int32) + (fE 0))) + (fE 1))) + (fE 2))))] [(.int (1 : Int32))])
    refine own_retZ X21 hx hlk Bd.returns (hb hby at_171) (z' := (1 : Int32)) (by decide) (by decide) (by decide) hh21 ?_
    exact ⟨rfl, Nf⟩
  · skip
    show own_Fin _ _ _ _ _ _ _ _ (mkF m 8 #[.val (.int p1), .val (.int p2), .val (.int p3), .val (.int p4), .val (.int p5), .val (.int (4 : Int32)), .unset, .unset, .unset] [])
    refine own_step (fun t k => XS.iload X0.here hx rfl (hb hby at_8) rfl k) ?_
    show own_Fin _ _ _ _ _ _ _ _ (mkF m 10 #[.val (.int p1), .val (.int p2), .val (.int p3), .val (.int p4), .val (.int p5), .val (.int (4 : Int32)), .unset, .unset, .unset] [(.int (4 : Int32))])
    obtain ⟨T23, h23, k23, X23, e23, E23, A23, st23⟩ := newP X0 hx hZ (hw _ (List.mem_of_getElem? (i := 0) rfl)) e0 (g := (mkF m 10 #[.val (.int p1), .val (.int p2), .val (.int p3), .val (.int p4), .val (.int p5), .val (.int (4 : Int32)), .unset, .unset, .unset] [(.int (4 : Int32))])) rfl (hb hby at_10) rfl (by decide) (cap := 4) (by decide) (by decide) (by decide) (by decide)
    obtain ⟨b23, g23⟩ : ∃ z, z = h0.size := ⟨_, rfl⟩
    rw [← g23] at A23 st23
    refine own_step st23 ?_
    have g_b23 : n0 ≤ b23 := Nat.le_trans Zs (Nat.le_of_eq g23.symm)
    replace Zs := Nat.le_trans Zs E23.1
    have V_b23 := own_AI.newI (n := 4) A23 (by decide)
    show own_Fin _ _ _ _ _ _ _ _ (mkF m 12 #[.val (.int p1), .val (.int p2), .val (.int p3), .val (.int p4), .val (.int p5), .val (.int (4 : Int32)), .unset, .unset, .unset] [(.ref b23)])
    refine own_step (fun t k => XS.astore X23.here hx rfl (hb hby at_12) rfl rfl (l' := #[.val (.int p1), .val (.int p2), .val (.int p3), .val (.int p4), .val (.int p5), .val (.int (4 : Int32)), .val (.ref b23), .unset, .unset]) rfl k) ?_
    show own_Fin _ _ _ _ _ _ _ _ (mkF m 14 #[.val (.int p1), .val (.int p2), .val (.int p3), .val (.int p4), .val (.int p5), .val (.int (4 : Int32)), .val (.ref b23), .unset, .unset] [])
    refine own_step (fun t k => XS.iload X23.here hx rfl (hb hby at_14) rfl k) ?_
    show own_Fin _ _ _ _ _ _ _ _ (mkF m 16 #[.val (.int p1), .val (.int p2), .val (.int p3), .val (.int p4), .val (.int p5), .val (.int (4 : Int32)), .val (.ref b23), .unset, .unset] [(.int (4 : Int32))])
    refine own_step (fun t k => XS.ifYes X23.here hx rfl (pc0 := 16) (pc' := 25) rfl (hb hby at_16) rfl (by decide) (by decide) (by decide) k) ?_
    show own_Fin _ _ _ _ _ _ _ _ (mkF m 25 #[.val (.int p1), .val (.int p2), .val (.int p3), .val (.int p4), .val (.int p5), .val (.int (4 : Int32)), .val (.ref b23), .unset, .unset] [])
    refine own_step (fun t k => XS.iload X23.here hx rfl (hb hby at_25) rfl k) ?_
    show own_Fin _ _ _ _ _ _ _ _ (mkF m 27 #[.val (.int p1), .val (.int p2), .val (.int p3), .val (.int p4), .val (.int p5), .val (.int (4 : Int32)), .val (.ref b23), .unset, .unset] [(.int (4 : Int32))])
    refine own_step (fun t k => XS.iconst X23.here hx rfl (hb hby at_27) k) ?_
    show own_Fin _ _ _ _ _ _ _ _ (mkF m 28 #[.val (.int p1), .val (.int p2), .val (.int p3), .val (.int p4), .val (.int p5), .val (.int (4 : Int32)), .val (.ref b23), .unset, .unset] [(.int (1 : Int32)), (.int (4 : Int32))])
    refine own_step (fun t k => XS.icmpYes X23.here hx rfl (pc0 := 28) (pc' := 42) rfl (hb hby at_28) rfl (by decide) (by decide) (by decide) k) ?_
    show own_Fin _ _ _ _ _ _ _ _ (mkF m 42 #[.val (.int p1), .val (.int p2), .val (.int p3), .val (.int p4), .val (.int p5), .val (.int (4 : Int32)), .val (.ref b23), .unset, .unset] [])
    refine own_step (fun t k => XS.iload X23.here hx rfl (hb hby at_42) rfl k) ?_
    show own_Fin _ _ _ _ _ _ _ _ (mkF m 44 #[.val (.int p1), .val (.int p2), .val (.int p3), .val (.int p4), .val (.int p5), .val (.int (4 : Int32)), .val (.ref b23), .unset, .unset] [(.int (4 : Int32))])
    refine own_step (fun t k => XS.iconst X23.here hx rfl (hb hby at_44) k) ?_
    show own_Fin _ _ _ _ _ _ _ _ (mkF m 45 #[.val (.int p1), .val (.int p2), .val (.int p3), .val (.int p4), .val (.int p5), .val (.int (4 : Int32)), .val (.ref b23), .unset, .unset] [(.int (2 : Int32)), (.int (4 : Int32))])
    refine own_step (fun t k => XS.icmpYes X23.here hx rfl (pc0 := 45) (pc' := 69) rfl (hb hby at_45) rfl (by decide) (by decide) (by decide) k) ?_
    show own_Fin _ _ _ _ _ _ _ _ (mkF m 69 #[.val (.int p1), .val (.int p2), .val (.int p3), .val (.int p4), .val (.int p5), .val (.int (4 : Int32)), .val (.ref b23), .unset, .unset] [])
    refine own_step (fun t k => XS.iload X23.here hx rfl (hb hby at_69) rfl k) ?_
    show own_Fin _ _ _ _ _ _ _ _ (mkF m 71 #[.val (.int p1), .val (.int p2), .val (.int p3), .val (.int p4), .val (.int p5), .val (.int (4 : Int32)), .val (.ref b23), .unset, .unset] [(.int (4 : Int32))])
    refine own_step (fun t k => XS.iconst X23.here hx rfl (hb hby at_71) k) ?_
    show own_Fin _ _ _ _ _ _ _ _ (mkF m 72 #[.val (.int p1), .val (.int p2), .val (.int p3), .val (.int p4), .val (.int p5), .val (.int (4 : Int32)), .val (.ref b23), .unset, .unset] [(.int (3 : Int32)), (.int (4 : Int32))])
    refine own_step (fun t k => XS.icmpYes X23.here hx rfl (pc0 := 72) (pc' := 107) rfl (hb hby at_72) rfl (by decide) (by decide) (by decide) k) ?_
    show own_Fin _ _ _ _ _ _ _ _ (mkF m 107 #[.val (.int p1), .val (.int p2), .val (.int p3), .val (.int p4), .val (.int p5), .val (.int (4 : Int32)), .val (.ref b23), .unset, .unset] [])
    refine own_step (fun t k => XS.aload X23.here hx rfl (hb hby at_107) rfl rfl k) ?_
    show own_Fin _ _ _ _ _ _ _ _ (mkF m 109 #[.val (.int p1), .val (.int p2), .val (.int p3), .val (.int p4), .val (.int p5), .val (.int (4 : Int32)), .val (.ref b23), .unset, .unset] [(.ref b23)])
    refine own_step (fun t k => XS.iconst X23.here hx rfl (hb hby at_109) k) ?_
    show own_Fin _ _ _ _ _ _ _ _ (mkF m 110 #[.val (.int p1), .val (.int p2), .val (.int p3), .val (.int p4), .val (.int p5), .val (.int (4 : Int32)), .val (.ref b23), .unset, .unset] [(.int (0 : Int32)), (.ref b23)])
    refine own_step (fun t k => XS.iloadN X23.here hx rfl (hb hby at_110) rfl k) ?_
    show own_Fin _ _ _ _ _ _ _ _ (mkF m 111 #[.val (.int p1), .val (.int p2), .val (.int p3), .val (.int p4), .val (.int p5), .val (.int (4 : Int32)), .val (.ref b23), .unset, .unset] [(.int p2), (.int (0 : Int32)), (.ref b23)])
    obtain ⟨T24, h24, X24, e24, W24, B24, st24⟩ := own_iastore X23 hx hZ e23 V_b23 (j := (0 : Int32)) (k := 0) rfl (by decide) (x := p2) (pc := 111) (Ls := #[.val (.int p1), .val (.int p2), .val (.int p3), .val (.int p4), .val (.int p5), .val (.int (4 : Int32)), .val (.ref b23), .unset, .unset]) (rest := []) (hb hby at_111) rfl
    refine own_step st24 ?_
    replace Zs : n0 ≤ h24.size := by rw [W24.size]; exact Zs
    replace V_b23 := B24
    replace Nf := Fr.snoc X24 Nf g_b23
    show own_Fin _ _ _ _ _ _ _ _ (mkF m 112 #[.val (.int p1), .val (.int p2), .val (.int p3), .val (.int p4), .val (.int p5), .val (.int (4 : Int32)), .val (.ref b23), .unset, .unset] [])
    refine own_step (fun t k => XS.aload X24.here hx rfl (hb hby at_112) rfl rfl k) ?_
    show own_Fin _ _ _ _ _ _ _ _ (mkF m 114 #[.val (.int p1), .val (.int p2), .val (.int p3), .val (.int p4), .val (.int p5), .val (.int (4 : Int32)), .val (.ref b23), .unset, .unset] [(.ref b23)])
    refine own_step (fun t k => XS.iconst X24.here hx rfl (hb hby at_114) k) ?_
    show own_Fin _ _ _ _ _ _ _ _ (mkF m 115 #[.val (.int p1), .val (.int p2), .val (.int p3), .val (.int p4), .val (.int p5), .val (.int (4 : Int32)), .val (.ref b23), .unset, .unset] [(.int (1 : Int32)), (.ref b23)])
    refine own_step (fun t k => XS.iloadN X24.here hx rfl (hb hby at_115) rfl k) ?_
    show own_Fin _ _ _ _ _ _ _ _ (mkF m 116 #[.val (.int p1), .val (.int p2), .val (.int p3), .val (.int p4), .val (.int p5), .val (.int (4 : Int32)), .val (.ref b23), .unset, .unset] [(.int p3), (.int (1 : Int32)), (.ref b23)])
    obtain ⟨T25, h25, X25, e25, W25, B25, st25⟩ := own_iastore X24 hx hZ e24 V_b23 (j := (1 : Int32)) (k := 1) rfl (by decide) (x := p3) (pc := 116) (Ls := #[.val (.int p1), .val (.int p2), .val (.int p3), .val (.int p4), .val (.int p5), .val (.int (4 : Int32)), .val (.ref b23), .unset, .unset]) (rest := []) (hb hby at_116) rfl
    refine own_step st25 ?_
    replace Zs : n0 ≤ h25.size := by rw [W25.size]; exact Zs
    replace V_b23 := B25
    replace Nf := Fr.snoc X25 Nf g_b23
    show own_Fin _ _ _ _ _ _ _ _ (mkF m 117 #[.val (.int p1), .val (.int p2), .val (.int p3), .val (.int p4), .val (.int p5), .val (.int (4 : Int32)), .val (.ref b23), .unset, .unset] [])
    refine own_step (fun t k => XS.aload X25.here hx rfl (hb hby at_117) rfl rfl k) ?_
    show own_Fin _ _ _ _ _ _ _ _ (mkF m 119 #[.val (.int p1), .val (.int p2), .val (.int p3), .val (.int p4), .val (.int p5), .val (.int (4 : Int32)), .val (.ref b23), .unset, .unset] [(.ref b23)])
    refine own_step (fun t k => XS.iconst X25.here hx rfl (hb hby at_119) k) ?_
    show own_Fin _ _ _ _ _ _ _ _ (mkF m 120 #[.val (.int p1), .val (.int p2), .val (.int p3), .val (.int p4), .val (.int p5), .val (.int (4 : Int32)), .val (.ref b23), .unset, .unset] [(.int (2 : Int32)), (.ref b23)])
    refine own_step (fun t k => XS.iloadN X25.here hx rfl (hb hby at_120) rfl k) ?_
    show own_Fin _ _ _ _ _ _ _ _ (mkF m 121 #[.val (.int p1), .val (.int p2), .val (.int p3), .val (.int p4), .val (.int p5), .val (.int (4 : Int32)), .val (.ref b23), .unset, .unset] [(.int p4), (.int (2 : Int32)), (.ref b23)])
    obtain ⟨T26, h26, X26, e26, W26, B26, st26⟩ := own_iastore X25 hx hZ e25 V_b23 (j := (2 : Int32)) (k := 2) rfl (by decide) (x := p4) (pc := 121) (Ls := #[.val (.int p1), .val (.int p2), .val (.int p3), .val (.int p4), .val (.int p5), .val (.int (4 : Int32)), .val (.ref b23), .unset, .unset]) (rest := []) (hb hby at_121) rfl
    refine own_step st26 ?_
    replace Zs : n0 ≤ h26.size := by rw [W26.size]; exact Zs
    replace V_b23 := B26
    replace Nf := Fr.snoc X26 Nf g_b23
    show own_Fin _ _ _ _ _ _ _ _ (mkF m 122 #[.val (.int p1), .val (.int p2), .val (.int p3), .val (.int p4), .val (.int p5), .val (.int (4 : Int32)), .val (.ref b23), .unset, .unset] [])
    refine own_step (fun t k => XS.aload X26.here hx rfl (hb hby at_122) rfl rfl k) ?_
    show own_Fin _ _ _ _ _ _ _ _ (mkF m 124 #[.val (.int p1), .val (.int p2), .val (.int p3), .val (.int p4), .val (.int p5), .val (.int (4 : Int32)), .val (.ref b23), .unset, .unset] [(.ref b23)])
    refine own_step (fun t k => XS.iconst X26.here hx rfl (hb hby at_124) k) ?_
    show own_Fin _ _ _ _ _ _ _ _ (mkF m 125 #[.val (.int p1), .val (.int p2), .val (.int p3), .val (.int p4), .val (.int p5), .val (.int (4 : Int32)), .val (.ref b23), .unset, .unset] [(.int (3 : Int32)), (.ref b23)])
    refine own_step (fun t k => XS.iload X26.here hx rfl (hb hby at_125) rfl k) ?_
    show own_Fin _ _ _ _ _ _ _ _ (mkF m 127 #[.val (.int p1), .val (.int p2), .val (.int p3), .val (.int p4), .val (.int p5), .val (.int (4 : Int32)), .val (.ref b23), .unset, .unset] [(.int p5), (.int (3 : Int32)), (.ref b23)])
    obtain ⟨T27, h27, X27, e27, W27, B27, st27⟩ := own_iastore X26 hx hZ e26 V_b23 (j := (3 : Int32)) (k := 3) rfl (by decide) (x := p5) (pc := 127) (Ls := #[.val (.int p1), .val (.int p2), .val (.int p3), .val (.int p4), .val (.int p5), .val (.int (4 : Int32)), .val (.ref b23), .unset, .unset]) (rest := []) (hb hby at_127) rfl
    refine own_step st27 ?_
    replace Zs : n0 ≤ h27.size := by rw [W27.size]; exact Zs
    replace V_b23 := B27
    replace Nf := Fr.snoc X27 Nf g_b23
    show own_Fin _ _ _ _ _ _ _ _ (mkF m 128 #[.val (.int p1), .val (.int p2), .val (.int p3), .val (.int p4), .val (.int p5), .val (.int (4 : Int32)), .val (.ref b23), .unset, .unset] [])
    refine own_step (fun t k => XS.sipush X27.here hx rfl (hb hby at_128) k) ?_
    show own_Fin _ _ _ _ _ _ _ _ (mkF m 131 #[.val (.int p1), .val (.int p2), .val (.int p3), .val (.int p4), .val (.int p5), .val (.int (4 : Int32)), .val (.ref b23), .unset, .unset] [(.int (29791 : Int32))])
    refine own_step (fun t k => XS.iloadN X27.here hx rfl (hb hby at_131) rfl k) ?_
    show own_Fin _ _ _ _ _ _ _ _ (mkF m 132 #[.val (.int p1), .val (.int p2), .val (.int p3), .val (.int p4), .val (.int p5), .val (.int (4 : Int32)), .val (.ref b23), .unset, .unset] [(.int p2), (.int (29791 : Int32))])
    refine own_step (fun t k => XS.imul X27.here hx rfl (hb hby at_132) rfl k) ?_
    show own_Fin _ _ _ _ _ _ _ _ (mkF m 133 #[.val (.int p1), .val (.int p2), .val (.int p3), .val (.int p4), .val (.int p5), .val (.int (4 : Int32)), .val (.ref b23), .unset, .unset] [(.int ((29791 : Int32) * p2))])
    refine own_step (fun t k => XS.sipush X27.here hx rfl (hb hby at_133) k) ?_
    show own_Fin _ _ _ _ _ _ _ _ (mkF m 136 #[.val (.int p1), .val (.int p2), .val (.int p3), .val (.int p4), .val (.int p5), .val (.int (4 : Int32)), .val (.ref b23), .unset, .unset] [(.int (961 : Int32)), (.int ((29791 : Int32) * p2))])
    refine own_step (fun t k => XS.iloadN X27.here hx rfl (hb hby at_136) rfl k) ?_
    show own_Fin _ _ _ _ _ _ _ _ (mkF m 137 #[.val (.int p1), .val (.int p2), .val (.int p3), .val (.int p4), .val (.int p5), .val (.int (4 : Int32)), .val (.ref b23), .unset, .unset] [(.int p3), (.int (961 : Int32)), (.int ((29791 : Int32) * p2))])
    refine own_step (fun t k => XS.imul X27.here hx rfl (hb hby at_137) rfl k) ?_
    show own_Fin _ _ _ _ _ _ _ _ (mkF m 138 #[.val (.int p1), .val (.int p2), .val (.int p3), .val (.int p4), .val (.int p5), .val (.int (4 : Int32)), .val (.ref b23), .unset, .unset] [(.int ((961 : Int32) * p3)), (.int ((29791 : Int32) * p2))])
    refine own_step (fun t k => XS.iadd X27.here hx rfl (hb hby at_138) rfl k) ?_
    show own_Fin _ _ _ _ _ _ _ _ (mkF m 139 #[.val (.int p1), .val (.int p2), .val (.int p3), .val (.int p4), .val (.int p5), .val (.int (4 : Int32)), .val (.ref b23), .unset, .unset] [(.int (((29791 : Int32) * p2) + ((961 : Int32) * p3)))])
    refine own_step (fun t k => XS.bipush X27.here hx rfl (hb hby at_139) k) ?_
    show own_Fin _ _ _ _ _ _ _ _ (mkF m 141 #[.val (.int p1), .val (.int p2), .val (.int p3), .val (.int p4), .val (.int p5), .val (.int (4 : Int32)), .val (.ref b23), .unset, .unset] [(.int (31 : Int32)), (.int (((29791 : Int32) * p2) + ((961 : Int32) * p3)))])
    refine own_step (fun t k => XS.iloadN X27.here hx rfl (hb hby at_141) rfl k) ?_
    show own_Fin _ _ _ _ _ _ _ _ (mkF m 142 #[.val (.int p1), .val (.int p2), .val (.int p3), .val (.int p4), .val (.int p5), .val (.int (4 : Int32)), .val (.ref b23), .unset, .unset] [(.int p4), (.int (31 : Int32)), (.int (((29791 : Int32) * p2) + ((961 : Int32) * p3)))])
    refine own_step (fun t k => XS.imul X27.here hx rfl (hb hby at_142) rfl k) ?_
    show own_Fin _ _ _ _ _ _ _ _ (mkF m 143 #[.val (.int p1), .val (.int p2), .val (.int p3), .val (.int p4), .val (.int p5), .val (.int (4 : Int32)), .val (.ref b23), .unset, .unset] [(.int ((31 : Int32) * p4)), (.int (((29791 : Int32) * p2) + ((961 : Int32) * p3)))])
    refine own_step (fun t k => XS.iadd X27.here hx rfl (hb hby at_143) rfl k) ?_
    show own_Fin _ _ _ _ _ _ _ _ (mkF m 144 #[.val (.int p1), .val (.int p2), .val (.int p3), .val (.int p4), .val (.int p5), .val (.int (4 : Int32)), .val (.ref b23), .unset, .unset] [(.int ((((29791 : Int32) * p2) + ((961 : Int32) * p3)) + ((31 : Int32) * p4)))])
    refine own_step (fun t k => XS.iload X27.here hx rfl (hb hby at_144) rfl k) ?_
    show own_Fin _ _ _ _ _ _ _ _ (mkF m 146 #[.val (.int p1), .val (.int p2), .val (.int p3), .val (.int p4), .val (.int p5), .val (.int (4 : Int32)), .val (.ref b23), .unset, .unset] [(.int p5), (.int ((((29791 : Int32) * p2) + ((961 : Int32) * p3)) + ((31 : Int32) * p4)))])
    refine own_step (fun t k => XS.iadd X27.here hx rfl (hb hby at_146) rfl k) ?_
    show own_Fin _ _ _ _ _ _ _ _ (mkF m 147 #[.val (.int p1), .val (.int p2), .val (.int p3), .val (.int p4), .val (.int p5), .val (.int (4 : Int32)), .val (.ref b23), .unset, .unset] [(.int (((((29791 : Int32) * p2) + ((961 : Int32) * p3)) + ((31 : Int32) * p4)) + p5))])
    refine own_step (fun t k => XS.istore X27.here hx rfl (hb hby at_147) rfl (l' := #[.val (.int p1), .val (.int p2), .val (.int p3), .val (.int p4), .val (.int p5), .val (.int (4 : Int32)), .val (.ref b23), .val (.int (((((29791 : Int32) * p2) + ((961 : Int32) * p3)) + ((31 : Int32) * p4)) + p5)), .unset]) rfl k) ?_
    show own_Fin _ _ _ _ _ _ _ _ (mkF m 149 #[.val (.int p1), .val (.int p2), .val (.int p3), .val (.int p4), .val (.int p5), .val (.int (4 : Int32)), .val (.ref b23), .val (.int (((((29791 : Int32) * p2) + ((961 : Int32) * p3)) + ((31 : Int32) * p4)) + p5)), .unset] [])
    obtain ⟨fE, V_b23, hfE_0, hfE_1, hfE_2, hfE_3⟩ : ∃ f, own_AI Z h27 b23 .int 4 f ∧ f 0 = p2 ∧ f 1 = p3 ∧ f 2 = p4 ∧ f 3 = p5 := ⟨_, V_b23, rfl, rfl, rfl, rfl⟩
    refine own_step (fun t k => XS.aload X27.here hx rfl (hb hby at_149) rfl rfl k) ?_
    show own_Fin _ _ _ _ _ _ _ _ (mkF m 151 #[.val (.int p1), .val (.int p2), .val (.int p3), .val (.int p4), .val (.int p5), .val (.int (4 : Int32)), .val (.ref b23), .val (.int (((((29791 : Int32) * p2) + ((961 : Int32) * p3)) + ((31 : Int32) * p4)) + p5)), .unset] [(.ref b23)])
    obtain ⟨_, _, ⟨T28, L28, k28, n28⟩, -, X28, ⟨Lc28, hQ28, l28, y28, z28⟩, st28⟩ := Jvm.LawKit.callS X27 hx (y := (⟨"com/example/limfjord/limfjord/engine/StateStore", "hash", "([I)I"⟩ : MethodName)) hown (mvT hZ (hw _ (List.mem_of_getElem? (i := 1) rfl))) (mvT hZ (hw _ (List.mem_of_getElem? (i := 2) rfl))) (mvT hZ (hw _ (List.mem_of_getElem? (i := 3) rfl))) (mvT hZ (hw _ (List.mem_of_getElem? (i := 4) rfl))) (by decide) (backOf (W := 0) (rm5 l Z a0 hw [] b23 _ h27 n0 Zs V_b23) hZ (hw _ (List.mem_of_getElem? (i := 4) rfl)) (hw _ (List.mem_of_getElem? (i := 3) rfl)) (by decide) (by decide)) (g := (mkF m 151 #[.val (.int p1), .val (.int p2), .val (.int p3), .val (.int p4), .val (.int p5), .val (.int (4 : Int32)), .val (.ref b23), .val (.int (((((29791 : Int32) * p2) + ((961 : Int32) * p3)) + ((31 : Int32) * p4)) + p5)), .unset] [(.ref b23)])) rfl (by rw [hml]; rfl) (argsL := [(.ref b23)]) (rest := []) (lenOf own_pd_0 rfl) rfl (by show 2 * 0 + _ ≤ _; exact Nat.le_of_eq rfl) (hb hby at_151) (fun _ _ => ⟨rfl, e27, (by decide : 1 + 0 ≤ _), (by decide : 4 + 0 ≤ _)⟩)
    dsimp only [Pt.U, Pt.locs, Pt.cells, Pt.slots] at X28 l28 y28 z28 st28 hQ28
    subst l28 y28 z28
    obtain ⟨rfl, Nq28, hh28⟩ := hQ28
    replace Nf := Fr.app Nf Nq28
    refine own_step st28 ?_
    show own_Fin _ _ _ _ _ _ _ _ (mkF m 154 #[.val (.int p1), .val (.int p2), .val (.int p3), .val (.int p4), .val (.int p5), .val (.int (4 : Int32)), .val (.ref b23), .val (.int (((((29791 : Int32) * p2) + ((961 : Int32) * p3)) + ((31 : Int32) * p4)) + p5)), .unset] [(.int (own_mix (((31 : Int32) * (((31 : Int32) * (((31 : Int32) * ((0 : Int32) + (fE 0))) + (fE 1))) + (fE 2))) + (fE 3))))])
    refine own_step (fun t k => XS.istore X28.here hx rfl (hb hby at_154) rfl (l' := #[.val (.int p1), .val (.int p2), .val (.int p3), .val (.int p4), .val (.int p5), .val (.int (4 : Int32)), .val (.ref b23), .val (.int (((((29791 : Int32) * p2) + ((961 : Int32) * p3)) + ((31 : Int32) * p4)) + p5)), .val (.int (own_mix (((31 : Int32) * (((31 : Int32) * (((31 : Int32) * ((0 : Int32) + (fE 0))) + (fE 1))) + (fE 2))) + (fE 3))))]) rfl k) ?_
    show own_Fin _ _ _ _ _ _ _ _ (mkF m 156 #[.val (.int p1), .val (.int p2), .val (.int p3), .val (.int p4), .val (.int p5), .val (.int (4 : Int32)), .val (.ref b23), .val (.int (((((29791 : Int32) * p2) + ((961 : Int32) * p3)) + ((31 : Int32) * p4)) + p5)), .val (.int (own_mix (((31 : Int32) * (((31 : Int32) * (((31 : Int32) * ((0 : Int32) + (fE 0))) + (fE 1))) + (fE 2))) + (fE 3))))] [])
    refine own_step (fun t k => XS.iload X28.here hx rfl (hb hby at_156) rfl k) ?_
    show own_Fin _ _ _ _ _ _ _ _ (mkF m 158 #[.val (.int p1), .val (.int p2), .val (.int p3), .val (.int p4), .val (.int p5), .val (.int (4 : Int32)), .val (.ref b23), .val (.int (((((29791 : Int32) * p2) + ((961 : Int32) * p3)) + ((31 : Int32) * p4)) + p5)), .val (.int (own_mix (((31 : Int32) * (((31 : Int32) * (((31 : Int32) * ((0 : Int32) + (fE 0))) + (fE 1))) + (fE 2))) + (fE 3))))] [(.int (own_mix (((31 : Int32) * (((31 : Int32) * (((31 : Int32) * ((0 : Int32) + (fE 0))) + (fE 1))) + (fE 2))) + (fE 3))))])
    obtain ⟨_, _, ⟨T29, L29, k29, n29⟩, -, X29, ⟨Lc29, hQ29, l29, y29, z29⟩, st29⟩ := Jvm.LawKit.callS X28 hx (y := (⟨"com/example/limfjord/limfjord/engine/StateStoreHashPinLaw", "unmix", "(I)I"⟩ : MethodName)) hown (mvT hZ (hw _ (List.mem_of_getElem? (i := 7) rfl))) (mvT hZ (hw _ (List.mem_of_getElem? (i := 8) rfl))) (mvT hZ (hw _ (List.mem_of_getElem? (i := 9) rfl))) (mvT hZ (hw _ (List.mem_of_getElem? (i := 10) rfl))) (by decide) (backOf (W := 0) (rm7 l Z a0 hw [] (own_mix (((31 : Int32) * (((31 : Int32) * (((31 : Int32) * ((0 : Int32) + (fE 0))) + (fE 1))) + (fE 2))) + (fE 3))) h27 n0 Zs) hZ (hw _ (List.mem_of_getElem? (i := 10) rfl)) (hw _ (List.mem_of_getElem? (i := 9) rfl)) (by decide) (by decide)) (g := (mkF m 158 #[.val (.int p1), .val (.int p2), .val (.int p3), .val (.int p4), .val (.int p5), .val (.int (4 : Int32)), .val (.ref b23), .val (.int (((((29791 : Int32) * p2) + ((961 : Int32) * p3)) + ((31 : Int32) * p4)) + p5)), .val (.int (own_mix (((31 : Int32) * (((31 : Int32) * (((31 : Int32) * ((0 : Int32) + (fE 0))) + (fE 1))) + (fE 2))) + (fE 3))))] [(.int (own_mix (((31 : Int32) * (((31 : Int32) * (((31 : Int32) * ((0 : Int32) + (fE 0))) + (fE 1))) + (fE 2))) + (fE 3))))])) rfl (by rw [hml]; rfl) (argsL := [(.int (own_mix (((31 : Int32) * (((31 : Int32) * (((31 : Int32) * ((0 : Int32) + (fE 0))) + (fE 1))) + (fE 2))) + (fE 3))))]) (rest := []) (lenOf own_pd_1 rfl) rfl (by show 2 * 0 + _ ≤ _; exact Nat.le_of_eq rfl) (hb hby at_158) (fun _ _ => ⟨rfl, hh28, (by decide : 1 + 0 ≤ _), (by decide : 4 + 0 ≤ _)⟩)
    dsimp only [Pt.U, Pt.locs, Pt.cells, Pt.slots] at X29 l29 y29 z29 st29 hQ29
    subst l29 y29 z29
    obtain ⟨rfl, Nq29, hh29⟩ := hQ29
    replace Nf := Fr.app Nf Nq29
    refine own_step st29 ?_
    show own_Fin _ _ _ _ _ _ _ _ (mkF m 161 #[.val (.int p1), .val (.int p2), .val (.int p3), .val (.int p4), .val (.int p5), .val (.int (4 : Int32)), .val (.ref b23), .val (.int (((((29791 : Int32) * p2) + ((961 : Int32) * p3)) + ((31 : Int32) * p4)) + p5)), .val (.int (own_mix (((31 : Int32) * (((31 : Int32) * (((31 : Int32) * ((0 : Int32) + (fE 0))) + (fE 1))) + (fE 2))) + (fE 3))))] [(.int (own_unmix (own_mix (((31 : Int32) * (((31 : Int32) * (((31 : Int32) * ((0 : Int32) + (fE 0))) + (fE 1))) + (fE 2))) + (fE 3)))))])
    refine own_step (fun t k => XS.iload X29.here hx rfl (hb hby at_161) rfl k) ?_
    show own_Fin _ _ _ _ _ _ _ _ (mkF m 163 #[.val (.int p1), .val (.int p2), .val (.int p3), .val (.int p4), .val (.int p5), .val (.int (4 : Int32)), .val (.ref b23), .val (.int (((((29791 : Int32) * p2) + ((961 : Int32) * p3)) + ((31 : Int32) * p4)) + p5)), .val (.int (own_mix (((31 : Int32) * (((31 : Int32) * (((31 : Int32) * ((0 : Int32) + (fE 0))) + (fE 1))) + (fE 2))) + (fE 3))))] [(.int (((((29791 : Int32) * p2) + ((961 : Int32) * p3)) + ((31 : Int32) * p4)) + p5)), (.int (own_unmix (own_mix (((31 : Int32) * (((31 : Int32) * (((31 : Int32) * ((0 : Int32) + (fE 0))) + (fE 1))) + (fE 2))) + (fE 3)))))])
    have hc30 : ((own_unmix (own_mix (((31 : Int32) * (((31 : Int32) * (((31 : Int32) * ((0 : Int32) + (fE 0))) + (fE 1))) + (fE 2))) + (fE 3))))).toInt = ((((((29791 : Int32) * p2) + ((961 : Int32) * p3)) + ((31 : Int32) * p4)) + p5)).toInt := by rw [own_back, hfE_0, hfE_1, hfE_2, hfE_3, own_p4]
    refine own_step (fun t k => XS.icmpNo X29.here hx rfl (hb hby at_163) rfl (own_ce (x := (own_unmix (own_mix (((31 : Int32) * (((31 : Int32) * (((31 : Int32) * ((0 : Int32) + (fE 0))) + (fE 1))) + (fE 2))) + (fE 3))))) (y := (((((29791 : Int32) * p2) + ((961 : Int32) * p3)) + ((31 : Int32) * p4)) + p5)) rfl rfl hc30).2 k) ?_
    show own_Fin _ _ _ _ _ _ _ _ (mkF m 166 #[.val (.int p1), .val (.int p2), .val (.int p3), .val (.int p4), .val (.int p5), .val (.int (4 : Int32)), .val (.ref b23), .val (.int (((((29791 : Int32) * p2) + ((961 : Int32) * p3)) + ((31 : Int32) * p4)) + p5)), .val (.int (own_mix (((31 : Int32) * (((31 : Int32) * (((31 : Int32) * ((0 : Int32) + (fE 0))) + (fE 1))) + (fE 2))) + (fE 3))))] [])
    refine own_step (fun t k => XS.iconst X29.here hx rfl (hb hby at_166) k) ?_
    show own_Fin _ _ _ _ _ _ _ _ (mkF m 167 #[.val (.int p1), .val (.int p2), .val (.int p3), .val (.int p4), .val (.int p5), .val (.int (4 : Int32)), .val (.ref b23), .val (.int (((((29791 : Int32) * p2) + ((961 : Int32) * p3)) + ((31 : Int32) * p4)) + p5)), .val (.int (own_mix (((31 : Int32) * (((31 : Int32) * (((31 : Int32) * ((0 : Int32) + (fE 0))) + (fE 1))) + (fE 2))) + (fE 3))))] [(.int (1 : Int32))])
    refine own_step (fun t k => XS.goto X29.here hx rfl (pc0 := 167) (pc' := 171) rfl (hb hby at_167) (by decide) (by decide) k) ?_
    show own_Fin _ _ _ _ _ _ _ _ (mkF m 171 #[.val (.int p1), .val (.int p2), .val (.int p3), .val (.int p4), .val (.int p5), .val (.int (4 : Int32)), .val (.ref b23), .val (.int (((((29791 : Int32) * p2) + ((961 : Int32) * p3)) + ((31 : Int32) * p4)) + p5)), .val (.int (own_mix (((31 : Int32) * (((31 : Int32) * (((31 : Int32) * ((0 : Int32) + (fE 0))) + (fE 1))) + (fE 2))) + (fE 3))))] [(.int (1 : Int32))])
    refine own_retZ X29 hx hlk Bd.returns (hb hby at_171) (z' := (1 : Int32)) (by decide) (by decide) (by decide) hh29 ?_
    exact ⟨rfl, Nf⟩
set_option maxRecDepth 65536 in
set_option maxHeartbeats 40000000 in
theorem comes_1 {Post : Tables → Env → Array Value → State → Outcome → State → Prop} (hpost : ∀ tb e args s v u, (limb_1_1.after args s (.returned v) u = true ∧ limb_1_2.after args s (.returned v) u = true ∧ True) → FrameEnd s (.returned v) u (Jvm.fieldLocs frame_1_writes args s ++ Jvm.arrayLocs frame_1_arrays args s ++ Jvm.staticLocs frame_1_statics s) 16 128 → Post tb e args s (.returned v) u) :
    ArmFor flags0 classFile x code maxLocals ret World_1 tables_1 room_1 Calls_1 rest_1 Pre_1 Post := by
  intro l hfl _ _ p e ha hc hk s m args below hf hA hF happ hP
  obtain ⟨hcalls, hrest, hpre⟩ := hP
  obtain ⟨-, -, -, hnamed, -, -, -, hat⟩ := (Spec.applies_iff hf).mp happ
  obtain ⟨hg, hn⟩ := and_e (Cond.before_iff.mp (show (Jvm.Cond.and given_1 narrow_1).before args s = true from hpre))
  obtain ⟨g1, g2⟩ := and_e hg
  obtain ⟨g3, g4⟩ := and_e g2
  obtain ⟨g5, g6⟩ := and_e g4
  obtain ⟨g7, g8⟩ := and_e g6
  obtain ⟨g9, g10⟩ := and_e g8
  obtain ⟨w0, w1, w2, w3, w4, rfl⟩ : ∃ w0 w1 w2 w3 w4 : Value, args = #[w0, w1, w2, w3, w4] := by
    have hs : args.size = 5 := by simpa [Cond.value, given_1] using g1
    obtain ⟨L⟩ := args
    match L, hs with
    | [w0, w1, w2, w3, w4], _ => exact ⟨w0, w1, w2, w3, w4, rfl⟩
  have hw := fun d (hd : d ∈ tables_1) => atoms_spec (ws := Jvm.Cond.code x code maxLocals ret :: tables_1) hat d (List.mem_cons_of_mem _ hd)
  obtain ⟨i0, ei0⟩ := is_v g3
  obtain rfl : w0 = (.int i0) := Option.some.inj ei0
  obtain ⟨i1, ei1⟩ := is_v g5
  obtain rfl : w1 = (.int i1) := Option.some.inj ei1
  obtain ⟨i2, ei2⟩ := is_v g7
  obtain rfl : w2 = (.int i2) := Option.some.inj ei2
  obtain ⟨i3, ei3⟩ := is_v g9
  obtain rfl : w3 = (.int i3) := Option.some.inj ei3
  obtain ⟨i4, ei4⟩ := is_v g10
  obtain rfl : w4 = (.int i4) := Option.some.inj ei4
  obtain ⟨n, o, h1, h2, h3, _, L, rfl, ⟨rfl, N⟩, hq⟩ := rm0 l s _ hw tables_1 i0 i1 i2 i3 i4 s.heap s.heap.size (Nat.le_refl _) p e ha hc hk s m _ below hf ((Spec.applies_iff_loose hf).mp happ).1 ⟨rfl, State.Warmed39.refl s, rfl⟩ trivial
  refine ⟨n, _, h1, h2, h3, hpost _ _ _ _ _ _ ⟨Cond.after_iff.mpr rfl, Cond.after_iff.mpr (eq_i res_at (Term.int_eval (1)) rfl), trivial⟩ ⟨hq.1, hq.2.1, (hq.2.2.sift fun y hy => Or.inr (N y hy)).mono (by decide) (by decide)⟩⟩
theorem main_1_1 : Claimed_1_1 := comes_1 fun _ _ _ _ _ _ h hF => ⟨h.1, hF⟩
theorem main_1_2 : Claimed_1_2 := comes_1 fun _ _ _ _ _ _ h hF => ⟨h.2.1, hF⟩
end Jvm.Pilot.@@N@@
namespace Jvm.Pilot.@@N@@
open Jvm Jvm.ClassFile Sem Op Lib Jvm.Free Jvm.Stand Jvm.Pilot.@@N@@.Jvm.D
/-! MADE BY PROGRAM (witnessworld.py) out of the Statement's table words and the real class files: 9 classes; the members and pool entries that the words name. The judged class is class 1, her method 2. -/
namespace start1
open Jvm.ClassFile
def u (s : String) : CpInfo := .utf8 (stringToUtf16 s)
/-- a pool by its gaps: so many unusable entries, then the entry; so many at the end -/
def gap : Nat → List CpInfo → List CpInfo
  | 0, r => r
  | n + 1, r => .unusable :: gap n r
def poolList (es : List (Nat × CpInfo)) (last : Nat) : List CpInfo := es.foldr (fun e r => gap e.1 (e.2 :: r)) (gap last [])
def pool (es : List (Nat × CpInfo)) (last : Nat) : Array CpInfo := ⟨poolList es last⟩
def fileOf (pool : Array CpInfo) (this : Nat) (attrs : Array Attribute := #[]) (ms : Array MethodInfo := #[]) (fl : Nat := 33) (sup : Nat := 0) (ifs : Array Nat := #[]) (fds : Array FieldInfo := #[]) : ClassFile where
  minorVersion := 0
  majorVersion := 65
  constantPool := pool
  accessFlags := fl
  thisClass := this
  superClass := sup
  interfaces := ifs
  fields := fds
  methods := ms
  attributes := attrs
def plain (name : String) (sup : Option ClassId) : Class where
  name := name
  kind := .ordinary
  loader := none
  accessFlags := 33
  super := sup
  interfaces := #[]
  cf := none
  fields := #[]
  methods := #[]
  instanceTypes := #[]
  staticTypes := #[]
  resolved := #[]
  callSites := []
  init := .initialized
  statics := none
  mirror := none

def pool0 : Array CpInfo := pool [(5, u "<init>"), (0, u "()V"), (1, .class_ 10), (1, u "java/lang/Object")] 113

def k0m0 : Method := { name := "<init>", desc := "()V", sig := { parameters := [], returnType := none }, accessFlags := 1, code := none }
/-- java/lang/Object -/
def k0 : Class := { plain "java/lang/Object" none with
  accessFlags := 33
  interfaces := #[]
  cf := some (fileOf pool0 8 #[] #[{ accessFlags := 1, nameIndex := 5, descriptorIndex := 6, attributes := #[] }] 33 0 #[] #[])
  fields := #[]
  methods := #[k0m0]
  instanceTypes := #[]
  staticTypes := #[]
  resolved := Array.replicate 124 none
  statics := none }

def pool1 : Array CpInfo := pool [(2, .class_ 4), (1, u "java/lang/Object"), (0, u "<init>"), (0, u "()V"), (0, .integer 2127672349), (0, .integer 2781581891), (0, .methodref 10 11), (0, .class_ 12), (0, .nameAndType 13 14), (0, u "com/example/limfjord/limfjord/engine/StateStore"), (0, u "hash"), (0, u "([I)I"), (0, .methodref 16 17), (0, .class_ 18), (0, .nameAndType 19 20), (0, u "com/example/limfjord/limfjord/engine/StateStoreHashPinLaw"), (0, u "unmix"), (0, u "(I)I"), (2, u "law"), (0, u "(IIIII)Z")] 5

def k1m0 : Method := { name := "<init>", desc := "()V", sig := { parameters := [], returnType := none }, accessFlags := 1, code := none }
def k1c1 : Code := { maxStack := 4, maxLocals := 1, code := method_2_code, exceptionTable := #[], attributes := #[] }
def k1m1 : Method := { name := "unmix", desc := "(I)I", sig := { parameters := [.int], returnType := some .int }, accessFlags := 10, code := some k1c1 }
def k1c2 : Code := { maxStack := 3, maxLocals := 9, code := code, exceptionTable := #[], attributes := #[] }
def k1m2 : Method := { name := "law", desc := "(IIIII)Z", sig := { parameters := [.int, .int, .int, .int, .int], returnType := some .boolean }, accessFlags := 9, code := some k1c2 }
/-- com/example/limfjord/limfjord/engine/StateStoreHashPinLaw -/
def k1 : Class := { plain "com/example/limfjord/limfjord/engine/StateStoreHashPinLaw" (some 0) with
  accessFlags := 49
  interfaces := #[]
  cf := some (fileOf pool1 16 #[] #[{ accessFlags := 1, nameIndex := 5, descriptorIndex := 6, attributes := #[] }, { accessFlags := 10, nameIndex := 19, descriptorIndex := 20, attributes := #[] }, { accessFlags := 9, nameIndex := 23, descriptorIndex := 24, attributes := #[] }] 49 2 #[] #[])
  fields := #[]
  methods := #[k1m0, k1m1, k1m2]
  instanceTypes := #[]
  staticTypes := #[]
  resolved := Array.replicate 30 none
  statics := none }

def pool2 : Array CpInfo := pool [(2, .class_ 4), (1, u "java/lang/Object"), (6, .class_ 13), (1, u "com/example/limfjord/limfjord/engine/StateStore"), (0, u "pages"), (0, u "Ljava/util/List;"), (2, u "slots"), (0, u "[J"), (13, u "width"), (0, u "I"), (14, u "rowShift"), (2, u "maxStates"), (2, u "size"), (2, u "hash"), (0, u "([I)I"), (8, .class_ 69), (0, u "com/example/limfjord/limfjord/engine/StateStore$FullException"), (30, .integer 2246822507), (0, .integer 3266489909), (0, u "MAX_STATES"), (1, u "PAGE_SHIFT"), (1, u "MAX_SLOTS")] 31

def k2c0 : Code := { maxStack := 3, maxLocals := 6, code := prog_64_method_10_code, exceptionTable := #[], attributes := #[] }
def k2m0 : Method := { name := "hash", desc := "([I)I", sig := { parameters := [(.array .int)], returnType := some .int }, accessFlags := 8, code := some k2c0 }
/-- com/example/limfjord/limfjord/engine/StateStore -/
def k2 : Class := { plain "com/example/limfjord/limfjord/engine/StateStore" (some 0) with
  accessFlags := 32
  interfaces := #[]
  cf := some (fileOf pool2 11 #[.nestMembers #[68]] #[{ accessFlags := 8, nameIndex := 58, descriptorIndex := 59, attributes := #[] }] 32 2 #[] #[{ accessFlags := 24, nameIndex := 102, descriptorIndex := 34, attributes := #[] }, { accessFlags := 26, nameIndex := 104, descriptorIndex := 34, attributes := #[] }, { accessFlags := 26, nameIndex := 106, descriptorIndex := 34, attributes := #[] }, { accessFlags := 18, nameIndex := 33, descriptorIndex := 34, attributes := #[] }, { accessFlags := 18, nameIndex := 49, descriptorIndex := 34, attributes := #[] }, { accessFlags := 18, nameIndex := 52, descriptorIndex := 34, attributes := #[] }, { accessFlags := 18, nameIndex := 14, descriptorIndex := 15, attributes := #[] }, { accessFlags := 2, nameIndex := 18, descriptorIndex := 19, attributes := #[] }, { accessFlags := 2, nameIndex := 55, descriptorIndex := 34, attributes := #[] }])
  fields := #[{ name := "MAX_STATES", type := .int, accessFlags := 24, slot := 0, constantValue := 0 }, { name := "PAGE_SHIFT", type := .int, accessFlags := 26, slot := 1, constantValue := 0 }, { name := "MAX_SLOTS", type := .int, accessFlags := 26, slot := 2, constantValue := 0 }, { name := "width", type := .int, accessFlags := 18, slot := 0, constantValue := 0 }, { name := "rowShift", type := .int, accessFlags := 18, slot := 1, constantValue := 0 }, { name := "maxStates", type := .int, accessFlags := 18, slot := 2, constantValue := 0 }, { name := "pages", type := (.object "java/util/List"), accessFlags := 18, slot := 3, constantValue := 0 }, { name := "slots", type := (.array .long), accessFlags := 2, slot := 4, constantValue := 0 }, { name := "size", type := .int, accessFlags := 2, slot := 5, constantValue := 0 }]
  methods := #[k2m0]
  instanceTypes := #[.int, .int, .int, (.object "java/util/List"), (.array .long), .int]
  staticTypes := #[.int, .int, .int]
  resolved := Array.replicate 138 none
  statics := none }

def pool3 : Array CpInfo := pool [(1, u "java/lang/Cloneable"), (0, .class_ 1), (0, u "java/lang/Object"), (0, .class_ 3)] 3

/-- java/lang/Cloneable -/
def k3 : Class := { plain "java/lang/Cloneable" (some 0) with
  accessFlags := 1537
  interfaces := #[]
  cf := some (fileOf pool3 2 #[] #[] 1537 4 #[] #[])
  fields := #[]
  methods := #[]
  instanceTypes := #[]
  staticTypes := #[]
  resolved := Array.replicate 8 none
  statics := none }

def pool4 : Array CpInfo := pool [(1, u "java/io/Serializable"), (0, .class_ 1), (0, u "java/lang/Object"), (0, .class_ 3)] 3

/-- java/io/Serializable -/
def k4 : Class := { plain "java/io/Serializable" (some 0) with
  accessFlags := 1537
  interfaces := #[]
  cf := some (fileOf pool4 2 #[] #[] 1537 4 #[] #[])
  fields := #[]
  methods := #[]
  instanceTypes := #[]
  staticTypes := #[]
  resolved := Array.replicate 8 none
  statics := none }

/-- the primitive byte -/
def k5 : Class := { plain "byte" none with kind := .primitive 'B', accessFlags := 0x411 }
/-- [B -/
def k6 : Class := { plain "[B" (some 0) with kind := .array 5 .byte, interfaces := #[3, 4], accessFlags := 1041 }

/-- the primitive int -/
def k7 : Class := { plain "int" none with kind := .primitive 'I', accessFlags := 0x411 }
/-- [I -/
def k8 : Class := { plain "[I" (some 0) with kind := .array 7 .int, interfaces := #[3, 4], accessFlags := 1041 }

def heap : Heap := #[]
def classes : Array Class := #[k0, k1, k2, k3, k4, k5, k6, k7, k8]
def interned : List (Array UInt16 × Addr) := []
def slotsUsed : Nat := 0
def theMethod : MethodId := ⟨1, 2⟩
def args0 : Array Value := #[.int 5, .int 5, .int 5, .int 5, .int 5]
def aboutOver (below : List Frame) : State where
  vm := { classes := classes, interned := interned.toArray }
  heap := heap
  slotsUsed := slotsUsed
  threads := #[{ frames := .invoking theMethod args0 :: below }]
def below0 : List Frame := [.native { method := ⟨0, 0⟩, args := #[] }]
def about1 : State := aboutOver below0
def p0 : Program := .bare "" "" ""
def e0 : Env := launch0.env 0 0 0
theorem w_frames : about1.frames = Frame.invoking theMethod args0 :: below0 := rfl
set_option maxRecDepth 65536 in
theorem w_args : argsFit about1.vm theMethod args0 = true := by decide +kernel
set_option maxRecDepth 65536 in
theorem w_heap : heapFits about1 = true := by decide +kernel
set_option maxRecDepth 65536 in
theorem w_runnable : about1.curStatus? = some .runnable := by decide +kernel
set_option maxRecDepth 65536 in
theorem w_alone : about1.alone = true := by decide +kernel
set_option maxRecDepth 65536 in
theorem w_named : about1.methodNamed? x = some theMethod := by decide +kernel
set_option maxRecDepth 65536 in
theorem w_hears : about1.hears theMethod below0 = true := by decide +kernel
set_option maxRecDepth 65536 in
theorem w_ripe : about1.ripe theMethod args0 below0 = true := by decide +kernel
theorem w_running : about1.status = .running := rfl
set_option maxRecDepth 65536 in
theorem w_room : about1.hasRoom e0.platform room_1 = true :=
  launch0.hasRoom_least _ room_1 (by decide +kernel) (by decide +kernel) (by decide +kernel) (by decide +kernel) (by decide +kernel) (by decide +kernel)
theorem allAtoms_all (ts : List Jvm.Cond) (a : Array Jvm.Value) (st : Jvm.State) : (allAtoms ts).before a st = ts.all (fun c => c.before a st) := by
  induction ts with
  | nil => rfl
  | cons c t ih =>
    show (Jvm.Cond.and c (allAtoms t)).before a st = _
    rw [Jvm.Cond.before_and, ih, List.all_cons]
def words1 : List Jvm.Cond := Jvm.Cond.code x code maxLocals ret :: tables_1
/-- a 'code' word, met by the world's own term for the bytes: nothing is compared byte by byte -/
theorem code_word {y : MethodName} {bytes : ByteArray} {mx : Nat} {rt : Option FieldType} {a : Array Value} {s : State} {m : MethodId} {meth : Method} {c : Code} (h1 : s.methodNamed? y = some m) (h2 : s.vm.method? m = some meth) (h3 : meth.code = some c) (h4 : c.code = bytes)
    (h5 : (c.maxLocals == mx && c.exceptionTable.isEmpty && decide (c.maxStack ≤ mostOperands) && decide (meth.sig.returnType = rt) && !meth.locks && decide (parseMethodDescriptor y.desc = some meth.sig)) = true) : (Jvm.Cond.code y bytes mx rt).before a s = true := by
  simp only [Bool.and_eq_true, beq_iff_eq, Bool.not_eq_true', decide_eq_true_eq] at h5
  obtain ⟨⟨⟨⟨⟨g1, g2⟩, g3⟩, g4⟩, g5⟩, g6⟩ := h5
  simp [Cond.before, Cond.holds, Cond.value, h1, h2, h3, h4, g1, g2, g3, g4, g5, g6]
def isCode : Jvm.Cond → Bool
  | .code _ _ _ _ => true
  | _ => false
theorem all_split {L : List Jvm.Cond} {P : Jvm.Cond → Bool} (h1 : L.all (fun c => isCode c || P c) = true) (h2 : ∀ c ∈ L.filter isCode, P c = true) : L.all P = true := by
  refine List.all_eq_true.mpr fun c hc => ?_
  have h := List.all_eq_true.mp h1 c hc
  rcases Bool.eq_false_or_eq_true (isCode c) with hi | hi
  · exact h2 c (List.mem_filter.mpr ⟨hc, hi⟩)
  · simpa [hi] using h
set_option maxRecDepth 65536 in
theorem w_c0 : (Jvm.Cond.code x code maxLocals ret).before args0 about1 = true := code_word (m := ⟨1, 2⟩) (meth := k1m2) (c := k1c2) (by decide +kernel) rfl rfl rfl (by decide +kernel)
set_option maxRecDepth 65536 in
theorem w_c1 : (Jvm.Cond.code ({ cls := "com/example/limfjord/limfjord/engine/StateStore", name := "hash", desc := "([I)I" } : Jvm.MethodName) prog_64_method_10_code (6 : Nat) (Option.some Jvm.ClassFile.FieldType.int)).before args0 about1 = true := code_word (m := ⟨2, 0⟩) (meth := k2m0) (c := k2c0) (by decide +kernel) rfl rfl rfl (by decide +kernel)
set_option maxRecDepth 65536 in
theorem w_c2 : (Jvm.Cond.code ({ cls := "com/example/limfjord/limfjord/engine/StateStoreHashPinLaw", name := "unmix", desc := "(I)I" } : Jvm.MethodName) method_2_code (1 : Nat) (Option.some Jvm.ClassFile.FieldType.int)).before args0 about1 = true := code_word (m := ⟨1, 1⟩) (meth := k1m1) (c := k1c1) (by decide +kernel) rfl rfl rfl (by decide +kernel)
def codes1 : List Jvm.Cond := [Jvm.Cond.code x code maxLocals ret, Jvm.Cond.code ({ cls := "com/example/limfjord/limfjord/engine/StateStore", name := "hash", desc := "([I)I" } : Jvm.MethodName) prog_64_method_10_code (6 : Nat) (Option.some Jvm.ClassFile.FieldType.int), Jvm.Cond.code ({ cls := "com/example/limfjord/limfjord/engine/StateStoreHashPinLaw", name := "unmix", desc := "(I)I" } : Jvm.MethodName) method_2_code (1 : Nat) (Option.some Jvm.ClassFile.FieldType.int)]
set_option maxRecDepth 65536 in
theorem codes_eq : words1.filter isCode = codes1 := rfl
theorem w_codes : ∀ c ∈ words1.filter isCode, c.before args0 about1 = true := by
  rw [codes_eq]
  intro c hc
  simp only [codes1, List.mem_cons, List.not_mem_nil, or_false] at hc
  rcases hc with rfl | rfl | rfl
  · exact w_c0
  · exact w_c1
  · exact w_c2
set_option maxRecDepth 65536 in
theorem w_t1 : words1.all (fun c => isCode c || c.before args0 about1) = true := by decide +kernel
theorem w_tables : (allAtoms (Jvm.Cond.code x code maxLocals ret :: tables_1)).before args0 about1 = true := by
  rw [allAtoms_all]
  show words1.all (fun c => c.before args0 about1) = true
  refine all_split ?_ w_codes
  rw [w_t1]
set_option maxRecDepth 65536 in
theorem w_case : (Jvm.Cond.and given_1 narrow_1).before args0 about1 = true := by decide +kernel
theorem w_applies : (headSpec (Jvm.Cond.code x code maxLocals ret :: tables_1) room_1).applies x e0.platform about1 = true :=
  (Spec.applies_iff w_frames).mpr ⟨w_running, w_runnable, w_alone, w_named, w_hears, w_ripe, w_room, w_tables⟩
theorem atStart : AtStart classFile x code maxLocals ret World_1 tables_1 room_1 Calls_1 rest_1 Pre_1 launch0 p0 e0 about1 theMethod args0 below0 :=
  ⟨lists_1, trivial, launch0.admits_env _ _ _, launch0.least_env, fairChoices_fair.cas, fairChoices_fair.clock, w_frames, w_args, w_heap, w_applies, trivial, trivial, w_case⟩
end start1
theorem witness_1 : WitnessClaimed_1 := ⟨start1.p0, start1.e0, start1.about1, start1.theMethod, start1.args0, start1.below0, start1.atStart⟩
end Jvm.Pilot.@@N@@
