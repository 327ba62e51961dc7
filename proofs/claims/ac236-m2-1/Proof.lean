import JvmDerived
import JvmDerived.Pilot.@@N@@Statement
import JvmDerived.Pilot.@@N@@Code
set_option linter.unusedVariables false
set_option linter.unusedSimpArgs false
namespace Jvm.Pilot.@@N@@
open Jvm Jvm.ClassFile Sem Op Lib Jvm.Free Jvm.Stand Jvm.LawKit Jvm.RoadKit Bundle Jvm.Pilot.@@N@@.Jvm.D
/-! Own kit. own_Fin: from this frame the run comes to the method's end, and Q holds of what it leaves. -/
def own_Fin (p : Program) (e : Env) (below : List Frame) (s : State) (Q : Option Value → Heap → List Loc → Prop) (cl sl : Nat) (T : State) (f : JFrame) : Prop :=
  ∃ s₂ o, Steps p.tables e below (T.setTop f) s₂ ∧ s₂.status = .running ∧ Ended s₂ below o ∧ (∃ v L, o = .returned v ∧ Q v s₂.heap L ∧ FrameEnd s o s₂ L cl sl)
section OwnKit
variable {p : Program} {l : Launch} {e : Env} {R : Room} {s : State} {m : MethodId} {args : Array Value} {below : List Frame} {meth : Method} {c : Code} {T : State} {locs : List Loc} {cells slots : Nat} {Q : Option Value → Heap → List Loc → Prop} {cl sl : Nat} {Z : State} {a0 : Array Value} {h h' : Heap} {a b : Addr}
theorem own_step {T' : State} {f f' : JFrame} (k : ∀ t, Steps p.tables e below (T'.setTop f') t → Steps p.tables e below (T.setTop f) t) (r : own_Fin p e below s Q cl sl T' f') : own_Fin p e below s Q cl sl T f := by
  obtain ⟨s₂, o, h1, h2⟩ := r
  exact ⟨s₂, o, k _ h1, h2⟩
theorem own_stepT {T' : State} {f f' : JFrame} (k : Steps p.tables e below (T.setTop f) (T'.setTop f')) (r : own_Fin p e below s Q cl sl T' f') : own_Fin p e below s Q cl sl T f := by
  obtain ⟨s₂, o, h1, h2⟩ := r
  exact ⟨s₂, o, k.trans h1, h2⟩
theorem own_retZ (X : Stand p l e R s m args below meth c T locs cells slots) (hx : p.tables.exec = Jvm.exec) (hlocks : meth.locks = false) (hret : meth.sig.returnType = some .boolean) {pc : Nat} {Ls : Array Slot} {z z' : Int32} {rest : List Value} (hd : decode c.code pc = .ok (.ireturn, 1))
    (hn : nar .boolean z = z') (hc : cells ≤ cl) (hs : slots ≤ sl) (hT : T.heap = h) (hq : Q (some (.int z')) h locs) : own_Fin p e below s Q cl sl T (mkF m pc Ls (.int z :: rest)) := by
  subst hn hT
  obtain ⟨fs, hr, hrun, hended, hW, hsame⟩ := X.leave (v := some (.int (nar .boolean z))) (fun h => by rw [hret] at h; cases h)
  exact ⟨_, _, retN X hx hret (by simp) hd hr, hrun, hended, _, _, rfl, hq, ⟨_, rfl⟩, hW, hsame.mono hc hs⟩
theorem own_retI (X : Stand p l e R s m args below meth c T locs cells slots) (hx : p.tables.exec = Jvm.exec) (hlocks : meth.locks = false) (hret : meth.sig.returnType = some .int) {pc : Nat} {Ls : Array Slot} {z : Int32} {rest : List Value} (hd : decode c.code pc = .ok (.ireturn, 1))
    (hc : cells ≤ cl) (hs : slots ≤ sl) (hT : T.heap = h) (hq : Q (some (.int z)) h locs) : own_Fin p e below s Q cl sl T (mkF m pc Ls (.int z :: rest)) := by
  subst hT
  obtain ⟨fs, hr, hrun, hended, hW, hsame⟩ := X.leave (v := some (.int z)) (fun h => by rw [hret] at h; cases h)
  refine ⟨_, _, ?_, hrun, hended, _, _, rfl, hq, ⟨_, rfl⟩, hW, hsame.mono hc hs⟩
  have hm' : T.vm.method? m = some meth := X.method'
  have hn : narrow .int (.int z) = .int z := rfl
  show Steps p.tables e below (T.setTop { method := m, pc := pc, locals := Ls, stack := _ :: rest, locked := none }) _
  jvm_step X.here [X.here.top, hx, hd, hm', hret, hn]
  first | (intro acts; rw [hr _ acts rfl rfl rfl]) | rw [hr _ _ rfl rfl rfl]
  exact Steps.refl _
theorem own_retJ (X : Stand p l e R s m args below meth c T locs cells slots) (hx : p.tables.exec = Jvm.exec) (hlocks : meth.locks = false) (hret : meth.sig.returnType = some .long) {pc : Nat} {Ls : Array Slot} {z : Int64} (hd : decode c.code pc = .ok (.lreturn, 1))
    (hc : cells ≤ cl) (hs : slots ≤ sl) (hT : T.heap = h) (hq : Q (some (.long z)) h locs) : own_Fin p e below s Q cl sl T (mkF m pc Ls [.long z]) := by
  subst hT
  obtain ⟨fs, hr, hrun, hended, hW, hsame⟩ := X.leave (v := some (.long z)) (fun h => by rw [hret] at h; cases h)
  exact ⟨_, _, X.lreturnOut hx hret hd hr, hrun, hended, _, _, rfl, hq, ⟨_, rfl⟩, hW, hsame.mono hc hs⟩
theorem own_retV (X : Stand p l e R s m args below meth c T locs cells slots) (hx : p.tables.exec = Jvm.exec) (hlocks : meth.locks = false) (hret : meth.sig.returnType = none) {pc : Nat} {Ls : Array Slot} (hd : decode c.code pc = .ok (.return_, 1))
    (hc : cells ≤ cl) (hs : slots ≤ sl) (hT : T.heap = h) (hq : Q none h locs) : own_Fin p e below s Q cl sl T (mkF m pc Ls []) := by
  subst hT
  obtain ⟨fs, hr, hrun, hended, hW, hsame⟩ := X.leave (v := none) (fun _ => rfl)
  exact ⟨_, _, X.returnOut hx hret hd hr, hrun, hended, _, _, rfl, hq, ⟨_, rfl⟩, hW, hsame.mono hc hs⟩
theorem own_retR (X : Stand p l e R s m args below meth c T locs cells slots) (hx : p.tables.exec = Jvm.exec) (hlocks : meth.locks = false) {t : FieldType} (hret : meth.sig.returnType = some t) (ht : t.isReference = true) {pc : Nat} {Ls : Array Slot} {z : Value} (hz : z.isRef = true) (hd : decode c.code pc = .ok (.areturn, 1))
    (hc : cells ≤ cl) (hs : slots ≤ sl) (hT : T.heap = h) (hq : Q (some z) h locs) : own_Fin p e below s Q cl sl T (mkF m pc Ls [z]) := by
  subst hT
  obtain ⟨fs, hr, hrun, hended, hW, hsame⟩ := X.leave (v := some z) (fun h => by rw [hret] at h; cases h)
  refine ⟨_, _, ?_, hrun, hended, _, _, rfl, hq, ⟨_, rfl⟩, hW, hsame.mono hc hs⟩
  have hm' : T.vm.method? m = some meth := X.method'
  jvm_step X.here [X.here.top, hx, hd, hm', hret, ht, hz]
  first | (intro acts; rw [hr _ acts rfl rfl rfl]) | rw [hr _ _ rfl rfl rfl]
  exact Steps.refl _
/-! comparisons, said over Int -/
theorem own_cl {x y : Int32} {a b : Int} (ha : x.toInt = a) (hb : y.toInt = b) (h : a < b) : if_icmp.holds .lt x y = true ∧ if_icmp.holds .ge x y = false ∧ if_icmp.holds .gt y x = true ∧ if_icmp.holds .le y x = false := tlt (by rw [Int32.lt_iff_toInt_lt, ha, hb]; exact h)
theorem own_cn {x y : Int32} {a b : Int} (ha : x.toInt = a) (hb : y.toInt = b) (h : ¬ a < b) : if_icmp.holds .lt x y = false ∧ if_icmp.holds .ge x y = true ∧ if_icmp.holds .gt y x = false ∧ if_icmp.holds .le y x = true := flt (by rw [Int32.lt_iff_toInt_lt, ha, hb]; exact h)
theorem own_ce {x y : Int32} {a b : Int} (ha : x.toInt = a) (hb : y.toInt = b) (h : a = b) : if_icmp.holds .eq x y = true ∧ if_icmp.holds .ne x y = false := teq (by rw [← Int32.toInt_inj, ha, hb]; exact h)
theorem own_cu {x y : Int32} {a b : Int} (ha : x.toInt = a) (hb : y.toInt = b) (h : ¬ a = b) : if_icmp.holds .eq x y = false ∧ if_icmp.holds .ne x y = true := feq (by rw [← Int32.toInt_inj, ha, hb]; exact h)
theorem own_ll {x y : Int64} {a b : Int} (ha : x.toInt = a) (hb : y.toInt = b) (h : a < b) : ifCond.holds .lt (lcmpW x y) = true ∧ ifCond.holds .ge (lcmpW x y) = false ∧ ifCond.holds .gt (lcmpW y x) = true ∧ ifCond.holds .le (lcmpW y x) = false := by
  have q : x < y := by rw [Int64.lt_iff_toInt_lt, ha, hb]; exact h
  have h1 := tlt ((lw_lt x y).mpr q)
  have h2 := tlt ((lw_gt y x).mpr q)
  exact ⟨(if0 _ _).trans h1.1, (if0 _ _).trans h1.2.1, (if0 _ _).trans h2.2.2.1, (if0 _ _).trans h2.2.2.2⟩
theorem own_ln {x y : Int64} {a b : Int} (ha : x.toInt = a) (hb : y.toInt = b) (h : ¬ a < b) : ifCond.holds .lt (lcmpW x y) = false ∧ ifCond.holds .ge (lcmpW x y) = true ∧ ifCond.holds .gt (lcmpW y x) = false ∧ ifCond.holds .le (lcmpW y x) = true := by
  have q : ¬ x < y := by rw [Int64.lt_iff_toInt_lt, ha, hb]; exact h
  have h1 := flt (fun r => q ((lw_lt x y).mp r))
  have h2 := flt (fun r => q ((lw_gt y x).mp r))
  exact ⟨(if0 _ _).trans h1.1, (if0 _ _).trans h1.2.1, (if0 _ _).trans h2.2.2.1, (if0 _ _).trans h2.2.2.2⟩
theorem own_le {x y : Int64} {a b : Int} (ha : x.toInt = a) (hb : y.toInt = b) (h : a = b) : ifCond.holds .eq (lcmpW x y) = true ∧ ifCond.holds .ne (lcmpW x y) = false := by
  have q : x = y := by rw [← Int64.toInt_inj, ha, hb]; exact h
  have h1 := teq ((lw_eq x y).mpr q)
  exact ⟨(if0 _ _).trans h1.1, (if0 _ _).trans h1.2⟩
theorem own_lu {x y : Int64} {a b : Int} (ha : x.toInt = a) (hb : y.toInt = b) (h : ¬ a = b) : ifCond.holds .eq (lcmpW x y) = false ∧ ifCond.holds .ne (lcmpW x y) = true := by
  have q : ¬ x = y := by rw [← Int64.toInt_inj, ha, hb]; exact h
  have h1 := feq (fun r => q ((lw_eq x y).mp r))
  exact ⟨(if0 _ _).trans h1.1, (if0 _ _).trans h1.2⟩
/-! a boolean as an int -/
abbrev own_B (r : Int32) (P : Prop) : Prop := (r.toInt = 1 ∧ P) ∨ (r.toInt = 0 ∧ ¬ P)
theorem own_B1 {P : Prop} (h : P) : own_B 1 P := Or.inl ⟨rfl, h⟩
theorem own_B0 {P : Prop} (h : ¬ P) : own_B 0 P := Or.inr ⟨rfl, h⟩
theorem own_B.lit {r : Int32} {P : Prop} (H : own_B r P) : (r = 1 ∧ P) ∨ (r = 0 ∧ ¬ P) := by
  rcases H with ⟨q, h⟩ | ⟨q, h⟩
  · exact Or.inl ⟨Int32.toInt_inj.mp q, h⟩
  · exact Or.inr ⟨Int32.toInt_inj.mp q, h⟩
/-! arrays: their length and what each place holds -/
def own_A (Z : State) (h : Heap) (a : Addr) (ty : FieldType) (n : Nat) (f : Nat → Value) : Prop := ∃ c : Cell, Arr Z h a c ty ∧ c.slots.size = n ∧ ∀ i, i < n → c.slots[i]? = some (f i)
def own_AI (Z : State) (h : Heap) (a : Addr) (ty : FieldType) (n : Nat) (f : Nat → Int32) : Prop := own_A Z h a ty n (fun i => .int (f i))
def own_AJ (Z : State) (h : Heap) (a : Addr) (n : Nat) (f : Nat → Int64) : Prop := own_A Z h a .long n (fun i => .long (f i))
variable {ty : FieldType} {n : Nat} {fv : Nat → Value} {fi : Nat → Int32} {fj : Nat → Int64}
theorem own_A.lt (F : own_A Z h a ty n fv) : a < h.size := by obtain ⟨c, A, -⟩ := F; exact A.lt
theorem own_A.ext (F : own_A Z h a ty n fv) (E : Ext h h') : own_A Z h' a ty n fv := by obtain ⟨c, A, r⟩ := F; exact ⟨c, A.ext E, r⟩
theorem own_A.other {sl : Nat} {v : Value} (F : own_A Z h a ty n fv) (W : Wr h h' b sl v) (q : a ≠ b) : own_A Z h' a ty n fv := by obtain ⟨c, A, r⟩ := F; exact ⟨c, A.other W q, r⟩
theorem own_A.keep {ws : List Addr} (F : own_A Z h a ty n fv) (K : Keep h h' ws) (q : a ∉ ws) : own_A Z h' a ty n fv := by obtain ⟨c, A, r⟩ := F; exact ⟨c, ⟨K.2.1 a c A.1 q, A.2⟩, r⟩
theorem own_A.congr {gv : Nat → Value} (F : own_A Z h a ty n fv) (q : ∀ i, i < n → fv i = gv i) : own_A Z h a ty n gv := by obtain ⟨c, A, r, t⟩ := F; exact ⟨c, A, r, fun i hi => by rw [t i hi, q i hi]⟩
theorem own_A.set {j : Nat} {v : Value} (F : own_A Z h a ty n fv) (W : Wr h h' a j v) : own_A Z h' a ty n (fun i => if i = j then v else fv i) := by
  obtain ⟨c, A, r, t⟩ := F
  have W0 := W
  obtain ⟨c2, h1, -, h3, -⟩ := W0
  have ec : c2 = c := Option.some.inj (h1.symm.trans A.1)
  subst ec
  refine ⟨_, A.same W, by rw [sz_set]; exact r, fun i hi => ?_⟩
  by_cases q : i = j
  · subst q; simp [Cell.setSlot, h3]
  · simp only [q, if_false]; rw [← t i hi]; simp only [Cell.setSlot]; exact Array.getElem?_setIfInBounds_ne fun z => q z.symm
theorem own_A.new {k : ClassId} {z : Int32} (A : Arr Z h a (newA k ty z) ty) (q : z.toNatClampNeg = n) : own_A Z h a ty n (fun _ => defaultValue ty) := by
  subst q
  exact ⟨_, A, sz_new _ _ _, fun i hi => by simp [newA, hi]⟩
theorem own_AI.lt (F : own_AI Z h a ty n fi) : a < h.size := own_A.lt F
theorem own_AI.ext (F : own_AI Z h a ty n fi) (E : Ext h h') : own_AI Z h' a ty n fi := own_A.ext F E
theorem own_AI.other {sl : Nat} {v : Value} (F : own_AI Z h a ty n fi) (W : Wr h h' b sl v) (q : a ≠ b) : own_AI Z h' a ty n fi := own_A.other F W q
theorem own_AI.keep {ws : List Addr} (F : own_AI Z h a ty n fi) (K : Keep h h' ws) (q : a ∉ ws) : own_AI Z h' a ty n fi := own_A.keep F K q
theorem own_AI.congr {gi : Nat → Int32} (F : own_AI Z h a ty n fi) (q : ∀ i, i < n → fi i = gi i) : own_AI Z h a ty n gi := own_A.congr F fun i hi => by rw [q i hi]
theorem own_AI.set {j : Nat} {x : Int32} (F : own_AI Z h a ty n fi) (W : Wr h h' a j (.int x)) : own_AI Z h' a ty n (fun i => if i = j then x else fi i) := (own_A.set F W).congr fun i _ => by by_cases q : i = j <;> simp [q]
theorem own_AI.newI {k : ClassId} {z : Int32} (A : Arr Z h a (newA k .int z) .int) (q : z.toNatClampNeg = n) : own_AI Z h a .int n (fun _ => 0) := own_A.new A q
theorem own_AI.newB {k : ClassId} {z : Int32} (A : Arr Z h a (newA k .byte z) .byte) (q : z.toNatClampNeg = n) : own_AI Z h a .byte n (fun _ => 0) := own_A.new A q
theorem own_AJ.lt (F : own_AJ Z h a n fj) : a < h.size := own_A.lt F
theorem own_AJ.ext (F : own_AJ Z h a n fj) (E : Ext h h') : own_AJ Z h' a n fj := own_A.ext F E
theorem own_AJ.other {sl : Nat} {v : Value} (F : own_AJ Z h a n fj) (W : Wr h h' b sl v) (q : a ≠ b) : own_AJ Z h' a n fj := own_A.other F W q
theorem own_AJ.keep {ws : List Addr} (F : own_AJ Z h a n fj) (K : Keep h h' ws) (q : a ∉ ws) : own_AJ Z h' a n fj := own_A.keep F K q
theorem own_AJ.congr {gj : Nat → Int64} (F : own_AJ Z h a n fj) (q : ∀ i, i < n → fj i = gj i) : own_AJ Z h a n gj := own_A.congr F fun i hi => by rw [q i hi]
theorem own_AJ.set {j : Nat} {x : Int64} (F : own_AJ Z h a n fj) (W : Wr h h' a j (.long x)) : own_AJ Z h' a n (fun i => if i = j then x else fj i) := (own_A.set F W).congr fun i _ => by by_cases q : i = j <;> simp [q]
theorem own_AJ.new {k : ClassId} {z : Int32} (A : Arr Z h a (newA k .long z) .long) (q : z.toNatClampNeg = n) : own_AJ Z h a n (fun _ => 0) := own_A.new A q
theorem own_in {j : Int32} {k n : Nat} (hj : j.toInt = (k : Int)) (hk : k < n) : j.toNatClampNeg = k ∧ ¬ (j < 0 ∨ n ≤ j.toNatClampNeg) := by
  have q : j.toNatClampNeg = k := by simp only [Int32.toNatClampNeg, hj]; omega
  refine ⟨q, fun z => ?_⟩
  rcases z with z | z
  · rw [Int32.lt_iff_toInt_lt, hj] at z
    have : (0 : Int32).toInt = 0 := rfl
    omega
  · omega
theorem own_iaload (X : Stand p l e R s m args below meth c T locs cells slots) (hx : p.tables.exec = Jvm.exec) (hZ : Z.Warmed39 s.vm) (eT : T.heap = h) (F : own_AI Z h a .int n fi) {j : Int32} {k : Nat} (hj : j.toInt = (k : Int)) (hk : k < n) {v : Int32} (hv : fi k = v) {pc pc' : Nat} {Ls : Array Slot} {rest : List Value}
    (hd : decode c.code pc = .ok (.iaload, 1)) (hp : pc + 1 = pc') (r : own_Fin p e below s Q cl sl T (mkF m pc' Ls (.int v :: rest))) : own_Fin p e below s Q cl sl T (mkF m pc Ls (.int j :: .ref a :: rest)) := by
  obtain ⟨cc, A, h1, h2⟩ := F
  obtain ⟨q1, q2⟩ := own_in hj hk
  subst hp hv
  exact own_step (fun t k' => X.iaload hx (j := j) (v := .int (fi k)) (by rw [eT]; exact A.1) (State.isArrayOf_alike hZ.alike A.2.1) A.2.2 (by rw [h1]; exact q2) (by rw [q1]; exact h2 k hk) (g := mkF m pc Ls (.int j :: .ref a :: rest)) rfl rfl hd _ k') r
theorem own_baload (X : Stand p l e R s m args below meth c T locs cells slots) (hx : p.tables.exec = Jvm.exec) (hZ : Z.Warmed39 s.vm) (eT : T.heap = h) (F : own_AI Z h a .byte n fi) {j : Int32} {k : Nat} (hj : j.toInt = (k : Int)) (hk : k < n) {v : Int32} (hv : fi k = v) {pc pc' : Nat} {Ls : Array Slot} {rest : List Value}
    (hd : decode c.code pc = .ok (.baload, 1)) (hp : pc + 1 = pc') (r : own_Fin p e below s Q cl sl T (mkF m pc' Ls (.int v :: rest))) : own_Fin p e below s Q cl sl T (mkF m pc Ls (.int j :: .ref a :: rest)) := by
  obtain ⟨cc, A, h1, h2⟩ := F
  obtain ⟨q1, q2⟩ := own_in hj hk
  subst hp hv
  exact own_step (fun t k' => X.baloadBytes hx (j := j) (v := .int (fi k)) (by rw [eT]; exact A.1) (State.isArrayOf_alike hZ.alike A.2.1) A.2.2 (by rw [h1]; exact q2) (by rw [q1]; exact h2 k hk) (g := mkF m pc Ls (.int j :: .ref a :: rest)) rfl rfl hd _ k') r
theorem own_laload (X : Stand p l e R s m args below meth c T locs cells slots) (hx : p.tables.exec = Jvm.exec) (hZ : Z.Warmed39 s.vm) (eT : T.heap = h) (F : own_AJ Z h a n fj) {j : Int32} {k : Nat} (hj : j.toInt = (k : Int)) (hk : k < n) {v : Int64} (hv : fj k = v) {pc pc' : Nat} {Ls : Array Slot} {rest : List Value}
    (hd : decode c.code pc = .ok (.laload, 1)) (hp : pc + 1 = pc') (r : own_Fin p e below s Q cl sl T (mkF m pc' Ls (.long v :: rest))) : own_Fin p e below s Q cl sl T (mkF m pc Ls (.int j :: .ref a :: rest)) := by
  obtain ⟨cc, A, h1, h2⟩ := F
  obtain ⟨q1, q2⟩ := own_in hj hk
  subst hp hv
  exact own_step (fun t k' => X.laload hx (j := j) (v := .long (fj k)) (by rw [eT]; exact A.1) (State.isArrayOf_alike hZ.alike A.2.1) A.2.2 (by rw [h1]; exact q2) (by rw [q1]; exact h2 k hk) (g := mkF m pc Ls (.int j :: .ref a :: rest)) rfl rfl hd _ k') r
theorem own_arrlen (X : Stand p l e R s m args below meth c T locs cells slots) (hx : p.tables.exec = Jvm.exec) (hZ : Z.Warmed39 s.vm) (eT : T.heap = h) (F : own_A Z h a ty n fv) {z : Int32} (hz : n.toInt32 = z) {pc pc' : Nat} {Ls : Array Slot} {rest : List Value}
    (hd : decode c.code pc = .ok (.arraylength, 1)) (hp : pc + 1 = pc') (r : own_Fin p e below s Q cl sl T (mkF m pc' Ls (.int z :: rest))) : own_Fin p e below s Q cl sl T (mkF m pc Ls (.ref a :: rest)) := by
  obtain ⟨cc, A, h1, h2⟩ := F
  subst hp hz
  exact own_step (fun t k' => X.arraylength hx (by rw [eT]; exact A.1) (State.isArrayOf_alike hZ.alike A.2.1) (g := mkF m pc Ls (.ref a :: rest)) rfl rfl hd _ (by rw [h1]; exact k')) r
theorem own_iastore (X : Stand p l e R s m args below meth c T locs cells slots) (hx : p.tables.exec = Jvm.exec) (hZ : Z.Warmed39 s.vm) (eT : T.heap = h) (F : own_AI Z h a .int n fi) {j : Int32} {k : Nat} (hj : j.toInt = (k : Int)) (hk : k < n) {x : Int32} {pc pc' : Nat} {Ls : Array Slot} {rest : List Value}
    (hd : decode c.code pc = .ok (.iastore, 1)) (hp : pc + 1 = pc') :
    ∃ T' h', Stand p l e R s m args below meth c T' (locs ++ [⟨a, k⟩]) cells slots ∧ T'.heap = h' ∧ Wr h h' a k (.int x) ∧ own_AI Z h' a .int n (fun i => if i = k then x else fi i) ∧ ∀ t, Steps p.tables e below (T'.setTop (mkF m pc' Ls rest)) t → Steps p.tables e below (T.setTop (mkF m pc Ls (.int x :: .int j :: .ref a :: rest))) t := by
  obtain ⟨q1, q2⟩ := own_in hj hk
  have F' := F
  obtain ⟨cc, A, h1, h2⟩ := F
  subst hp q1
  obtain ⟨T', h', X', e', W', st⟩ := stI X hx hZ eT A (j := j) (x := x) (by rw [h1]; exact q2) (g := mkF m pc Ls (.int x :: .int j :: .ref a :: rest)) rfl rfl hd
  exact ⟨T', h', X', e', W', F'.set W', st⟩
theorem own_bastore (X : Stand p l e R s m args below meth c T locs cells slots) (hx : p.tables.exec = Jvm.exec) (hZ : Z.Warmed39 s.vm) (eT : T.heap = h) (F : own_AI Z h a .byte n fi) {j : Int32} {k : Nat} (hj : j.toInt = (k : Int)) (hk : k < n) {x y : Int32} (hn : nar .byte x = y) {pc pc' : Nat} {Ls : Array Slot} {rest : List Value}
    (hd : decode c.code pc = .ok (.bastore, 1)) (hp : pc + 1 = pc') :
    ∃ T' h', Stand p l e R s m args below meth c T' (locs ++ [⟨a, k⟩]) cells slots ∧ T'.heap = h' ∧ Wr h h' a k (.int y) ∧ own_AI Z h' a .byte n (fun i => if i = k then y else fi i) ∧ ∀ t, Steps p.tables e below (T'.setTop (mkF m pc' Ls rest)) t → Steps p.tables e below (T.setTop (mkF m pc Ls (.int x :: .int j :: .ref a :: rest))) t := by
  obtain ⟨q1, q2⟩ := own_in hj hk
  have F' := F
  obtain ⟨cc, A, h1, h2⟩ := F
  subst hp q1 hn
  obtain ⟨T', h', X', e', W', st⟩ := stB X hx hZ eT A (j := j) (x := x) (by rw [h1]; exact q2) (g := mkF m pc Ls (.int x :: .int j :: .ref a :: rest)) rfl rfl hd
  exact ⟨T', h', X', e', W', F'.set W', st⟩
theorem own_lastore (X : Stand p l e R s m args below meth c T locs cells slots) (hx : p.tables.exec = Jvm.exec) (hZ : Z.Warmed39 s.vm) (eT : T.heap = h) (F : own_AJ Z h a n fj) {j : Int32} {k : Nat} (hj : j.toInt = (k : Int)) (hk : k < n) {x : Int64} {pc pc' : Nat} {Ls : Array Slot} {rest : List Value}
    (hd : decode c.code pc = .ok (.lastore, 1)) (hp : pc + 1 = pc') :
    ∃ T' h', Stand p l e R s m args below meth c T' (locs ++ [⟨a, k⟩]) cells slots ∧ T'.heap = h' ∧ Wr h h' a k (.long x) ∧ own_AJ Z h' a n (fun i => if i = k then x else fj i) ∧ ∀ t, Steps p.tables e below (T'.setTop (mkF m pc' Ls rest)) t → Steps p.tables e below (T.setTop (mkF m pc Ls (.long x :: .int j :: .ref a :: rest))) t := by
  obtain ⟨q1, q2⟩ := own_in hj hk
  have F' := F
  obtain ⟨cc, A, h1, h2⟩ := F
  subst hp q1
  obtain ⟨T', h', X', e', W', st⟩ := stJ X hx hZ eT A (j := j) (x := x) (by rw [h1]; exact q2) (g := mkF m pc Ls (.long x :: .int j :: .ref a :: rest)) rfl rfl hd
  exact ⟨T', h', X', e', W', F'.set W', st⟩
theorem own_nar8 (x : Int32) : nar .byte x.toInt8.toInt32 = x.toInt8.toInt32 := by
  show (x.toInt8.toInt32).toInt8.toInt32 = x.toInt8.toInt32
  simp
end OwnKit
def own_up (f : Nat → Int64) (k : Nat) (v : Int64) (i : Nat) : Int64 := if i = k then v else f i
theorem own_up_s (f : Nat → Int64) (k : Nat) (v : Int64) : own_up f k v k = v := by simp [own_up]
theorem own_up_o (f : Nat → Int64) (k : Nat) (v : Int64) (i : Nat) (h : i ≠ k) : own_up f k v i = f i := by simp [own_up, h]
theorem d1_0 : decode prog_36_method_1_code 0 = .ok (.aload_n 0, 1) := by decide +kernel
theorem d1_1 : decode prog_36_method_1_code 1 = .ok (.invokespecial 1, 3) := by decide +kernel
theorem d1_4 : decode prog_36_method_1_code 4 = .ok (.aload_n 0, 1) := by decide +kernel
theorem d1_5 : decode prog_36_method_1_code 5 = .ok (.sipush 1024, 3) := by decide +kernel
theorem d1_8 : decode prog_36_method_1_code 8 = .ok (.newarray .long, 2) := by decide +kernel
theorem d1_10 : decode prog_36_method_1_code 10 = .ok (.putfield 7, 3) := by decide +kernel
theorem d1_13 : decode prog_36_method_1_code 13 = .ok (.return_, 1) := by decide +kernel
theorem own_pn_1 : plainName "com/example/limfjord/limfjord/engine/LongQueue" = true := by first | (simp [plainName, overriddenIn]; done) | decide +kernel
theorem own_ef_1 (m : MethodId) (a1 : Addr) : entryFrame m #[(.ref a1)] 1 = mkF m 0 #[.val (.ref a1)] [] := by first | (simp [entryFrame, mkF, argsToLocals, Value.category]; done) | rfl
abbrev own_R1 : Room := { frames := 1, cells := 1, slots := 1024, locals := 12 }
def own_Q1 (Z : State) (a1 : Addr) (h0 : Heap) (n0 : Nat) (v : Option Value) (h : Heap) (L : List Loc) : Prop := v = none ∧ Fr n0 L ∧ Keep h0 h [a1] ∧ ∃ b : Addr, n0 ≤ b ∧ a1 ≠ b ∧ h0.size ≤ b ∧ Exa Z h a1 "com/example/limfjord/limfjord/engine/LongQueue" ∧ Fld Z h a1 "com/example/limfjord/limfjord/engine/LongQueue" "entries" "[J" (.ref b) ∧ Fld Z h a1 "com/example/limfjord/limfjord/engine/LongQueue" "head" "I" (.int (0 : Int32)) ∧ Fld Z h a1 "com/example/limfjord/limfjord/engine/LongQueue" "tail" "I" (.int (0 : Int32)) ∧ own_AJ Z h b 1024 (fun _ => 0)
set_option maxRecDepth 65536 in
set_option maxHeartbeats 40000000 in
theorem rm1 (l : Launch) (Z : State) (a0 : Array Value) (hw : ∀ d ∈ tables_1, d.before a0 Z = true) (ws : List Jvm.Cond) (a1 : Addr) (h0 : Heap) (n0 : Nat) (Z0 : n0 ≤ h0.size) (E_a1 : Exa Z h0 a1 "com/example/limfjord/limfjord/engine/LongQueue") (F_entries_a1 : Fld Z h0 a1 "com/example/limfjord/limfjord/engine/LongQueue" "entries" "[J" .null) (F_head_a1 : Fld Z h0 a1 "com/example/limfjord/limfjord/engine/LongQueue" "head" "I" (.int (0 : Int32))) (F_tail_a1 : Fld Z h0 a1 "com/example/limfjord/limfjord/engine/LongQueue" "tail" "I" (.int (0 : Int32))) (g_a1 : n0 ≤ a1) :
    MetFree l (⟨"com/example/limfjord/limfjord/engine/LongQueue", "<init>", "()V"⟩ : MethodName) (head1 (Jvm.Cond.code (⟨"com/example/limfjord/limfjord/engine/LongQueue", "<init>", "()V"⟩ : MethodName) prog_36_method_1_code 1 none :: ws) own_R1) (fun a U => a = #[(.ref a1)] ∧ Z.Warmed39 U.vm ∧ U.heap = h0) (fun _ _ _ _ _ => True) (fun _ U o U' => ∃ v L, o = .returned v ∧ own_Q1 Z a1 h0 n0 v U'.heap L ∧ FrameEnd U o U' L own_R1.cells own_R1.slots) := by
  refine MetFree.of_bodySF (plainFor_of_name own_pn_1) hisR ?_
  intro p e s m args below meth c s₁ Bd hml0 hP hK
  obtain ⟨rfl, hZ, hh⟩ := hP
  have hx := Bd.exec
  have hby := Bd.bytes
  have hlk := BodyLoose.notSynchronized Bd
  have hml : c.maxLocals = 1 := hml0
  have hown : s.vm.findClass "com/example/limfjord/limfjord/engine/LongQueue" = some m.cls := (findClass_of_methodNamed Bd.named : s.vm.findClass (⟨"com/example/limfjord/limfjord/engine/LongQueue", "<init>", "()V"⟩ : MethodName).cls = some m.cls)
  have hnm := (name_of_methodNamed Bd.named Bd.method).1
  have X0 : Stand p l e own_R1 s m #[(.ref a1)] below meth c s₁ [] 0 0 := Stand.of_body Bd
  have e0 : s₁.heap = h0 := by rw [← hh, Bd.state]; rfl
  have Nf := Fr.nil n0
  have Zs := Z0
  have K : Keep h0 h0 [a1] := Keep.refl _ _
  show own_Fin p e below s (own_Q1 Z a1 h0 n0) 1 1024 s₁ (entryFrame m #[(.ref a1)] 1)
  rw [own_ef_1 m a1]
  show own_Fin _ _ _ _ _ _ _ _ (mkF m 0 #[.val (.ref a1)] [])
  refine own_step (fun t k => XS.aloadN X0.here hx rfl (hb hby d1_0) rfl rfl k) ?_
  show own_Fin _ _ _ _ _ _ _ _ (mkF m 1 #[.val (.ref a1)] [(.ref a1)])
  obtain ⟨T1, X1, e1, st1⟩ := initO X0 hx hZ hown (hw _ (List.mem_of_getElem? (i := 6) rfl)) (hw _ (List.mem_of_getElem? (i := 7) rfl)) (hw _ (List.mem_of_getElem? (i := 8) rfl)) e0 (g := (mkF m 1 #[.val (.ref a1)] [(.ref a1)])) rfl (by rw [hml]; rfl) rfl (hb hby d1_1) (by decide) (W := 0) (by show 2 * 0 + _ ≤ _; exact Nat.le_of_eq rfl) (by decide)
  refine own_step st1 ?_
  show own_Fin _ _ _ _ _ _ _ _ (mkF m 4 #[.val (.ref a1)] [])
  refine own_step (fun t k => XS.aloadN X1.here hx rfl (hb hby d1_4) rfl rfl k) ?_
  show own_Fin _ _ _ _ _ _ _ _ (mkF m 5 #[.val (.ref a1)] [(.ref a1)])
  refine own_step (fun t k => XS.sipush X1.here hx rfl (hb hby d1_5) k) ?_
  show own_Fin _ _ _ _ _ _ _ _ (mkF m 8 #[.val (.ref a1)] [(.int (1024 : Int32)), (.ref a1)])
  obtain ⟨T2, h2, k2, X2, e2, E2, A2, st2⟩ := newP X1 hx hZ (hw _ (List.mem_of_getElem? (i := 9) rfl)) e1 (g := (mkF m 8 #[.val (.ref a1)] [(.int (1024 : Int32)), (.ref a1)])) rfl (hb hby d1_8) rfl (by decide) (cap := 1024) (by decide) (by decide) (by decide) (by decide)
  obtain ⟨b2, g2⟩ : ∃ z, z = h0.size := ⟨_, rfl⟩
  rw [← g2] at A2 st2
  refine own_step st2 ?_
  have ne_a1_b2 : a1 ≠ b2 := Nat.ne_of_lt (Nat.lt_of_lt_of_le E_a1.lt (Nat.le_of_eq g2.symm))
  have g_b2 : n0 ≤ b2 := Nat.le_trans Zs (Nat.le_of_eq g2.symm)
  have sz_b2 : h0.size ≤ b2 := Nat.le_trans K.1 (Nat.le_of_eq g2.symm)
  replace E_a1 := E_a1.ext E2
  replace F_entries_a1 := F_entries_a1.ext E2
  replace F_head_a1 := F_head_a1.ext E2
  replace F_tail_a1 := F_tail_a1.ext E2
  replace Zs := Nat.le_trans Zs E2.1
  replace K := K.ext E2
  have V_b2 := own_AJ.new (n := 1024) A2 (by decide)
  show own_Fin _ _ _ _ _ _ _ _ (mkF m 10 #[.val (.ref a1)] [(.ref b2), (.ref a1)])
  obtain ⟨T3, h3, X3, e3, W3, st3⟩ := putF X2 hx hZ hown (host := "") (Or.inl (hw _ (List.mem_of_getElem? (i := 10) rfl))) Via.refl e2 F_entries_a1 E_a1 (Or.inl (hw _ (List.mem_of_getElem? (i := 11) rfl))) (hw _ (List.mem_of_getElem? (i := 1) rfl)) (ty := (.array .long)) (by decide) rfl rfl (g := (mkF m 10 #[.val (.ref a1)] [(.ref b2), (.ref a1)])) rfl rfl (hb hby d1_10)
  refine own_step st3 ?_
  replace E_a1 := E_a1.wr W3
  replace F_entries_a1 := F_entries_a1.same W3
  replace F_head_a1 := F_head_a1.other W3 (Or.inr (slot_ne (Or.inl (hw _ (List.mem_of_getElem? (i := 25) rfl))) (Or.inl (hw _ (List.mem_of_getElem? (i := 11) rfl))) (by decide) (t := .int) (t' := (.array .long)) (by decide) (by decide)))
  replace F_tail_a1 := F_tail_a1.other W3 (Or.inr (slot_ne (Or.inl (hw _ (List.mem_of_getElem? (i := 18) rfl))) (Or.inl (hw _ (List.mem_of_getElem? (i := 11) rfl))) (by decide) (t := .int) (t' := (.array .long)) (by decide) (by decide)))
  replace V_b2 := V_b2.other W3 (Ne.symm ne_a1_b2)
  replace Zs : n0 ≤ h3.size := by rw [W3.size]; exact Zs
  replace K := K.wr W3 (Or.inl (by simp))
  replace Nf := Fr.snoc X3 Nf g_a1
  show own_Fin _ _ _ _ _ _ _ _ (mkF m 13 #[.val (.ref a1)] [])
  refine own_retV X3 hx hlk Bd.returns (hb hby d1_13) (by decide) (by decide) e3 ?_
  exact ⟨rfl, Nf, K, b2, g_b2, ne_a1_b2, sz_b2, E_a1, F_entries_a1, F_head_a1, F_tail_a1, V_b2⟩
theorem d2_0 : decode prog_36_method_5_code 0 = .ok (.aload_n 0, 1) := by decide +kernel
theorem d2_1 : decode prog_36_method_5_code 1 = .ok (.getfield 17, 3) := by decide +kernel
theorem d2_4 : decode prog_36_method_5_code 4 = .ok (.aload_n 0, 1) := by decide +kernel
theorem d2_5 : decode prog_36_method_5_code 5 = .ok (.getfield 7, 3) := by decide +kernel
theorem d2_8 : decode prog_36_method_5_code 8 = .ok (.arraylength, 1) := by decide +kernel
theorem d2_9 : decode prog_36_method_5_code 9 = .ok (.if_icmp .ne 73, 3) := by decide +kernel
theorem d2_82 : decode prog_36_method_5_code 82 = .ok (.aload_n 0, 1) := by decide +kernel
theorem d2_83 : decode prog_36_method_5_code 83 = .ok (.getfield 7, 3) := by decide +kernel
theorem d2_86 : decode prog_36_method_5_code 86 = .ok (.aload_n 0, 1) := by decide +kernel
theorem d2_87 : decode prog_36_method_5_code 87 = .ok (.getfield 17, 3) := by decide +kernel
theorem d2_90 : decode prog_36_method_5_code 90 = .ok (.lload_n 1, 1) := by decide +kernel
theorem d2_91 : decode prog_36_method_5_code 91 = .ok (.lastore, 1) := by decide +kernel
theorem d2_92 : decode prog_36_method_5_code 92 = .ok (.aload_n 0, 1) := by decide +kernel
theorem d2_93 : decode prog_36_method_5_code 93 = .ok (.dup, 1) := by decide +kernel
theorem d2_94 : decode prog_36_method_5_code 94 = .ok (.getfield 17, 3) := by decide +kernel
theorem d2_97 : decode prog_36_method_5_code 97 = .ok (.iconst 1, 1) := by decide +kernel
theorem d2_98 : decode prog_36_method_5_code 98 = .ok (.iadd, 1) := by decide +kernel
theorem d2_99 : decode prog_36_method_5_code 99 = .ok (.putfield 17, 3) := by decide +kernel
theorem d2_102 : decode prog_36_method_5_code 102 = .ok (.return_, 1) := by decide +kernel
theorem own_pn_2 : plainName "com/example/limfjord/limfjord/engine/LongQueue" = true := by first | (simp [plainName, overriddenIn]; done) | decide +kernel
theorem own_ef_2 (m : MethodId) (a1 : Addr) (q2 : Int64) : entryFrame m #[(.ref a1), (.long q2)] 5 = mkF m 0 #[.val (.ref a1), .val (.long q2), .second, .unset, .unset] [] := by first | (simp [entryFrame, mkF, argsToLocals, Value.category]; done) | rfl
abbrev own_R2 : Room := { frames := 0, cells := 0, slots := 0, locals := 0 }
def own_Q2 (Z : State) (a1 : Addr) (q2 : Int64) (b1 : Addr) (w_head : Int32) (w_tail : Int32) (f1 : Nat → Int64) (h0 : Heap) (n0 : Nat) (v : Option Value) (h : Heap) (L : List Loc) : Prop := v = none ∧ Fr n0 L ∧ Keep h0 h [a1, b1] ∧ Exa Z h a1 "com/example/limfjord/limfjord/engine/LongQueue" ∧ Fld Z h a1 "com/example/limfjord/limfjord/engine/LongQueue" "entries" "[J" (.ref b1) ∧ Fld Z h a1 "com/example/limfjord/limfjord/engine/LongQueue" "head" "I" (.int w_head) ∧ Fld Z h a1 "com/example/limfjord/limfjord/engine/LongQueue" "tail" "I" (.int (w_tail + (1 : Int32))) ∧ own_AJ Z h b1 1024 (own_up f1 w_tail.toInt.toNat q2)
set_option maxRecDepth 65536 in
set_option maxHeartbeats 40000000 in
theorem rm2 (l : Launch) (Z : State) (a0 : Array Value) (hw : ∀ d ∈ tables_1, d.before a0 Z = true) (ws : List Jvm.Cond) (a1 : Addr) (q2 : Int64) (b1 : Addr) (w_head : Int32) (w_tail : Int32) (f1 : Nat → Int64) (h0 : Heap) (n0 : Nat) (Z0 : n0 ≤ h0.size) (E_a1 : Exa Z h0 a1 "com/example/limfjord/limfjord/engine/LongQueue") (F_entries_a1 : Fld Z h0 a1 "com/example/limfjord/limfjord/engine/LongQueue" "entries" "[J" (.ref b1)) (F_head_a1 : Fld Z h0 a1 "com/example/limfjord/limfjord/engine/LongQueue" "head" "I" (.int w_head)) (F_tail_a1 : Fld Z h0 a1 "com/example/limfjord/limfjord/engine/LongQueue" "tail" "I" (.int w_tail)) (V_b1 : own_AJ Z h0 b1 1024 f1) (g_a1 : n0 ≤ a1) (g_b1 : n0 ≤ b1) (hne : a1 ≠ b1) (ht : 0 ≤ w_tail.toInt ∧ w_tail.toInt < 1024) :
    MetFree l (⟨"com/example/limfjord/limfjord/engine/LongQueue", "add", "(J)V"⟩ : MethodName) (head1 (Jvm.Cond.code (⟨"com/example/limfjord/limfjord/engine/LongQueue", "add", "(J)V"⟩ : MethodName) prog_36_method_5_code 5 none :: ws) own_R2) (fun a U => a = #[(.ref a1), (.long q2)] ∧ Z.Warmed39 U.vm ∧ U.heap = h0) (fun _ _ _ _ _ => True) (fun _ U o U' => ∃ v L, o = .returned v ∧ own_Q2 Z a1 q2 b1 w_head w_tail f1 h0 n0 v U'.heap L ∧ FrameEnd U o U' L own_R2.cells own_R2.slots) := by
  refine MetFree.of_bodySF (plainFor_of_name own_pn_2) hisR ?_
  intro p e s m args below meth c s₁ Bd hml0 hP hK
  obtain ⟨rfl, hZ, hh⟩ := hP
  have hx := Bd.exec
  have hby := Bd.bytes
  have hlk := BodyLoose.notSynchronized Bd
  have hml : c.maxLocals = 5 := hml0
  have hown : s.vm.findClass "com/example/limfjord/limfjord/engine/LongQueue" = some m.cls := (findClass_of_methodNamed Bd.named : s.vm.findClass (⟨"com/example/limfjord/limfjord/engine/LongQueue", "add", "(J)V"⟩ : MethodName).cls = some m.cls)
  have hnm := (name_of_methodNamed Bd.named Bd.method).1
  have X0 : Stand p l e own_R2 s m #[(.ref a1), (.long q2)] below meth c s₁ [] 0 0 := Stand.of_body Bd
  have e0 : s₁.heap = h0 := by rw [← hh, Bd.state]; rfl
  have Nf := Fr.nil n0
  have Zs := Z0
  have K : Keep h0 h0 [a1, b1] := Keep.refl _ _
  show own_Fin p e below s (own_Q2 Z a1 q2 b1 w_head w_tail f1 h0 n0) 0 0 s₁ (entryFrame m #[(.ref a1), (.long q2)] 5)
  rw [own_ef_2 m a1 q2]
  show own_Fin _ _ _ _ _ _ _ _ (mkF m 0 #[.val (.ref a1), .val (.long q2), .second, .unset, .unset] [])
  refine own_step (fun t k => XS.aloadN X0.here hx rfl (hb hby d2_0) rfl rfl k) ?_
  show own_Fin _ _ _ _ _ _ _ _ (mkF m 1 #[.val (.ref a1), .val (.long q2), .second, .unset, .unset] [(.ref a1)])
  obtain ⟨T1, X1, e1, st1⟩ := getF X0 hx hZ hown (host := "") (Or.inl (hw _ (List.mem_of_getElem? (i := 17) rfl))) Via.refl e0 F_tail_a1 (g := (mkF m 1 #[.val (.ref a1), .val (.long q2), .second, .unset, .unset] [(.ref a1)])) rfl rfl (hb hby d2_1)
  refine own_step st1 ?_
  show own_Fin _ _ _ _ _ _ _ _ (mkF m 4 #[.val (.ref a1), .val (.long q2), .second, .unset, .unset] [(.int w_tail)])
  refine own_step (fun t k => XS.aloadN X1.here hx rfl (hb hby d2_4) rfl rfl k) ?_
  show own_Fin _ _ _ _ _ _ _ _ (mkF m 5 #[.val (.ref a1), .val (.long q2), .second, .unset, .unset] [(.ref a1), (.int w_tail)])
  obtain ⟨T2, X2, e2, st2⟩ := getF X1 hx hZ hown (host := "") (Or.inl (hw _ (List.mem_of_getElem? (i := 10) rfl))) Via.refl e1 F_entries_a1 (g := (mkF m 5 #[.val (.ref a1), .val (.long q2), .second, .unset, .unset] [(.ref a1), (.int w_tail)])) rfl rfl (hb hby d2_5)
  refine own_step st2 ?_
  show own_Fin _ _ _ _ _ _ _ _ (mkF m 8 #[.val (.ref a1), .val (.long q2), .second, .unset, .unset] [(.ref b1), (.int w_tail)])
  refine own_arrlen X2 hx hZ e2 V_b1 (z := (1024 : Int32)) rfl (hb hby d2_8) rfl ?_
  show own_Fin _ _ _ _ _ _ _ _ (mkF m 9 #[.val (.ref a1), .val (.long q2), .second, .unset, .unset] [(.int (1024 : Int32)), (.int w_tail)])
  have hc3 : ¬ ((w_tail).toInt = 1024) := by omega
  refine own_step (fun t k => XS.icmpYes X2.here hx rfl (pc0 := 9) (pc' := 82) rfl (hb hby d2_9) rfl (own_cu (x := w_tail) (y := (1024 : Int32)) rfl rfl hc3).2 (by decide) (by decide) k) ?_
  show own_Fin _ _ _ _ _ _ _ _ (mkF m 82 #[.val (.ref a1), .val (.long q2), .second, .unset, .unset] [])
  refine own_step (fun t k => XS.aloadN X2.here hx rfl (hb hby d2_82) rfl rfl k) ?_
  show own_Fin _ _ _ _ _ _ _ _ (mkF m 83 #[.val (.ref a1), .val (.long q2), .second, .unset, .unset] [(.ref a1)])
  obtain ⟨T4, X4, e4, st4⟩ := getF X2 hx hZ hown (host := "") (Or.inl (hw _ (List.mem_of_getElem? (i := 10) rfl))) Via.refl e2 F_entries_a1 (g := (mkF m 83 #[.val (.ref a1), .val (.long q2), .second, .unset, .unset] [(.ref a1)])) rfl rfl (hb hby d2_83)
  refine own_step st4 ?_
  show own_Fin _ _ _ _ _ _ _ _ (mkF m 86 #[.val (.ref a1), .val (.long q2), .second, .unset, .unset] [(.ref b1)])
  refine own_step (fun t k => XS.aloadN X4.here hx rfl (hb hby d2_86) rfl rfl k) ?_
  show own_Fin _ _ _ _ _ _ _ _ (mkF m 87 #[.val (.ref a1), .val (.long q2), .second, .unset, .unset] [(.ref a1), (.ref b1)])
  obtain ⟨T5, X5, e5, st5⟩ := getF X4 hx hZ hown (host := "") (Or.inl (hw _ (List.mem_of_getElem? (i := 17) rfl))) Via.refl e4 F_tail_a1 (g := (mkF m 87 #[.val (.ref a1), .val (.long q2), .second, .unset, .unset] [(.ref a1), (.ref b1)])) rfl rfl (hb hby d2_87)
  refine own_step st5 ?_
  show own_Fin _ _ _ _ _ _ _ _ (mkF m 90 #[.val (.ref a1), .val (.long q2), .second, .unset, .unset] [(.int w_tail), (.ref b1)])
  refine own_step (fun t k => XS.lloadN X5.here hx rfl (hb hby d2_90) rfl k) ?_
  show own_Fin _ _ _ _ _ _ _ _ (mkF m 91 #[.val (.ref a1), .val (.long q2), .second, .unset, .unset] [(.long q2), (.int w_tail), (.ref b1)])
  obtain ⟨T6, h6, X6, e6, W6, B6, st6⟩ := own_lastore X5 hx hZ e5 V_b1 (j := w_tail) (k := w_tail.toInt.toNat) (by omega) (by omega) (x := q2) (pc := 91) (Ls := #[.val (.ref a1), .val (.long q2), .second, .unset, .unset]) (rest := []) (hb hby d2_91) rfl
  refine own_step st6 ?_
  replace E_a1 := E_a1.wr W6
  replace F_entries_a1 := F_entries_a1.other W6 (Or.inl hne)
  replace F_head_a1 := F_head_a1.other W6 (Or.inl hne)
  replace F_tail_a1 := F_tail_a1.other W6 (Or.inl hne)
  replace Zs : n0 ≤ h6.size := by rw [W6.size]; exact Zs
  replace K := K.wr W6 (Or.inl (by simp))
  replace V_b1 := B6
  replace Nf := Fr.snoc X6 Nf g_b1
  show own_Fin _ _ _ _ _ _ _ _ (mkF m 92 #[.val (.ref a1), .val (.long q2), .second, .unset, .unset] [])
  refine own_step (fun t k => XS.aloadN X6.here hx rfl (hb hby d2_92) rfl rfl k) ?_
  show own_Fin _ _ _ _ _ _ _ _ (mkF m 93 #[.val (.ref a1), .val (.long q2), .second, .unset, .unset] [(.ref a1)])
  refine own_step (fun t k => XS.dup X6.here hx rfl (hb hby d2_93) rfl rfl k) ?_
  show own_Fin _ _ _ _ _ _ _ _ (mkF m 94 #[.val (.ref a1), .val (.long q2), .second, .unset, .unset] [(.ref a1), (.ref a1)])
  obtain ⟨T7, X7, e7, st7⟩ := getF X6 hx hZ hown (host := "") (Or.inl (hw _ (List.mem_of_getElem? (i := 17) rfl))) Via.refl e6 F_tail_a1 (g := (mkF m 94 #[.val (.ref a1), .val (.long q2), .second, .unset, .unset] [(.ref a1), (.ref a1)])) rfl rfl (hb hby d2_94)
  refine own_step st7 ?_
  show own_Fin _ _ _ _ _ _ _ _ (mkF m 97 #[.val (.ref a1), .val (.long q2), .second, .unset, .unset] [(.int w_tail), (.ref a1)])
  refine own_step (fun t k => XS.iconst X7.here hx rfl (hb hby d2_97) k) ?_
  show own_Fin _ _ _ _ _ _ _ _ (mkF m 98 #[.val (.ref a1), .val (.long q2), .second, .unset, .unset] [(.int (1 : Int32)), (.int w_tail), (.ref a1)])
  refine own_step (fun t k => XS.iadd X7.here hx rfl (hb hby d2_98) rfl k) ?_
  show own_Fin _ _ _ _ _ _ _ _ (mkF m 99 #[.val (.ref a1), .val (.long q2), .second, .unset, .unset] [(.int (w_tail + (1 : Int32))), (.ref a1)])
  obtain ⟨T8, h8, X8, e8, W8, st8⟩ := putF X7 hx hZ hown (host := "") (Or.inl (hw _ (List.mem_of_getElem? (i := 17) rfl))) Via.refl e7 F_tail_a1 E_a1 (Or.inl (hw _ (List.mem_of_getElem? (i := 18) rfl))) (hw _ (List.mem_of_getElem? (i := 1) rfl)) (ty := .int) (by decide) rfl rfl (g := (mkF m 99 #[.val (.ref a1), .val (.long q2), .second, .unset, .unset] [(.int (w_tail + (1 : Int32))), (.ref a1)])) rfl rfl (hb hby d2_99)
  refine own_step st8 ?_
  replace E_a1 := E_a1.wr W8
  replace F_entries_a1 := F_entries_a1.other W8 (Or.inr (slot_ne (Or.inl (hw _ (List.mem_of_getElem? (i := 11) rfl))) (Or.inl (hw _ (List.mem_of_getElem? (i := 18) rfl))) (by decide) (t := (.array .long)) (t' := .int) (by decide) (by decide)))
  replace F_head_a1 := F_head_a1.other W8 (Or.inr (slot_ne (Or.inl (hw _ (List.mem_of_getElem? (i := 25) rfl))) (Or.inl (hw _ (List.mem_of_getElem? (i := 18) rfl))) (by decide) (t := .int) (t' := .int) (by decide) (by decide)))
  replace F_tail_a1 := F_tail_a1.same W8
  replace V_b1 := V_b1.other W8 (Ne.symm hne)
  replace Zs : n0 ≤ h8.size := by rw [W8.size]; exact Zs
  replace K := K.wr W8 (Or.inl (by simp))
  replace Nf := Fr.snoc X8 Nf g_a1
  show own_Fin _ _ _ _ _ _ _ _ (mkF m 102 #[.val (.ref a1), .val (.long q2), .second, .unset, .unset] [])
  refine own_retV X8 hx hlk Bd.returns (hb hby d2_102) (by decide) (by decide) e8 ?_
  exact ⟨rfl, Nf, K, E_a1, F_entries_a1, F_head_a1, F_tail_a1, V_b1⟩
theorem d3_0 : decode prog_36_method_4_code 0 = .ok (.aload_n 0, 1) := by decide +kernel
theorem d3_1 : decode prog_36_method_4_code 1 = .ok (.getfield 7, 3) := by decide +kernel
theorem d3_4 : decode prog_36_method_4_code 4 = .ok (.aload_n 0, 1) := by decide +kernel
theorem d3_5 : decode prog_36_method_4_code 5 = .ok (.getfield 13, 3) := by decide +kernel
theorem d3_8 : decode prog_36_method_4_code 8 = .ok (.laload, 1) := by decide +kernel
theorem d3_9 : decode prog_36_method_4_code 9 = .ok (.lstore_n 1, 1) := by decide +kernel
theorem d3_10 : decode prog_36_method_4_code 10 = .ok (.aload_n 0, 1) := by decide +kernel
theorem d3_11 : decode prog_36_method_4_code 11 = .ok (.dup, 1) := by decide +kernel
theorem d3_12 : decode prog_36_method_4_code 12 = .ok (.getfield 13, 3) := by decide +kernel
theorem d3_15 : decode prog_36_method_4_code 15 = .ok (.iconst 1, 1) := by decide +kernel
theorem d3_16 : decode prog_36_method_4_code 16 = .ok (.iadd, 1) := by decide +kernel
theorem d3_17 : decode prog_36_method_4_code 17 = .ok (.putfield 13, 3) := by decide +kernel
theorem d3_20 : decode prog_36_method_4_code 20 = .ok (.lload_n 1, 1) := by decide +kernel
theorem d3_21 : decode prog_36_method_4_code 21 = .ok (.lreturn, 1) := by decide +kernel
theorem own_pn_3 : plainName "com/example/limfjord/limfjord/engine/LongQueue" = true := by first | (simp [plainName, overriddenIn]; done) | decide +kernel
theorem own_ef_3 (m : MethodId) (a1 : Addr) : entryFrame m #[(.ref a1)] 3 = mkF m 0 #[.val (.ref a1), .unset, .unset] [] := by first | (simp [entryFrame, mkF, argsToLocals, Value.category]; done) | rfl
abbrev own_R3 : Room := { frames := 0, cells := 0, slots := 0, locals := 0 }
def own_Q3 (Z : State) (a1 : Addr) (b1 : Addr) (w_head : Int32) (w_tail : Int32) (f1 : Nat → Int64) (rr : Int64) (h0 : Heap) (n0 : Nat) (v : Option Value) (h : Heap) (L : List Loc) : Prop := v = some (.long rr) ∧ Fr n0 L ∧ Keep h0 h [a1] ∧ Exa Z h a1 "com/example/limfjord/limfjord/engine/LongQueue" ∧ Fld Z h a1 "com/example/limfjord/limfjord/engine/LongQueue" "entries" "[J" (.ref b1) ∧ Fld Z h a1 "com/example/limfjord/limfjord/engine/LongQueue" "head" "I" (.int (w_head + (1 : Int32))) ∧ Fld Z h a1 "com/example/limfjord/limfjord/engine/LongQueue" "tail" "I" (.int w_tail)
set_option maxRecDepth 65536 in
set_option maxHeartbeats 40000000 in
theorem rm3 (l : Launch) (Z : State) (a0 : Array Value) (hw : ∀ d ∈ tables_1, d.before a0 Z = true) (ws : List Jvm.Cond) (a1 : Addr) (b1 : Addr) (w_head : Int32) (w_tail : Int32) (f1 : Nat → Int64) (rr : Int64) (h0 : Heap) (n0 : Nat) (Z0 : n0 ≤ h0.size) (E_a1 : Exa Z h0 a1 "com/example/limfjord/limfjord/engine/LongQueue") (F_entries_a1 : Fld Z h0 a1 "com/example/limfjord/limfjord/engine/LongQueue" "entries" "[J" (.ref b1)) (F_head_a1 : Fld Z h0 a1 "com/example/limfjord/limfjord/engine/LongQueue" "head" "I" (.int w_head)) (F_tail_a1 : Fld Z h0 a1 "com/example/limfjord/limfjord/engine/LongQueue" "tail" "I" (.int w_tail)) (V_b1 : own_AJ Z h0 b1 1024 f1) (g_a1 : n0 ≤ a1) (hne : a1 ≠ b1) (hh0 : 0 ≤ w_head.toInt ∧ w_head.toInt < 1024) (hrr : f1 w_head.toInt.toNat = rr) :
    MetFree l (⟨"com/example/limfjord/limfjord/engine/LongQueue", "poll", "()J"⟩ : MethodName) (head1 (Jvm.Cond.code (⟨"com/example/limfjord/limfjord/engine/LongQueue", "poll", "()J"⟩ : MethodName) prog_36_method_4_code 3 (some .long) :: ws) own_R3) (fun a U => a = #[(.ref a1)] ∧ Z.Warmed39 U.vm ∧ U.heap = h0) (fun _ _ _ _ _ => True) (fun _ U o U' => ∃ v L, o = .returned v ∧ own_Q3 Z a1 b1 w_head w_tail f1 rr h0 n0 v U'.heap L ∧ FrameEnd U o U' L own_R3.cells own_R3.slots) := by
  refine MetFree.of_bodySF (plainFor_of_name own_pn_3) hisR ?_
  intro p e s m args below meth c s₁ Bd hml0 hP hK
  obtain ⟨rfl, hZ, hh⟩ := hP
  have hx := Bd.exec
  have hby := Bd.bytes
  have hlk := BodyLoose.notSynchronized Bd
  have hml : c.maxLocals = 3 := hml0
  have hown : s.vm.findClass "com/example/limfjord/limfjord/engine/LongQueue" = some m.cls := (findClass_of_methodNamed Bd.named : s.vm.findClass (⟨"com/example/limfjord/limfjord/engine/LongQueue", "poll", "()J"⟩ : MethodName).cls = some m.cls)
  have hnm := (name_of_methodNamed Bd.named Bd.method).1
  have X0 : Stand p l e own_R3 s m #[(.ref a1)] below meth c s₁ [] 0 0 := Stand.of_body Bd
  have e0 : s₁.heap = h0 := by rw [← hh, Bd.state]; rfl
  have Nf := Fr.nil n0
  have Zs := Z0
  have K : Keep h0 h0 [a1] := Keep.refl _ _
  show own_Fin p e below s (own_Q3 Z a1 b1 w_head w_tail f1 rr h0 n0) 0 0 s₁ (entryFrame m #[(.ref a1)] 3)
  rw [own_ef_3 m a1]
  show own_Fin _ _ _ _ _ _ _ _ (mkF m 0 #[.val (.ref a1), .unset, .unset] [])
  refine own_step (fun t k => XS.aloadN X0.here hx rfl (hb hby d3_0) rfl rfl k) ?_
  show own_Fin _ _ _ _ _ _ _ _ (mkF m 1 #[.val (.ref a1), .unset, .unset] [(.ref a1)])
  obtain ⟨T1, X1, e1, st1⟩ := getF X0 hx hZ hown (host := "") (Or.inl (hw _ (List.mem_of_getElem? (i := 10) rfl))) Via.refl e0 F_entries_a1 (g := (mkF m 1 #[.val (.ref a1), .unset, .unset] [(.ref a1)])) rfl rfl (hb hby d3_1)
  refine own_step st1 ?_
  show own_Fin _ _ _ _ _ _ _ _ (mkF m 4 #[.val (.ref a1), .unset, .unset] [(.ref b1)])
  refine own_step (fun t k => XS.aloadN X1.here hx rfl (hb hby d3_4) rfl rfl k) ?_
  show own_Fin _ _ _ _ _ _ _ _ (mkF m 5 #[.val (.ref a1), .unset, .unset] [(.ref a1), (.ref b1)])
  obtain ⟨T2, X2, e2, st2⟩ := getF X1 hx hZ hown (host := "") (Or.inl (hw _ (List.mem_of_getElem? (i := 24) rfl))) Via.refl e1 F_head_a1 (g := (mkF m 5 #[.val (.ref a1), .unset, .unset] [(.ref a1), (.ref b1)])) rfl rfl (hb hby d3_5)
  refine own_step st2 ?_
  show own_Fin _ _ _ _ _ _ _ _ (mkF m 8 #[.val (.ref a1), .unset, .unset] [(.int w_head), (.ref b1)])
  refine own_laload X2 hx hZ e2 V_b1 (k := w_head.toInt.toNat) (by omega) (by omega) (v := rr) hrr (hb hby d3_8) rfl ?_
  show own_Fin _ _ _ _ _ _ _ _ (mkF m 9 #[.val (.ref a1), .unset, .unset] [(.long rr)])
  refine own_step (fun t k => XS.lstoreN X2.here hx rfl (hb hby d3_9) rfl (l' := #[.val (.ref a1), .val (.long rr), .second]) rfl k) ?_
  show own_Fin _ _ _ _ _ _ _ _ (mkF m 10 #[.val (.ref a1), .val (.long rr), .second] [])
  refine own_step (fun t k => XS.aloadN X2.here hx rfl (hb hby d3_10) rfl rfl k) ?_
  show own_Fin _ _ _ _ _ _ _ _ (mkF m 11 #[.val (.ref a1), .val (.long rr), .second] [(.ref a1)])
  refine own_step (fun t k => XS.dup X2.here hx rfl (hb hby d3_11) rfl rfl k) ?_
  show own_Fin _ _ _ _ _ _ _ _ (mkF m 12 #[.val (.ref a1), .val (.long rr), .second] [(.ref a1), (.ref a1)])
  obtain ⟨T3, X3, e3, st3⟩ := getF X2 hx hZ hown (host := "") (Or.inl (hw _ (List.mem_of_getElem? (i := 24) rfl))) Via.refl e2 F_head_a1 (g := (mkF m 12 #[.val (.ref a1), .val (.long rr), .second] [(.ref a1), (.ref a1)])) rfl rfl (hb hby d3_12)
  refine own_step st3 ?_
  show own_Fin _ _ _ _ _ _ _ _ (mkF m 15 #[.val (.ref a1), .val (.long rr), .second] [(.int w_head), (.ref a1)])
  refine own_step (fun t k => XS.iconst X3.here hx rfl (hb hby d3_15) k) ?_
  show own_Fin _ _ _ _ _ _ _ _ (mkF m 16 #[.val (.ref a1), .val (.long rr), .second] [(.int (1 : Int32)), (.int w_head), (.ref a1)])
  refine own_step (fun t k => XS.iadd X3.here hx rfl (hb hby d3_16) rfl k) ?_
  show own_Fin _ _ _ _ _ _ _ _ (mkF m 17 #[.val (.ref a1), .val (.long rr), .second] [(.int (w_head + (1 : Int32))), (.ref a1)])
  obtain ⟨T4, h4, X4, e4, W4, st4⟩ := putF X3 hx hZ hown (host := "") (Or.inl (hw _ (List.mem_of_getElem? (i := 24) rfl))) Via.refl e3 F_head_a1 E_a1 (Or.inl (hw _ (List.mem_of_getElem? (i := 25) rfl))) (hw _ (List.mem_of_getElem? (i := 1) rfl)) (ty := .int) (by decide) rfl rfl (g := (mkF m 17 #[.val (.ref a1), .val (.long rr), .second] [(.int (w_head + (1 : Int32))), (.ref a1)])) rfl rfl (hb hby d3_17)
  refine own_step st4 ?_
  replace E_a1 := E_a1.wr W4
  replace F_entries_a1 := F_entries_a1.other W4 (Or.inr (slot_ne (Or.inl (hw _ (List.mem_of_getElem? (i := 11) rfl))) (Or.inl (hw _ (List.mem_of_getElem? (i := 25) rfl))) (by decide) (t := (.array .long)) (t' := .int) (by decide) (by decide)))
  replace F_head_a1 := F_head_a1.same W4
  replace F_tail_a1 := F_tail_a1.other W4 (Or.inr (slot_ne (Or.inl (hw _ (List.mem_of_getElem? (i := 18) rfl))) (Or.inl (hw _ (List.mem_of_getElem? (i := 25) rfl))) (by decide) (t := .int) (t' := .int) (by decide) (by decide)))
  replace V_b1 := V_b1.other W4 (Ne.symm hne)
  replace Zs : n0 ≤ h4.size := by rw [W4.size]; exact Zs
  replace K := K.wr W4 (Or.inl (by simp))
  replace Nf := Fr.snoc X4 Nf g_a1
  show own_Fin _ _ _ _ _ _ _ _ (mkF m 20 #[.val (.ref a1), .val (.long rr), .second] [])
  refine own_step (fun t k => XS.lloadN X4.here hx rfl (hb hby d3_20) rfl k) ?_
  show own_Fin _ _ _ _ _ _ _ _ (mkF m 21 #[.val (.ref a1), .val (.long rr), .second] [(.long rr)])
  refine own_retJ X4 hx hlk Bd.returns (hb hby d3_21) (by decide) (by decide) e4 ?_
  exact ⟨rfl, Nf, K, E_a1, F_entries_a1, F_head_a1, F_tail_a1⟩
theorem d4_0 : decode prog_36_method_3_code 0 = .ok (.aload_n 0, 1) := by decide +kernel
theorem d4_1 : decode prog_36_method_3_code 1 = .ok (.getfield 7, 3) := by decide +kernel
theorem d4_4 : decode prog_36_method_3_code 4 = .ok (.aload_n 0, 1) := by decide +kernel
theorem d4_5 : decode prog_36_method_3_code 5 = .ok (.getfield 13, 3) := by decide +kernel
theorem d4_8 : decode prog_36_method_3_code 8 = .ok (.laload, 1) := by decide +kernel
theorem d4_9 : decode prog_36_method_3_code 9 = .ok (.lreturn, 1) := by decide +kernel
theorem own_pn_4 : plainName "com/example/limfjord/limfjord/engine/LongQueue" = true := by first | (simp [plainName, overriddenIn]; done) | decide +kernel
theorem own_ef_4 (m : MethodId) (a1 : Addr) : entryFrame m #[(.ref a1)] 1 = mkF m 0 #[.val (.ref a1)] [] := by first | (simp [entryFrame, mkF, argsToLocals, Value.category]; done) | rfl
abbrev own_R4 : Room := { frames := 0, cells := 0, slots := 0, locals := 0 }
def own_Q4 (Z : State) (a1 : Addr) (b1 : Addr) (w_head : Int32) (w_tail : Int32) (f1 : Nat → Int64) (rr : Int64) (h0 : Heap) (n0 : Nat) (v : Option Value) (h : Heap) (L : List Loc) : Prop := v = some (.long rr) ∧ Fr n0 L ∧ h = h0
set_option maxRecDepth 65536 in
set_option maxHeartbeats 40000000 in
theorem rm4 (l : Launch) (Z : State) (a0 : Array Value) (hw : ∀ d ∈ tables_1, d.before a0 Z = true) (ws : List Jvm.Cond) (a1 : Addr) (b1 : Addr) (w_head : Int32) (w_tail : Int32) (f1 : Nat → Int64) (rr : Int64) (h0 : Heap) (n0 : Nat) (Z0 : n0 ≤ h0.size) (E_a1 : Exa Z h0 a1 "com/example/limfjord/limfjord/engine/LongQueue") (F_entries_a1 : Fld Z h0 a1 "com/example/limfjord/limfjord/engine/LongQueue" "entries" "[J" (.ref b1)) (F_head_a1 : Fld Z h0 a1 "com/example/limfjord/limfjord/engine/LongQueue" "head" "I" (.int w_head)) (F_tail_a1 : Fld Z h0 a1 "com/example/limfjord/limfjord/engine/LongQueue" "tail" "I" (.int w_tail)) (V_b1 : own_AJ Z h0 b1 1024 f1) (hh0 : 0 ≤ w_head.toInt ∧ w_head.toInt < 1024) (hrr : f1 w_head.toInt.toNat = rr) :
    MetFree l (⟨"com/example/limfjord/limfjord/engine/LongQueue", "peek", "()J"⟩ : MethodName) (head1 (Jvm.Cond.code (⟨"com/example/limfjord/limfjord/engine/LongQueue", "peek", "()J"⟩ : MethodName) prog_36_method_3_code 1 (some .long) :: ws) own_R4) (fun a U => a = #[(.ref a1)] ∧ Z.Warmed39 U.vm ∧ U.heap = h0) (fun _ _ _ _ _ => True) (fun _ U o U' => ∃ v L, o = .returned v ∧ own_Q4 Z a1 b1 w_head w_tail f1 rr h0 n0 v U'.heap L ∧ FrameEnd U o U' L own_R4.cells own_R4.slots) := by
  refine MetFree.of_bodySF (plainFor_of_name own_pn_4) hisR ?_
  intro p e s m args below meth c s₁ Bd hml0 hP hK
  obtain ⟨rfl, hZ, hh⟩ := hP
  have hx := Bd.exec
  have hby := Bd.bytes
  have hlk := BodyLoose.notSynchronized Bd
  have hml : c.maxLocals = 1 := hml0
  have hown : s.vm.findClass "com/example/limfjord/limfjord/engine/LongQueue" = some m.cls := (findClass_of_methodNamed Bd.named : s.vm.findClass (⟨"com/example/limfjord/limfjord/engine/LongQueue", "peek", "()J"⟩ : MethodName).cls = some m.cls)
  have hnm := (name_of_methodNamed Bd.named Bd.method).1
  have X0 : Stand p l e own_R4 s m #[(.ref a1)] below meth c s₁ [] 0 0 := Stand.of_body Bd
  have e0 : s₁.heap = h0 := by rw [← hh, Bd.state]; rfl
  have Nf := Fr.nil n0
  have Zs := Z0
  show own_Fin p e below s (own_Q4 Z a1 b1 w_head w_tail f1 rr h0 n0) 0 0 s₁ (entryFrame m #[(.ref a1)] 1)
  rw [own_ef_4 m a1]
  show own_Fin _ _ _ _ _ _ _ _ (mkF m 0 #[.val (.ref a1)] [])
  refine own_step (fun t k => XS.aloadN X0.here hx rfl (hb hby d4_0) rfl rfl k) ?_
  show own_Fin _ _ _ _ _ _ _ _ (mkF m 1 #[.val (.ref a1)] [(.ref a1)])
  obtain ⟨T1, X1, e1, st1⟩ := getF X0 hx hZ hown (host := "") (Or.inl (hw _ (List.mem_of_getElem? (i := 10) rfl))) Via.refl e0 F_entries_a1 (g := (mkF m 1 #[.val (.ref a1)] [(.ref a1)])) rfl rfl (hb hby d4_1)
  refine own_step st1 ?_
  show own_Fin _ _ _ _ _ _ _ _ (mkF m 4 #[.val (.ref a1)] [(.ref b1)])
  refine own_step (fun t k => XS.aloadN X1.here hx rfl (hb hby d4_4) rfl rfl k) ?_
  show own_Fin _ _ _ _ _ _ _ _ (mkF m 5 #[.val (.ref a1)] [(.ref a1), (.ref b1)])
  obtain ⟨T2, X2, e2, st2⟩ := getF X1 hx hZ hown (host := "") (Or.inl (hw _ (List.mem_of_getElem? (i := 24) rfl))) Via.refl e1 F_head_a1 (g := (mkF m 5 #[.val (.ref a1)] [(.ref a1), (.ref b1)])) rfl rfl (hb hby d4_5)
  refine own_step st2 ?_
  show own_Fin _ _ _ _ _ _ _ _ (mkF m 8 #[.val (.ref a1)] [(.int w_head), (.ref b1)])
  refine own_laload X2 hx hZ e2 V_b1 (k := w_head.toInt.toNat) (by omega) (by omega) (v := rr) hrr (hb hby d4_8) rfl ?_
  show own_Fin _ _ _ _ _ _ _ _ (mkF m 9 #[.val (.ref a1)] [(.long rr)])
  refine own_retJ X2 hx hlk Bd.returns (hb hby d4_9) (by decide) (by decide) e2 ?_
  exact ⟨rfl, Nf, rfl⟩
theorem d5_0 : decode prog_36_method_2_code 0 = .ok (.aload_n 0, 1) := by decide +kernel
theorem d5_1 : decode prog_36_method_2_code 1 = .ok (.getfield 13, 3) := by decide +kernel
theorem d5_4 : decode prog_36_method_2_code 4 = .ok (.aload_n 0, 1) := by decide +kernel
theorem d5_5 : decode prog_36_method_2_code 5 = .ok (.getfield 17, 3) := by decide +kernel
theorem d5_8 : decode prog_36_method_2_code 8 = .ok (.if_icmp .ne 7, 3) := by decide +kernel
theorem d5_11 : decode prog_36_method_2_code 11 = .ok (.iconst 1, 1) := by decide +kernel
theorem d5_12 : decode prog_36_method_2_code 12 = .ok (.goto 4, 3) := by decide +kernel
theorem d5_15 : decode prog_36_method_2_code 15 = .ok (.iconst 0, 1) := by decide +kernel
theorem d5_16 : decode prog_36_method_2_code 16 = .ok (.ireturn, 1) := by decide +kernel
theorem own_pn_5 : plainName "com/example/limfjord/limfjord/engine/LongQueue" = true := by first | (simp [plainName, overriddenIn]; done) | decide +kernel
theorem own_ef_5 (m : MethodId) (a1 : Addr) : entryFrame m #[(.ref a1)] 1 = mkF m 0 #[.val (.ref a1)] [] := by first | (simp [entryFrame, mkF, argsToLocals, Value.category]; done) | rfl
abbrev own_R5 : Room := { frames := 0, cells := 0, slots := 0, locals := 0 }
def own_Q5 (Z : State) (a1 : Addr) (w_head : Int32) (w_tail : Int32) (h0 : Heap) (n0 : Nat) (v : Option Value) (h : Heap) (L : List Loc) : Prop := ∃ r : Int32, v = some (.int r) ∧ own_B r (w_head.toInt = w_tail.toInt) ∧ Fr n0 L ∧ h = h0
set_option maxRecDepth 65536 in
set_option maxHeartbeats 40000000 in
theorem rm5 (l : Launch) (Z : State) (a0 : Array Value) (hw : ∀ d ∈ tables_1, d.before a0 Z = true) (ws : List Jvm.Cond) (a1 : Addr) (w_head : Int32) (w_tail : Int32) (h0 : Heap) (n0 : Nat) (Z0 : n0 ≤ h0.size) (F_head_a1 : Fld Z h0 a1 "com/example/limfjord/limfjord/engine/LongQueue" "head" "I" (.int w_head)) (F_tail_a1 : Fld Z h0 a1 "com/example/limfjord/limfjord/engine/LongQueue" "tail" "I" (.int w_tail)) :
    MetFree l (⟨"com/example/limfjord/limfjord/engine/LongQueue", "isEmpty", "()Z"⟩ : MethodName) (head1 (Jvm.Cond.code (⟨"com/example/limfjord/limfjord/engine/LongQueue", "isEmpty", "()Z"⟩ : MethodName) prog_36_method_2_code 1 (some .boolean) :: ws) own_R5) (fun a U => a = #[(.ref a1)] ∧ Z.Warmed39 U.vm ∧ U.heap = h0) (fun _ _ _ _ _ => True) (fun _ U o U' => ∃ v L, o = .returned v ∧ own_Q5 Z a1 w_head w_tail h0 n0 v U'.heap L ∧ FrameEnd U o U' L own_R5.cells own_R5.slots) := by
  refine MetFree.of_bodySF (plainFor_of_name own_pn_5) hisR ?_
  intro p e s m args below meth c s₁ Bd hml0 hP hK
  obtain ⟨rfl, hZ, hh⟩ := hP
  have hx := Bd.exec
  have hby := Bd.bytes
  have hlk := BodyLoose.notSynchronized Bd
  have hml : c.maxLocals = 1 := hml0
  have hown : s.vm.findClass "com/example/limfjord/limfjord/engine/LongQueue" = some m.cls := (findClass_of_methodNamed Bd.named : s.vm.findClass (⟨"com/example/limfjord/limfjord/engine/LongQueue", "isEmpty", "()Z"⟩ : MethodName).cls = some m.cls)
  have hnm := (name_of_methodNamed Bd.named Bd.method).1
  have X0 : Stand p l e own_R5 s m #[(.ref a1)] below meth c s₁ [] 0 0 := Stand.of_body Bd
  have e0 : s₁.heap = h0 := by rw [← hh, Bd.state]; rfl
  have Nf := Fr.nil n0
  have Zs := Z0
  show own_Fin p e below s (own_Q5 Z a1 w_head w_tail h0 n0) 0 0 s₁ (entryFrame m #[(.ref a1)] 1)
  rw [own_ef_5 m a1]
  show own_Fin _ _ _ _ _ _ _ _ (mkF m 0 #[.val (.ref a1)] [])
  refine own_step (fun t k => XS.aloadN X0.here hx rfl (hb hby d5_0) rfl rfl k) ?_
  show own_Fin _ _ _ _ _ _ _ _ (mkF m 1 #[.val (.ref a1)] [(.ref a1)])
  obtain ⟨T1, X1, e1, st1⟩ := getF X0 hx hZ hown (host := "") (Or.inl (hw _ (List.mem_of_getElem? (i := 24) rfl))) Via.refl e0 F_head_a1 (g := (mkF m 1 #[.val (.ref a1)] [(.ref a1)])) rfl rfl (hb hby d5_1)
  refine own_step st1 ?_
  show own_Fin _ _ _ _ _ _ _ _ (mkF m 4 #[.val (.ref a1)] [(.int w_head)])
  refine own_step (fun t k => XS.aloadN X1.here hx rfl (hb hby d5_4) rfl rfl k) ?_
  show own_Fin _ _ _ _ _ _ _ _ (mkF m 5 #[.val (.ref a1)] [(.ref a1), (.int w_head)])
  obtain ⟨T2, X2, e2, st2⟩ := getF X1 hx hZ hown (host := "") (Or.inl (hw _ (List.mem_of_getElem? (i := 17) rfl))) Via.refl e1 F_tail_a1 (g := (mkF m 5 #[.val (.ref a1)] [(.ref a1), (.int w_head)])) rfl rfl (hb hby d5_5)
  refine own_step st2 ?_
  show own_Fin _ _ _ _ _ _ _ _ (mkF m 8 #[.val (.ref a1)] [(.int w_tail), (.int w_head)])
  by_cases hc3 : (w_head).toInt = (w_tail).toInt
  · skip
    refine own_step (fun t k => XS.icmpNo X2.here hx rfl (hb hby d5_8) rfl (own_ce (x := w_head) (y := w_tail) rfl rfl hc3).2 k) ?_
    show own_Fin _ _ _ _ _ _ _ _ (mkF m 11 #[.val (.ref a1)] [])
    refine own_step (fun t k => XS.iconst X2.here hx rfl (hb hby d5_11) k) ?_
    show own_Fin _ _ _ _ _ _ _ _ (mkF m 12 #[.val (.ref a1)] [(.int (1 : Int32))])
    refine own_step (fun t k => XS.goto X2.here hx rfl (pc0 := 12) (pc' := 16) rfl (hb hby d5_12) (by decide) (by decide) k) ?_
    show own_Fin _ _ _ _ _ _ _ _ (mkF m 16 #[.val (.ref a1)] [(.int (1 : Int32))])
    refine own_retZ X2 hx hlk Bd.returns (hb hby d5_16) (z' := (1 : Int32)) (by decide) (by decide) (by decide) e2 ?_
    exact ⟨_, rfl, own_B1 (by omega), Nf, rfl⟩
  · skip
    refine own_step (fun t k => XS.icmpYes X2.here hx rfl (pc0 := 8) (pc' := 15) rfl (hb hby d5_8) rfl (own_cu (x := w_head) (y := w_tail) rfl rfl hc3).2 (by decide) (by decide) k) ?_
    show own_Fin _ _ _ _ _ _ _ _ (mkF m 15 #[.val (.ref a1)] [])
    refine own_step (fun t k => XS.iconst X2.here hx rfl (hb hby d5_15) k) ?_
    show own_Fin _ _ _ _ _ _ _ _ (mkF m 16 #[.val (.ref a1)] [(.int (0 : Int32))])
    refine own_retZ X2 hx hlk Bd.returns (hb hby d5_16) (z' := (0 : Int32)) (by decide) (by decide) (by decide) e2 ?_
    exact ⟨_, rfl, own_B0 (by omega), Nf, rfl⟩
theorem own_pd_0 : parseMethodDescriptor "()V" = some ⟨[], none⟩ := by decide +kernel
theorem own_pd_1 : parseMethodDescriptor "(J)V" = some ⟨[.long], none⟩ := by decide +kernel
theorem own_pd_2 : parseMethodDescriptor "()J" = some ⟨[], some .long⟩ := by decide +kernel
theorem own_pd_3 : parseMethodDescriptor "()Z" = some ⟨[], some .boolean⟩ := by decide +kernel
theorem own_pn_0 : plainName "com/example/limfjord/limfjord/engine/LongQueuePollPinLaw" = true := by first | (simp [plainName, overriddenIn]; done) | decide +kernel
theorem own_ef_0 (m : MethodId) (q1 : Int64) (q2 : Int64) (q3 : Int64) (p4 : Int32) : entryFrame m #[(.long q1), (.long q2), (.long q3), (.int p4)] maxLocals = mkF m 0 #[.val (.long q1), .second, .val (.long q2), .second, .val (.long q3), .second, .val (.int p4), .unset, .unset, .unset, .unset, .unset, .unset, .unset, .unset, .unset, .unset, .unset] [] := by first | (simp [entryFrame, mkF, argsToLocals, Value.category, maxLocals]; done) | rfl
def own_Q0 (Z : State) (q1 : Int64) (q2 : Int64) (q3 : Int64) (p4 : Int32) (h0 : Heap) (n0 : Nat) (v : Option Value) (h : Heap) (L : List Loc) : Prop := v = some (.int 1) ∧ Fr n0 L
set_option maxRecDepth 65536 in
set_option maxHeartbeats 40000000 in
theorem rm0 (l : Launch) (Z : State) (a0 : Array Value) (hw : ∀ d ∈ tables_1, d.before a0 Z = true) (ws : List Jvm.Cond) (q1 : Int64) (q2 : Int64) (q3 : Int64) (p4 : Int32) (h0 : Heap) (n0 : Nat) (Z0 : n0 ≤ h0.size) :
    MetFree l x (head1 (Jvm.Cond.code x code maxLocals ret :: ws) room_1) (fun a U => a = #[(.long q1), (.long q2), (.long q3), (.int p4)] ∧ Z.Warmed39 U.vm ∧ U.heap = h0) (fun _ _ _ _ _ => True) (fun _ U o U' => ∃ v L, o = .returned v ∧ own_Q0 Z q1 q2 q3 p4 h0 n0 v U'.heap L ∧ FrameEnd U o U' L 16 2176) := by
  refine MetFree.of_bodySF (plainFor_of_name own_pn_0) hisR ?_
  intro p e s m args below meth c s₁ Bd hml0 hP hK
  obtain ⟨rfl, hZ, hh⟩ := hP
  have hx := Bd.exec
  have hby := Bd.bytes
  have hlk := BodyLoose.notSynchronized Bd
  have hml : c.maxLocals = 18 := hml0
  have hown : s.vm.findClass "com/example/limfjord/limfjord/engine/LongQueuePollPinLaw" = some m.cls := (findClass_of_methodNamed Bd.named : s.vm.findClass x.cls = some m.cls)
  have hnm := (name_of_methodNamed Bd.named Bd.method).1
  have X0 : Stand p l e room_1 s m #[(.long q1), (.long q2), (.long q3), (.int p4)] below meth c s₁ [] 0 0 := Stand.of_body Bd
  have e0 : s₁.heap = h0 := by rw [← hh, Bd.state]; rfl
  have Nf := Fr.nil n0
  have Zs := Z0
  show own_Fin p e below s (own_Q0 Z q1 q2 q3 p4 h0 n0) 16 2176 s₁ (entryFrame m #[(.long q1), (.long q2), (.long q3), (.int p4)] maxLocals)
  rw [own_ef_0 m q1 q2 q3 p4]
  show own_Fin _ _ _ _ _ _ _ _ (mkF m 0 #[.val (.long q1), .second, .val (.long q2), .second, .val (.long q3), .second, .val (.int p4), .unset, .unset, .unset, .unset, .unset, .unset, .unset, .unset, .unset, .unset, .unset] [])
  obtain ⟨Ls1, hLs1⟩ : ∃ z : Array Slot, z = #[.val (.long q1), .second, .val (.long q2), .second, .val (.long q3), .second, .val (.int p4), .unset, .unset, .unset, .unset, .unset, .unset, .unset, .unset, .unset, .unset, .unset] := ⟨_, rfl⟩
  rw [← hLs1]
  obtain ⟨T2, h2, X2, e2, E2, A2, D2, -, st2⟩ := newO X0 hx hZ hown (hw _ (List.mem_of_getElem? (i := 0) rfl)) (hw _ (List.mem_of_getElem? (i := 1) rfl)) (hw _ (List.mem_of_getElem? (i := 2) rfl)) e0 (g := (mkF m 0 Ls1 [])) rfl (hb hby at_0) (by decide) (by decide)
  obtain ⟨b2, g2⟩ : ∃ z, z = h0.size := ⟨_, rfl⟩
  rw [← g2] at A2 D2 st2
  refine own_step st2 ?_
  have g_b2 : n0 ≤ b2 := Nat.le_trans Zs (Nat.le_of_eq g2.symm)
  replace Zs := Nat.le_trans Zs E2.1
  have E_b2 := A2
  have F_entries_b2 : Fld Z h2 b2 "com/example/limfjord/limfjord/engine/LongQueue" "entries" "[J" .null := D2 (Or.inl (hw _ (List.mem_of_getElem? (i := 11) rfl))) (ty := (.array .long)) (by decide)
  have F_tail_b2 : Fld Z h2 b2 "com/example/limfjord/limfjord/engine/LongQueue" "tail" "I" (.int (0 : Int32)) := D2 (Or.inl (hw _ (List.mem_of_getElem? (i := 18) rfl))) (ty := .int) (by decide)
  have F_head_b2 : Fld Z h2 b2 "com/example/limfjord/limfjord/engine/LongQueue" "head" "I" (.int (0 : Int32)) := D2 (Or.inl (hw _ (List.mem_of_getElem? (i := 25) rfl))) (ty := .int) (by decide)
  show own_Fin _ _ _ _ _ _ _ _ (mkF m 3 Ls1 [(.ref b2)])
  refine own_step (fun t k => XS.dup X2.here hx rfl (hb hby at_3) rfl rfl k) ?_
  show own_Fin _ _ _ _ _ _ _ _ (mkF m 4 Ls1 [(.ref b2), (.ref b2)])
  obtain ⟨_, _, ⟨T3, L3, k3, n3⟩, -, X3, ⟨Lc3, hQ3, l3, y3, z3⟩, st3⟩ := X2.specialBack hx (y := (⟨"com/example/limfjord/limfjord/engine/LongQueue", "<init>", "()V"⟩ : MethodName)) rfl hown (mvT hZ (hw _ (List.mem_of_getElem? (i := 3) rfl))) (mvT hZ (hw _ (List.mem_of_getElem? (i := 4) rfl))) (mvT hZ (hw _ (List.mem_of_getElem? (i := 5) rfl))) (by decide) (backOf (W := 1) (rm1 l Z a0 hw [] b2 h2 n0 Zs E_b2 F_entries_b2 F_head_b2 F_tail_b2 g_b2) hZ (hw _ (List.mem_of_getElem? (i := 5) rfl)) (hw _ (List.mem_of_getElem? (i := 2) rfl)) (by decide) (by decide)) (g := (mkF m 4 Ls1 [(.ref b2), (.ref b2)])) rfl (by rw [hml]; show Array.size Ls1 = _; rw [hLs1]; rfl) (Steps.refl _) (a := b2) (argsL := []) (rest := [(.ref b2)]) (lenOf own_pd_0 rfl) rfl (by show 2 * 0 + _ ≤ _; exact Nat.le_of_eq rfl) (hb hby at_4) (fun _ _ => ⟨rfl, e2, (by decide : 1 + 1 ≤ _), (by decide : 3 + 1024 ≤ _)⟩)
  dsimp only [Pt.U, Pt.locs, Pt.cells, Pt.slots] at X3 l3 y3 z3 st3 hQ3
  subst l3 y3 z3
  obtain ⟨rfl, Nq3, Kq3, bq3, gq3, neq3, szq3, P3_0, P3_1, P3_2, P3_3, P3_4⟩ := hQ3
  replace Nf := Fr.app Nf Nq3
  replace E_b2 := P3_0
  replace F_entries_b2 := P3_1
  replace F_head_b2 := P3_2
  replace F_tail_b2 := P3_3
  have V_bq3 := P3_4
  replace Zs := Nat.le_trans Zs Kq3.1
  refine own_stepT st3 ?_
  show own_Fin _ _ _ _ _ _ _ _ (mkF m 7 Ls1 [(.ref b2)])
  obtain ⟨Ls4, hLs4⟩ : ∃ z : Array Slot, z = #[.val (.long q1), .second, .val (.long q2), .second, .val (.long q3), .second, .val (.int p4), .val (.ref b2), .unset, .unset, .unset, .unset, .unset, .unset, .unset, .unset, .unset, .unset] := ⟨_, rfl⟩
  refine own_step (fun t k => XS.astore X3.here hx rfl (hb hby at_7) rfl rfl (l' := Ls4) (by rw [hLs1, hLs4]; rfl) k) ?_
  show own_Fin _ _ _ _ _ _ _ _ (mkF m 9 Ls4 [])
  refine own_step (fun t k => XS.aload (v := (.ref b2)) X3.here hx rfl (hb hby at_9) (by rw [hLs4]; rfl) rfl k) ?_
  show own_Fin _ _ _ _ _ _ _ _ (mkF m 11 Ls4 [(.ref b2)])
  refine own_step (fun t k => XS.lloadN (v := q1) X3.here hx rfl (hb hby at_11) (by rw [hLs4]; rfl) k) ?_
  show own_Fin _ _ _ _ _ _ _ _ (mkF m 12 Ls4 [(.long q1), (.ref b2)])
  obtain ⟨cq5, kq5, q5a, q5b, q5c⟩ := isOf hZ rfl E_b2
  obtain ⟨_, _, ⟨T5, L5, k5, n5⟩, -, X5, ⟨Lc5, hQ5, l5, y5, z5⟩, st5⟩ := X3.virtualBack hx (y := (⟨"com/example/limfjord/limfjord/engine/LongQueue", "add", "(J)V"⟩ : MethodName)) (z := (⟨"com/example/limfjord/limfjord/engine/LongQueue", "add", "(J)V"⟩ : MethodName)) hown (mvT hZ (hw _ (List.mem_of_getElem? (i := 12) rfl))) (mvT hZ (hw _ (List.mem_of_getElem? (i := 13) rfl))) (notFace_of_selects (args := #[]) (mvT hZ (hw _ (List.mem_of_getElem? (i := 15) rfl)))) (mvT hZ (hw _ (List.mem_of_getElem? (i := 15) rfl))) (mvT hZ (hw _ (List.mem_of_getElem? (i := 14) rfl))) (by decide) (backOf (W := 0) (rm2 l Z a0 hw [] b2 q1 _ _ _ _ T3.heap n0 Zs E_b2 F_entries_b2 F_head_b2 F_tail_b2 V_bq3 g_b2 gq3 neq3 (by decide)) hZ (hw _ (List.mem_of_getElem? (i := 16) rfl)) (hw _ (List.mem_of_getElem? (i := 2) rfl)) (by decide) (by decide)) q5a q5c (g := (mkF m 12 Ls4 [(.long q1), (.ref b2)])) rfl (by rw [hml]; show Array.size Ls4 = _; rw [hLs4]; rfl) (Steps.refl _) (argsL := [(.long q1)]) (rest := []) (lenOf own_pd_1 rfl) rfl (by show 2 * 0 + _ ≤ _; exact Nat.le_of_eq rfl) (hb hby at_12) (fun _ _ => ⟨rfl, rfl, (by decide : 2 + 0 ≤ _), (by decide : 1027 + 0 ≤ _)⟩)
  dsimp only [Pt.U, Pt.locs, Pt.cells, Pt.slots] at X5 l5 y5 z5 st5 hQ5
  subst l5 y5 z5
  obtain ⟨rfl, Nq5, Kq5, P5_0, P5_1, P5_2, P5_3, P5_4⟩ := hQ5
  replace Nf := Fr.app Nf Nq5
  replace E_b2 := P5_0
  replace F_entries_b2 := P5_1
  replace F_head_b2 := P5_2
  replace F_tail_b2 : Fld Z T5.heap b2 "com/example/limfjord/limfjord/engine/LongQueue" "tail" "I" (.int (1 : Int32)) := P5_3
  replace V_bq3 := P5_4
  obtain ⟨fQ6, V_bq3, hfQ6_0⟩ : ∃ f, own_AJ Z T5.heap bq3 1024 f ∧ f 0 = q1 := ⟨_, V_bq3, own_up_s _ _ _⟩
  replace Zs := Nat.le_trans Zs Kq5.1
  refine own_stepT st5 ?_
  show own_Fin _ _ _ _ _ _ _ _ (mkF m 15 Ls4 [])
  refine own_step (fun t k => XS.aload (v := (.ref b2)) X5.here hx rfl (hb hby at_15) (by rw [hLs4]; rfl) rfl k) ?_
  show own_Fin _ _ _ _ _ _ _ _ (mkF m 17 Ls4 [(.ref b2)])
  refine own_step (fun t k => XS.lloadN (v := q2) X5.here hx rfl (hb hby at_17) (by rw [hLs4]; rfl) k) ?_
  show own_Fin _ _ _ _ _ _ _ _ (mkF m 18 Ls4 [(.long q2), (.ref b2)])
  obtain ⟨cq7, kq7, q7a, q7b, q7c⟩ := isOf hZ rfl E_b2
  obtain ⟨_, _, ⟨T7, L7, k7, n7⟩, -, X7, ⟨Lc7, hQ7, l7, y7, z7⟩, st7⟩ := X5.virtualBack hx (y := (⟨"com/example/limfjord/limfjord/engine/LongQueue", "add", "(J)V"⟩ : MethodName)) (z := (⟨"com/example/limfjord/limfjord/engine/LongQueue", "add", "(J)V"⟩ : MethodName)) hown (mvT hZ (hw _ (List.mem_of_getElem? (i := 12) rfl))) (mvT hZ (hw _ (List.mem_of_getElem? (i := 13) rfl))) (notFace_of_selects (args := #[]) (mvT hZ (hw _ (List.mem_of_getElem? (i := 15) rfl)))) (mvT hZ (hw _ (List.mem_of_getElem? (i := 15) rfl))) (mvT hZ (hw _ (List.mem_of_getElem? (i := 14) rfl))) (by decide) (backOf (W := 0) (rm2 l Z a0 hw [] b2 q2 _ _ _ _ T5.heap n0 Zs E_b2 F_entries_b2 F_head_b2 F_tail_b2 V_bq3 g_b2 gq3 neq3 (by decide)) hZ (hw _ (List.mem_of_getElem? (i := 16) rfl)) (hw _ (List.mem_of_getElem? (i := 2) rfl)) (by decide) (by decide)) q7a q7c (g := (mkF m 18 Ls4 [(.long q2), (.ref b2)])) rfl (by rw [hml]; show Array.size Ls4 = _; rw [hLs4]; rfl) (Steps.refl _) (argsL := [(.long q2)]) (rest := []) (lenOf own_pd_1 rfl) rfl (by show 2 * 0 + _ ≤ _; exact Nat.le_of_eq rfl) (hb hby at_18) (fun _ _ => ⟨rfl, rfl, (by decide : 2 + 0 ≤ _), (by decide : 1027 + 0 ≤ _)⟩)
  dsimp only [Pt.U, Pt.locs, Pt.cells, Pt.slots] at X7 l7 y7 z7 st7 hQ7
  subst l7 y7 z7
  obtain ⟨rfl, Nq7, Kq7, P7_0, P7_1, P7_2, P7_3, P7_4⟩ := hQ7
  replace Nf := Fr.app Nf Nq7
  replace E_b2 := P7_0
  replace F_entries_b2 := P7_1
  replace F_head_b2 := P7_2
  replace F_tail_b2 : Fld Z T7.heap b2 "com/example/limfjord/limfjord/engine/LongQueue" "tail" "I" (.int (2 : Int32)) := P7_3
  replace V_bq3 := P7_4
  obtain ⟨fQ8, V_bq3, hfQ8_0, hfQ8_1⟩ : ∃ f, own_AJ Z T7.heap bq3 1024 f ∧ f 0 = q1 ∧ f 1 = q2 := ⟨_, V_bq3, (own_up_o _ _ _ _ (by decide)).trans hfQ6_0, own_up_s _ _ _⟩
  replace Zs := Nat.le_trans Zs Kq7.1
  refine own_stepT st7 ?_
  show own_Fin _ _ _ _ _ _ _ _ (mkF m 21 Ls4 [])
  refine own_step (fun t k => XS.iload (v := p4) X7.here hx rfl (hb hby at_21) (by rw [hLs4]; rfl) k) ?_
  show own_Fin _ _ _ _ _ _ _ _ (mkF m 23 Ls4 [(.int p4)])
  refine own_step (fun t k => XS.iconst X7.here hx rfl (hb hby at_23) k) ?_
  show own_Fin _ _ _ _ _ _ _ _ (mkF m 24 Ls4 [(.int (1 : Int32)), (.int p4)])
  refine own_step (fun t k => XS.iand X7.here hx rfl (hb hby at_24) rfl k) ?_
  show own_Fin _ _ _ _ _ _ _ _ (mkF m 25 Ls4 [(.int (p4 &&& (1 : Int32)))])
  by_cases hc9 : ((p4 &&& (1 : Int32))).toInt = 0
  · skip
    refine own_step (fun t k => XS.ifYes X7.here hx rfl (pc0 := 25) (pc' := 32) rfl (hb hby at_25) rfl ((if0 _ _).trans (own_ce (x := (p4 &&& (1 : Int32))) (y := (0 : Int32)) rfl rfl hc9).1) (by decide) (by decide) k) ?_
    show own_Fin _ _ _ _ _ _ _ _ (mkF m 32 Ls4 [])
    refine own_step (fun t k => XS.iconst X7.here hx rfl (hb hby at_32) k) ?_
    show own_Fin _ _ _ _ _ _ _ _ (mkF m 33 Ls4 [(.int (0 : Int32))])
    obtain ⟨Ls10, hLs10⟩ : ∃ z : Array Slot, z = #[.val (.long q1), .second, .val (.long q2), .second, .val (.long q3), .second, .val (.int p4), .val (.ref b2), .val (.int (0 : Int32)), .unset, .unset, .unset, .unset, .unset, .unset, .unset, .unset, .unset] := ⟨_, rfl⟩
    refine own_step (fun t k => XS.istore X7.here hx rfl (hb hby at_33) rfl (l' := Ls10) (by rw [hLs4, hLs10]; rfl) k) ?_
    show own_Fin _ _ _ _ _ _ _ _ (mkF m 35 Ls10 [])
    refine own_step (fun t k => XS.iload (v := (0 : Int32)) X7.here hx rfl (hb hby at_35) (by rw [hLs10]; rfl) k) ?_
    show own_Fin _ _ _ _ _ _ _ _ (mkF m 37 Ls10 [(.int (0 : Int32))])
    refine own_step (fun t k => XS.ifYes X7.here hx rfl (pc0 := 37) (pc' := 57) rfl (hb hby at_37) rfl (by decide) (by decide) (by decide) k) ?_
    show own_Fin _ _ _ _ _ _ _ _ (mkF m 57 Ls10 [])
    refine own_step (fun t k => XS.aload (v := (.ref b2)) X7.here hx rfl (hb hby at_57) (by rw [hLs10]; rfl) rfl k) ?_
    show own_Fin _ _ _ _ _ _ _ _ (mkF m 59 Ls10 [(.ref b2)])
    refine own_step (fun t k => XS.lload (v := q3) X7.here hx rfl (hb hby at_59) (by rw [hLs10]; rfl) k) ?_
    show own_Fin _ _ _ _ _ _ _ _ (mkF m 61 Ls10 [(.long q3), (.ref b2)])
    obtain ⟨cq11, kq11, q11a, q11b, q11c⟩ := isOf hZ rfl E_b2
    obtain ⟨_, _, ⟨T11, L11, k11, n11⟩, -, X11, ⟨Lc11, hQ11, l11, y11, z11⟩, st11⟩ := X7.virtualBack hx (y := (⟨"com/example/limfjord/limfjord/engine/LongQueue", "add", "(J)V"⟩ : MethodName)) (z := (⟨"com/example/limfjord/limfjord/engine/LongQueue", "add", "(J)V"⟩ : MethodName)) hown (mvT hZ (hw _ (List.mem_of_getElem? (i := 12) rfl))) (mvT hZ (hw _ (List.mem_of_getElem? (i := 13) rfl))) (notFace_of_selects (args := #[]) (mvT hZ (hw _ (List.mem_of_getElem? (i := 15) rfl)))) (mvT hZ (hw _ (List.mem_of_getElem? (i := 15) rfl))) (mvT hZ (hw _ (List.mem_of_getElem? (i := 14) rfl))) (by decide) (backOf (W := 0) (rm2 l Z a0 hw [] b2 q3 _ _ _ _ T7.heap n0 Zs E_b2 F_entries_b2 F_head_b2 F_tail_b2 V_bq3 g_b2 gq3 neq3 (by decide)) hZ (hw _ (List.mem_of_getElem? (i := 16) rfl)) (hw _ (List.mem_of_getElem? (i := 2) rfl)) (by decide) (by decide)) q11a q11c (g := (mkF m 61 Ls10 [(.long q3), (.ref b2)])) rfl (by rw [hml]; show Array.size Ls10 = _; rw [hLs10]; rfl) (Steps.refl _) (argsL := [(.long q3)]) (rest := []) (lenOf own_pd_1 rfl) rfl (by show 2 * 0 + _ ≤ _; exact Nat.le_of_eq rfl) (hb hby at_61) (fun _ _ => ⟨rfl, rfl, (by decide : 2 + 0 ≤ _), (by decide : 1027 + 0 ≤ _)⟩)
    dsimp only [Pt.U, Pt.locs, Pt.cells, Pt.slots] at X11 l11 y11 z11 st11 hQ11
    subst l11 y11 z11
    obtain ⟨rfl, Nq11, Kq11, P11_0, P11_1, P11_2, P11_3, P11_4⟩ := hQ11
    replace Nf := Fr.app Nf Nq11
    replace E_b2 := P11_0
    replace F_entries_b2 := P11_1
    replace F_head_b2 := P11_2
    replace F_tail_b2 : Fld Z T11.heap b2 "com/example/limfjord/limfjord/engine/LongQueue" "tail" "I" (.int (3 : Int32)) := P11_3
    replace V_bq3 := P11_4
    obtain ⟨fQ12, V_bq3, hfQ12_0, hfQ12_1, hfQ12_2⟩ : ∃ f, own_AJ Z T11.heap bq3 1024 f ∧ f 0 = q1 ∧ f 1 = q2 ∧ f 2 = q3 := ⟨_, V_bq3, (own_up_o _ _ _ _ (by decide)).trans hfQ8_0, (own_up_o _ _ _ _ (by decide)).trans hfQ8_1, own_up_s _ _ _⟩
    replace Zs := Nat.le_trans Zs Kq11.1
    refine own_stepT st11 ?_
    show own_Fin _ _ _ _ _ _ _ _ (mkF m 64 Ls10 [])
    refine own_step (fun t k => XS.aload (v := (.ref b2)) X11.here hx rfl (hb hby at_64) (by rw [hLs10]; rfl) rfl k) ?_
    show own_Fin _ _ _ _ _ _ _ _ (mkF m 66 Ls10 [(.ref b2)])
    obtain ⟨cq13, kq13, q13a, q13b, q13c⟩ := isOf hZ rfl E_b2
    obtain ⟨_, _, ⟨T13, L13, k13, n13⟩, -, X13, ⟨Lc13, hQ13, l13, y13, z13⟩, st13⟩ := X11.virtualBack hx (y := (⟨"com/example/limfjord/limfjord/engine/LongQueue", "poll", "()J"⟩ : MethodName)) (z := (⟨"com/example/limfjord/limfjord/engine/LongQueue", "poll", "()J"⟩ : MethodName)) hown (mvT hZ (hw _ (List.mem_of_getElem? (i := 19) rfl))) (mvT hZ (hw _ (List.mem_of_getElem? (i := 20) rfl))) (notFace_of_selects (args := #[]) (mvT hZ (hw _ (List.mem_of_getElem? (i := 22) rfl)))) (mvT hZ (hw _ (List.mem_of_getElem? (i := 22) rfl))) (mvT hZ (hw _ (List.mem_of_getElem? (i := 21) rfl))) (by decide) (backOf (W := 0) (rm3 l Z a0 hw [] b2 _ _ _ _ q1 T11.heap n0 Zs E_b2 F_entries_b2 F_head_b2 F_tail_b2 V_bq3 g_b2 neq3 (by decide) hfQ12_0) hZ (hw _ (List.mem_of_getElem? (i := 23) rfl)) (hw _ (List.mem_of_getElem? (i := 2) rfl)) (by decide) (by decide)) q13a q13c (g := (mkF m 66 Ls10 [(.ref b2)])) rfl (by rw [hml]; show Array.size Ls10 = _; rw [hLs10]; rfl) (Steps.refl _) (argsL := []) (rest := []) (lenOf own_pd_2 rfl) rfl (by show 2 * 0 + _ ≤ _; exact Nat.le_of_eq rfl) (hb hby at_66) (fun _ _ => ⟨rfl, rfl, (by decide : 2 + 0 ≤ _), (by decide : 1027 + 0 ≤ _)⟩)
    dsimp only [Pt.U, Pt.locs, Pt.cells, Pt.slots] at X13 l13 y13 z13 st13 hQ13
    subst l13 y13 z13
    obtain ⟨rfl, Nq13, Kq13, P13_0, P13_1, P13_2, P13_3⟩ := hQ13
    replace Nf := Fr.app Nf Nq13
    replace E_b2 := P13_0
    replace F_entries_b2 := P13_1
    replace F_head_b2 : Fld Z T13.heap b2 "com/example/limfjord/limfjord/engine/LongQueue" "head" "I" (.int (1 : Int32)) := P13_2
    replace F_tail_b2 := P13_3
    replace V_bq3 := V_bq3.keep Kq13 (ninS (Ne.symm neq3) nin0)
    replace Zs := Nat.le_trans Zs Kq13.1
    refine own_stepT st13 ?_
    show own_Fin _ _ _ _ _ _ _ _ (mkF m 69 Ls10 [(.long q1)])
    obtain ⟨Ls14, hLs14⟩ : ∃ z : Array Slot, z = #[.val (.long q1), .second, .val (.long q2), .second, .val (.long q3), .second, .val (.int p4), .val (.ref b2), .val (.int (0 : Int32)), .val (.long q1), .second, .unset, .unset, .unset, .unset, .unset, .unset, .unset] := ⟨_, rfl⟩
    refine own_step (fun t k => XS.lstore X13.here hx rfl (hb hby at_69) rfl (l' := Ls14) (by rw [hLs10, hLs14]; rfl) k) ?_
    show own_Fin _ _ _ _ _ _ _ _ (mkF m 71 Ls14 [])
    refine own_step (fun t k => XS.aload (v := (.ref b2)) X13.here hx rfl (hb hby at_71) (by rw [hLs14]; rfl) rfl k) ?_
    show own_Fin _ _ _ _ _ _ _ _ (mkF m 73 Ls14 [(.ref b2)])
    obtain ⟨cq15, kq15, q15a, q15b, q15c⟩ := isOf hZ rfl E_b2
    obtain ⟨_, _, ⟨T15, L15, k15, n15⟩, -, X15, ⟨Lc15, hQ15, l15, y15, z15⟩, st15⟩ := X13.virtualBack hx (y := (⟨"com/example/limfjord/limfjord/engine/LongQueue", "isEmpty", "()Z"⟩ : MethodName)) (z := (⟨"com/example/limfjord/limfjord/engine/LongQueue", "isEmpty", "()Z"⟩ : MethodName)) hown (mvT hZ (hw _ (List.mem_of_getElem? (i := 26) rfl))) (mvT hZ (hw _ (List.mem_of_getElem? (i := 27) rfl))) (notFace_of_selects (args := #[]) (mvT hZ (hw _ (List.mem_of_getElem? (i := 29) rfl)))) (mvT hZ (hw _ (List.mem_of_getElem? (i := 29) rfl))) (mvT hZ (hw _ (List.mem_of_getElem? (i := 28) rfl))) (by decide) (backOf (W := 0) (rm5 l Z a0 hw [] b2 _ _ T13.heap n0 Zs F_head_b2 F_tail_b2) hZ (hw _ (List.mem_of_getElem? (i := 30) rfl)) (hw _ (List.mem_of_getElem? (i := 2) rfl)) (by decide) (by decide)) q15a q15c (g := (mkF m 73 Ls14 [(.ref b2)])) rfl (by rw [hml]; show Array.size Ls14 = _; rw [hLs14]; rfl) (Steps.refl _) (argsL := []) (rest := []) (lenOf own_pd_3 rfl) rfl (by show 2 * 0 + _ ≤ _; exact Nat.le_of_eq rfl) (hb hby at_73) (fun _ _ => ⟨rfl, rfl, (by decide : 2 + 0 ≤ _), (by decide : 1027 + 0 ≤ _)⟩)
    dsimp only [Pt.U, Pt.locs, Pt.cells, Pt.slots] at X15 l15 y15 z15 st15 hQ15
    subst l15 y15 z15
    obtain ⟨r15, rfl, hB15, Nq15, hh15⟩ := hQ15
    replace Nf := Fr.app Nf Nq15
    refine own_stepT st15 ?_
    show own_Fin _ _ _ _ _ _ _ _ (mkF m 76 Ls14 [(.int r15)])
    have hc16 : (r15).toInt = 0 := by
      rcases hB15 with ⟨q1, q2⟩ | ⟨q1, q2⟩
      · exact absurd q2 (by decide)
      · exact q1
    refine own_step (fun t k => XS.ifNo X15.here hx rfl (hb hby at_76) rfl ((if0 _ _).trans (own_ce (x := r15) (y := (0 : Int32)) rfl rfl hc16).2) k) ?_
    show own_Fin _ _ _ _ _ _ _ _ (mkF m 79 Ls14 [])
    refine own_step (fun t k => XS.iconst X15.here hx rfl (hb hby at_79) k) ?_
    show own_Fin _ _ _ _ _ _ _ _ (mkF m 80 Ls14 [(.int (1 : Int32))])
    refine own_step (fun t k => XS.goto X15.here hx rfl (pc0 := 80) (pc' := 84) rfl (hb hby at_80) (by decide) (by decide) k) ?_
    show own_Fin _ _ _ _ _ _ _ _ (mkF m 84 Ls14 [(.int (1 : Int32))])
    obtain ⟨Ls17, hLs17⟩ : ∃ z : Array Slot, z = #[.val (.long q1), .second, .val (.long q2), .second, .val (.long q3), .second, .val (.int p4), .val (.ref b2), .val (.int (0 : Int32)), .val (.long q1), .second, .val (.int (1 : Int32)), .unset, .unset, .unset, .unset, .unset, .unset] := ⟨_, rfl⟩
    refine own_step (fun t k => XS.istore X15.here hx rfl (hb hby at_84) rfl (l' := Ls17) (by rw [hLs14, hLs17]; rfl) k) ?_
    show own_Fin _ _ _ _ _ _ _ _ (mkF m 86 Ls17 [])
    refine own_step (fun t k => XS.aload (v := (.ref b2)) X15.here hx rfl (hb hby at_86) (by rw [hLs17]; rfl) rfl k) ?_
    show own_Fin _ _ _ _ _ _ _ _ (mkF m 88 Ls17 [(.ref b2)])
    obtain ⟨cq18, kq18, q18a, q18b, q18c⟩ := isOf hZ hh15 E_b2
    obtain ⟨_, _, ⟨T18, L18, k18, n18⟩, -, X18, ⟨Lc18, hQ18, l18, y18, z18⟩, st18⟩ := X15.virtualBack hx (y := (⟨"com/example/limfjord/limfjord/engine/LongQueue", "peek", "()J"⟩ : MethodName)) (z := (⟨"com/example/limfjord/limfjord/engine/LongQueue", "peek", "()J"⟩ : MethodName)) hown (mvT hZ (hw _ (List.mem_of_getElem? (i := 31) rfl))) (mvT hZ (hw _ (List.mem_of_getElem? (i := 32) rfl))) (notFace_of_selects (args := #[]) (mvT hZ (hw _ (List.mem_of_getElem? (i := 34) rfl)))) (mvT hZ (hw _ (List.mem_of_getElem? (i := 34) rfl))) (mvT hZ (hw _ (List.mem_of_getElem? (i := 33) rfl))) (by decide) (backOf (W := 0) (rm4 l Z a0 hw [] b2 _ _ _ _ q2 T13.heap n0 Zs E_b2 F_entries_b2 F_head_b2 F_tail_b2 V_bq3 (by decide) hfQ12_1) hZ (hw _ (List.mem_of_getElem? (i := 35) rfl)) (hw _ (List.mem_of_getElem? (i := 2) rfl)) (by decide) (by decide)) q18a q18c (g := (mkF m 88 Ls17 [(.ref b2)])) rfl (by rw [hml]; show Array.size Ls17 = _; rw [hLs17]; rfl) (Steps.refl _) (argsL := []) (rest := []) (lenOf own_pd_2 rfl) rfl (by show 2 * 0 + _ ≤ _; exact Nat.le_of_eq rfl) (hb hby at_88) (fun _ _ => ⟨rfl, hh15, (by decide : 2 + 0 ≤ _), (by decide : 1027 + 0 ≤ _)⟩)
    dsimp only [Pt.U, Pt.locs, Pt.cells, Pt.slots] at X18 l18 y18 z18 st18 hQ18
    subst l18 y18 z18
    obtain ⟨rfl, Nq18, hh18⟩ := hQ18
    replace Nf := Fr.app Nf Nq18
    refine own_stepT st18 ?_
    show own_Fin _ _ _ _ _ _ _ _ (mkF m 91 Ls17 [(.long q2)])
    obtain ⟨Ls19, hLs19⟩ : ∃ z : Array Slot, z = #[.val (.long q1), .second, .val (.long q2), .second, .val (.long q3), .second, .val (.int p4), .val (.ref b2), .val (.int (0 : Int32)), .val (.long q1), .second, .val (.int (1 : Int32)), .val (.long q2), .second, .unset, .unset, .unset, .unset] := ⟨_, rfl⟩
    refine own_step (fun t k => XS.lstore X18.here hx rfl (hb hby at_91) rfl (l' := Ls19) (by rw [hLs17, hLs19]; rfl) k) ?_
    show own_Fin _ _ _ _ _ _ _ _ (mkF m 93 Ls19 [])
    refine own_step (fun t k => XS.aload (v := (.ref b2)) X18.here hx rfl (hb hby at_93) (by rw [hLs19]; rfl) rfl k) ?_
    show own_Fin _ _ _ _ _ _ _ _ (mkF m 95 Ls19 [(.ref b2)])
    obtain ⟨cq20, kq20, q20a, q20b, q20c⟩ := isOf hZ hh18 E_b2
    obtain ⟨_, _, ⟨T20, L20, k20, n20⟩, -, X20, ⟨Lc20, hQ20, l20, y20, z20⟩, st20⟩ := X18.virtualBack hx (y := (⟨"com/example/limfjord/limfjord/engine/LongQueue", "poll", "()J"⟩ : MethodName)) (z := (⟨"com/example/limfjord/limfjord/engine/LongQueue", "poll", "()J"⟩ : MethodName)) hown (mvT hZ (hw _ (List.mem_of_getElem? (i := 19) rfl))) (mvT hZ (hw _ (List.mem_of_getElem? (i := 20) rfl))) (notFace_of_selects (args := #[]) (mvT hZ (hw _ (List.mem_of_getElem? (i := 22) rfl)))) (mvT hZ (hw _ (List.mem_of_getElem? (i := 22) rfl))) (mvT hZ (hw _ (List.mem_of_getElem? (i := 21) rfl))) (by decide) (backOf (W := 0) (rm3 l Z a0 hw [] b2 _ _ _ _ q2 T13.heap n0 Zs E_b2 F_entries_b2 F_head_b2 F_tail_b2 V_bq3 g_b2 neq3 (by decide) hfQ12_1) hZ (hw _ (List.mem_of_getElem? (i := 23) rfl)) (hw _ (List.mem_of_getElem? (i := 2) rfl)) (by decide) (by decide)) q20a q20c (g := (mkF m 95 Ls19 [(.ref b2)])) rfl (by rw [hml]; show Array.size Ls19 = _; rw [hLs19]; rfl) (Steps.refl _) (argsL := []) (rest := []) (lenOf own_pd_2 rfl) rfl (by show 2 * 0 + _ ≤ _; exact Nat.le_of_eq rfl) (hb hby at_95) (fun _ _ => ⟨rfl, hh18, (by decide : 2 + 0 ≤ _), (by decide : 1027 + 0 ≤ _)⟩)
    dsimp only [Pt.U, Pt.locs, Pt.cells, Pt.slots] at X20 l20 y20 z20 st20 hQ20
    subst l20 y20 z20
    obtain ⟨rfl, Nq20, Kq20, P20_0, P20_1, P20_2, P20_3⟩ := hQ20
    replace Nf := Fr.app Nf Nq20
    replace E_b2 := P20_0
    replace F_entries_b2 := P20_1
    replace F_head_b2 : Fld Z T20.heap b2 "com/example/limfjord/limfjord/engine/LongQueue" "head" "I" (.int (2 : Int32)) := P20_2
    replace F_tail_b2 := P20_3
    replace V_bq3 := V_bq3.keep Kq20 (ninS (Ne.symm neq3) nin0)
    replace Zs := Nat.le_trans Zs Kq20.1
    refine own_stepT st20 ?_
    show own_Fin _ _ _ _ _ _ _ _ (mkF m 98 Ls19 [(.long q2)])
    obtain ⟨Ls21, hLs21⟩ : ∃ z : Array Slot, z = #[.val (.long q1), .second, .val (.long q2), .second, .val (.long q3), .second, .val (.int p4), .val (.ref b2), .val (.int (0 : Int32)), .val (.long q1), .second, .val (.int (1 : Int32)), .val (.long q2), .second, .val (.long q2), .second, .unset, .unset] := ⟨_, rfl⟩
    refine own_step (fun t k => XS.lstore X20.here hx rfl (hb hby at_98) rfl (l' := Ls21) (by rw [hLs19, hLs21]; rfl) k) ?_
    show own_Fin _ _ _ _ _ _ _ _ (mkF m 100 Ls21 [])
    refine own_step (fun t k => XS.aload (v := (.ref b2)) X20.here hx rfl (hb hby at_100) (by rw [hLs21]; rfl) rfl k) ?_
    show own_Fin _ _ _ _ _ _ _ _ (mkF m 102 Ls21 [(.ref b2)])
    obtain ⟨cq22, kq22, q22a, q22b, q22c⟩ := isOf hZ rfl E_b2
    obtain ⟨_, _, ⟨T22, L22, k22, n22⟩, -, X22, ⟨Lc22, hQ22, l22, y22, z22⟩, st22⟩ := X20.virtualBack hx (y := (⟨"com/example/limfjord/limfjord/engine/LongQueue", "poll", "()J"⟩ : MethodName)) (z := (⟨"com/example/limfjord/limfjord/engine/LongQueue", "poll", "()J"⟩ : MethodName)) hown (mvT hZ (hw _ (List.mem_of_getElem? (i := 19) rfl))) (mvT hZ (hw _ (List.mem_of_getElem? (i := 20) rfl))) (notFace_of_selects (args := #[]) (mvT hZ (hw _ (List.mem_of_getElem? (i := 22) rfl)))) (mvT hZ (hw _ (List.mem_of_getElem? (i := 22) rfl))) (mvT hZ (hw _ (List.mem_of_getElem? (i := 21) rfl))) (by decide) (backOf (W := 0) (rm3 l Z a0 hw [] b2 _ _ _ _ q3 T20.heap n0 Zs E_b2 F_entries_b2 F_head_b2 F_tail_b2 V_bq3 g_b2 neq3 (by decide) hfQ12_2) hZ (hw _ (List.mem_of_getElem? (i := 23) rfl)) (hw _ (List.mem_of_getElem? (i := 2) rfl)) (by decide) (by decide)) q22a q22c (g := (mkF m 102 Ls21 [(.ref b2)])) rfl (by rw [hml]; show Array.size Ls21 = _; rw [hLs21]; rfl) (Steps.refl _) (argsL := []) (rest := []) (lenOf own_pd_2 rfl) rfl (by show 2 * 0 + _ ≤ _; exact Nat.le_of_eq rfl) (hb hby at_102) (fun _ _ => ⟨rfl, rfl, (by decide : 2 + 0 ≤ _), (by decide : 1027 + 0 ≤ _)⟩)
    dsimp only [Pt.U, Pt.locs, Pt.cells, Pt.slots] at X22 l22 y22 z22 st22 hQ22
    subst l22 y22 z22
    obtain ⟨rfl, Nq22, Kq22, P22_0, P22_1, P22_2, P22_3⟩ := hQ22
    replace Nf := Fr.app Nf Nq22
    replace E_b2 := P22_0
    replace F_entries_b2 := P22_1
    replace F_head_b2 : Fld Z T22.heap b2 "com/example/limfjord/limfjord/engine/LongQueue" "head" "I" (.int (3 : Int32)) := P22_2
    replace F_tail_b2 := P22_3
    replace V_bq3 := V_bq3.keep Kq22 (ninS (Ne.symm neq3) nin0)
    replace Zs := Nat.le_trans Zs Kq22.1
    refine own_stepT st22 ?_
    show own_Fin _ _ _ _ _ _ _ _ (mkF m 105 Ls21 [(.long q3)])
    obtain ⟨Ls23, hLs23⟩ : ∃ z : Array Slot, z = #[.val (.long q1), .second, .val (.long q2), .second, .val (.long q3), .second, .val (.int p4), .val (.ref b2), .val (.int (0 : Int32)), .val (.long q1), .second, .val (.int (1 : Int32)), .val (.long q2), .second, .val (.long q2), .second, .val (.long q3), .second] := ⟨_, rfl⟩
    refine own_step (fun t k => XS.lstore X22.here hx rfl (hb hby at_105) rfl (l' := Ls23) (by rw [hLs21, hLs23]; rfl) k) ?_
    show own_Fin _ _ _ _ _ _ _ _ (mkF m 107 Ls23 [])
    refine own_step (fun t k => XS.lload (v := q1) X22.here hx rfl (hb hby at_107) (by rw [hLs23]; rfl) k) ?_
    show own_Fin _ _ _ _ _ _ _ _ (mkF m 109 Ls23 [(.long q1)])
    refine own_step (fun t k => XS.lloadN (v := q1) X22.here hx rfl (hb hby at_109) (by rw [hLs23]; rfl) k) ?_
    show own_Fin _ _ _ _ _ _ _ _ (mkF m 110 Ls23 [(.long q1), (.long q1)])
    refine own_step (fun t k => XS.lcmp X22.here hx rfl (hb hby at_110) rfl k) ?_
    show own_Fin _ _ _ _ _ _ _ _ (mkF m 111 Ls23 [(.int (lcmpW q1 q1))])
    refine own_step (fun t k => XS.ifNo X22.here hx rfl (hb hby at_111) rfl (own_le (x := q1) (y := q1) rfl rfl (rfl : (q1).toInt = (q1).toInt)).2 k) ?_
    show own_Fin _ _ _ _ _ _ _ _ (mkF m 114 Ls23 [])
    refine own_step (fun t k => XS.iload (v := (1 : Int32)) X22.here hx rfl (hb hby at_114) (by rw [hLs23]; rfl) k) ?_
    show own_Fin _ _ _ _ _ _ _ _ (mkF m 116 Ls23 [(.int (1 : Int32))])
    refine own_step (fun t k => XS.ifNo X22.here hx rfl (hb hby at_116) rfl (by decide) k) ?_
    show own_Fin _ _ _ _ _ _ _ _ (mkF m 119 Ls23 [])
    refine own_step (fun t k => XS.lload (v := q2) X22.here hx rfl (hb hby at_119) (by rw [hLs23]; rfl) k) ?_
    show own_Fin _ _ _ _ _ _ _ _ (mkF m 121 Ls23 [(.long q2)])
    refine own_step (fun t k => XS.lloadN (v := q2) X22.here hx rfl (hb hby at_121) (by rw [hLs23]; rfl) k) ?_
    show own_Fin _ _ _ _ _ _ _ _ (mkF m 122 Ls23 [(.long q2), (.long q2)])
    refine own_step (fun t k => XS.lcmp X22.here hx rfl (hb hby at_122) rfl k) ?_
    show own_Fin _ _ _ _ _ _ _ _ (mkF m 123 Ls23 [(.int (lcmpW q2 q2))])
    refine own_step (fun t k => XS.ifNo X22.here hx rfl (hb hby at_123) rfl (own_le (x := q2) (y := q2) rfl rfl (rfl : (q2).toInt = (q2).toInt)).2 k) ?_
    show own_Fin _ _ _ _ _ _ _ _ (mkF m 126 Ls23 [])
    refine own_step (fun t k => XS.lload (v := q2) X22.here hx rfl (hb hby at_126) (by rw [hLs23]; rfl) k) ?_
    show own_Fin _ _ _ _ _ _ _ _ (mkF m 128 Ls23 [(.long q2)])
    refine own_step (fun t k => XS.lloadN (v := q2) X22.here hx rfl (hb hby at_128) (by rw [hLs23]; rfl) k) ?_
    show own_Fin _ _ _ _ _ _ _ _ (mkF m 129 Ls23 [(.long q2), (.long q2)])
    refine own_step (fun t k => XS.lcmp X22.here hx rfl (hb hby at_129) rfl k) ?_
    show own_Fin _ _ _ _ _ _ _ _ (mkF m 130 Ls23 [(.int (lcmpW q2 q2))])
    refine own_step (fun t k => XS.ifNo X22.here hx rfl (hb hby at_130) rfl (own_le (x := q2) (y := q2) rfl rfl (rfl : (q2).toInt = (q2).toInt)).2 k) ?_
    show own_Fin _ _ _ _ _ _ _ _ (mkF m 133 Ls23 [])
    refine own_step (fun t k => XS.lload (v := q3) X22.here hx rfl (hb hby at_133) (by rw [hLs23]; rfl) k) ?_
    show own_Fin _ _ _ _ _ _ _ _ (mkF m 135 Ls23 [(.long q3)])
    refine own_step (fun t k => XS.lload (v := q3) X22.here hx rfl (hb hby at_135) (by rw [hLs23]; rfl) k) ?_
    show own_Fin _ _ _ _ _ _ _ _ (mkF m 137 Ls23 [(.long q3), (.long q3)])
    refine own_step (fun t k => XS.lcmp X22.here hx rfl (hb hby at_137) rfl k) ?_
    show own_Fin _ _ _ _ _ _ _ _ (mkF m 138 Ls23 [(.int (lcmpW q3 q3))])
    refine own_step (fun t k => XS.ifNo X22.here hx rfl (hb hby at_138) rfl (own_le (x := q3) (y := q3) rfl rfl (rfl : (q3).toInt = (q3).toInt)).2 k) ?_
    show own_Fin _ _ _ _ _ _ _ _ (mkF m 141 Ls23 [])
    refine own_step (fun t k => XS.aload (v := (.ref b2)) X22.here hx rfl (hb hby at_141) (by rw [hLs23]; rfl) rfl k) ?_
    show own_Fin _ _ _ _ _ _ _ _ (mkF m 143 Ls23 [(.ref b2)])
    obtain ⟨cq24, kq24, q24a, q24b, q24c⟩ := isOf hZ rfl E_b2
    obtain ⟨_, _, ⟨T24, L24, k24, n24⟩, -, X24, ⟨Lc24, hQ24, l24, y24, z24⟩, st24⟩ := X22.virtualBack hx (y := (⟨"com/example/limfjord/limfjord/engine/LongQueue", "isEmpty", "()Z"⟩ : MethodName)) (z := (⟨"com/example/limfjord/limfjord/engine/LongQueue", "isEmpty", "()Z"⟩ : MethodName)) hown (mvT hZ (hw _ (List.mem_of_getElem? (i := 26) rfl))) (mvT hZ (hw _ (List.mem_of_getElem? (i := 27) rfl))) (notFace_of_selects (args := #[]) (mvT hZ (hw _ (List.mem_of_getElem? (i := 29) rfl)))) (mvT hZ (hw _ (List.mem_of_getElem? (i := 29) rfl))) (mvT hZ (hw _ (List.mem_of_getElem? (i := 28) rfl))) (by decide) (backOf (W := 0) (rm5 l Z a0 hw [] b2 _ _ T22.heap n0 Zs F_head_b2 F_tail_b2) hZ (hw _ (List.mem_of_getElem? (i := 30) rfl)) (hw _ (List.mem_of_getElem? (i := 2) rfl)) (by decide) (by decide)) q24a q24c (g := (mkF m 143 Ls23 [(.ref b2)])) rfl (by rw [hml]; show Array.size Ls23 = _; rw [hLs23]; rfl) (Steps.refl _) (argsL := []) (rest := []) (lenOf own_pd_3 rfl) rfl (by show 2 * 0 + _ ≤ _; exact Nat.le_of_eq rfl) (hb hby at_143) (fun _ _ => ⟨rfl, rfl, (by decide : 2 + 0 ≤ _), (by decide : 1027 + 0 ≤ _)⟩)
    dsimp only [Pt.U, Pt.locs, Pt.cells, Pt.slots] at X24 l24 y24 z24 st24 hQ24
    subst l24 y24 z24
    obtain ⟨r24, rfl, hB24, Nq24, hh24⟩ := hQ24
    replace Nf := Fr.app Nf Nq24
    refine own_stepT st24 ?_
    show own_Fin _ _ _ _ _ _ _ _ (mkF m 146 Ls23 [(.int r24)])
    have hc25 : ¬ ((r24).toInt = 0) := by
      rcases hB24 with ⟨q1, q2⟩ | ⟨q1, q2⟩
      · omega
      · exact absurd (by decide) q2
    refine own_step (fun t k => XS.ifNo X24.here hx rfl (hb hby at_146) rfl ((if0 _ _).trans (own_cu (x := r24) (y := (0 : Int32)) rfl rfl hc25).1) k) ?_
    show own_Fin _ _ _ _ _ _ _ _ (mkF m 149 Ls23 [])
    refine own_step (fun t k => XS.iconst X24.here hx rfl (hb hby at_149) k) ?_
    show own_Fin _ _ _ _ _ _ _ _ (mkF m 150 Ls23 [(.int (1 : Int32))])
    refine own_step (fun t k => XS.goto X24.here hx rfl (pc0 := 150) (pc' := 154) rfl (hb hby at_150) (by decide) (by decide) k) ?_
    show own_Fin _ _ _ _ _ _ _ _ (mkF m 154 Ls23 [(.int (1 : Int32))])
    refine own_retZ X24 hx hlk Bd.returns (hb hby at_154) (z' := (1 : Int32)) (by decide) (by decide) (by decide) hh24 ?_
    exact ⟨rfl, Nf⟩
  · skip
    refine own_step (fun t k => XS.ifNo X7.here hx rfl (hb hby at_25) rfl ((if0 _ _).trans (own_cu (x := (p4 &&& (1 : Int32))) (y := (0 : Int32)) rfl rfl hc9).1) k) ?_
    show own_Fin _ _ _ _ _ _ _ _ (mkF m 28 Ls4 [])
    refine own_step (fun t k => XS.iconst X7.here hx rfl (hb hby at_28) k) ?_
    show own_Fin _ _ _ _ _ _ _ _ (mkF m 29 Ls4 [(.int (1 : Int32))])
    refine own_step (fun t k => XS.goto X7.here hx rfl (pc0 := 29) (pc' := 33) rfl (hb hby at_29) (by decide) (by decide) k) ?_
    show own_Fin _ _ _ _ _ _ _ _ (mkF m 33 Ls4 [(.int (1 : Int32))])
    obtain ⟨Ls26, hLs26⟩ : ∃ z : Array Slot, z = #[.val (.long q1), .second, .val (.long q2), .second, .val (.long q3), .second, .val (.int p4), .val (.ref b2), .val (.int (1 : Int32)), .unset, .unset, .unset, .unset, .unset, .unset, .unset, .unset, .unset] := ⟨_, rfl⟩
    refine own_step (fun t k => XS.istore X7.here hx rfl (hb hby at_33) rfl (l' := Ls26) (by rw [hLs4, hLs26]; rfl) k) ?_
    show own_Fin _ _ _ _ _ _ _ _ (mkF m 35 Ls26 [])
    refine own_step (fun t k => XS.iload (v := (1 : Int32)) X7.here hx rfl (hb hby at_35) (by rw [hLs26]; rfl) k) ?_
    show own_Fin _ _ _ _ _ _ _ _ (mkF m 37 Ls26 [(.int (1 : Int32))])
    refine own_step (fun t k => XS.ifNo X7.here hx rfl (hb hby at_37) rfl (by decide) k) ?_
    show own_Fin _ _ _ _ _ _ _ _ (mkF m 40 Ls26 [])
    refine own_step (fun t k => XS.aload (v := (.ref b2)) X7.here hx rfl (hb hby at_40) (by rw [hLs26]; rfl) rfl k) ?_
    show own_Fin _ _ _ _ _ _ _ _ (mkF m 42 Ls26 [(.ref b2)])
    obtain ⟨cq27, kq27, q27a, q27b, q27c⟩ := isOf hZ rfl E_b2
    obtain ⟨_, _, ⟨T27, L27, k27, n27⟩, -, X27, ⟨Lc27, hQ27, l27, y27, z27⟩, st27⟩ := X7.virtualBack hx (y := (⟨"com/example/limfjord/limfjord/engine/LongQueue", "poll", "()J"⟩ : MethodName)) (z := (⟨"com/example/limfjord/limfjord/engine/LongQueue", "poll", "()J"⟩ : MethodName)) hown (mvT hZ (hw _ (List.mem_of_getElem? (i := 19) rfl))) (mvT hZ (hw _ (List.mem_of_getElem? (i := 20) rfl))) (notFace_of_selects (args := #[]) (mvT hZ (hw _ (List.mem_of_getElem? (i := 22) rfl)))) (mvT hZ (hw _ (List.mem_of_getElem? (i := 22) rfl))) (mvT hZ (hw _ (List.mem_of_getElem? (i := 21) rfl))) (by decide) (backOf (W := 0) (rm3 l Z a0 hw [] b2 _ _ _ _ q1 T7.heap n0 Zs E_b2 F_entries_b2 F_head_b2 F_tail_b2 V_bq3 g_b2 neq3 (by decide) hfQ8_0) hZ (hw _ (List.mem_of_getElem? (i := 23) rfl)) (hw _ (List.mem_of_getElem? (i := 2) rfl)) (by decide) (by decide)) q27a q27c (g := (mkF m 42 Ls26 [(.ref b2)])) rfl (by rw [hml]; show Array.size Ls26 = _; rw [hLs26]; rfl) (Steps.refl _) (argsL := []) (rest := []) (lenOf own_pd_2 rfl) rfl (by show 2 * 0 + _ ≤ _; exact Nat.le_of_eq rfl) (hb hby at_42) (fun _ _ => ⟨rfl, rfl, (by decide : 2 + 0 ≤ _), (by decide : 1027 + 0 ≤ _)⟩)
    dsimp only [Pt.U, Pt.locs, Pt.cells, Pt.slots] at X27 l27 y27 z27 st27 hQ27
    subst l27 y27 z27
    obtain ⟨rfl, Nq27, Kq27, P27_0, P27_1, P27_2, P27_3⟩ := hQ27
    replace Nf := Fr.app Nf Nq27
    replace E_b2 := P27_0
    replace F_entries_b2 := P27_1
    replace F_head_b2 : Fld Z T27.heap b2 "com/example/limfjord/limfjord/engine/LongQueue" "head" "I" (.int (1 : Int32)) := P27_2
    replace F_tail_b2 := P27_3
    replace V_bq3 := V_bq3.keep Kq27 (ninS (Ne.symm neq3) nin0)
    replace Zs := Nat.le_trans Zs Kq27.1
    refine own_stepT st27 ?_
    show own_Fin _ _ _ _ _ _ _ _ (mkF m 45 Ls26 [(.long q1)])
    obtain ⟨Ls28, hLs28⟩ : ∃ z : Array Slot, z = #[.val (.long q1), .second, .val (.long q2), .second, .val (.long q3), .second, .val (.int p4), .val (.ref b2), .val (.int (1 : Int32)), .val (.long q1), .second, .unset, .unset, .unset, .unset, .unset, .unset, .unset] := ⟨_, rfl⟩
    refine own_step (fun t k => XS.lstore X27.here hx rfl (hb hby at_45) rfl (l' := Ls28) (by rw [hLs26, hLs28]; rfl) k) ?_
    show own_Fin _ _ _ _ _ _ _ _ (mkF m 47 Ls28 [])
    refine own_step (fun t k => XS.aload (v := (.ref b2)) X27.here hx rfl (hb hby at_47) (by rw [hLs28]; rfl) rfl k) ?_
    show own_Fin _ _ _ _ _ _ _ _ (mkF m 49 Ls28 [(.ref b2)])
    refine own_step (fun t k => XS.lload (v := q3) X27.here hx rfl (hb hby at_49) (by rw [hLs28]; rfl) k) ?_
    show own_Fin _ _ _ _ _ _ _ _ (mkF m 51 Ls28 [(.long q3), (.ref b2)])
    obtain ⟨cq29, kq29, q29a, q29b, q29c⟩ := isOf hZ rfl E_b2
    obtain ⟨_, _, ⟨T29, L29, k29, n29⟩, -, X29, ⟨Lc29, hQ29, l29, y29, z29⟩, st29⟩ := X27.virtualBack hx (y := (⟨"com/example/limfjord/limfjord/engine/LongQueue", "add", "(J)V"⟩ : MethodName)) (z := (⟨"com/example/limfjord/limfjord/engine/LongQueue", "add", "(J)V"⟩ : MethodName)) hown (mvT hZ (hw _ (List.mem_of_getElem? (i := 12) rfl))) (mvT hZ (hw _ (List.mem_of_getElem? (i := 13) rfl))) (notFace_of_selects (args := #[]) (mvT hZ (hw _ (List.mem_of_getElem? (i := 15) rfl)))) (mvT hZ (hw _ (List.mem_of_getElem? (i := 15) rfl))) (mvT hZ (hw _ (List.mem_of_getElem? (i := 14) rfl))) (by decide) (backOf (W := 0) (rm2 l Z a0 hw [] b2 q3 _ _ _ _ T27.heap n0 Zs E_b2 F_entries_b2 F_head_b2 F_tail_b2 V_bq3 g_b2 gq3 neq3 (by decide)) hZ (hw _ (List.mem_of_getElem? (i := 16) rfl)) (hw _ (List.mem_of_getElem? (i := 2) rfl)) (by decide) (by decide)) q29a q29c (g := (mkF m 51 Ls28 [(.long q3), (.ref b2)])) rfl (by rw [hml]; show Array.size Ls28 = _; rw [hLs28]; rfl) (Steps.refl _) (argsL := [(.long q3)]) (rest := []) (lenOf own_pd_1 rfl) rfl (by show 2 * 0 + _ ≤ _; exact Nat.le_of_eq rfl) (hb hby at_51) (fun _ _ => ⟨rfl, rfl, (by decide : 2 + 0 ≤ _), (by decide : 1027 + 0 ≤ _)⟩)
    dsimp only [Pt.U, Pt.locs, Pt.cells, Pt.slots] at X29 l29 y29 z29 st29 hQ29
    subst l29 y29 z29
    obtain ⟨rfl, Nq29, Kq29, P29_0, P29_1, P29_2, P29_3, P29_4⟩ := hQ29
    replace Nf := Fr.app Nf Nq29
    replace E_b2 := P29_0
    replace F_entries_b2 := P29_1
    replace F_head_b2 := P29_2
    replace F_tail_b2 : Fld Z T29.heap b2 "com/example/limfjord/limfjord/engine/LongQueue" "tail" "I" (.int (3 : Int32)) := P29_3
    replace V_bq3 := P29_4
    obtain ⟨fQ30, V_bq3, hfQ30_0, hfQ30_1, hfQ30_2⟩ : ∃ f, own_AJ Z T29.heap bq3 1024 f ∧ f 0 = q1 ∧ f 1 = q2 ∧ f 2 = q3 := ⟨_, V_bq3, (own_up_o _ _ _ _ (by decide)).trans hfQ8_0, (own_up_o _ _ _ _ (by decide)).trans hfQ8_1, own_up_s _ _ _⟩
    replace Zs := Nat.le_trans Zs Kq29.1
    refine own_stepT st29 ?_
    show own_Fin _ _ _ _ _ _ _ _ (mkF m 54 Ls28 [])
    refine own_step (fun t k => XS.goto X29.here hx rfl (pc0 := 54) (pc' := 71) rfl (hb hby at_54) (by decide) (by decide) k) ?_
    show own_Fin _ _ _ _ _ _ _ _ (mkF m 71 Ls28 [])
    refine own_step (fun t k => XS.aload (v := (.ref b2)) X29.here hx rfl (hb hby at_71) (by rw [hLs28]; rfl) rfl k) ?_
    show own_Fin _ _ _ _ _ _ _ _ (mkF m 73 Ls28 [(.ref b2)])
    obtain ⟨cq31, kq31, q31a, q31b, q31c⟩ := isOf hZ rfl E_b2
    obtain ⟨_, _, ⟨T31, L31, k31, n31⟩, -, X31, ⟨Lc31, hQ31, l31, y31, z31⟩, st31⟩ := X29.virtualBack hx (y := (⟨"com/example/limfjord/limfjord/engine/LongQueue", "isEmpty", "()Z"⟩ : MethodName)) (z := (⟨"com/example/limfjord/limfjord/engine/LongQueue", "isEmpty", "()Z"⟩ : MethodName)) hown (mvT hZ (hw _ (List.mem_of_getElem? (i := 26) rfl))) (mvT hZ (hw _ (List.mem_of_getElem? (i := 27) rfl))) (notFace_of_selects (args := #[]) (mvT hZ (hw _ (List.mem_of_getElem? (i := 29) rfl)))) (mvT hZ (hw _ (List.mem_of_getElem? (i := 29) rfl))) (mvT hZ (hw _ (List.mem_of_getElem? (i := 28) rfl))) (by decide) (backOf (W := 0) (rm5 l Z a0 hw [] b2 _ _ T29.heap n0 Zs F_head_b2 F_tail_b2) hZ (hw _ (List.mem_of_getElem? (i := 30) rfl)) (hw _ (List.mem_of_getElem? (i := 2) rfl)) (by decide) (by decide)) q31a q31c (g := (mkF m 73 Ls28 [(.ref b2)])) rfl (by rw [hml]; show Array.size Ls28 = _; rw [hLs28]; rfl) (Steps.refl _) (argsL := []) (rest := []) (lenOf own_pd_3 rfl) rfl (by show 2 * 0 + _ ≤ _; exact Nat.le_of_eq rfl) (hb hby at_73) (fun _ _ => ⟨rfl, rfl, (by decide : 2 + 0 ≤ _), (by decide : 1027 + 0 ≤ _)⟩)
    dsimp only [Pt.U, Pt.locs, Pt.cells, Pt.slots] at X31 l31 y31 z31 st31 hQ31
    subst l31 y31 z31
    obtain ⟨r31, rfl, hB31, Nq31, hh31⟩ := hQ31
    replace Nf := Fr.app Nf Nq31
    refine own_stepT st31 ?_
    show own_Fin _ _ _ _ _ _ _ _ (mkF m 76 Ls28 [(.int r31)])
    have hc32 : (r31).toInt = 0 := by
      rcases hB31 with ⟨q1, q2⟩ | ⟨q1, q2⟩
      · exact absurd q2 (by decide)
      · exact q1
    refine own_step (fun t k => XS.ifNo X31.here hx rfl (hb hby at_76) rfl ((if0 _ _).trans (own_ce (x := r31) (y := (0 : Int32)) rfl rfl hc32).2) k) ?_
    show own_Fin _ _ _ _ _ _ _ _ (mkF m 79 Ls28 [])
    refine own_step (fun t k => XS.iconst X31.here hx rfl (hb hby at_79) k) ?_
    show own_Fin _ _ _ _ _ _ _ _ (mkF m 80 Ls28 [(.int (1 : Int32))])
    refine own_step (fun t k => XS.goto X31.here hx rfl (pc0 := 80) (pc' := 84) rfl (hb hby at_80) (by decide) (by decide) k) ?_
    show own_Fin _ _ _ _ _ _ _ _ (mkF m 84 Ls28 [(.int (1 : Int32))])
    obtain ⟨Ls33, hLs33⟩ : ∃ z : Array Slot, z = #[.val (.long q1), .second, .val (.long q2), .second, .val (.long q3), .second, .val (.int p4), .val (.ref b2), .val (.int (1 : Int32)), .val (.long q1), .second, .val (.int (1 : Int32)), .unset, .unset, .unset, .unset, .unset, .unset] := ⟨_, rfl⟩
    refine own_step (fun t k => XS.istore X31.here hx rfl (hb hby at_84) rfl (l' := Ls33) (by rw [hLs28, hLs33]; rfl) k) ?_
    show own_Fin _ _ _ _ _ _ _ _ (mkF m 86 Ls33 [])
    refine own_step (fun t k => XS.aload (v := (.ref b2)) X31.here hx rfl (hb hby at_86) (by rw [hLs33]; rfl) rfl k) ?_
    show own_Fin _ _ _ _ _ _ _ _ (mkF m 88 Ls33 [(.ref b2)])
    obtain ⟨cq34, kq34, q34a, q34b, q34c⟩ := isOf hZ hh31 E_b2
    obtain ⟨_, _, ⟨T34, L34, k34, n34⟩, -, X34, ⟨Lc34, hQ34, l34, y34, z34⟩, st34⟩ := X31.virtualBack hx (y := (⟨"com/example/limfjord/limfjord/engine/LongQueue", "peek", "()J"⟩ : MethodName)) (z := (⟨"com/example/limfjord/limfjord/engine/LongQueue", "peek", "()J"⟩ : MethodName)) hown (mvT hZ (hw _ (List.mem_of_getElem? (i := 31) rfl))) (mvT hZ (hw _ (List.mem_of_getElem? (i := 32) rfl))) (notFace_of_selects (args := #[]) (mvT hZ (hw _ (List.mem_of_getElem? (i := 34) rfl)))) (mvT hZ (hw _ (List.mem_of_getElem? (i := 34) rfl))) (mvT hZ (hw _ (List.mem_of_getElem? (i := 33) rfl))) (by decide) (backOf (W := 0) (rm4 l Z a0 hw [] b2 _ _ _ _ q2 T29.heap n0 Zs E_b2 F_entries_b2 F_head_b2 F_tail_b2 V_bq3 (by decide) hfQ30_1) hZ (hw _ (List.mem_of_getElem? (i := 35) rfl)) (hw _ (List.mem_of_getElem? (i := 2) rfl)) (by decide) (by decide)) q34a q34c (g := (mkF m 88 Ls33 [(.ref b2)])) rfl (by rw [hml]; show Array.size Ls33 = _; rw [hLs33]; rfl) (Steps.refl _) (argsL := []) (rest := []) (lenOf own_pd_2 rfl) rfl (by show 2 * 0 + _ ≤ _; exact Nat.le_of_eq rfl) (hb hby at_88) (fun _ _ => ⟨rfl, hh31, (by decide : 2 + 0 ≤ _), (by decide : 1027 + 0 ≤ _)⟩)
    dsimp only [Pt.U, Pt.locs, Pt.cells, Pt.slots] at X34 l34 y34 z34 st34 hQ34
    subst l34 y34 z34
    obtain ⟨rfl, Nq34, hh34⟩ := hQ34
    replace Nf := Fr.app Nf Nq34
    refine own_stepT st34 ?_
    show own_Fin _ _ _ _ _ _ _ _ (mkF m 91 Ls33 [(.long q2)])
    obtain ⟨Ls35, hLs35⟩ : ∃ z : Array Slot, z = #[.val (.long q1), .second, .val (.long q2), .second, .val (.long q3), .second, .val (.int p4), .val (.ref b2), .val (.int (1 : Int32)), .val (.long q1), .second, .val (.int (1 : Int32)), .val (.long q2), .second, .unset, .unset, .unset, .unset] := ⟨_, rfl⟩
    refine own_step (fun t k => XS.lstore X34.here hx rfl (hb hby at_91) rfl (l' := Ls35) (by rw [hLs33, hLs35]; rfl) k) ?_
    show own_Fin _ _ _ _ _ _ _ _ (mkF m 93 Ls35 [])
    refine own_step (fun t k => XS.aload (v := (.ref b2)) X34.here hx rfl (hb hby at_93) (by rw [hLs35]; rfl) rfl k) ?_
    show own_Fin _ _ _ _ _ _ _ _ (mkF m 95 Ls35 [(.ref b2)])
    obtain ⟨cq36, kq36, q36a, q36b, q36c⟩ := isOf hZ hh34 E_b2
    obtain ⟨_, _, ⟨T36, L36, k36, n36⟩, -, X36, ⟨Lc36, hQ36, l36, y36, z36⟩, st36⟩ := X34.virtualBack hx (y := (⟨"com/example/limfjord/limfjord/engine/LongQueue", "poll", "()J"⟩ : MethodName)) (z := (⟨"com/example/limfjord/limfjord/engine/LongQueue", "poll", "()J"⟩ : MethodName)) hown (mvT hZ (hw _ (List.mem_of_getElem? (i := 19) rfl))) (mvT hZ (hw _ (List.mem_of_getElem? (i := 20) rfl))) (notFace_of_selects (args := #[]) (mvT hZ (hw _ (List.mem_of_getElem? (i := 22) rfl)))) (mvT hZ (hw _ (List.mem_of_getElem? (i := 22) rfl))) (mvT hZ (hw _ (List.mem_of_getElem? (i := 21) rfl))) (by decide) (backOf (W := 0) (rm3 l Z a0 hw [] b2 _ _ _ _ q2 T29.heap n0 Zs E_b2 F_entries_b2 F_head_b2 F_tail_b2 V_bq3 g_b2 neq3 (by decide) hfQ30_1) hZ (hw _ (List.mem_of_getElem? (i := 23) rfl)) (hw _ (List.mem_of_getElem? (i := 2) rfl)) (by decide) (by decide)) q36a q36c (g := (mkF m 95 Ls35 [(.ref b2)])) rfl (by rw [hml]; show Array.size Ls35 = _; rw [hLs35]; rfl) (Steps.refl _) (argsL := []) (rest := []) (lenOf own_pd_2 rfl) rfl (by show 2 * 0 + _ ≤ _; exact Nat.le_of_eq rfl) (hb hby at_95) (fun _ _ => ⟨rfl, hh34, (by decide : 2 + 0 ≤ _), (by decide : 1027 + 0 ≤ _)⟩)
    dsimp only [Pt.U, Pt.locs, Pt.cells, Pt.slots] at X36 l36 y36 z36 st36 hQ36
    subst l36 y36 z36
    obtain ⟨rfl, Nq36, Kq36, P36_0, P36_1, P36_2, P36_3⟩ := hQ36
    replace Nf := Fr.app Nf Nq36
    replace E_b2 := P36_0
    replace F_entries_b2 := P36_1
    replace F_head_b2 : Fld Z T36.heap b2 "com/example/limfjord/limfjord/engine/LongQueue" "head" "I" (.int (2 : Int32)) := P36_2
    replace F_tail_b2 := P36_3
    replace V_bq3 := V_bq3.keep Kq36 (ninS (Ne.symm neq3) nin0)
    replace Zs := Nat.le_trans Zs Kq36.1
    refine own_stepT st36 ?_
    show own_Fin _ _ _ _ _ _ _ _ (mkF m 98 Ls35 [(.long q2)])
    obtain ⟨Ls37, hLs37⟩ : ∃ z : Array Slot, z = #[.val (.long q1), .second, .val (.long q2), .second, .val (.long q3), .second, .val (.int p4), .val (.ref b2), .val (.int (1 : Int32)), .val (.long q1), .second, .val (.int (1 : Int32)), .val (.long q2), .second, .val (.long q2), .second, .unset, .unset] := ⟨_, rfl⟩
    refine own_step (fun t k => XS.lstore X36.here hx rfl (hb hby at_98) rfl (l' := Ls37) (by rw [hLs35, hLs37]; rfl) k) ?_
    show own_Fin _ _ _ _ _ _ _ _ (mkF m 100 Ls37 [])
    refine own_step (fun t k => XS.aload (v := (.ref b2)) X36.here hx rfl (hb hby at_100) (by rw [hLs37]; rfl) rfl k) ?_
    show own_Fin _ _ _ _ _ _ _ _ (mkF m 102 Ls37 [(.ref b2)])
    obtain ⟨cq38, kq38, q38a, q38b, q38c⟩ := isOf hZ rfl E_b2
    obtain ⟨_, _, ⟨T38, L38, k38, n38⟩, -, X38, ⟨Lc38, hQ38, l38, y38, z38⟩, st38⟩ := X36.virtualBack hx (y := (⟨"com/example/limfjord/limfjord/engine/LongQueue", "poll", "()J"⟩ : MethodName)) (z := (⟨"com/example/limfjord/limfjord/engine/LongQueue", "poll", "()J"⟩ : MethodName)) hown (mvT hZ (hw _ (List.mem_of_getElem? (i := 19) rfl))) (mvT hZ (hw _ (List.mem_of_getElem? (i := 20) rfl))) (notFace_of_selects (args := #[]) (mvT hZ (hw _ (List.mem_of_getElem? (i := 22) rfl)))) (mvT hZ (hw _ (List.mem_of_getElem? (i := 22) rfl))) (mvT hZ (hw _ (List.mem_of_getElem? (i := 21) rfl))) (by decide) (backOf (W := 0) (rm3 l Z a0 hw [] b2 _ _ _ _ q3 T36.heap n0 Zs E_b2 F_entries_b2 F_head_b2 F_tail_b2 V_bq3 g_b2 neq3 (by decide) hfQ30_2) hZ (hw _ (List.mem_of_getElem? (i := 23) rfl)) (hw _ (List.mem_of_getElem? (i := 2) rfl)) (by decide) (by decide)) q38a q38c (g := (mkF m 102 Ls37 [(.ref b2)])) rfl (by rw [hml]; show Array.size Ls37 = _; rw [hLs37]; rfl) (Steps.refl _) (argsL := []) (rest := []) (lenOf own_pd_2 rfl) rfl (by show 2 * 0 + _ ≤ _; exact Nat.le_of_eq rfl) (hb hby at_102) (fun _ _ => ⟨rfl, rfl, (by decide : 2 + 0 ≤ _), (by decide : 1027 + 0 ≤ _)⟩)
    dsimp only [Pt.U, Pt.locs, Pt.cells, Pt.slots] at X38 l38 y38 z38 st38 hQ38
    subst l38 y38 z38
    obtain ⟨rfl, Nq38, Kq38, P38_0, P38_1, P38_2, P38_3⟩ := hQ38
    replace Nf := Fr.app Nf Nq38
    replace E_b2 := P38_0
    replace F_entries_b2 := P38_1
    replace F_head_b2 : Fld Z T38.heap b2 "com/example/limfjord/limfjord/engine/LongQueue" "head" "I" (.int (3 : Int32)) := P38_2
    replace F_tail_b2 := P38_3
    replace V_bq3 := V_bq3.keep Kq38 (ninS (Ne.symm neq3) nin0)
    replace Zs := Nat.le_trans Zs Kq38.1
    refine own_stepT st38 ?_
    show own_Fin _ _ _ _ _ _ _ _ (mkF m 105 Ls37 [(.long q3)])
    obtain ⟨Ls39, hLs39⟩ : ∃ z : Array Slot, z = #[.val (.long q1), .second, .val (.long q2), .second, .val (.long q3), .second, .val (.int p4), .val (.ref b2), .val (.int (1 : Int32)), .val (.long q1), .second, .val (.int (1 : Int32)), .val (.long q2), .second, .val (.long q2), .second, .val (.long q3), .second] := ⟨_, rfl⟩
    refine own_step (fun t k => XS.lstore X38.here hx rfl (hb hby at_105) rfl (l' := Ls39) (by rw [hLs37, hLs39]; rfl) k) ?_
    show own_Fin _ _ _ _ _ _ _ _ (mkF m 107 Ls39 [])
    refine own_step (fun t k => XS.lload (v := q1) X38.here hx rfl (hb hby at_107) (by rw [hLs39]; rfl) k) ?_
    show own_Fin _ _ _ _ _ _ _ _ (mkF m 109 Ls39 [(.long q1)])
    refine own_step (fun t k => XS.lloadN (v := q1) X38.here hx rfl (hb hby at_109) (by rw [hLs39]; rfl) k) ?_
    show own_Fin _ _ _ _ _ _ _ _ (mkF m 110 Ls39 [(.long q1), (.long q1)])
    refine own_step (fun t k => XS.lcmp X38.here hx rfl (hb hby at_110) rfl k) ?_
    show own_Fin _ _ _ _ _ _ _ _ (mkF m 111 Ls39 [(.int (lcmpW q1 q1))])
    refine own_step (fun t k => XS.ifNo X38.here hx rfl (hb hby at_111) rfl (own_le (x := q1) (y := q1) rfl rfl (rfl : (q1).toInt = (q1).toInt)).2 k) ?_
    show own_Fin _ _ _ _ _ _ _ _ (mkF m 114 Ls39 [])
    refine own_step (fun t k => XS.iload (v := (1 : Int32)) X38.here hx rfl (hb hby at_114) (by rw [hLs39]; rfl) k) ?_
    show own_Fin _ _ _ _ _ _ _ _ (mkF m 116 Ls39 [(.int (1 : Int32))])
    refine own_step (fun t k => XS.ifNo X38.here hx rfl (hb hby at_116) rfl (by decide) k) ?_
    show own_Fin _ _ _ _ _ _ _ _ (mkF m 119 Ls39 [])
    refine own_step (fun t k => XS.lload (v := q2) X38.here hx rfl (hb hby at_119) (by rw [hLs39]; rfl) k) ?_
    show own_Fin _ _ _ _ _ _ _ _ (mkF m 121 Ls39 [(.long q2)])
    refine own_step (fun t k => XS.lloadN (v := q2) X38.here hx rfl (hb hby at_121) (by rw [hLs39]; rfl) k) ?_
    show own_Fin _ _ _ _ _ _ _ _ (mkF m 122 Ls39 [(.long q2), (.long q2)])
    refine own_step (fun t k => XS.lcmp X38.here hx rfl (hb hby at_122) rfl k) ?_
    show own_Fin _ _ _ _ _ _ _ _ (mkF m 123 Ls39 [(.int (lcmpW q2 q2))])
    refine own_step (fun t k => XS.ifNo X38.here hx rfl (hb hby at_123) rfl (own_le (x := q2) (y := q2) rfl rfl (rfl : (q2).toInt = (q2).toInt)).2 k) ?_
    show own_Fin _ _ _ _ _ _ _ _ (mkF m 126 Ls39 [])
    refine own_step (fun t k => XS.lload (v := q2) X38.here hx rfl (hb hby at_126) (by rw [hLs39]; rfl) k) ?_
    show own_Fin _ _ _ _ _ _ _ _ (mkF m 128 Ls39 [(.long q2)])
    refine own_step (fun t k => XS.lloadN (v := q2) X38.here hx rfl (hb hby at_128) (by rw [hLs39]; rfl) k) ?_
    show own_Fin _ _ _ _ _ _ _ _ (mkF m 129 Ls39 [(.long q2), (.long q2)])
    refine own_step (fun t k => XS.lcmp X38.here hx rfl (hb hby at_129) rfl k) ?_
    show own_Fin _ _ _ _ _ _ _ _ (mkF m 130 Ls39 [(.int (lcmpW q2 q2))])
    refine own_step (fun t k => XS.ifNo X38.here hx rfl (hb hby at_130) rfl (own_le (x := q2) (y := q2) rfl rfl (rfl : (q2).toInt = (q2).toInt)).2 k) ?_
    show own_Fin _ _ _ _ _ _ _ _ (mkF m 133 Ls39 [])
    refine own_step (fun t k => XS.lload (v := q3) X38.here hx rfl (hb hby at_133) (by rw [hLs39]; rfl) k) ?_
    show own_Fin _ _ _ _ _ _ _ _ (mkF m 135 Ls39 [(.long q3)])
    refine own_step (fun t k => XS.lload (v := q3) X38.here hx rfl (hb hby at_135) (by rw [hLs39]; rfl) k) ?_
    show own_Fin _ _ _ _ _ _ _ _ (mkF m 137 Ls39 [(.long q3), (.long q3)])
    refine own_step (fun t k => XS.lcmp X38.here hx rfl (hb hby at_137) rfl k) ?_
    show own_Fin _ _ _ _ _ _ _ _ (mkF m 138 Ls39 [(.int (lcmpW q3 q3))])
    refine own_step (fun t k => XS.ifNo X38.here hx rfl (hb hby at_138) rfl (own_le (x := q3) (y := q3) rfl rfl (rfl : (q3).toInt = (q3).toInt)).2 k) ?_
    show own_Fin _ _ _ _ _ _ _ _ (mkF m 141 Ls39 [])
    refine own_step (fun t k => XS.aload (v := (.ref b2)) X38.here hx rfl (hb hby at_141) (by rw [hLs39]; rfl) rfl k) ?_
    show own_Fin _ _ _ _ _ _ _ _ (mkF m 143 Ls39 [(.ref b2)])
    obtain ⟨cq40, kq40, q40a, q40b, q40c⟩ := isOf hZ rfl E_b2
    obtain ⟨_, _, ⟨T40, L40, k40, n40⟩, -, X40, ⟨Lc40, hQ40, l40, y40, z40⟩, st40⟩ := X38.virtualBack hx (y := (⟨"com/example/limfjord/limfjord/engine/LongQueue", "isEmpty", "()Z"⟩ : MethodName)) (z := (⟨"com/example/limfjord/limfjord/engine/LongQueue", "isEmpty", "()Z"⟩ : MethodName)) hown (mvT hZ (hw _ (List.mem_of_getElem? (i := 26) rfl))) (mvT hZ (hw _ (List.mem_of_getElem? (i := 27) rfl))) (notFace_of_selects (args := #[]) (mvT hZ (hw _ (List.mem_of_getElem? (i := 29) rfl)))) (mvT hZ (hw _ (List.mem_of_getElem? (i := 29) rfl))) (mvT hZ (hw _ (List.mem_of_getElem? (i := 28) rfl))) (by decide) (backOf (W := 0) (rm5 l Z a0 hw [] b2 _ _ T38.heap n0 Zs F_head_b2 F_tail_b2) hZ (hw _ (List.mem_of_getElem? (i := 30) rfl)) (hw _ (List.mem_of_getElem? (i := 2) rfl)) (by decide) (by decide)) q40a q40c (g := (mkF m 143 Ls39 [(.ref b2)])) rfl (by rw [hml]; show Array.size Ls39 = _; rw [hLs39]; rfl) (Steps.refl _) (argsL := []) (rest := []) (lenOf own_pd_3 rfl) rfl (by show 2 * 0 + _ ≤ _; exact Nat.le_of_eq rfl) (hb hby at_143) (fun _ _ => ⟨rfl, rfl, (by decide : 2 + 0 ≤ _), (by decide : 1027 + 0 ≤ _)⟩)
    dsimp only [Pt.U, Pt.locs, Pt.cells, Pt.slots] at X40 l40 y40 z40 st40 hQ40
    subst l40 y40 z40
    obtain ⟨r40, rfl, hB40, Nq40, hh40⟩ := hQ40
    replace Nf := Fr.app Nf Nq40
    refine own_stepT st40 ?_
    show own_Fin _ _ _ _ _ _ _ _ (mkF m 146 Ls39 [(.int r40)])
    have hc41 : ¬ ((r40).toInt = 0) := by
      rcases hB40 with ⟨q1, q2⟩ | ⟨q1, q2⟩
      · omega
      · exact absurd (by decide) q2
    refine own_step (fun t k => XS.ifNo X40.here hx rfl (hb hby at_146) rfl ((if0 _ _).trans (own_cu (x := r40) (y := (0 : Int32)) rfl rfl hc41).1) k) ?_
    show own_Fin _ _ _ _ _ _ _ _ (mkF m 149 Ls39 [])
    refine own_step (fun t k => XS.iconst X40.here hx rfl (hb hby at_149) k) ?_
    show own_Fin _ _ _ _ _ _ _ _ (mkF m 150 Ls39 [(.int (1 : Int32))])
    refine own_step (fun t k => XS.goto X40.here hx rfl (pc0 := 150) (pc' := 154) rfl (hb hby at_150) (by decide) (by decide) k) ?_
    show own_Fin _ _ _ _ _ _ _ _ (mkF m 154 Ls39 [(.int (1 : Int32))])
    refine own_retZ X40 hx hlk Bd.returns (hb hby at_154) (z' := (1 : Int32)) (by decide) (by decide) (by decide) hh40 ?_
    exact ⟨rfl, Nf⟩
set_option maxRecDepth 65536 in
set_option maxHeartbeats 40000000 in
theorem comes_1 {Post : Tables → Env → Array Value → State → Outcome → State → Prop} (hpost : ∀ tb e args s v u, (limb_1_1.after args s (.returned v) u = true ∧ limb_1_2.after args s (.returned v) u = true ∧ True) → FrameEnd s (.returned v) u (Jvm.fieldLocs frame_1_writes args s ++ Jvm.arrayLocs frame_1_arrays args s ++ Jvm.staticLocs frame_1_statics s) 16 2176 → Post tb e args s (.returned v) u) :
    ArmFor flags0 classFile x code maxLocals ret World_1 tables_1 room_1 Calls_1 rest_1 Pre_1 Post := by
  intro l hfl _ _ p e ha hc hk s m args below hf hA hF happ hP
  obtain ⟨hcalls, hrest, hpre⟩ := hP
  obtain ⟨-, -, -, hnamed, -, -, -, hat⟩ := (Spec.applies_iff hf).mp happ
  obtain ⟨hg, hn⟩ := and_e (Cond.before_iff.mp (show (Jvm.Cond.and given_1 narrow_1).before args s = true from hpre))
  obtain ⟨g1, g2⟩ := and_e hg
  obtain ⟨g3, g4⟩ := and_e g2
  obtain ⟨g5, g6⟩ := and_e g4
  obtain ⟨g7, g8⟩ := and_e g6
  obtain ⟨w0, w1, w2, w3, rfl⟩ : ∃ w0 w1 w2 w3 : Value, args = #[w0, w1, w2, w3] := by
    have hs : args.size = 4 := by simpa [Cond.value, given_1] using g1
    obtain ⟨L⟩ := args
    match L, hs with
    | [w0, w1, w2, w3], _ => exact ⟨w0, w1, w2, w3, rfl⟩
  have hw := fun d (hd : d ∈ tables_1) => atoms_spec (ws := Jvm.Cond.code x code maxLocals ret :: tables_1) hat d (List.mem_cons_of_mem _ hd)
  obtain ⟨i0, ei0⟩ := isL_v g3
  obtain rfl : w0 = (.long i0) := Option.some.inj ei0
  obtain ⟨i1, ei1⟩ := isL_v g5
  obtain rfl : w1 = (.long i1) := Option.some.inj ei1
  obtain ⟨i2, ei2⟩ := isL_v g7
  obtain rfl : w2 = (.long i2) := Option.some.inj ei2
  obtain ⟨i3, ei3⟩ := is_v g8
  obtain rfl : w3 = (.int i3) := Option.some.inj ei3
  obtain ⟨n, o, h1, h2, h3, _, L, rfl, ⟨rfl, N⟩, hq⟩ := rm0 l s _ hw tables_1 i0 i1 i2 i3 s.heap s.heap.size (Nat.le_refl _) p e ha hc hk s m _ below hf ((Spec.applies_iff_loose hf).mp happ).1 ⟨rfl, State.Warmed39.refl s, rfl⟩ trivial
  refine ⟨n, _, h1, h2, h3, hpost _ _ _ _ _ _ ⟨Cond.after_iff.mpr rfl, Cond.after_iff.mpr (eq_i res_at (Term.int_eval (1)) rfl), trivial⟩ ⟨hq.1, hq.2.1, (hq.2.2.sift fun y hy => Or.inr (N y hy)).mono (by decide) (by decide)⟩⟩
theorem main_1_1 : Claimed_1_1 := comes_1 fun _ _ _ _ _ _ h hF => ⟨h.1, hF⟩
theorem main_1_2 : Claimed_1_2 := comes_1 fun _ _ _ _ _ _ h hF => ⟨h.2.1, hF⟩
end Jvm.Pilot.@@N@@
namespace Jvm.Pilot.@@N@@
open Jvm Jvm.ClassFile Sem Op Lib Jvm.Free Jvm.Stand Jvm.Pilot.@@N@@.Jvm.D
/-! MADE BY PROGRAM (witnessworld.py) out of the Statement's table words and the real class files: 11 classes; the members and pool entries that the words name. The judged class is class 1, her method 1. -/
namespace start1
open Jvm.ClassFile
def u (s : String) : CpInfo := .utf8 (stringToUtf16 s)
/-- a pool by its gaps: so many unusable entries, then the entry; so many at the end -/
def gap : Nat → List CpInfo → List CpInfo
  | 0, r => r
  | n + 1, r => .unusable :: gap n r
def poolList (es : List (Nat × CpInfo)) (last : Nat) : List CpInfo := es.foldr (fun e r => gap e.1 (e.2 :: r)) (gap last [])
def pool (es : List (Nat × CpInfo)) (last : Nat) : Array CpInfo := ⟨poolList es last⟩
def fileOf (pool : Array CpInfo) (this : Nat) (attrs : Array Attribute := #[]) (ms : Array MethodInfo := #[]) (fl : Nat := 33) (sup : Nat := 0) (ifs : Array Nat := #[]) (fds : Array FieldInfo := #[]) : ClassFile where
  minorVersion := 0
  majorVersion := 65
  constantPool := pool
  accessFlags := fl
  thisClass := this
  superClass := sup
  interfaces := ifs
  fields := fds
  methods := ms
  attributes := attrs
def plain (name : String) (sup : Option ClassId) : Class where
  name := name
  kind := .ordinary
  loader := none
  accessFlags := 33
  super := sup
  interfaces := #[]
  cf := none
  fields := #[]
  methods := #[]
  instanceTypes := #[]
  staticTypes := #[]
  resolved := #[]
  callSites := []
  init := .initialized
  statics := none
  mirror := none

def pool0 : Array CpInfo := pool [(5, u "<init>"), (0, u "()V"), (1, .class_ 10), (1, u "java/lang/Object")] 113

def k0c0 : Code := { maxStack := 0, maxLocals := 1, code := object_method_1_code, exceptionTable := #[], attributes := #[] }
def k0m0 : Method := { name := "<init>", desc := "()V", sig := { parameters := [], returnType := none }, accessFlags := 1, code := some k0c0 }
/-- java/lang/Object -/
def k0 : Class := { plain "java/lang/Object" none with
  accessFlags := 33
  interfaces := #[]
  cf := some (fileOf pool0 8 #[] #[{ accessFlags := 1, nameIndex := 5, descriptorIndex := 6, attributes := #[] }] 33 0 #[] #[])
  fields := #[]
  methods := #[k0m0]
  instanceTypes := #[]
  staticTypes := #[]
  resolved := Array.replicate 124 none
  statics := none }

def pool1 : Array CpInfo := pool [(2, .class_ 4), (0, .nameAndType 5 6), (0, u "java/lang/Object"), (0, u "<init>"), (0, u "()V"), (0, .class_ 8), (0, u "com/example/limfjord/limfjord/engine/LongQueue"), (0, .methodref 7 3), (0, .methodref 7 11), (0, .nameAndType 12 13), (0, u "add"), (0, u "(J)V"), (0, .methodref 7 15), (0, .nameAndType 16 17), (0, u "poll"), (0, u "()J"), (0, .methodref 7 19), (0, .nameAndType 20 21), (0, u "isEmpty"), (0, u "()Z"), (0, .methodref 7 23), (0, .nameAndType 24 17), (0, u "peek"), (0, .class_ 26), (0, u "com/example/limfjord/limfjord/engine/LongQueuePollPinLaw"), (2, u "law"), (0, u "(JJJI)Z")] 3

def k1m0 : Method := { name := "<init>", desc := "()V", sig := { parameters := [], returnType := none }, accessFlags := 1, code := none }
def k1c1 : Code := { maxStack := 4, maxLocals := 18, code := code, exceptionTable := #[], attributes := #[] }
def k1m1 : Method := { name := "law", desc := "(JJJI)Z", sig := { parameters := [.long, .long, .long, .int], returnType := some .boolean }, accessFlags := 9, code := some k1c1 }
/-- com/example/limfjord/limfjord/engine/LongQueuePollPinLaw -/
def k1 : Class := { plain "com/example/limfjord/limfjord/engine/LongQueuePollPinLaw" (some 0) with
  accessFlags := 49
  interfaces := #[]
  cf := some (fileOf pool1 25 #[] #[{ accessFlags := 1, nameIndex := 5, descriptorIndex := 6, attributes := #[] }, { accessFlags := 9, nameIndex := 29, descriptorIndex := 30, attributes := #[] }] 49 2 #[] #[])
  fields := #[]
  methods := #[k1m0, k1m1]
  instanceTypes := #[]
  staticTypes := #[]
  resolved := Array.replicate 34 none
  statics := none }

def pool2 : Array CpInfo := pool [(1, .methodref 2 3), (0, .class_ 4), (0, .nameAndType 5 6), (0, u "java/lang/Object"), (0, u "<init>"), (0, u "()V"), (0, .fieldref 8 9), (0, .class_ 10), (0, .nameAndType 11 12), (0, u "com/example/limfjord/limfjord/engine/LongQueue"), (0, u "entries"), (0, u "[J"), (0, .fieldref 8 14), (0, .nameAndType 15 16), (0, u "head"), (0, u "I"), (0, .fieldref 8 18), (0, .nameAndType 19 16), (0, u "tail"), (8, u "isEmpty"), (0, u "()Z"), (1, u "peek"), (0, u "()J"), (0, u "poll"), (0, u "add"), (0, u "(J)V")] 3

def k2c0 : Code := { maxStack := 2, maxLocals := 1, code := prog_36_method_1_code, exceptionTable := #[], attributes := #[] }
def k2m0 : Method := { name := "<init>", desc := "()V", sig := { parameters := [], returnType := none }, accessFlags := 0, code := some k2c0 }
def k2c1 : Code := { maxStack := 2, maxLocals := 1, code := prog_36_method_2_code, exceptionTable := #[], attributes := #[] }
def k2m1 : Method := { name := "isEmpty", desc := "()Z", sig := { parameters := [], returnType := some .boolean }, accessFlags := 0, code := some k2c1 }
def k2c2 : Code := { maxStack := 2, maxLocals := 1, code := prog_36_method_3_code, exceptionTable := #[], attributes := #[] }
def k2m2 : Method := { name := "peek", desc := "()J", sig := { parameters := [], returnType := some .long }, accessFlags := 0, code := some k2c2 }
def k2c3 : Code := { maxStack := 3, maxLocals := 3, code := prog_36_method_4_code, exceptionTable := #[], attributes := #[] }
def k2m3 : Method := { name := "poll", desc := "()J", sig := { parameters := [], returnType := some .long }, accessFlags := 0, code := some k2c3 }
def k2c4 : Code := { maxStack := 5, maxLocals := 5, code := prog_36_method_5_code, exceptionTable := #[], attributes := #[] }
def k2m4 : Method := { name := "add", desc := "(J)V", sig := { parameters := [.long], returnType := none }, accessFlags := 0, code := some k2c4 }
/-- com/example/limfjord/limfjord/engine/LongQueue -/
def k2 : Class := { plain "com/example/limfjord/limfjord/engine/LongQueue" (some 0) with
  accessFlags := 32
  interfaces := #[]
  cf := some (fileOf pool2 8 #[] #[{ accessFlags := 0, nameIndex := 5, descriptorIndex := 6, attributes := #[] }, { accessFlags := 0, nameIndex := 28, descriptorIndex := 29, attributes := #[] }, { accessFlags := 0, nameIndex := 31, descriptorIndex := 32, attributes := #[] }, { accessFlags := 0, nameIndex := 33, descriptorIndex := 32, attributes := #[] }, { accessFlags := 0, nameIndex := 34, descriptorIndex := 35, attributes := #[] }] 32 2 #[] #[{ accessFlags := 2, nameIndex := 11, descriptorIndex := 12, attributes := #[] }, { accessFlags := 2, nameIndex := 15, descriptorIndex := 16, attributes := #[] }, { accessFlags := 2, nameIndex := 19, descriptorIndex := 16, attributes := #[] }])
  fields := #[{ name := "entries", type := (.array .long), accessFlags := 2, slot := 0, constantValue := 0 }, { name := "head", type := .int, accessFlags := 2, slot := 1, constantValue := 0 }, { name := "tail", type := .int, accessFlags := 2, slot := 2, constantValue := 0 }]
  methods := #[k2m0, k2m1, k2m2, k2m3, k2m4]
  instanceTypes := #[(.array .long), .int, .int]
  staticTypes := #[]
  resolved := Array.replicate 39 none
  statics := none }

def pool3 : Array CpInfo := pool [(1, u "java/lang/Cloneable"), (0, .class_ 1), (0, u "java/lang/Object"), (0, .class_ 3)] 3

/-- java/lang/Cloneable -/
def k3 : Class := { plain "java/lang/Cloneable" (some 0) with
  accessFlags := 1537
  interfaces := #[]
  cf := some (fileOf pool3 2 #[] #[] 1537 4 #[] #[])
  fields := #[]
  methods := #[]
  instanceTypes := #[]
  staticTypes := #[]
  resolved := Array.replicate 8 none
  statics := none }

def pool4 : Array CpInfo := pool [(1, u "java/io/Serializable"), (0, .class_ 1), (0, u "java/lang/Object"), (0, .class_ 3)] 3

/-- java/io/Serializable -/
def k4 : Class := { plain "java/io/Serializable" (some 0) with
  accessFlags := 1537
  interfaces := #[]
  cf := some (fileOf pool4 2 #[] #[] 1537 4 #[] #[])
  fields := #[]
  methods := #[]
  instanceTypes := #[]
  staticTypes := #[]
  resolved := Array.replicate 8 none
  statics := none }

/-- the primitive byte -/
def k5 : Class := { plain "byte" none with kind := .primitive 'B', accessFlags := 0x411 }
/-- [B -/
def k6 : Class := { plain "[B" (some 0) with kind := .array 5 .byte, interfaces := #[3, 4], accessFlags := 1041 }

/-- the primitive int -/
def k7 : Class := { plain "int" none with kind := .primitive 'I', accessFlags := 0x411 }
/-- [I -/
def k8 : Class := { plain "[I" (some 0) with kind := .array 7 .int, interfaces := #[3, 4], accessFlags := 1041 }

/-- the primitive long -/
def k9 : Class := { plain "long" none with kind := .primitive 'J', accessFlags := 0x411 }
/-- [J -/
def k10 : Class := { plain "[J" (some 0) with kind := .array 9 .long, interfaces := #[3, 4], accessFlags := 1041 }

def heap : Heap := #[]
def classes : Array Class := #[k0, k1, k2, k3, k4, k5, k6, k7, k8, k9, k10]
def interned : List (Array UInt16 × Addr) := []
def slotsUsed : Nat := 0
def theMethod : MethodId := ⟨1, 1⟩
def args0 : Array Value := #[.long 7, .long 7, .long 7, .int 5]
def aboutOver (below : List Frame) : State where
  vm := { classes := classes, interned := interned.toArray }
  heap := heap
  slotsUsed := slotsUsed
  threads := #[{ frames := .invoking theMethod args0 :: below }]
def below0 : List Frame := [.native { method := ⟨0, 0⟩, args := #[] }]
def about1 : State := aboutOver below0
def p0 : Program := .bare "" "" ""
def e0 : Env := launch0.env 0 0 0
theorem w_frames : about1.frames = Frame.invoking theMethod args0 :: below0 := rfl
set_option maxRecDepth 65536 in
theorem w_args : argsFit about1.vm theMethod args0 = true := by decide +kernel
set_option maxRecDepth 65536 in
theorem w_heap : heapFits about1 = true := by decide +kernel
set_option maxRecDepth 65536 in
theorem w_runnable : about1.curStatus? = some .runnable := by decide +kernel
set_option maxRecDepth 65536 in
theorem w_alone : about1.alone = true := by decide +kernel
set_option maxRecDepth 65536 in
theorem w_named : about1.methodNamed? x = some theMethod := by decide +kernel
set_option maxRecDepth 65536 in
theorem w_hears : about1.hears theMethod below0 = true := by decide +kernel
set_option maxRecDepth 65536 in
theorem w_ripe : about1.ripe theMethod args0 below0 = true := by decide +kernel
theorem w_running : about1.status = .running := rfl
set_option maxRecDepth 65536 in
theorem w_room : about1.hasRoom e0.platform room_1 = true :=
  launch0.hasRoom_least _ room_1 (by decide +kernel) (by decide +kernel) (by decide +kernel) (by decide +kernel) (by decide +kernel) (by decide +kernel)
theorem allAtoms_all (ts : List Jvm.Cond) (a : Array Jvm.Value) (st : Jvm.State) : (allAtoms ts).before a st = ts.all (fun c => c.before a st) := by
  induction ts with
  | nil => rfl
  | cons c t ih =>
    show (Jvm.Cond.and c (allAtoms t)).before a st = _
    rw [Jvm.Cond.before_and, ih, List.all_cons]
def words1 : List Jvm.Cond := Jvm.Cond.code x code maxLocals ret :: tables_1
/-- a 'code' word, met by the world's own term for the bytes: nothing is compared byte by byte -/
theorem code_word {y : MethodName} {bytes : ByteArray} {mx : Nat} {rt : Option FieldType} {a : Array Value} {s : State} {m : MethodId} {meth : Method} {c : Code} (h1 : s.methodNamed? y = some m) (h2 : s.vm.method? m = some meth) (h3 : meth.code = some c) (h4 : c.code = bytes)
    (h5 : (c.maxLocals == mx && c.exceptionTable.isEmpty && decide (c.maxStack ≤ mostOperands) && decide (meth.sig.returnType = rt) && !meth.locks && decide (parseMethodDescriptor y.desc = some meth.sig)) = true) : (Jvm.Cond.code y bytes mx rt).before a s = true := by
  simp only [Bool.and_eq_true, beq_iff_eq, Bool.not_eq_true', decide_eq_true_eq] at h5
  obtain ⟨⟨⟨⟨⟨g1, g2⟩, g3⟩, g4⟩, g5⟩, g6⟩ := h5
  simp [Cond.before, Cond.holds, Cond.value, h1, h2, h3, h4, g1, g2, g3, g4, g5, g6]
def isCode : Jvm.Cond → Bool
  | .code _ _ _ _ => true
  | _ => false
theorem all_split {L : List Jvm.Cond} {P : Jvm.Cond → Bool} (h1 : L.all (fun c => isCode c || P c) = true) (h2 : ∀ c ∈ L.filter isCode, P c = true) : L.all P = true := by
  refine List.all_eq_true.mpr fun c hc => ?_
  have h := List.all_eq_true.mp h1 c hc
  rcases Bool.eq_false_or_eq_true (isCode c) with hi | hi
  · exact h2 c (List.mem_filter.mpr ⟨hc, hi⟩)
  · simpa [hi] using h
set_option maxRecDepth 65536 in
theorem w_c0 : (Jvm.Cond.code x code maxLocals ret).before args0 about1 = true := code_word (m := ⟨1, 1⟩) (meth := k1m1) (c := k1c1) (by decide +kernel) rfl rfl rfl (by decide +kernel)
set_option maxRecDepth 65536 in
theorem w_c1 : (Jvm.Cond.code ({ cls := "com/example/limfjord/limfjord/engine/LongQueue", name := "<init>", desc := "()V" } : Jvm.MethodName) prog_36_method_1_code (1 : Nat) (Option.none : Option Jvm.ClassFile.FieldType)).before args0 about1 = true := code_word (m := ⟨2, 0⟩) (meth := k2m0) (c := k2c0) (by decide +kernel) rfl rfl rfl (by decide +kernel)
set_option maxRecDepth 65536 in
theorem w_c2 : (Jvm.Cond.code ({ cls := "java/lang/Object", name := "<init>", desc := "()V" } : Jvm.MethodName) object_method_1_code (1 : Nat) (Option.none : Option Jvm.ClassFile.FieldType)).before args0 about1 = true := code_word (m := ⟨0, 0⟩) (meth := k0m0) (c := k0c0) (by decide +kernel) rfl rfl rfl (by decide +kernel)
set_option maxRecDepth 65536 in
theorem w_c3 : (Jvm.Cond.code ({ cls := "com/example/limfjord/limfjord/engine/LongQueue", name := "add", desc := "(J)V" } : Jvm.MethodName) prog_36_method_5_code (5 : Nat) (Option.none : Option Jvm.ClassFile.FieldType)).before args0 about1 = true := code_word (m := ⟨2, 4⟩) (meth := k2m4) (c := k2c4) (by decide +kernel) rfl rfl rfl (by decide +kernel)
set_option maxRecDepth 65536 in
theorem w_c4 : (Jvm.Cond.code ({ cls := "com/example/limfjord/limfjord/engine/LongQueue", name := "poll", desc := "()J" } : Jvm.MethodName) prog_36_method_4_code (3 : Nat) (Option.some Jvm.ClassFile.FieldType.long)).before args0 about1 = true := code_word (m := ⟨2, 3⟩) (meth := k2m3) (c := k2c3) (by decide +kernel) rfl rfl rfl (by decide +kernel)
set_option maxRecDepth 65536 in
theorem w_c5 : (Jvm.Cond.code ({ cls := "com/example/limfjord/limfjord/engine/LongQueue", name := "isEmpty", desc := "()Z" } : Jvm.MethodName) prog_36_method_2_code (1 : Nat) (Option.some Jvm.ClassFile.FieldType.boolean)).before args0 about1 = true := code_word (m := ⟨2, 1⟩) (meth := k2m1) (c := k2c1) (by decide +kernel) rfl rfl rfl (by decide +kernel)
set_option maxRecDepth 65536 in
theorem w_c6 : (Jvm.Cond.code ({ cls := "com/example/limfjord/limfjord/engine/LongQueue", name := "peek", desc := "()J" } : Jvm.MethodName) prog_36_method_3_code (1 : Nat) (Option.some Jvm.ClassFile.FieldType.long)).before args0 about1 = true := code_word (m := ⟨2, 2⟩) (meth := k2m2) (c := k2c2) (by decide +kernel) rfl rfl rfl (by decide +kernel)
def codes1 : List Jvm.Cond := [Jvm.Cond.code x code maxLocals ret, Jvm.Cond.code ({ cls := "com/example/limfjord/limfjord/engine/LongQueue", name := "<init>", desc := "()V" } : Jvm.MethodName) prog_36_method_1_code (1 : Nat) (Option.none : Option Jvm.ClassFile.FieldType), Jvm.Cond.code ({ cls := "java/lang/Object", name := "<init>", desc := "()V" } : Jvm.MethodName) object_method_1_code (1 : Nat) (Option.none : Option Jvm.ClassFile.FieldType), Jvm.Cond.code ({ cls := "com/example/limfjord/limfjord/engine/LongQueue", name := "add", desc := "(J)V" } : Jvm.MethodName) prog_36_method_5_code (5 : Nat) (Option.none : Option Jvm.ClassFile.FieldType), Jvm.Cond.code ({ cls := "com/example/limfjord/limfjord/engine/LongQueue", name := "poll", desc := "()J" } : Jvm.MethodName) prog_36_method_4_code (3 : Nat) (Option.some Jvm.ClassFile.FieldType.long), Jvm.Cond.code ({ cls := "com/example/limfjord/limfjord/engine/LongQueue", name := "isEmpty", desc := "()Z" } : Jvm.MethodName) prog_36_method_2_code (1 : Nat) (Option.some Jvm.ClassFile.FieldType.boolean), Jvm.Cond.code ({ cls := "com/example/limfjord/limfjord/engine/LongQueue", name := "peek", desc := "()J" } : Jvm.MethodName) prog_36_method_3_code (1 : Nat) (Option.some Jvm.ClassFile.FieldType.long)]
set_option maxRecDepth 65536 in
theorem codes_eq : words1.filter isCode = codes1 := rfl
theorem w_codes : ∀ c ∈ words1.filter isCode, c.before args0 about1 = true := by
  rw [codes_eq]
  intro c hc
  simp only [codes1, List.mem_cons, List.not_mem_nil, or_false] at hc
  rcases hc with rfl | rfl | rfl | rfl | rfl | rfl | rfl
  · exact w_c0
  · exact w_c1
  · exact w_c2
  · exact w_c3
  · exact w_c4
  · exact w_c5
  · exact w_c6
set_option maxRecDepth 65536 in
theorem w_t1 : (words1.take 24).all (fun c => isCode c || c.before args0 about1) = true := by decide +kernel
set_option maxRecDepth 65536 in
theorem w_t2 : (words1.drop 24).all (fun c => isCode c || c.before args0 about1) = true := by decide +kernel
theorem w_tables : (allAtoms (Jvm.Cond.code x code maxLocals ret :: tables_1)).before args0 about1 = true := by
  rw [allAtoms_all]
  show words1.all (fun c => c.before args0 about1) = true
  refine all_split ?_ w_codes
  rw [← List.take_append_drop 24 words1, List.all_append, w_t1, w_t2]
  rfl
set_option maxRecDepth 65536 in
theorem w_case : (Jvm.Cond.and given_1 narrow_1).before args0 about1 = true := by decide +kernel
theorem w_applies : (headSpec (Jvm.Cond.code x code maxLocals ret :: tables_1) room_1).applies x e0.platform about1 = true :=
  (Spec.applies_iff w_frames).mpr ⟨w_running, w_runnable, w_alone, w_named, w_hears, w_ripe, w_room, w_tables⟩
theorem atStart : AtStart classFile x code maxLocals ret World_1 tables_1 room_1 Calls_1 rest_1 Pre_1 launch0 p0 e0 about1 theMethod args0 below0 :=
  ⟨lists_1, trivial, launch0.admits_env _ _ _, launch0.least_env, fairChoices_fair.cas, fairChoices_fair.clock, w_frames, w_args, w_heap, w_applies, trivial, trivial, w_case⟩
end start1
theorem witness_1 : WitnessClaimed_1 := ⟨start1.p0, start1.e0, start1.about1, start1.theMethod, start1.args0, start1.below0, start1.atStart⟩
end Jvm.Pilot.@@N@@
