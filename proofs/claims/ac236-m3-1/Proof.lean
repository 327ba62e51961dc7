import JvmDerived
import JvmDerived.Pilot.@@N@@Statement
import JvmDerived.Pilot.@@N@@Code
set_option linter.unusedVariables false
set_option linter.unusedSimpArgs false
namespace Jvm.Pilot.@@N@@
open Jvm Jvm.ClassFile Sem Op Lib Jvm.Free Jvm.Stand Jvm.LawKit Jvm.RoadKit Bundle Jvm.Pilot.@@N@@.Jvm.D
/-! Own kit. own_Fin: from this frame the run comes to the method's end, and Q holds of what it leaves. -/
def own_Fin (p : Program) (e : Env) (below : List Frame) (s : State) (Q : Option Value → Heap → List Loc → Prop) (cl sl : Nat) (T : State) (f : JFrame) : Prop :=
  ∃ s₂ o, Steps p.tables e below (T.setTop f) s₂ ∧ s₂.status = .running ∧ Ended s₂ below o ∧ (∃ v L, o = .returned v ∧ Q v s₂.heap L ∧ FrameEnd s o s₂ L cl sl)
section OwnKit
variable {p : Program} {l : Launch} {e : Env} {R : Room} {s : State} {m : MethodId} {args : Array Value} {below : List Frame} {meth : Method} {c : Code} {T : State} {locs : List Loc} {cells slots : Nat} {Q : Option Value → Heap → List Loc → Prop} {cl sl : Nat} {Z : State} {a0 : Array Value} {h h' : Heap} {a b : Addr}
theorem own_step {T' : State} {f f' : JFrame} (k : ∀ t, Steps p.tables e below (T'.setTop f') t → Steps p.tables e below (T.setTop f) t) (r : own_Fin p e below s Q cl sl T' f') : own_Fin p e below s Q cl sl T f := by
  obtain ⟨s₂, o, h1, h2⟩ := r
  exact ⟨s₂, o, k _ h1, h2⟩
theorem own_stepT {T' : State} {f f' : JFrame} (k : Steps p.tables e below (T.setTop f) (T'.setTop f')) (r : own_Fin p e below s Q cl sl T' f') : own_Fin p e below s Q cl sl T f := by
  obtain ⟨s₂, o, h1, h2⟩ := r
  exact ⟨s₂, o, k.trans h1, h2⟩
theorem own_retZ (X : Stand p l e R s m args below meth c T locs cells slots) (hx : p.tables.exec = Jvm.exec) (hlocks : meth.locks = false) (hret : meth.sig.returnType = some .boolean) {pc : Nat} {Ls : Array Slot} {z z' : Int32} {rest : List Value} (hd : decode c.code pc = .ok (.ireturn, 1))
    (hn : nar .boolean z = z') (hc : cells ≤ cl) (hs : slots ≤ sl) (hT : T.heap = h) (hq : Q (some (.int z')) h locs) : own_Fin p e below s Q cl sl T (mkF m pc Ls (.int z :: rest)) := by
  subst hn hT
  obtain ⟨fs, hr, hrun, hended, hW, hsame⟩ := X.leave (v := some (.int (nar .boolean z))) (fun h => by rw [hret] at h; cases h)
  exact ⟨_, _, retN X hx hret (by simp) hd hr, hrun, hended, _, _, rfl, hq, ⟨_, rfl⟩, hW, hsame.mono hc hs⟩
theorem own_retI (X : Stand p l e R s m args below meth c T locs cells slots) (hx : p.tables.exec = Jvm.exec) (hlocks : meth.locks = false) (hret : meth.sig.returnType = some .int) {pc : Nat} {Ls : Array Slot} {z : Int32} {rest : List Value} (hd : decode c.code pc = .ok (.ireturn, 1))
    (hc : cells ≤ cl) (hs : slots ≤ sl) (hT : T.heap = h) (hq : Q (some (.int z)) h locs) : own_Fin p e below s Q cl sl T (mkF m pc Ls (.int z :: rest)) := by
  subst hT
  obtain ⟨fs, hr, hrun, hended, hW, hsame⟩ := X.leave (v := some (.int z)) (fun h => by rw [hret] at h; cases h)
  refine ⟨_, _, ?_, hrun, hended, _, _, rfl, hq, ⟨_, rfl⟩, hW, hsame.mono hc hs⟩
  have hm' : T.vm.method? m = some meth := X.method'
  have hn : narrow .int (.int z) = .int z := rfl
  show Steps p.tables e below (T.setTop { method := m, pc := pc, locals := Ls, stack := _ :: rest, locked := none }) _
  jvm_step X.here [X.here.top, hx, hd, hm', hret, hn]
  first | (intro acts; rw [hr _ acts rfl rfl rfl]) | rw [hr _ _ rfl rfl rfl]
  exact Steps.refl _
theorem own_retJ (X : Stand p l e R s m args below meth c T locs cells slots) (hx : p.tables.exec = Jvm.exec) (hlocks : meth.locks = false) (hret : meth.sig.returnType = some .long) {pc : Nat} {Ls : Array Slot} {z : Int64} (hd : decode c.code pc = .ok (.lreturn, 1))
    (hc : cells ≤ cl) (hs : slots ≤ sl) (hT : T.heap = h) (hq : Q (some (.long z)) h locs) : own_Fin p e below s Q cl sl T (mkF m pc Ls [.long z]) := by
  subst hT
  obtain ⟨fs, hr, hrun, hended, hW, hsame⟩ := X.leave (v := some (.long z)) (fun h => by rw [hret] at h; cases h)
  exact ⟨_, _, X.lreturnOut hx hret hd hr, hrun, hended, _, _, rfl, hq, ⟨_, rfl⟩, hW, hsame.mono hc hs⟩
theorem own_retV (X : Stand p l e R s m args below meth c T locs cells slots) (hx : p.tables.exec = Jvm.exec) (hlocks : meth.locks = false) (hret : meth.sig.returnType = none) {pc : Nat} {Ls : Array Slot} (hd : decode c.code pc = .ok (.return_, 1))
    (hc : cells ≤ cl) (hs : slots ≤ sl) (hT : T.heap = h) (hq : Q none h locs) : own_Fin p e below s Q cl sl T (mkF m pc Ls []) := by
  subst hT
  obtain ⟨fs, hr, hrun, hended, hW, hsame⟩ := X.leave (v := none) (fun _ => rfl)
  exact ⟨_, _, X.returnOut hx hret hd hr, hrun, hended, _, _, rfl, hq, ⟨_, rfl⟩, hW, hsame.mono hc hs⟩
theorem own_retR (X : Stand p l e R s m args below meth c T locs cells slots) (hx : p.tables.exec = Jvm.exec) (hlocks : meth.locks = false) {t : FieldType} (hret : meth.sig.returnType = some t) (ht : t.isReference = true) {pc : Nat} {Ls : Array Slot} {z : Value} (hz : z.isRef = true) (hd : decode c.code pc = .ok (.areturn, 1))
    (hc : cells ≤ cl) (hs : slots ≤ sl) (hT : T.heap = h) (hq : Q (some z) h locs) : own_Fin p e below s Q cl sl T (mkF m pc Ls [z]) := by
  subst hT
  obtain ⟨fs, hr, hrun, hended, hW, hsame⟩ := X.leave (v := some z) (fun h => by rw [hret] at h; cases h)
  refine ⟨_, _, ?_, hrun, hended, _, _, rfl, hq, ⟨_, rfl⟩, hW, hsame.mono hc hs⟩
  have hm' : T.vm.method? m = some meth := X.method'
  jvm_step X.here [X.here.top, hx, hd, hm', hret, ht, hz]
  first | (intro acts; rw [hr _ acts rfl rfl rfl]) | rw [hr _ _ rfl rfl rfl]
  exact Steps.refl _
/-! comparisons, said over Int -/
theorem own_cl {x y : Int32} {a b : Int} (ha : x.toInt = a) (hb : y.toInt = b) (h : a < b) : if_icmp.holds .lt x y = true ∧ if_icmp.holds .ge x y = false ∧ if_icmp.holds .gt y x = true ∧ if_icmp.holds .le y x = false := tlt (by rw [Int32.lt_iff_toInt_lt, ha, hb]; exact h)
theorem own_cn {x y : Int32} {a b : Int} (ha : x.toInt = a) (hb : y.toInt = b) (h : ¬ a < b) : if_icmp.holds .lt x y = false ∧ if_icmp.holds .ge x y = true ∧ if_icmp.holds .gt y x = false ∧ if_icmp.holds .le y x = true := flt (by rw [Int32.lt_iff_toInt_lt, ha, hb]; exact h)
theorem own_ce {x y : Int32} {a b : Int} (ha : x.toInt = a) (hb : y.toInt = b) (h : a = b) : if_icmp.holds .eq x y = true ∧ if_icmp.holds .ne x y = false := teq (by rw [← Int32.toInt_inj, ha, hb]; exact h)
theorem own_cu {x y : Int32} {a b : Int} (ha : x.toInt = a) (hb : y.toInt = b) (h : ¬ a = b) : if_icmp.holds .eq x y = false ∧ if_icmp.holds .ne x y = true := feq (by rw [← Int32.toInt_inj, ha, hb]; exact h)
theorem own_ll {x y : Int64} {a b : Int} (ha : x.toInt = a) (hb : y.toInt = b) (h : a < b) : ifCond.holds .lt (lcmpW x y) = true ∧ ifCond.holds .ge (lcmpW x y) = false ∧ ifCond.holds .gt (lcmpW y x) = true ∧ ifCond.holds .le (lcmpW y x) = false := by
  have q : x < y := by rw [Int64.lt_iff_toInt_lt, ha, hb]; exact h
  have h1 := tlt ((lw_lt x y).mpr q)
  have h2 := tlt ((lw_gt y x).mpr q)
  exact ⟨(if0 _ _).trans h1.1, (if0 _ _).trans h1.2.1, (if0 _ _).trans h2.2.2.1, (if0 _ _).trans h2.2.2.2⟩
theorem own_ln {x y : Int64} {a b : Int} (ha : x.toInt = a) (hb : y.toInt = b) (h : ¬ a < b) : ifCond.holds .lt (lcmpW x y) = false ∧ ifCond.holds .ge (lcmpW x y) = true ∧ ifCond.holds .gt (lcmpW y x) = false ∧ ifCond.holds .le (lcmpW y x) = true := by
  have q : ¬ x < y := by rw [Int64.lt_iff_toInt_lt, ha, hb]; exact h
  have h1 := flt (fun r => q ((lw_lt x y).mp r))
  have h2 := flt (fun r => q ((lw_gt y x).mp r))
  exact ⟨(if0 _ _).trans h1.1, (if0 _ _).trans h1.2.1, (if0 _ _).trans h2.2.2.1, (if0 _ _).trans h2.2.2.2⟩
theorem own_le {x y : Int64} {a b : Int} (ha : x.toInt = a) (hb : y.toInt = b) (h : a = b) : ifCond.holds .eq (lcmpW x y) = true ∧ ifCond.holds .ne (lcmpW x y) = false := by
  have q : x = y := by rw [← Int64.toInt_inj, ha, hb]; exact h
  have h1 := teq ((lw_eq x y).mpr q)
  exact ⟨(if0 _ _).trans h1.1, (if0 _ _).trans h1.2⟩
theorem own_lu {x y : Int64} {a b : Int} (ha : x.toInt = a) (hb : y.toInt = b) (h : ¬ a = b) : ifCond.holds .eq (lcmpW x y) = false ∧ ifCond.holds .ne (lcmpW x y) = true := by
  have q : ¬ x = y := by rw [← Int64.toInt_inj, ha, hb]; exact h
  have h1 := feq (fun r => q ((lw_eq x y).mp r))
  exact ⟨(if0 _ _).trans h1.1, (if0 _ _).trans h1.2⟩
/-! a boolean as an int -/
abbrev own_B (r : Int32) (P : Prop) : Prop := (r.toInt = 1 ∧ P) ∨ (r.toInt = 0 ∧ ¬ P)
theorem own_B1 {P : Prop} (h : P) : own_B 1 P := Or.inl ⟨rfl, h⟩
theorem own_B0 {P : Prop} (h : ¬ P) : own_B 0 P := Or.inr ⟨rfl, h⟩
theorem own_B.lit {r : Int32} {P : Prop} (H : own_B r P) : (r = 1 ∧ P) ∨ (r = 0 ∧ ¬ P) := by
  rcases H with ⟨q, h⟩ | ⟨q, h⟩
  · exact Or.inl ⟨Int32.toInt_inj.mp q, h⟩
  · exact Or.inr ⟨Int32.toInt_inj.mp q, h⟩
/-! arrays: their length and what each place holds -/
def own_A (Z : State) (h : Heap) (a : Addr) (ty : FieldType) (n : Nat) (f : Nat → Value) : Prop := ∃ c : Cell, Arr Z h a c ty ∧ c.slots.size = n ∧ ∀ i, i < n → c.slots[i]? = some (f i)
def own_AI (Z : State) (h : Heap) (a : Addr) (ty : FieldType) (n : Nat) (f : Nat → Int32) : Prop := own_A Z h a ty n (fun i => .int (f i))
def own_AJ (Z : State) (h : Heap) (a : Addr) (n : Nat) (f : Nat → Int64) : Prop := own_A Z h a .long n (fun i => .long (f i))
variable {ty : FieldType} {n : Nat} {fv : Nat → Value} {fi : Nat → Int32} {fj : Nat → Int64}
theorem own_A.lt (F : own_A Z h a ty n fv) : a < h.size := by obtain ⟨c, A, -⟩ := F; exact A.lt
theorem own_A.ext (F : own_A Z h a ty n fv) (E : Ext h h') : own_A Z h' a ty n fv := by obtain ⟨c, A, r⟩ := F; exact ⟨c, A.ext E, r⟩
theorem own_A.other {sl : Nat} {v : Value} (F : own_A Z h a ty n fv) (W : Wr h h' b sl v) (q : a ≠ b) : own_A Z h' a ty n fv := by obtain ⟨c, A, r⟩ := F; exact ⟨c, A.other W q, r⟩
theorem own_A.keep {ws : List Addr} (F : own_A Z h a ty n fv) (K : Keep h h' ws) (q : a ∉ ws) : own_A Z h' a ty n fv := by obtain ⟨c, A, r⟩ := F; exact ⟨c, ⟨K.2.1 a c A.1 q, A.2⟩, r⟩
theorem own_A.congr {gv : Nat → Value} (F : own_A Z h a ty n fv) (q : ∀ i, i < n → fv i = gv i) : own_A Z h a ty n gv := by obtain ⟨c, A, r, t⟩ := F; exact ⟨c, A, r, fun i hi => by rw [t i hi, q i hi]⟩
theorem own_A.set {j : Nat} {v : Value} (F : own_A Z h a ty n fv) (W : Wr h h' a j v) : own_A Z h' a ty n (fun i => if i = j then v else fv i) := by
  obtain ⟨c, A, r, t⟩ := F
  have W0 := W
  obtain ⟨c2, h1, -, h3, -⟩ := W0
  have ec : c2 = c := Option.some.inj (h1.symm.trans A.1)
  subst ec
  refine ⟨_, A.same W, by rw [sz_set]; exact r, fun i hi => ?_⟩
  by_cases q : i = j
  · subst q; simp [Cell.setSlot, h3]
  · simp only [q, if_false]; rw [← t i hi]; simp only [Cell.setSlot]; exact Array.getElem?_setIfInBounds_ne fun z => q z.symm
theorem own_A.new {k : ClassId} {z : Int32} (A : Arr Z h a (newA k ty z) ty) (q : z.toNatClampNeg = n) : own_A Z h a ty n (fun _ => defaultValue ty) := by
  subst q
  exact ⟨_, A, sz_new _ _ _, fun i hi => by simp [newA, hi]⟩
theorem own_AI.lt (F : own_AI Z h a ty n fi) : a < h.size := own_A.lt F
theorem own_AI.ext (F : own_AI Z h a ty n fi) (E : Ext h h') : own_AI Z h' a ty n fi := own_A.ext F E
theorem own_AI.other {sl : Nat} {v : Value} (F : own_AI Z h a ty n fi) (W : Wr h h' b sl v) (q : a ≠ b) : own_AI Z h' a ty n fi := own_A.other F W q
theorem own_AI.keep {ws : List Addr} (F : own_AI Z h a ty n fi) (K : Keep h h' ws) (q : a ∉ ws) : own_AI Z h' a ty n fi := own_A.keep F K q
theorem own_AI.congr {gi : Nat → Int32} (F : own_AI Z h a ty n fi) (q : ∀ i, i < n → fi i = gi i) : own_AI Z h a ty n gi := own_A.congr F fun i hi => by rw [q i hi]
theorem own_AI.set {j : Nat} {x : Int32} (F : own_AI Z h a ty n fi) (W : Wr h h' a j (.int x)) : own_AI Z h' a ty n (fun i => if i = j then x else fi i) := (own_A.set F W).congr fun i _ => by by_cases q : i = j <;> simp [q]
theorem own_AI.newI {k : ClassId} {z : Int32} (A : Arr Z h a (newA k .int z) .int) (q : z.toNatClampNeg = n) : own_AI Z h a .int n (fun _ => 0) := own_A.new A q
theorem own_AI.newB {k : ClassId} {z : Int32} (A : Arr Z h a (newA k .byte z) .byte) (q : z.toNatClampNeg = n) : own_AI Z h a .byte n (fun _ => 0) := own_A.new A q
theorem own_AJ.lt (F : own_AJ Z h a n fj) : a < h.size := own_A.lt F
theorem own_AJ.ext (F : own_AJ Z h a n fj) (E : Ext h h') : own_AJ Z h' a n fj := own_A.ext F E
theorem own_AJ.other {sl : Nat} {v : Value} (F : own_AJ Z h a n fj) (W : Wr h h' b sl v) (q : a ≠ b) : own_AJ Z h' a n fj := own_A.other F W q
theorem own_AJ.keep {ws : List Addr} (F : own_AJ Z h a n fj) (K : Keep h h' ws) (q : a ∉ ws) : own_AJ Z h' a n fj := own_A.keep F K q
theorem own_AJ.congr {gj : Nat → Int64} (F : own_AJ Z h a n fj) (q : ∀ i, i < n → fj i = gj i) : own_AJ Z h a n gj := own_A.congr F fun i hi => by rw [q i hi]
theorem own_AJ.set {j : Nat} {x : Int64} (F : own_AJ Z h a n fj) (W : Wr h h' a j (.long x)) : own_AJ Z h' a n (fun i => if i = j then x else fj i) := (own_A.set F W).congr fun i _ => by by_cases q : i = j <;> simp [q]
theorem own_AJ.new {k : ClassId} {z : Int32} (A : Arr Z h a (newA k .long z) .long) (q : z.toNatClampNeg = n) : own_AJ Z h a n (fun _ => 0) := own_A.new A q
theorem own_in {j : Int32} {k n : Nat} (hj : j.toInt = (k : Int)) (hk : k < n) : j.toNatClampNeg = k ∧ ¬ (j < 0 ∨ n ≤ j.toNatClampNeg) := by
  have q : j.toNatClampNeg = k := by simp only [Int32.toNatClampNeg, hj]; omega
  refine ⟨q, fun z => ?_⟩
  rcases z with z | z
  · rw [Int32.lt_iff_toInt_lt, hj] at z
    have : (0 : Int32).toInt = 0 := rfl
    omega
  · omega
theorem own_iaload (X : Stand p l e R s m args below meth c T locs cells slots) (hx : p.tables.exec = Jvm.exec) (hZ : Z.Warmed39 s.vm) (eT : T.heap = h) (F : own_AI Z h a .int n fi) {j : Int32} {k : Nat} (hj : j.toInt = (k : Int)) (hk : k < n) {v : Int32} (hv : fi k = v) {pc pc' : Nat} {Ls : Array Slot} {rest : List Value}
    (hd : decode c.code pc = .ok (.iaload, 1)) (hp : pc + 1 = pc') (r : own_Fin p e below s Q cl sl T (mkF m pc' Ls (.int v :: rest))) : own_Fin p e below s Q cl sl T (mkF m pc Ls (.int j :: .ref a :: rest)) := by
  obtain ⟨cc, A, h1, h2⟩ := F
  obtain ⟨q1, q2⟩ := own_in hj hk
  subst hp hv
  exact own_step (fun t k' => X.iaload hx (j := j) (v := .int (fi k)) (by rw [eT]; exact A.1) (State.isArrayOf_alike hZ.alike A.2.1) A.2.2 (by rw [h1]; exact q2) (by rw [q1]; exact h2 k hk) (g := mkF m pc Ls (.int j :: .ref a :: rest)) rfl rfl hd _ k') r
theorem own_baload (X : Stand p l e R s m args below meth c T locs cells slots) (hx : p.tables.exec = Jvm.exec) (hZ : Z.Warmed39 s.vm) (eT : T.heap = h) (F : own_AI Z h a .byte n fi) {j : Int32} {k : Nat} (hj : j.toInt = (k : Int)) (hk : k < n) {v : Int32} (hv : fi k = v) {pc pc' : Nat} {Ls : Array Slot} {rest : List Value}
    (hd : decode c.code pc = .ok (.baload, 1)) (hp : pc + 1 = pc') (r : own_Fin p e below s Q cl sl T (mkF m pc' Ls (.int v :: rest))) : own_Fin p e below s Q cl sl T (mkF m pc Ls (.int j :: .ref a :: rest)) := by
  obtain ⟨cc, A, h1, h2⟩ := F
  obtain ⟨q1, q2⟩ := own_in hj hk
  subst hp hv
  exact own_step (fun t k' => X.baloadBytes hx (j := j) (v := .int (fi k)) (by rw [eT]; exact A.1) (State.isArrayOf_alike hZ.alike A.2.1) A.2.2 (by rw [h1]; exact q2) (by rw [q1]; exact h2 k hk) (g := mkF m pc Ls (.int j :: .ref a :: rest)) rfl rfl hd _ k') r
theorem own_laload (X : Stand p l e R s m args below meth c T locs cells slots) (hx : p.tables.exec = Jvm.exec) (hZ : Z.Warmed39 s.vm) (eT : T.heap = h) (F : own_AJ Z h a n fj) {j : Int32} {k : Nat} (hj : j.toInt = (k : Int)) (hk : k < n) {v : Int64} (hv : fj k = v) {pc pc' : Nat} {Ls : Array Slot} {rest : List Value}
    (hd : decode c.code pc = .ok (.laload, 1)) (hp : pc + 1 = pc') (r : own_Fin p e below s Q cl sl T (mkF m pc' Ls (.long v :: rest))) : own_Fin p e below s Q cl sl T (mkF m pc Ls (.int j :: .ref a :: rest)) := by
  obtain ⟨cc, A, h1, h2⟩ := F
  obtain ⟨q1, q2⟩ := own_in hj hk
  subst hp hv
  exact own_step (fun t k' => X.laload hx (j := j) (v := .long (fj k)) (by rw [eT]; exact A.1) (State.isArrayOf_alike hZ.alike A.2.1) A.2.2 (by rw [h1]; exact q2) (by rw [q1]; exact h2 k hk) (g := mkF m pc Ls (.int j :: .ref a :: rest)) rfl rfl hd _ k') r
theorem own_arrlen (X : Stand p l e R s m args below meth c T locs cells slots) (hx : p.tables.exec = Jvm.exec) (hZ : Z.Warmed39 s.vm) (eT : T.heap = h) (F : own_A Z h a ty n fv) {z : Int32} (hz : n.toInt32 = z) {pc pc' : Nat} {Ls : Array Slot} {rest : List Value}
    (hd : decode c.code pc = .ok (.arraylength, 1)) (hp : pc + 1 = pc') (r : own_Fin p e below s Q cl sl T (mkF m pc' Ls (.int z :: rest))) : own_Fin p e below s Q cl sl T (mkF m pc Ls (.ref a :: rest)) := by
  obtain ⟨cc, A, h1, h2⟩ := F
  subst hp hz
  exact own_step (fun t k' => X.arraylength hx (by rw [eT]; exact A.1) (State.isArrayOf_alike hZ.alike A.2.1) (g := mkF m pc Ls (.ref a :: rest)) rfl rfl hd _ (by rw [h1]; exact k')) r
theorem own_iastore (X : Stand p l e R s m args below meth c T locs cells slots) (hx : p.tables.exec = Jvm.exec) (hZ : Z.Warmed39 s.vm) (eT : T.heap = h) (F : own_AI Z h a .int n fi) {j : Int32} {k : Nat} (hj : j.toInt = (k : Int)) (hk : k < n) {x : Int32} {pc pc' : Nat} {Ls : Array Slot} {rest : List Value}
    (hd : decode c.code pc = .ok (.iastore, 1)) (hp : pc + 1 = pc') :
    ∃ T' h', Stand p l e R s m args below meth c T' (locs ++ [⟨a, k⟩]) cells slots ∧ T'.heap = h' ∧ Wr h h' a k (.int x) ∧ own_AI Z h' a .int n (fun i => if i = k then x else fi i) ∧ ∀ t, Steps p.tables e below (T'.setTop (mkF m pc' Ls rest)) t → Steps p.tables e below (T.setTop (mkF m pc Ls (.int x :: .int j :: .ref a :: rest))) t := by
  obtain ⟨q1, q2⟩ := own_in hj hk
  have F' := F
  obtain ⟨cc, A, h1, h2⟩ := F
  subst hp q1
  obtain ⟨T', h', X', e', W', st⟩ := stI X hx hZ eT A (j := j) (x := x) (by rw [h1]; exact q2) (g := mkF m pc Ls (.int x :: .int j :: .ref a :: rest)) rfl rfl hd
  exact ⟨T', h', X', e', W', F'.set W', st⟩
theorem own_bastore (X : Stand p l e R s m args below meth c T locs cells slots) (hx : p.tables.exec = Jvm.exec) (hZ : Z.Warmed39 s.vm) (eT : T.heap = h) (F : own_AI Z h a .byte n fi) {j : Int32} {k : Nat} (hj : j.toInt = (k : Int)) (hk : k < n) {x y : Int32} (hn : nar .byte x = y) {pc pc' : Nat} {Ls : Array Slot} {rest : List Value}
    (hd : decode c.code pc = .ok (.bastore, 1)) (hp : pc + 1 = pc') :
    ∃ T' h', Stand p l e R s m args below meth c T' (locs ++ [⟨a, k⟩]) cells slots ∧ T'.heap = h' ∧ Wr h h' a k (.int y) ∧ own_AI Z h' a .byte n (fun i => if i = k then y else fi i) ∧ ∀ t, Steps p.tables e below (T'.setTop (mkF m pc' Ls rest)) t → Steps p.tables e below (T.setTop (mkF m pc Ls (.int x :: .int j :: .ref a :: rest))) t := by
  obtain ⟨q1, q2⟩ := own_in hj hk
  have F' := F
  obtain ⟨cc, A, h1, h2⟩ := F
  subst hp q1 hn
  obtain ⟨T', h', X', e', W', st⟩ := stB X hx hZ eT A (j := j) (x := x) (by rw [h1]; exact q2) (g := mkF m pc Ls (.int x :: .int j :: .ref a :: rest)) rfl rfl hd
  exact ⟨T', h', X', e', W', F'.set W', st⟩
theorem own_lastore (X : Stand p l e R s m args below meth c T locs cells slots) (hx : p.tables.exec = Jvm.exec) (hZ : Z.Warmed39 s.vm) (eT : T.heap = h) (F : own_AJ Z h a n fj) {j : Int32} {k : Nat} (hj : j.toInt = (k : Int)) (hk : k < n) {x : Int64} {pc pc' : Nat} {Ls : Array Slot} {rest : List Value}
    (hd : decode c.code pc = .ok (.lastore, 1)) (hp : pc + 1 = pc') :
    ∃ T' h', Stand p l e R s m args below meth c T' (locs ++ [⟨a, k⟩]) cells slots ∧ T'.heap = h' ∧ Wr h h' a k (.long x) ∧ own_AJ Z h' a n (fun i => if i = k then x else fj i) ∧ ∀ t, Steps p.tables e below (T'.setTop (mkF m pc' Ls rest)) t → Steps p.tables e below (T.setTop (mkF m pc Ls (.long x :: .int j :: .ref a :: rest))) t := by
  obtain ⟨q1, q2⟩ := own_in hj hk
  have F' := F
  obtain ⟨cc, A, h1, h2⟩ := F
  subst hp q1
  obtain ⟨T', h', X', e', W', st⟩ := stJ X hx hZ eT A (j := j) (x := x) (by rw [h1]; exact q2) (g := mkF m pc Ls (.long x :: .int j :: .ref a :: rest)) rfl rfl hd
  exact ⟨T', h', X', e', W', F'.set W', st⟩
theorem own_nar8 (x : Int32) : nar .byte x.toInt8.toInt32 = x.toInt8.toInt32 := by
  show (x.toInt8.toInt32).toInt8.toInt32 = x.toInt8.toInt32
  simp
end OwnKit
def own_up (f : Nat → Int64) (k : Nat) (v : Int64) (i : Nat) : Int64 := if i = k then v else f i
theorem own_up_s (f : Nat → Int64) (k : Nat) (v : Int64) : own_up f k v k = v := by simp [own_up]
theorem own_up_o (f : Nat → Int64) (k : Nat) (v : Int64) (i : Nat) (h : i ≠ k) : own_up f k v i = f i := by simp [own_up, h]
theorem d1_0 : decode prog_36_method_1_code 0 = .ok (.aload_n 0, 1) := by decide +kernel
theorem d1_1 : decode prog_36_method_1_code 1 = .ok (.invokespecial 1, 3) := by decide +kernel
theorem d1_4 : decode prog_36_method_1_code 4 = .ok (.aload_n 0, 1) := by decide +kernel
theorem d1_5 : decode prog_36_method_1_code 5 = .ok (.sipush 1024, 3) := by decide +kernel
theorem d1_8 : decode prog_36_method_1_code 8 = .ok (.newarray .long, 2) := by decide +kernel
theorem d1_10 : decode prog_36_method_1_code 10 = .ok (.putfield 7, 3) := by decide +kernel
theorem d1_13 : decode prog_36_method_1_code 13 = .ok (.return_, 1) := by decide +kernel
theorem own_pn_1 : plainName "com/example/limfjord/limfjord/engine/LongQueue" = true := by first | (simp [plainName, overriddenIn]; done) | decide +kernel
theorem own_ef_1 (m : MethodId) (a1 : Addr) : entryFrame m #[(.ref a1)] 1 = mkF m 0 #[.val (.ref a1)] [] := by first | (simp [entryFrame, mkF, argsToLocals, Value.category]; done) | rfl
abbrev own_R1 : Room := { frames := 1, cells := 1, slots := 1024, locals := 12 }
def own_Q1 (Z : State) (a1 : Addr) (h0 : Heap) (n0 : Nat) (v : Option Value) (h : Heap) (L : List Loc) : Prop := v = none ∧ Fr n0 L ∧ Keep h0 h [a1] ∧ ∃ b : Addr, n0 ≤ b ∧ a1 ≠ b ∧ h0.size ≤ b ∧ Exa Z h a1 "com/example/limfjord/limfjord/engine/LongQueue" ∧ Fld Z h a1 "com/example/limfjord/limfjord/engine/LongQueue" "entries" "[J" (.ref b) ∧ Fld Z h a1 "com/example/limfjord/limfjord/engine/LongQueue" "head" "I" (.int (0 : Int32)) ∧ Fld Z h a1 "com/example/limfjord/limfjord/engine/LongQueue" "tail" "I" (.int (0 : Int32)) ∧ own_AJ Z h b 1024 (fun _ => 0)
set_option maxRecDepth 65536 in
set_option maxHeartbeats 40000000 in
theorem rm1 (l : Launch) (Z : State) (a0 : Array Value) (hw : ∀ d ∈ tables_1, d.before a0 Z = true) (ws : List Jvm.Cond) (a1 : Addr) (h0 : Heap) (n0 : Nat) (Z0 : n0 ≤ h0.size) (E_a1 : Exa Z h0 a1 "com/example/limfjord/limfjord/engine/LongQueue") (F_entries_a1 : Fld Z h0 a1 "com/example/limfjord/limfjord/engine/LongQueue" "entries" "[J" .null) (F_head_a1 : Fld Z h0 a1 "com/example/limfjord/limfjord/engine/LongQueue" "head" "I" (.int (0 : Int32))) (F_tail_a1 : Fld Z h0 a1 "com/example/limfjord/limfjord/engine/LongQueue" "tail" "I" (.int (0 : Int32))) (g_a1 : n0 ≤ a1) :
    MetFree l (⟨"com/example/limfjord/limfjord/engine/LongQueue", "<init>", "()V"⟩ : MethodName) (head1 (Jvm.Cond.code (⟨"com/example/limfjord/limfjord/engine/LongQueue", "<init>", "()V"⟩ : MethodName) prog_36_method_1_code 1 none :: ws) own_R1) (fun a U => a = #[(.ref a1)] ∧ Z.Warmed39 U.vm ∧ U.heap = h0) (fun _ _ _ _ _ => True) (fun _ U o U' => ∃ v L, o = .returned v ∧ own_Q1 Z a1 h0 n0 v U'.heap L ∧ FrameEnd U o U' L own_R1.cells own_R1.slots) := by
  refine MetFree.of_bodySF (plainFor_of_name own_pn_1) hisR ?_
  intro p e s m args below meth c s₁ Bd hml0 hP hK
  obtain ⟨rfl, hZ, hh⟩ := hP
  have hx := Bd.exec
  have hby := Bd.bytes
  have hlk := BodyLoose.notSynchronized Bd
  have hml : c.maxLocals = 1 := hml0
  have hown : s.vm.findClass "com/example/limfjord/limfjord/engine/LongQueue" = some m.cls := (findClass_of_methodNamed Bd.named : s.vm.findClass (⟨"com/example/limfjord/limfjord/engine/LongQueue", "<init>", "()V"⟩ : MethodName).cls = some m.cls)
  have hnm := (name_of_methodNamed Bd.named Bd.method).1
  have X0 : Stand p l e own_R1 s m #[(.ref a1)] below meth c s₁ [] 0 0 := Stand.of_body Bd
  have e0 : s₁.heap = h0 := by rw [← hh, Bd.state]; rfl
  have Nf := Fr.nil n0
  have Zs := Z0
  have K : Keep h0 h0 [a1] := Keep.refl _ _
  show own_Fin p e below s (own_Q1 Z a1 h0 n0) 1 1024 s₁ (entryFrame m #[(.ref a1)] 1)
  rw [own_ef_1 m a1]
  show own_Fin _ _ _ _ _ _ _ _ (mkF m 0 #[.val (.ref a1)] [])
  refine own_step (fun t k => XS.aloadN X0.here hx rfl (hb hby d1_0) rfl rfl k) ?_
  show own_Fin _ _ _ _ _ _ _ _ (mkF m 1 #[.val (.ref a1)] [(.ref a1)])
  obtain ⟨T1, X1, e1, st1⟩ := initO X0 hx hZ hown (hw _ (List.mem_of_getElem? (i := 6) rfl)) (hw _ (List.mem_of_getElem? (i := 7) rfl)) (hw _ (List.mem_of_getElem? (i := 8) rfl)) e0 (g := (mkF m 1 #[.val (.ref a1)] [(.ref a1)])) rfl (by rw [hml]; rfl) rfl (hb hby d1_1) (by decide) (W := 0) (by show 2 * 0 + _ ≤ _; exact Nat.le_of_eq rfl) (by decide)
  refine own_step st1 ?_
  show own_Fin _ _ _ _ _ _ _ _ (mkF m 4 #[.val (.ref a1)] [])
  refine own_step (fun t k => XS.aloadN X1.here hx rfl (hb hby d1_4) rfl rfl k) ?_
  show own_Fin _ _ _ _ _ _ _ _ (mkF m 5 #[.val (.ref a1)] [(.ref a1)])
  refine own_step (fun t k => XS.sipush X1.here hx rfl (hb hby d1_5) k) ?_
  show own_Fin _ _ _ _ _ _ _ _ (mkF m 8 #[.val (.ref a1)] [(.int (1024 : Int32)), (.ref a1)])
  obtain ⟨T2, h2, k2, X2, e2, E2, A2, st2⟩ := newP X1 hx hZ (hw _ (List.mem_of_getElem? (i := 9) rfl)) e1 (g := (mkF m 8 #[.val (.ref a1)] [(.int (1024 : Int32)), (.ref a1)])) rfl (hb hby d1_8) rfl (by decide) (cap := 1024) (by decide) (by decide) (by decide) (by decide)
  obtain ⟨b2, g2⟩ : ∃ z, z = h0.size := ⟨_, rfl⟩
  rw [← g2] at A2 st2
  refine own_step st2 ?_
  have ne_a1_b2 : a1 ≠ b2 := Nat.ne_of_lt (Nat.lt_of_lt_of_le E_a1.lt (Nat.le_of_eq g2.symm))
  have g_b2 : n0 ≤ b2 := Nat.le_trans Zs (Nat.le_of_eq g2.symm)
  have sz_b2 : h0.size ≤ b2 := Nat.le_trans K.1 (Nat.le_of_eq g2.symm)
  replace E_a1 := E_a1.ext E2
  replace F_entries_a1 := F_entries_a1.ext E2
  replace F_head_a1 := F_head_a1.ext E2
  replace F_tail_a1 := F_tail_a1.ext E2
  replace Zs := Nat.le_trans Zs E2.1
  replace K := K.ext E2
  have V_b2 := own_AJ.new (n := 1024) A2 (by decide)
  show own_Fin _ _ _ _ _ _ _ _ (mkF m 10 #[.val (.ref a1)] [(.ref b2), (.ref a1)])
  obtain ⟨T3, h3, X3, e3, W3, st3⟩ := putF X2 hx hZ hown (host := "") (Or.inl (hw _ (List.mem_of_getElem? (i := 10) rfl))) Via.refl e2 F_entries_a1 E_a1 (Or.inl (hw _ (List.mem_of_getElem? (i := 11) rfl))) (hw _ (List.mem_of_getElem? (i := 1) rfl)) (ty := (.array .long)) (by decide) rfl rfl (g := (mkF m 10 #[.val (.ref a1)] [(.ref b2), (.ref a1)])) rfl rfl (hb hby d1_10)
  refine own_step st3 ?_
  replace E_a1 := E_a1.wr W3
  replace F_entries_a1 := F_entries_a1.same W3
  replace F_head_a1 := F_head_a1.other W3 (Or.inr (slot_ne (Or.inl (hw _ (List.mem_of_getElem? (i := 18) rfl))) (Or.inl (hw _ (List.mem_of_getElem? (i := 11) rfl))) (by decide) (t := .int) (t' := (.array .long)) (by decide) (by decide)))
  replace F_tail_a1 := F_tail_a1.other W3 (Or.inr (slot_ne (Or.inl (hw _ (List.mem_of_getElem? (i := 20) rfl))) (Or.inl (hw _ (List.mem_of_getElem? (i := 11) rfl))) (by decide) (t := .int) (t' := (.array .long)) (by decide) (by decide)))
  replace V_b2 := V_b2.other W3 (Ne.symm ne_a1_b2)
  replace Zs : n0 ≤ h3.size := by rw [W3.size]; exact Zs
  replace K := K.wr W3 (Or.inl (by simp))
  replace Nf := Fr.snoc X3 Nf g_a1
  show own_Fin _ _ _ _ _ _ _ _ (mkF m 13 #[.val (.ref a1)] [])
  refine own_retV X3 hx hlk Bd.returns (hb hby d1_13) (by decide) (by decide) e3 ?_
  exact ⟨rfl, Nf, K, b2, g_b2, ne_a1_b2, sz_b2, E_a1, F_entries_a1, F_head_a1, F_tail_a1, V_b2⟩
theorem d2_0 : decode prog_36_method_5_code 0 = .ok (.aload_n 0, 1) := by decide +kernel
theorem d2_1 : decode prog_36_method_5_code 1 = .ok (.getfield 17, 3) := by decide +kernel
theorem d2_4 : decode prog_36_method_5_code 4 = .ok (.aload_n 0, 1) := by decide +kernel
theorem d2_5 : decode prog_36_method_5_code 5 = .ok (.getfield 7, 3) := by decide +kernel
theorem d2_8 : decode prog_36_method_5_code 8 = .ok (.arraylength, 1) := by decide +kernel
theorem d2_9 : decode prog_36_method_5_code 9 = .ok (.if_icmp .ne 73, 3) := by decide +kernel
theorem d2_82 : decode prog_36_method_5_code 82 = .ok (.aload_n 0, 1) := by decide +kernel
theorem d2_83 : decode prog_36_method_5_code 83 = .ok (.getfield 7, 3) := by decide +kernel
theorem d2_86 : decode prog_36_method_5_code 86 = .ok (.aload_n 0, 1) := by decide +kernel
theorem d2_87 : decode prog_36_method_5_code 87 = .ok (.getfield 17, 3) := by decide +kernel
theorem d2_90 : decode prog_36_method_5_code 90 = .ok (.lload_n 1, 1) := by decide +kernel
theorem d2_91 : decode prog_36_method_5_code 91 = .ok (.lastore, 1) := by decide +kernel
theorem d2_92 : decode prog_36_method_5_code 92 = .ok (.aload_n 0, 1) := by decide +kernel
theorem d2_93 : decode prog_36_method_5_code 93 = .ok (.dup, 1) := by decide +kernel
theorem d2_94 : decode prog_36_method_5_code 94 = .ok (.getfield 17, 3) := by decide +kernel
theorem d2_97 : decode prog_36_method_5_code 97 = .ok (.iconst 1, 1) := by decide +kernel
theorem d2_98 : decode prog_36_method_5_code 98 = .ok (.iadd, 1) := by decide +kernel
theorem d2_99 : decode prog_36_method_5_code 99 = .ok (.putfield 17, 3) := by decide +kernel
theorem d2_102 : decode prog_36_method_5_code 102 = .ok (.return_, 1) := by decide +kernel
theorem own_pn_2 : plainName "com/example/limfjord/limfjord/engine/LongQueue" = true := by first | (simp [plainName, overriddenIn]; done) | decide +kernel
theorem own_ef_2 (m : MethodId) (a1 : Addr) (q2 : Int64) : entryFrame m #[(.ref a1), (.long q2)] 5 = mkF m 0 #[.val (.ref a1), .val (.long q2), .second, .unset, .unset] [] := by first | (simp [entryFrame, mkF, argsToLocals, Value.category]; done) | rfl
abbrev own_R2 : Room := { frames := 0, cells := 0, slots := 0, locals := 0 }
def own_Q2 (Z : State) (a1 : Addr) (q2 : Int64) (b1 : Addr) (w_head : Int32) (w_tail : Int32) (f1 : Nat → Int64) (h0 : Heap) (n0 : Nat) (v : Option Value) (h : Heap) (L : List Loc) : Prop := v = none ∧ Fr n0 L ∧ Keep h0 h [a1, b1] ∧ Exa Z h a1 "com/example/limfjord/limfjord/engine/LongQueue" ∧ Fld Z h a1 "com/example/limfjord/limfjord/engine/LongQueue" "entries" "[J" (.ref b1) ∧ Fld Z h a1 "com/example/limfjord/limfjord/engine/LongQueue" "head" "I" (.int w_head) ∧ Fld Z h a1 "com/example/limfjord/limfjord/engine/LongQueue" "tail" "I" (.int (w_tail + (1 : Int32))) ∧ own_AJ Z h b1 1024 (own_up f1 w_tail.toInt.toNat q2)
set_option maxRecDepth 65536 in
set_option maxHeartbeats 40000000 in
theorem rm2 (l : Launch) (Z : State) (a0 : Array Value) (hw : ∀ d ∈ tables_1, d.before a0 Z = true) (ws : List Jvm.Cond) (a1 : Addr) (q2 : Int64) (b1 : Addr) (w_head : Int32) (w_tail : Int32) (f1 : Nat → Int64) (h0 : Heap) (n0 : Nat) (Z0 : n0 ≤ h0.size) (E_a1 : Exa Z h0 a1 "com/example/limfjord/limfjord/engine/LongQueue") (F_entries_a1 : Fld Z h0 a1 "com/example/limfjord/limfjord/engine/LongQueue" "entries" "[J" (.ref b1)) (F_head_a1 : Fld Z h0 a1 "com/example/limfjord/limfjord/engine/LongQueue" "head" "I" (.int w_head)) (F_tail_a1 : Fld Z h0 a1 "com/example/limfjord/limfjord/engine/LongQueue" "tail" "I" (.int w_tail)) (V_b1 : own_AJ Z h0 b1 1024 f1) (g_a1 : n0 ≤ a1) (g_b1 : n0 ≤ b1) (hne : a1 ≠ b1) (ht : 0 ≤ w_tail.toInt ∧ w_tail.toInt < 1024) :
    MetFree l (⟨"com/example/limfjord/limfjord/engine/LongQueue", "add", "(J)V"⟩ : MethodName) (head1 (Jvm.Cond.code (⟨"com/example/limfjord/limfjord/engine/LongQueue", "add", "(J)V"⟩ : MethodName) prog_36_method_5_code 5 none :: ws) own_R2) (fun a U => a = #[(.ref a1), (.long q2)] ∧ Z.Warmed39 U.vm ∧ U.heap = h0) (fun _ _ _ _ _ => True) (fun _ U o U' => ∃ v L, o = .returned v ∧ own_Q2 Z a1 q2 b1 w_head w_tail f1 h0 n0 v U'.heap L ∧ FrameEnd U o U' L own_R2.cells own_R2.slots) := by
  refine MetFree.of_bodySF (plainFor_of_name own_pn_2) hisR ?_
  intro p e s m args below meth c s₁ Bd hml0 hP hK
  obtain ⟨rfl, hZ, hh⟩ := hP
  have hx := Bd.exec
  have hby := Bd.bytes
  have hlk := BodyLoose.notSynchronized Bd
  have hml : c.maxLocals = 5 := hml0
  have hown : s.vm.findClass "com/example/limfjord/limfjord/engine/LongQueue" = some m.cls := (findClass_of_methodNamed Bd.named : s.vm.findClass (⟨"com/example/limfjord/limfjord/engine/LongQueue", "add", "(J)V"⟩ : MethodName).cls = some m.cls)
  have hnm := (name_of_methodNamed Bd.named Bd.method).1
  have X0 : Stand p l e own_R2 s m #[(.ref a1), (.long q2)] below meth c s₁ [] 0 0 := Stand.of_body Bd
  have e0 : s₁.heap = h0 := by rw [← hh, Bd.state]; rfl
  have Nf := Fr.nil n0
  have Zs := Z0
  have K : Keep h0 h0 [a1, b1] := Keep.refl _ _
  show own_Fin p e below s (own_Q2 Z a1 q2 b1 w_head w_tail f1 h0 n0) 0 0 s₁ (entryFrame m #[(.ref a1), (.long q2)] 5)
  rw [own_ef_2 m a1 q2]
  show own_Fin _ _ _ _ _ _ _ _ (mkF m 0 #[.val (.ref a1), .val (.long q2), .second, .unset, .unset] [])
  refine own_step (fun t k => XS.aloadN X0.here hx rfl (hb hby d2_0) rfl rfl k) ?_
  show own_Fin _ _ _ _ _ _ _ _ (mkF m 1 #[.val (.ref a1), .val (.long q2), .second, .unset, .unset] [(.ref a1)])
  obtain ⟨T1, X1, e1, st1⟩ := getF X0 hx hZ hown (host := "") (Or.inl (hw _ (List.mem_of_getElem? (i := 19) rfl))) Via.refl e0 F_tail_a1 (g := (mkF m 1 #[.val (.ref a1), .val (.long q2), .second, .unset, .unset] [(.ref a1)])) rfl rfl (hb hby d2_1)
  refine own_step st1 ?_
  show own_Fin _ _ _ _ _ _ _ _ (mkF m 4 #[.val (.ref a1), .val (.long q2), .second, .unset, .unset] [(.int w_tail)])
  refine own_step (fun t k => XS.aloadN X1.here hx rfl (hb hby d2_4) rfl rfl k) ?_
  show own_Fin _ _ _ _ _ _ _ _ (mkF m 5 #[.val (.ref a1), .val (.long q2), .second, .unset, .unset] [(.ref a1), (.int w_tail)])
  obtain ⟨T2, X2, e2, st2⟩ := getF X1 hx hZ hown (host := "") (Or.inl (hw _ (List.mem_of_getElem? (i := 10) rfl))) Via.refl e1 F_entries_a1 (g := (mkF m 5 #[.val (.ref a1), .val (.long q2), .second, .unset, .unset] [(.ref a1), (.int w_tail)])) rfl rfl (hb hby d2_5)
  refine own_step st2 ?_
  show own_Fin _ _ _ _ _ _ _ _ (mkF m 8 #[.val (.ref a1), .val (.long q2), .second, .unset, .unset] [(.ref b1), (.int w_tail)])
  refine own_arrlen X2 hx hZ e2 V_b1 (z := (1024 : Int32)) rfl (hb hby d2_8) rfl ?_
  show own_Fin _ _ _ _ _ _ _ _ (mkF m 9 #[.val (.ref a1), .val (.long q2), .second, .unset, .unset] [(.int (1024 : Int32)), (.int w_tail)])
  have hc3 : ¬ ((w_tail).toInt = 1024) := by omega
  refine own_step (fun t k => XS.icmpYes X2.here hx rfl (pc0 := 9) (pc' := 82) rfl (hb hby d2_9) rfl (own_cu (x := w_tail) (y := (1024 : Int32)) rfl rfl hc3).2 (by decide) (by decide) k) ?_
  show own_Fin _ _ _ _ _ _ _ _ (mkF m 82 #[.val (.ref a1), .val (.long q2), .second, .unset, .unset] [])
  refine own_step (fun t k => XS.aloadN X2.here hx rfl (hb hby d2_82) rfl rfl k) ?_
  show own_Fin _ _ _ _ _ _ _ _ (mkF m 83 #[.val (.ref a1), .val (.long q2), .second, .unset, .unset] [(.ref a1)])
  obtain ⟨T4, X4, e4, st4⟩ := getF X2 hx hZ hown (host := "") (Or.inl (hw _ (List.mem_of_getElem? (i := 10) rfl))) Via.refl e2 F_entries_a1 (g := (mkF m 83 #[.val (.ref a1), .val (.long q2), .second, .unset, .unset] [(.ref a1)])) rfl rfl (hb hby d2_83)
  refine own_step st4 ?_
  show own_Fin _ _ _ _ _ _ _ _ (mkF m 86 #[.val (.ref a1), .val (.long q2), .second, .unset, .unset] [(.ref b1)])
  refine own_step (fun t k => XS.aloadN X4.here hx rfl (hb hby d2_86) rfl rfl k) ?_
  show own_Fin _ _ _ _ _ _ _ _ (mkF m 87 #[.val (.ref a1), .val (.long q2), .second, .unset, .unset] [(.ref a1), (.ref b1)])
  obtain ⟨T5, X5, e5, st5⟩ := getF X4 hx hZ hown (host := "") (Or.inl (hw _ (List.mem_of_getElem? (i := 19) rfl))) Via.refl e4 F_tail_a1 (g := (mkF m 87 #[.val (.ref a1), .val (.long q2), .second, .unset, .unset] [(.ref a1), (.ref b1)])) rfl rfl (hb hby d2_87)
  refine own_step st5 ?_
  show own_Fin _ _ _ _ _ _ _ _ (mkF m 90 #[.val (.ref a1), .val (.long q2), .second, .unset, .unset] [(.int w_tail), (.ref b1)])
  refine own_step (fun t k => XS.lloadN X5.here hx rfl (hb hby d2_90) rfl k) ?_
  show own_Fin _ _ _ _ _ _ _ _ (mkF m 91 #[.val (.ref a1), .val (.long q2), .second, .unset, .unset] [(.long q2), (.int w_tail), (.ref b1)])
  obtain ⟨T6, h6, X6, e6, W6, B6, st6⟩ := own_lastore X5 hx hZ e5 V_b1 (j := w_tail) (k := w_tail.toInt.toNat) (by omega) (by omega) (x := q2) (pc := 91) (Ls := #[.val (.ref a1), .val (.long q2), .second, .unset, .unset]) (rest := []) (hb hby d2_91) rfl
  refine own_step st6 ?_
  replace E_a1 := E_a1.wr W6
  replace F_entries_a1 := F_entries_a1.other W6 (Or.inl hne)
  replace F_head_a1 := F_head_a1.other W6 (Or.inl hne)
  replace F_tail_a1 := F_tail_a1.other W6 (Or.inl hne)
  replace Zs : n0 ≤ h6.size := by rw [W6.size]; exact Zs
  replace K := K.wr W6 (Or.inl (by simp))
  replace V_b1 := B6
  replace Nf := Fr.snoc X6 Nf g_b1
  show own_Fin _ _ _ _ _ _ _ _ (mkF m 92 #[.val (.ref a1), .val (.long q2), .second, .unset, .unset] [])
  refine own_step (fun t k => XS.aloadN X6.here hx rfl (hb hby d2_92) rfl rfl k) ?_
  show own_Fin _ _ _ _ _ _ _ _ (mkF m 93 #[.val (.ref a1), .val (.long q2), .second, .unset, .unset] [(.ref a1)])
  refine own_step (fun t k => XS.dup X6.here hx rfl (hb hby d2_93) rfl rfl k) ?_
  show own_Fin _ _ _ _ _ _ _ _ (mkF m 94 #[.val (.ref a1), .val (.long q2), .second, .unset, .unset] [(.ref a1), (.ref a1)])
  obtain ⟨T7, X7, e7, st7⟩ := getF X6 hx hZ hown (host := "") (Or.inl (hw _ (List.mem_of_getElem? (i := 19) rfl))) Via.refl e6 F_tail_a1 (g := (mkF m 94 #[.val (.ref a1), .val (.long q2), .second, .unset, .unset] [(.ref a1), (.ref a1)])) rfl rfl (hb hby d2_94)
  refine own_step st7 ?_
  show own_Fin _ _ _ _ _ _ _ _ (mkF m 97 #[.val (.ref a1), .val (.long q2), .second, .unset, .unset] [(.int w_tail), (.ref a1)])
  refine own_step (fun t k => XS.iconst X7.here hx rfl (hb hby d2_97) k) ?_
  show own_Fin _ _ _ _ _ _ _ _ (mkF m 98 #[.val (.ref a1), .val (.long q2), .second, .unset, .unset] [(.int (1 : Int32)), (.int w_tail), (.ref a1)])
  refine own_step (fun t k => XS.iadd X7.here hx rfl (hb hby d2_98) rfl k) ?_
  show own_Fin _ _ _ _ _ _ _ _ (mkF m 99 #[.val (.ref a1), .val (.long q2), .second, .unset, .unset] [(.int (w_tail + (1 : Int32))), (.ref a1)])
  obtain ⟨T8, h8, X8, e8, W8, st8⟩ := putF X7 hx hZ hown (host := "") (Or.inl (hw _ (List.mem_of_getElem? (i := 19) rfl))) Via.refl e7 F_tail_a1 E_a1 (Or.inl (hw _ (List.mem_of_getElem? (i := 20) rfl))) (hw _ (List.mem_of_getElem? (i := 1) rfl)) (ty := .int) (by decide) rfl rfl (g := (mkF m 99 #[.val (.ref a1), .val (.long q2), .second, .unset, .unset] [(.int (w_tail + (1 : Int32))), (.ref a1)])) rfl rfl (hb hby d2_99)
  refine own_step st8 ?_
  replace E_a1 := E_a1.wr W8
  replace F_entries_a1 := F_entries_a1.other W8 (Or.inr (slot_ne (Or.inl (hw _ (List.mem_of_getElem? (i := 11) rfl))) (Or.inl (hw _ (List.mem_of_getElem? (i := 20) rfl))) (by decide) (t := (.array .long)) (t' := .int) (by decide) (by decide)))
  replace F_head_a1 := F_head_a1.other W8 (Or.inr (slot_ne (Or.inl (hw _ (List.mem_of_getElem? (i := 18) rfl))) (Or.inl (hw _ (List.mem_of_getElem? (i := 20) rfl))) (by decide) (t := .int) (t' := .int) (by decide) (by decide)))
  replace F_tail_a1 := F_tail_a1.same W8
  replace V_b1 := V_b1.other W8 (Ne.symm hne)
  replace Zs : n0 ≤ h8.size := by rw [W8.size]; exact Zs
  replace K := K.wr W8 (Or.inl (by simp))
  replace Nf := Fr.snoc X8 Nf g_a1
  show own_Fin _ _ _ _ _ _ _ _ (mkF m 102 #[.val (.ref a1), .val (.long q2), .second, .unset, .unset] [])
  refine own_retV X8 hx hlk Bd.returns (hb hby d2_102) (by decide) (by decide) e8 ?_
  exact ⟨rfl, Nf, K, E_a1, F_entries_a1, F_head_a1, F_tail_a1, V_b1⟩
theorem d3_0 : decode prog_36_method_4_code 0 = .ok (.aload_n 0, 1) := by decide +kernel
theorem d3_1 : decode prog_36_method_4_code 1 = .ok (.getfield 7, 3) := by decide +kernel
theorem d3_4 : decode prog_36_method_4_code 4 = .ok (.aload_n 0, 1) := by decide +kernel
theorem d3_5 : decode prog_36_method_4_code 5 = .ok (.getfield 13, 3) := by decide +kernel
theorem d3_8 : decode prog_36_method_4_code 8 = .ok (.laload, 1) := by decide +kernel
theorem d3_9 : decode prog_36_method_4_code 9 = .ok (.lstore_n 1, 1) := by decide +kernel
theorem d3_10 : decode prog_36_method_4_code 10 = .ok (.aload_n 0, 1) := by decide +kernel
theorem d3_11 : decode prog_36_method_4_code 11 = .ok (.dup, 1) := by decide +kernel
theorem d3_12 : decode prog_36_method_4_code 12 = .ok (.getfield 13, 3) := by decide +kernel
theorem d3_15 : decode prog_36_method_4_code 15 = .ok (.iconst 1, 1) := by decide +kernel
theorem d3_16 : decode prog_36_method_4_code 16 = .ok (.iadd, 1) := by decide +kernel
theorem d3_17 : decode prog_36_method_4_code 17 = .ok (.putfield 13, 3) := by decide +kernel
theorem d3_20 : decode prog_36_method_4_code 20 = .ok (.lload_n 1, 1) := by decide +kernel
theorem d3_21 : decode prog_36_method_4_code 21 = .ok (.lreturn, 1) := by decide +kernel
theorem own_pn_3 : plainName "com/example/limfjord/limfjord/engine/LongQueue" = true := by first | (simp [plainName, overriddenIn]; done) | decide +kernel
theorem own_ef_3 (m : MethodId) (a1 : Addr) : entryFrame m #[(.ref a1)] 3 = mkF m 0 #[.val (.ref a1), .unset, .unset] [] := by first | (simp [entryFrame, mkF, argsToLocals, Value.category]; done) | rfl
abbrev own_R3 : Room := { frames := 0, cells := 0, slots := 0, locals := 0 }
def own_Q3 (Z : State) (a1 : Addr) (b1 : Addr) (w_head : Int32) (w_tail : Int32) (f1 : Nat → Int64) (rr : Int64) (h0 : Heap) (n0 : Nat) (v : Option Value) (h : Heap) (L : List Loc) : Prop := v = some (.long rr) ∧ Fr n0 L ∧ Keep h0 h [a1] ∧ Exa Z h a1 "com/example/limfjord/limfjord/engine/LongQueue" ∧ Fld Z h a1 "com/example/limfjord/limfjord/engine/LongQueue" "entries" "[J" (.ref b1) ∧ Fld Z h a1 "com/example/limfjord/limfjord/engine/LongQueue" "head" "I" (.int (w_head + (1 : Int32))) ∧ Fld Z h a1 "com/example/limfjord/limfjord/engine/LongQueue" "tail" "I" (.int w_tail)
set_option maxRecDepth 65536 in
set_option maxHeartbeats 40000000 in
theorem rm3 (l : Launch) (Z : State) (a0 : Array Value) (hw : ∀ d ∈ tables_1, d.before a0 Z = true) (ws : List Jvm.Cond) (a1 : Addr) (b1 : Addr) (w_head : Int32) (w_tail : Int32) (f1 : Nat → Int64) (rr : Int64) (h0 : Heap) (n0 : Nat) (Z0 : n0 ≤ h0.size) (E_a1 : Exa Z h0 a1 "com/example/limfjord/limfjord/engine/LongQueue") (F_entries_a1 : Fld Z h0 a1 "com/example/limfjord/limfjord/engine/LongQueue" "entries" "[J" (.ref b1)) (F_head_a1 : Fld Z h0 a1 "com/example/limfjord/limfjord/engine/LongQueue" "head" "I" (.int w_head)) (F_tail_a1 : Fld Z h0 a1 "com/example/limfjord/limfjord/engine/LongQueue" "tail" "I" (.int w_tail)) (V_b1 : own_AJ Z h0 b1 1024 f1) (g_a1 : n0 ≤ a1) (hne : a1 ≠ b1) (hh0 : 0 ≤ w_head.toInt ∧ w_head.toInt < 1024) (hrr : f1 w_head.toInt.toNat = rr) :
    MetFree l (⟨"com/example/limfjord/limfjord/engine/LongQueue", "poll", "()J"⟩ : MethodName) (head1 (Jvm.Cond.code (⟨"com/example/limfjord/limfjord/engine/LongQueue", "poll", "()J"⟩ : MethodName) prog_36_method_4_code 3 (some .long) :: ws) own_R3) (fun a U => a = #[(.ref a1)] ∧ Z.Warmed39 U.vm ∧ U.heap = h0) (fun _ _ _ _ _ => True) (fun _ U o U' => ∃ v L, o = .returned v ∧ own_Q3 Z a1 b1 w_head w_tail f1 rr h0 n0 v U'.heap L ∧ FrameEnd U o U' L own_R3.cells own_R3.slots) := by
  refine MetFree.of_bodySF (plainFor_of_name own_pn_3) hisR ?_
  intro p e s m args below meth c s₁ Bd hml0 hP hK
  obtain ⟨rfl, hZ, hh⟩ := hP
  have hx := Bd.exec
  have hby := Bd.bytes
  have hlk := BodyLoose.notSynchronized Bd
  have hml : c.maxLocals = 3 := hml0
  have hown : s.vm.findClass "com/example/limfjord/limfjord/engine/LongQueue" = some m.cls := (findClass_of_methodNamed Bd.named : s.vm.findClass (⟨"com/example/limfjord/limfjord/engine/LongQueue", "poll", "()J"⟩ : MethodName).cls = some m.cls)
  have hnm := (name_of_methodNamed Bd.named Bd.method).1
  have X0 : Stand p l e own_R3 s m #[(.ref a1)] below meth c s₁ [] 0 0 := Stand.of_body Bd
  have e0 : s₁.heap = h0 := by rw [← hh, Bd.state]; rfl
  have Nf := Fr.nil n0
  have Zs := Z0
  have K : Keep h0 h0 [a1] := Keep.refl _ _
  show own_Fin p e below s (own_Q3 Z a1 b1 w_head w_tail f1 rr h0 n0) 0 0 s₁ (entryFrame m #[(.ref a1)] 3)
  rw [own_ef_3 m a1]
  show own_Fin _ _ _ _ _ _ _ _ (mkF m 0 #[.val (.ref a1), .unset, .unset] [])
  refine own_step (fun t k => XS.aloadN X0.here hx rfl (hb hby d3_0) rfl rfl k) ?_
  show own_Fin _ _ _ _ _ _ _ _ (mkF m 1 #[.val (.ref a1), .unset, .unset] [(.ref a1)])
  obtain ⟨T1, X1, e1, st1⟩ := getF X0 hx hZ hown (host := "") (Or.inl (hw _ (List.mem_of_getElem? (i := 10) rfl))) Via.refl e0 F_entries_a1 (g := (mkF m 1 #[.val (.ref a1), .unset, .unset] [(.ref a1)])) rfl rfl (hb hby d3_1)
  refine own_step st1 ?_
  show own_Fin _ _ _ _ _ _ _ _ (mkF m 4 #[.val (.ref a1), .unset, .unset] [(.ref b1)])
  refine own_step (fun t k => XS.aloadN X1.here hx rfl (hb hby d3_4) rfl rfl k) ?_
  show own_Fin _ _ _ _ _ _ _ _ (mkF m 5 #[.val (.ref a1), .unset, .unset] [(.ref a1), (.ref b1)])
  obtain ⟨T2, X2, e2, st2⟩ := getF X1 hx hZ hown (host := "") (Or.inl (hw _ (List.mem_of_getElem? (i := 17) rfl))) Via.refl e1 F_head_a1 (g := (mkF m 5 #[.val (.ref a1), .unset, .unset] [(.ref a1), (.ref b1)])) rfl rfl (hb hby d3_5)
  refine own_step st2 ?_
  show own_Fin _ _ _ _ _ _ _ _ (mkF m 8 #[.val (.ref a1), .unset, .unset] [(.int w_head), (.ref b1)])
  refine own_laload X2 hx hZ e2 V_b1 (k := w_head.toInt.toNat) (by omega) (by omega) (v := rr) hrr (hb hby d3_8) rfl ?_
  show own_Fin _ _ _ _ _ _ _ _ (mkF m 9 #[.val (.ref a1), .unset, .unset] [(.long rr)])
  refine own_step (fun t k => XS.lstoreN X2.here hx rfl (hb hby d3_9) rfl (l' := #[.val (.ref a1), .val (.long rr), .second]) rfl k) ?_
  show own_Fin _ _ _ _ _ _ _ _ (mkF m 10 #[.val (.ref a1), .val (.long rr), .second] [])
  refine own_step (fun t k => XS.aloadN X2.here hx rfl (hb hby d3_10) rfl rfl k) ?_
  show own_Fin _ _ _ _ _ _ _ _ (mkF m 11 #[.val (.ref a1), .val (.long rr), .second] [(.ref a1)])
  refine own_step (fun t k => XS.dup X2.here hx rfl (hb hby d3_11) rfl rfl k) ?_
  show own_Fin _ _ _ _ _ _ _ _ (mkF m 12 #[.val (.ref a1), .val (.long rr), .second] [(.ref a1), (.ref a1)])
  obtain ⟨T3, X3, e3, st3⟩ := getF X2 hx hZ hown (host := "") (Or.inl (hw _ (List.mem_of_getElem? (i := 17) rfl))) Via.refl e2 F_head_a1 (g := (mkF m 12 #[.val (.ref a1), .val (.long rr), .second] [(.ref a1), (.ref a1)])) rfl rfl (hb hby d3_12)
  refine own_step st3 ?_
  show own_Fin _ _ _ _ _ _ _ _ (mkF m 15 #[.val (.ref a1), .val (.long rr), .second] [(.int w_head), (.ref a1)])
  refine own_step (fun t k => XS.iconst X3.here hx rfl (hb hby d3_15) k) ?_
  show own_Fin _ _ _ _ _ _ _ _ (mkF m 16 #[.val (.ref a1), .val (.long rr), .second] [(.int (1 : Int32)), (.int w_head), (.ref a1)])
  refine own_step (fun t k => XS.iadd X3.here hx rfl (hb hby d3_16) rfl k) ?_
  show own_Fin _ _ _ _ _ _ _ _ (mkF m 17 #[.val (.ref a1), .val (.long rr), .second] [(.int (w_head + (1 : Int32))), (.ref a1)])
  obtain ⟨T4, h4, X4, e4, W4, st4⟩ := putF X3 hx hZ hown (host := "") (Or.inl (hw _ (List.mem_of_getElem? (i := 17) rfl))) Via.refl e3 F_head_a1 E_a1 (Or.inl (hw _ (List.mem_of_getElem? (i := 18) rfl))) (hw _ (List.mem_of_getElem? (i := 1) rfl)) (ty := .int) (by decide) rfl rfl (g := (mkF m 17 #[.val (.ref a1), .val (.long rr), .second] [(.int (w_head + (1 : Int32))), (.ref a1)])) rfl rfl (hb hby d3_17)
  refine own_step st4 ?_
  replace E_a1 := E_a1.wr W4
  replace F_entries_a1 := F_entries_a1.other W4 (Or.inr (slot_ne (Or.inl (hw _ (List.mem_of_getElem? (i := 11) rfl))) (Or.inl (hw _ (List.mem_of_getElem? (i := 18) rfl))) (by decide) (t := (.array .long)) (t' := .int) (by decide) (by decide)))
  replace F_head_a1 := F_head_a1.same W4
  replace F_tail_a1 := F_tail_a1.other W4 (Or.inr (slot_ne (Or.inl (hw _ (List.mem_of_getElem? (i := 20) rfl))) (Or.inl (hw _ (List.mem_of_getElem? (i := 18) rfl))) (by decide) (t := .int) (t' := .int) (by decide) (by decide)))
  replace V_b1 := V_b1.other W4 (Ne.symm hne)
  replace Zs : n0 ≤ h4.size := by rw [W4.size]; exact Zs
  replace K := K.wr W4 (Or.inl (by simp))
  replace Nf := Fr.snoc X4 Nf g_a1
  show own_Fin _ _ _ _ _ _ _ _ (mkF m 20 #[.val (.ref a1), .val (.long rr), .second] [])
  refine own_step (fun t k => XS.lloadN X4.here hx rfl (hb hby d3_20) rfl k) ?_
  show own_Fin _ _ _ _ _ _ _ _ (mkF m 21 #[.val (.ref a1), .val (.long rr), .second] [(.long rr)])
  refine own_retJ X4 hx hlk Bd.returns (hb hby d3_21) (by decide) (by decide) e4 ?_
  exact ⟨rfl, Nf, K, E_a1, F_entries_a1, F_head_a1, F_tail_a1⟩
theorem d5_0 : decode prog_36_method_2_code 0 = .ok (.aload_n 0, 1) := by decide +kernel
theorem d5_1 : decode prog_36_method_2_code 1 = .ok (.getfield 13, 3) := by decide +kernel
theorem d5_4 : decode prog_36_method_2_code 4 = .ok (.aload_n 0, 1) := by decide +kernel
theorem d5_5 : decode prog_36_method_2_code 5 = .ok (.getfield 17, 3) := by decide +kernel
theorem d5_8 : decode prog_36_method_2_code 8 = .ok (.if_icmp .ne 7, 3) := by decide +kernel
theorem d5_11 : decode prog_36_method_2_code 11 = .ok (.iconst 1, 1) := by decide +kernel
theorem d5_12 : decode prog_36_method_2_code 12 = .ok (.goto 4, 3) := by decide +kernel
theorem d5_15 : decode prog_36_method_2_code 15 = .ok (.iconst 0, 1) := by decide +kernel
theorem d5_16 : decode prog_36_method_2_code 16 = .ok (.ireturn, 1) := by decide +kernel
theorem own_pn_5 : plainName "com/example/limfjord/limfjord/engine/LongQueue" = true := by first | (simp [plainName, overriddenIn]; done) | decide +kernel
theorem own_ef_5 (m : MethodId) (a1 : Addr) : entryFrame m #[(.ref a1)] 1 = mkF m 0 #[.val (.ref a1)] [] := by first | (simp [entryFrame, mkF, argsToLocals, Value.category]; done) | rfl
abbrev own_R5 : Room := { frames := 0, cells := 0, slots := 0, locals := 0 }
def own_Q5 (Z : State) (a1 : Addr) (w_head : Int32) (w_tail : Int32) (h0 : Heap) (n0 : Nat) (v : Option Value) (h : Heap) (L : List Loc) : Prop := ∃ r : Int32, v = some (.int r) ∧ own_B r (w_head.toInt = w_tail.toInt) ∧ Fr n0 L ∧ h = h0
set_option maxRecDepth 65536 in
set_option maxHeartbeats 40000000 in
theorem rm5 (l : Launch) (Z : State) (a0 : Array Value) (hw : ∀ d ∈ tables_1, d.before a0 Z = true) (ws : List Jvm.Cond) (a1 : Addr) (w_head : Int32) (w_tail : Int32) (h0 : Heap) (n0 : Nat) (Z0 : n0 ≤ h0.size) (F_head_a1 : Fld Z h0 a1 "com/example/limfjord/limfjord/engine/LongQueue" "head" "I" (.int w_head)) (F_tail_a1 : Fld Z h0 a1 "com/example/limfjord/limfjord/engine/LongQueue" "tail" "I" (.int w_tail)) :
    MetFree l (⟨"com/example/limfjord/limfjord/engine/LongQueue", "isEmpty", "()Z"⟩ : MethodName) (head1 (Jvm.Cond.code (⟨"com/example/limfjord/limfjord/engine/LongQueue", "isEmpty", "()Z"⟩ : MethodName) prog_36_method_2_code 1 (some .boolean) :: ws) own_R5) (fun a U => a = #[(.ref a1)] ∧ Z.Warmed39 U.vm ∧ U.heap = h0) (fun _ _ _ _ _ => True) (fun _ U o U' => ∃ v L, o = .returned v ∧ own_Q5 Z a1 w_head w_tail h0 n0 v U'.heap L ∧ FrameEnd U o U' L own_R5.cells own_R5.slots) := by
  refine MetFree.of_bodySF (plainFor_of_name own_pn_5) hisR ?_
  intro p e s m args below meth c s₁ Bd hml0 hP hK
  obtain ⟨rfl, hZ, hh⟩ := hP
  have hx := Bd.exec
  have hby := Bd.bytes
  have hlk := BodyLoose.notSynchronized Bd
  have hml : c.maxLocals = 1 := hml0
  have hown : s.vm.findClass "com/example/limfjord/limfjord/engine/LongQueue" = some m.cls := (findClass_of_methodNamed Bd.named : s.vm.findClass (⟨"com/example/limfjord/limfjord/engine/LongQueue", "isEmpty", "()Z"⟩ : MethodName).cls = some m.cls)
  have hnm := (name_of_methodNamed Bd.named Bd.method).1
  have X0 : Stand p l e own_R5 s m #[(.ref a1)] below meth c s₁ [] 0 0 := Stand.of_body Bd
  have e0 : s₁.heap = h0 := by rw [← hh, Bd.state]; rfl
  have Nf := Fr.nil n0
  have Zs := Z0
  show own_Fin p e below s (own_Q5 Z a1 w_head w_tail h0 n0) 0 0 s₁ (entryFrame m #[(.ref a1)] 1)
  rw [own_ef_5 m a1]
  show own_Fin _ _ _ _ _ _ _ _ (mkF m 0 #[.val (.ref a1)] [])
  refine own_step (fun t k => XS.aloadN X0.here hx rfl (hb hby d5_0) rfl rfl k) ?_
  show own_Fin _ _ _ _ _ _ _ _ (mkF m 1 #[.val (.ref a1)] [(.ref a1)])
  obtain ⟨T1, X1, e1, st1⟩ := getF X0 hx hZ hown (host := "") (Or.inl (hw _ (List.mem_of_getElem? (i := 17) rfl))) Via.refl e0 F_head_a1 (g := (mkF m 1 #[.val (.ref a1)] [(.ref a1)])) rfl rfl (hb hby d5_1)
  refine own_step st1 ?_
  show own_Fin _ _ _ _ _ _ _ _ (mkF m 4 #[.val (.ref a1)] [(.int w_head)])
  refine own_step (fun t k => XS.aloadN X1.here hx rfl (hb hby d5_4) rfl rfl k) ?_
  show own_Fin _ _ _ _ _ _ _ _ (mkF m 5 #[.val (.ref a1)] [(.ref a1), (.int w_head)])
  obtain ⟨T2, X2, e2, st2⟩ := getF X1 hx hZ hown (host := "") (Or.inl (hw _ (List.mem_of_getElem? (i := 19) rfl))) Via.refl e1 F_tail_a1 (g := (mkF m 5 #[.val (.ref a1)] [(.ref a1), (.int w_head)])) rfl rfl (hb hby d5_5)
  refine own_step st2 ?_
  show own_Fin _ _ _ _ _ _ _ _ (mkF m 8 #[.val (.ref a1)] [(.int w_tail), (.int w_head)])
  by_cases hc3 : (w_head).toInt = (w_tail).toInt
  · skip
    refine own_step (fun t k => XS.icmpNo X2.here hx rfl (hb hby d5_8) rfl (own_ce (x := w_head) (y := w_tail) rfl rfl hc3).2 k) ?_
    show own_Fin _ _ _ _ _ _ _ _ (mkF m 11 #[.val (.ref a1)] [])
    refine own_step (fun t k => XS.iconst X2.here hx rfl (hb hby d5_11) k) ?_
    show own_Fin _ _ _ _ _ _ _ _ (mkF m 12 #[.val (.ref a1)] [(.int (1 : Int32))])
    refine own_step (fun t k => XS.goto X2.here hx rfl (pc0 := 12) (pc' := 16) rfl (hb hby d5_12) (by decide) (by decide) k) ?_
    show own_Fin _ _ _ _ _ _ _ _ (mkF m 16 #[.val (.ref a1)] [(.int (1 : Int32))])
    refine own_retZ X2 hx hlk Bd.returns (hb hby d5_16) (z' := (1 : Int32)) (by decide) (by decide) (by decide) e2 ?_
    exact ⟨_, rfl, own_B1 (by omega), Nf, rfl⟩
  · skip
    refine own_step (fun t k => XS.icmpYes X2.here hx rfl (pc0 := 8) (pc' := 15) rfl (hb hby d5_8) rfl (own_cu (x := w_head) (y := w_tail) rfl rfl hc3).2 (by decide) (by decide) k) ?_
    show own_Fin _ _ _ _ _ _ _ _ (mkF m 15 #[.val (.ref a1)] [])
    refine own_step (fun t k => XS.iconst X2.here hx rfl (hb hby d5_15) k) ?_
    show own_Fin _ _ _ _ _ _ _ _ (mkF m 16 #[.val (.ref a1)] [(.int (0 : Int32))])
    refine own_retZ X2 hx hlk Bd.returns (hb hby d5_16) (z' := (0 : Int32)) (by decide) (by decide) (by decide) e2 ?_
    exact ⟨_, rfl, own_B0 (by omega), Nf, rfl⟩
theorem own_pd_0 : parseMethodDescriptor "()J" = some ⟨[], some .long⟩ := by decide +kernel
theorem d6_0 : decode method_2_code 0 = .ok (.iload_n 2, 1) := by decide +kernel
theorem d6_1 : decode method_2_code 1 = .ok (.ifCond .eq 16, 3) := by decide +kernel
theorem d6_4 : decode method_2_code 4 = .ok (.iload_n 1, 1) := by decide +kernel
theorem d6_5 : decode method_2_code 5 = .ok (.ifCond .le 12, 3) := by decide +kernel
theorem d6_8 : decode method_2_code 8 = .ok (.aload_n 0, 1) := by decide +kernel
theorem d6_9 : decode method_2_code 9 = .ok (.invokevirtual 7, 3) := by decide +kernel
theorem d6_12 : decode method_2_code 12 = .ok (.pop2, 1) := by decide +kernel
theorem d6_13 : decode method_2_code 13 = .ok (.iload_n 1, 1) := by decide +kernel
theorem d6_14 : decode method_2_code 14 = .ok (.iconst 1, 1) := by decide +kernel
theorem d6_15 : decode method_2_code 15 = .ok (.isub, 1) := by decide +kernel
theorem d6_16 : decode method_2_code 16 = .ok (.ireturn, 1) := by decide +kernel
theorem own_pn_6 : plainName "com/example/limfjord/limfjord/engine/LongQueueIsEmptyPinLaw" = true := by first | (simp [plainName, overriddenIn]; done) | decide +kernel
theorem own_ef_6 (m : MethodId) (a1 : Addr) (p2 : Int32) (p3 : Int32) (q4 : Int64) : entryFrame m #[(.ref a1), (.int p2), (.int p3), (.long q4)] 5 = mkF m 0 #[.val (.ref a1), .val (.int p2), .val (.int p3), .val (.long q4), .second] [] := by first | (simp [entryFrame, mkF, argsToLocals, Value.category]; done) | rfl
abbrev own_R6 : Room := { frames := 1, cells := 0, slots := 0, locals := 14 }
def own_Q6 (Z : State) (a1 : Addr) (p2 : Int32) (p3 : Int32) (q4 : Int64) (b1 : Addr) (w_head : Int32) (w_tail : Int32) (f1 : Nat → Int64) (h0 : Heap) (n0 : Nat) (v : Option Value) (h : Heap) (L : List Loc) : Prop := v = some (.int (p2 - (1 : Int32))) ∧ Fr n0 L ∧ Keep h0 h [a1] ∧ Exa Z h a1 "com/example/limfjord/limfjord/engine/LongQueue" ∧ Fld Z h a1 "com/example/limfjord/limfjord/engine/LongQueue" "entries" "[J" (.ref b1) ∧ Fld Z h a1 "com/example/limfjord/limfjord/engine/LongQueue" "head" "I" (.int (w_head + (1 : Int32))) ∧ Fld Z h a1 "com/example/limfjord/limfjord/engine/LongQueue" "tail" "I" (.int w_tail)
set_option maxRecDepth 65536 in
set_option maxHeartbeats 40000000 in
theorem rm6 (l : Launch) (Z : State) (a0 : Array Value) (hw : ∀ d ∈ tables_1, d.before a0 Z = true) (ws : List Jvm.Cond) (a1 : Addr) (p2 : Int32) (p3 : Int32) (q4 : Int64) (b1 : Addr) (w_head : Int32) (w_tail : Int32) (f1 : Nat → Int64) (h0 : Heap) (n0 : Nat) (Z0 : n0 ≤ h0.size) (E_a1 : Exa Z h0 a1 "com/example/limfjord/limfjord/engine/LongQueue") (F_entries_a1 : Fld Z h0 a1 "com/example/limfjord/limfjord/engine/LongQueue" "entries" "[J" (.ref b1)) (F_head_a1 : Fld Z h0 a1 "com/example/limfjord/limfjord/engine/LongQueue" "head" "I" (.int w_head)) (F_tail_a1 : Fld Z h0 a1 "com/example/limfjord/limfjord/engine/LongQueue" "tail" "I" (.int w_tail)) (V_b1 : own_AJ Z h0 b1 1024 f1) (g_a1 : n0 ≤ a1) (hne : a1 ≠ b1) (hh0 : 0 ≤ w_head.toInt ∧ w_head.toInt < 1024) (hs : ¬ p3.toInt = 0 ∧ 0 < p2.toInt) :
    MetFree l (⟨"com/example/limfjord/limfjord/engine/LongQueueIsEmptyPinLaw", "step", "(Lcom/example/limfjord/limfjord/engine/LongQueue;IZJ)I"⟩ : MethodName) (head1 (Jvm.Cond.code (⟨"com/example/limfjord/limfjord/engine/LongQueueIsEmptyPinLaw", "step", "(Lcom/example/limfjord/limfjord/engine/LongQueue;IZJ)I"⟩ : MethodName) method_2_code 5 (some .int) :: ws) own_R6) (fun a U => a = #[(.ref a1), (.int p2), (.int p3), (.long q4)] ∧ Z.Warmed39 U.vm ∧ U.heap = h0) (fun _ _ _ _ _ => True) (fun _ U o U' => ∃ v L, o = .returned v ∧ own_Q6 Z a1 p2 p3 q4 b1 w_head w_tail f1 h0 n0 v U'.heap L ∧ FrameEnd U o U' L own_R6.cells own_R6.slots) := by
  refine MetFree.of_bodySF (plainFor_of_name own_pn_6) hisR ?_
  intro p e s m args below meth c s₁ Bd hml0 hP hK
  obtain ⟨rfl, hZ, hh⟩ := hP
  have hx := Bd.exec
  have hby := Bd.bytes
  have hlk := BodyLoose.notSynchronized Bd
  have hml : c.maxLocals = 5 := hml0
  have hown : s.vm.findClass "com/example/limfjord/limfjord/engine/LongQueueIsEmptyPinLaw" = some m.cls := (findClass_of_methodNamed Bd.named : s.vm.findClass (⟨"com/example/limfjord/limfjord/engine/LongQueueIsEmptyPinLaw", "step", "(Lcom/example/limfjord/limfjord/engine/LongQueue;IZJ)I"⟩ : MethodName).cls = some m.cls)
  have hnm := (name_of_methodNamed Bd.named Bd.method).1
  have X0 : Stand p l e own_R6 s m #[(.ref a1), (.int p2), (.int p3), (.long q4)] below meth c s₁ [] 0 0 := Stand.of_body Bd
  have e0 : s₁.heap = h0 := by rw [← hh, Bd.state]; rfl
  have Nf := Fr.nil n0
  have Zs := Z0
  have K : Keep h0 h0 [a1] := Keep.refl _ _
  show own_Fin p e below s (own_Q6 Z a1 p2 p3 q4 b1 w_head w_tail f1 h0 n0) 0 0 s₁ (entryFrame m #[(.ref a1), (.int p2), (.int p3), (.long q4)] 5)
  rw [own_ef_6 m a1 p2 p3 q4]
  show own_Fin _ _ _ _ _ _ _ _ (mkF m 0 #[.val (.ref a1), .val (.int p2), .val (.int p3), .val (.long q4), .second] [])
  refine own_step (fun t k => XS.iloadN X0.here hx rfl (hb hby d6_0) rfl k) ?_
  show own_Fin _ _ _ _ _ _ _ _ (mkF m 1 #[.val (.ref a1), .val (.int p2), .val (.int p3), .val (.long q4), .second] [(.int p3)])
  have hc1 : ¬ ((p3).toInt = 0) := hs.1
  refine own_step (fun t k => XS.ifNo X0.here hx rfl (hb hby d6_1) rfl ((if0 _ _).trans (own_cu (x := p3) (y := (0 : Int32)) rfl rfl hc1).1) k) ?_
  show own_Fin _ _ _ _ _ _ _ _ (mkF m 4 #[.val (.ref a1), .val (.int p2), .val (.int p3), .val (.long q4), .second] [])
  refine own_step (fun t k => XS.iloadN X0.here hx rfl (hb hby d6_4) rfl k) ?_
  show own_Fin _ _ _ _ _ _ _ _ (mkF m 5 #[.val (.ref a1), .val (.int p2), .val (.int p3), .val (.long q4), .second] [(.int p2)])
  have hc2 : 0 < (p2).toInt := hs.2
  refine own_step (fun t k => XS.ifNo X0.here hx rfl (hb hby d6_5) rfl ((if0 _ _).trans (own_cl (x := (0 : Int32)) (y := p2) rfl rfl hc2).2.2.2) k) ?_
  show own_Fin _ _ _ _ _ _ _ _ (mkF m 8 #[.val (.ref a1), .val (.int p2), .val (.int p3), .val (.long q4), .second] [])
  refine own_step (fun t k => XS.aloadN X0.here hx rfl (hb hby d6_8) rfl rfl k) ?_
  show own_Fin _ _ _ _ _ _ _ _ (mkF m 9 #[.val (.ref a1), .val (.int p2), .val (.int p3), .val (.long q4), .second] [(.ref a1)])
  obtain ⟨cq3, kq3, q3a, q3b, q3c⟩ := isOf hZ e0 E_a1
  obtain ⟨_, _, ⟨T3, L3, k3, n3⟩, -, X3, ⟨Lc3, hQ3, l3, y3, z3⟩, st3⟩ := X0.virtualBack hx (y := (⟨"com/example/limfjord/limfjord/engine/LongQueue", "poll", "()J"⟩ : MethodName)) (z := (⟨"com/example/limfjord/limfjord/engine/LongQueue", "poll", "()J"⟩ : MethodName)) hown (mvT hZ (hw _ (List.mem_of_getElem? (i := 31) rfl))) (mvT hZ (hw _ (List.mem_of_getElem? (i := 32) rfl))) (notFace_of_selects (args := #[]) (mvT hZ (hw _ (List.mem_of_getElem? (i := 34) rfl)))) (mvT hZ (hw _ (List.mem_of_getElem? (i := 34) rfl))) (mvT hZ (hw _ (List.mem_of_getElem? (i := 33) rfl))) (by decide) (backOf (W := 0) (rm3 l Z a0 hw [] a1 _ _ _ _ (f1 w_head.toInt.toNat) h0 n0 Zs E_a1 F_entries_a1 F_head_a1 F_tail_a1 V_b1 g_a1 hne hh0 rfl) hZ (hw _ (List.mem_of_getElem? (i := 35) rfl)) (hw _ (List.mem_of_getElem? (i := 2) rfl)) (by decide) (by decide)) q3a q3c (g := (mkF m 9 #[.val (.ref a1), .val (.int p2), .val (.int p3), .val (.long q4), .second] [(.ref a1)])) rfl (by rw [hml]; rfl) (Steps.refl _) (argsL := []) (rest := []) (lenOf own_pd_0 rfl) rfl (by show 2 * 0 + _ ≤ _; exact Nat.le_of_eq rfl) (hb hby d6_9) (fun _ _ => ⟨rfl, e0, (by decide : 0 + 0 ≤ _), (by decide : 0 + 0 ≤ _)⟩)
  dsimp only [Pt.U, Pt.locs, Pt.cells, Pt.slots] at X3 l3 y3 z3 st3 hQ3
  subst l3 y3 z3
  obtain ⟨rfl, Nq3, Kq3, P3_0, P3_1, P3_2, P3_3⟩ := hQ3
  replace Nf := Fr.app Nf Nq3
  replace E_a1 := P3_0
  replace F_entries_a1 := P3_1
  replace F_head_a1 := P3_2
  replace F_tail_a1 := P3_3
  replace V_b1 := V_b1.keep Kq3 (ninS (Ne.symm hne) nin0)
  replace Zs := Nat.le_trans Zs Kq3.1
  replace K := Keep.trans K Kq3 ((allS (Or.inl (by simp)) all0))
  refine own_stepT st3 ?_
  show own_Fin _ _ _ _ _ _ _ _ (mkF m 12 #[.val (.ref a1), .val (.int p2), .val (.int p3), .val (.long q4), .second] [(.long (f1 w_head.toInt.toNat))])
  refine own_step (T' := T3) (f' := (mkF m 13 #[.val (.ref a1), .val (.int p2), .val (.int p3), .val (.long q4), .second] [])) (fun t k => ?_) ?_
  · jvm_step X3.here [X3.here.top, hx, (hb hby d6_12), Value.category]
    exact k
  show own_Fin _ _ _ _ _ _ _ _ (mkF m 13 #[.val (.ref a1), .val (.int p2), .val (.int p3), .val (.long q4), .second] [])
  refine own_step (fun t k => XS.iloadN X3.here hx rfl (hb hby d6_13) rfl k) ?_
  show own_Fin _ _ _ _ _ _ _ _ (mkF m 14 #[.val (.ref a1), .val (.int p2), .val (.int p3), .val (.long q4), .second] [(.int p2)])
  refine own_step (fun t k => XS.iconst X3.here hx rfl (hb hby d6_14) k) ?_
  show own_Fin _ _ _ _ _ _ _ _ (mkF m 15 #[.val (.ref a1), .val (.int p2), .val (.int p3), .val (.long q4), .second] [(.int (1 : Int32)), (.int p2)])
  refine own_step (fun t k => XS.isub X3.here hx rfl (hb hby d6_15) rfl k) ?_
  show own_Fin _ _ _ _ _ _ _ _ (mkF m 16 #[.val (.ref a1), .val (.int p2), .val (.int p3), .val (.long q4), .second] [(.int (p2 - (1 : Int32)))])
  refine own_retI X3 hx hlk Bd.returns (hb hby d6_16) (by decide) (by decide) rfl ?_
  exact ⟨rfl, Nf, K, E_a1, F_entries_a1, F_head_a1, F_tail_a1⟩
theorem own_pd_1 : parseMethodDescriptor "(J)V" = some ⟨[.long], none⟩ := by decide +kernel
theorem d7_0 : decode method_2_code 0 = .ok (.iload_n 2, 1) := by decide +kernel
theorem d7_1 : decode method_2_code 1 = .ok (.ifCond .eq 16, 3) := by decide +kernel
theorem d7_4 : decode method_2_code 4 = .ok (.iload_n 1, 1) := by decide +kernel
theorem d7_5 : decode method_2_code 5 = .ok (.ifCond .le 12, 3) := by decide +kernel
theorem d7_17 : decode method_2_code 17 = .ok (.aload_n 0, 1) := by decide +kernel
theorem d7_18 : decode method_2_code 18 = .ok (.lload_n 3, 1) := by decide +kernel
theorem d7_19 : decode method_2_code 19 = .ok (.invokevirtual 13, 3) := by decide +kernel
theorem d7_22 : decode method_2_code 22 = .ok (.iload_n 1, 1) := by decide +kernel
theorem d7_23 : decode method_2_code 23 = .ok (.iconst 1, 1) := by decide +kernel
theorem d7_24 : decode method_2_code 24 = .ok (.iadd, 1) := by decide +kernel
theorem d7_25 : decode method_2_code 25 = .ok (.ireturn, 1) := by decide +kernel
theorem own_pn_7 : plainName "com/example/limfjord/limfjord/engine/LongQueueIsEmptyPinLaw" = true := by first | (simp [plainName, overriddenIn]; done) | decide +kernel
theorem own_ef_7 (m : MethodId) (a1 : Addr) (p2 : Int32) (p3 : Int32) (q4 : Int64) : entryFrame m #[(.ref a1), (.int p2), (.int p3), (.long q4)] 5 = mkF m 0 #[.val (.ref a1), .val (.int p2), .val (.int p3), .val (.long q4), .second] [] := by first | (simp [entryFrame, mkF, argsToLocals, Value.category]; done) | rfl
abbrev own_R7 : Room := { frames := 1, cells := 0, slots := 0, locals := 16 }
def own_Q7 (Z : State) (a1 : Addr) (p2 : Int32) (p3 : Int32) (q4 : Int64) (b1 : Addr) (w_head : Int32) (w_tail : Int32) (f1 : Nat → Int64) (h0 : Heap) (n0 : Nat) (v : Option Value) (h : Heap) (L : List Loc) : Prop := v = some (.int (p2 + (1 : Int32))) ∧ Fr n0 L ∧ Keep h0 h [a1, b1] ∧ Exa Z h a1 "com/example/limfjord/limfjord/engine/LongQueue" ∧ Fld Z h a1 "com/example/limfjord/limfjord/engine/LongQueue" "entries" "[J" (.ref b1) ∧ Fld Z h a1 "com/example/limfjord/limfjord/engine/LongQueue" "head" "I" (.int w_head) ∧ Fld Z h a1 "com/example/limfjord/limfjord/engine/LongQueue" "tail" "I" (.int (w_tail + (1 : Int32))) ∧ own_AJ Z h b1 1024 (own_up f1 w_tail.toInt.toNat q4)
set_option maxRecDepth 65536 in
set_option maxHeartbeats 40000000 in
theorem rm7 (l : Launch) (Z : State) (a0 : Array Value) (hw : ∀ d ∈ tables_1, d.before a0 Z = true) (ws : List Jvm.Cond) (a1 : Addr) (p2 : Int32) (p3 : Int32) (q4 : Int64) (b1 : Addr) (w_head : Int32) (w_tail : Int32) (f1 : Nat → Int64) (h0 : Heap) (n0 : Nat) (Z0 : n0 ≤ h0.size) (E_a1 : Exa Z h0 a1 "com/example/limfjord/limfjord/engine/LongQueue") (F_entries_a1 : Fld Z h0 a1 "com/example/limfjord/limfjord/engine/LongQueue" "entries" "[J" (.ref b1)) (F_head_a1 : Fld Z h0 a1 "com/example/limfjord/limfjord/engine/LongQueue" "head" "I" (.int w_head)) (F_tail_a1 : Fld Z h0 a1 "com/example/limfjord/limfjord/engine/LongQueue" "tail" "I" (.int w_tail)) (V_b1 : own_AJ Z h0 b1 1024 f1) (g_a1 : n0 ≤ a1) (g_b1 : n0 ≤ b1) (hne : a1 ≠ b1) (ht : 0 ≤ w_tail.toInt ∧ w_tail.toInt < 1024) (hs : p3.toInt = 0 ∨ ¬ 0 < p2.toInt) :
    MetFree l (⟨"com/example/limfjord/limfjord/engine/LongQueueIsEmptyPinLaw", "step", "(Lcom/example/limfjord/limfjord/engine/LongQueue;IZJ)I"⟩ : MethodName) (head1 (Jvm.Cond.code (⟨"com/example/limfjord/limfjord/engine/LongQueueIsEmptyPinLaw", "step", "(Lcom/example/limfjord/limfjord/engine/LongQueue;IZJ)I"⟩ : MethodName) method_2_code 5 (some .int) :: ws) own_R7) (fun a U => a = #[(.ref a1), (.int p2), (.int p3), (.long q4)] ∧ Z.Warmed39 U.vm ∧ U.heap = h0) (fun _ _ _ _ _ => True) (fun _ U o U' => ∃ v L, o = .returned v ∧ own_Q7 Z a1 p2 p3 q4 b1 w_head w_tail f1 h0 n0 v U'.heap L ∧ FrameEnd U o U' L own_R7.cells own_R7.slots) := by
  refine MetFree.of_bodySF (plainFor_of_name own_pn_7) hisR ?_
  intro p e s m args below meth c s₁ Bd hml0 hP hK
  obtain ⟨rfl, hZ, hh⟩ := hP
  have hx := Bd.exec
  have hby := Bd.bytes
  have hlk := BodyLoose.notSynchronized Bd
  have hml : c.maxLocals = 5 := hml0
  have hown : s.vm.findClass "com/example/limfjord/limfjord/engine/LongQueueIsEmptyPinLaw" = some m.cls := (findClass_of_methodNamed Bd.named : s.vm.findClass (⟨"com/example/limfjord/limfjord/engine/LongQueueIsEmptyPinLaw", "step", "(Lcom/example/limfjord/limfjord/engine/LongQueue;IZJ)I"⟩ : MethodName).cls = some m.cls)
  have hnm := (name_of_methodNamed Bd.named Bd.method).1
  have X0 : Stand p l e own_R7 s m #[(.ref a1), (.int p2), (.int p3), (.long q4)] below meth c s₁ [] 0 0 := Stand.of_body Bd
  have e0 : s₁.heap = h0 := by rw [← hh, Bd.state]; rfl
  have Nf := Fr.nil n0
  have Zs := Z0
  have K : Keep h0 h0 [a1, b1] := Keep.refl _ _
  show own_Fin p e below s (own_Q7 Z a1 p2 p3 q4 b1 w_head w_tail f1 h0 n0) 0 0 s₁ (entryFrame m #[(.ref a1), (.int p2), (.int p3), (.long q4)] 5)
  rw [own_ef_7 m a1 p2 p3 q4]
  show own_Fin _ _ _ _ _ _ _ _ (mkF m 0 #[.val (.ref a1), .val (.int p2), .val (.int p3), .val (.long q4), .second] [])
  refine own_step (fun t k => XS.iloadN X0.here hx rfl (hb hby d7_0) rfl k) ?_
  show own_Fin _ _ _ _ _ _ _ _ (mkF m 1 #[.val (.ref a1), .val (.int p2), .val (.int p3), .val (.long q4), .second] [(.int p3)])
  by_cases hc1 : (p3).toInt = 0
  · skip
    refine own_step (fun t k => XS.ifYes X0.here hx rfl (pc0 := 1) (pc' := 17) rfl (hb hby d7_1) rfl ((if0 _ _).trans (own_ce (x := p3) (y := (0 : Int32)) rfl rfl hc1).1) (by decide) (by decide) k) ?_
    show own_Fin _ _ _ _ _ _ _ _ (mkF m 17 #[.val (.ref a1), .val (.int p2), .val (.int p3), .val (.long q4), .second] [])
    refine own_step (fun t k => XS.aloadN X0.here hx rfl (hb hby d7_17) rfl rfl k) ?_
    show own_Fin _ _ _ _ _ _ _ _ (mkF m 18 #[.val (.ref a1), .val (.int p2), .val (.int p3), .val (.long q4), .second] [(.ref a1)])
    refine own_step (fun t k => XS.lloadN X0.here hx rfl (hb hby d7_18) rfl k) ?_
    show own_Fin _ _ _ _ _ _ _ _ (mkF m 19 #[.val (.ref a1), .val (.int p2), .val (.int p3), .val (.long q4), .second] [(.long q4), (.ref a1)])
    obtain ⟨cq2, kq2, q2a, q2b, q2c⟩ := isOf hZ e0 E_a1
    obtain ⟨_, _, ⟨T2, L2, k2, n2⟩, -, X2, ⟨Lc2, hQ2, l2, y2, z2⟩, st2⟩ := X0.virtualBack hx (y := (⟨"com/example/limfjord/limfjord/engine/LongQueue", "add", "(J)V"⟩ : MethodName)) (z := (⟨"com/example/limfjord/limfjord/engine/LongQueue", "add", "(J)V"⟩ : MethodName)) hown (mvT hZ (hw _ (List.mem_of_getElem? (i := 25) rfl))) (mvT hZ (hw _ (List.mem_of_getElem? (i := 26) rfl))) (notFace_of_selects (args := #[]) (mvT hZ (hw _ (List.mem_of_getElem? (i := 28) rfl)))) (mvT hZ (hw _ (List.mem_of_getElem? (i := 28) rfl))) (mvT hZ (hw _ (List.mem_of_getElem? (i := 27) rfl))) (by decide) (backOf (W := 0) (rm2 l Z a0 hw [] a1 q4 _ _ _ _ h0 n0 Zs E_a1 F_entries_a1 F_head_a1 F_tail_a1 V_b1 g_a1 g_b1 hne ht) hZ (hw _ (List.mem_of_getElem? (i := 29) rfl)) (hw _ (List.mem_of_getElem? (i := 2) rfl)) (by decide) (by decide)) q2a q2c (g := (mkF m 19 #[.val (.ref a1), .val (.int p2), .val (.int p3), .val (.long q4), .second] [(.long q4), (.ref a1)])) rfl (by rw [hml]; rfl) (Steps.refl _) (argsL := [(.long q4)]) (rest := []) (lenOf own_pd_1 rfl) rfl (by show 2 * 0 + _ ≤ _; exact Nat.le_of_eq rfl) (hb hby d7_19) (fun _ _ => ⟨rfl, e0, (by decide : 0 + 0 ≤ _), (by decide : 0 + 0 ≤ _)⟩)
    dsimp only [Pt.U, Pt.locs, Pt.cells, Pt.slots] at X2 l2 y2 z2 st2 hQ2
    subst l2 y2 z2
    obtain ⟨rfl, Nq2, Kq2, P2_0, P2_1, P2_2, P2_3, P2_4⟩ := hQ2
    replace Nf := Fr.app Nf Nq2
    replace E_a1 := P2_0
    replace F_entries_a1 := P2_1
    replace F_head_a1 := P2_2
    replace F_tail_a1 := P2_3
    replace V_b1 := P2_4
    replace Zs := Nat.le_trans Zs Kq2.1
    replace K := Keep.trans K Kq2 ((allS (Or.inl (by simp)) (allS (Or.inl (by simp)) all0)))
    refine own_stepT st2 ?_
    show own_Fin _ _ _ _ _ _ _ _ (mkF m 22 #[.val (.ref a1), .val (.int p2), .val (.int p3), .val (.long q4), .second] [])
    refine own_step (fun t k => XS.iloadN X2.here hx rfl (hb hby d7_22) rfl k) ?_
    show own_Fin _ _ _ _ _ _ _ _ (mkF m 23 #[.val (.ref a1), .val (.int p2), .val (.int p3), .val (.long q4), .second] [(.int p2)])
    refine own_step (fun t k => XS.iconst X2.here hx rfl (hb hby d7_23) k) ?_
    show own_Fin _ _ _ _ _ _ _ _ (mkF m 24 #[.val (.ref a1), .val (.int p2), .val (.int p3), .val (.long q4), .second] [(.int (1 : Int32)), (.int p2)])
    refine own_step (fun t k => XS.iadd X2.here hx rfl (hb hby d7_24) rfl k) ?_
    show own_Fin _ _ _ _ _ _ _ _ (mkF m 25 #[.val (.ref a1), .val (.int p2), .val (.int p3), .val (.long q4), .second] [(.int (p2 + (1 : Int32)))])
    refine own_retI X2 hx hlk Bd.returns (hb hby d7_25) (by decide) (by decide) rfl ?_
    exact ⟨rfl, Nf, K, E_a1, F_entries_a1, F_head_a1, F_tail_a1, V_b1⟩
  · skip
    refine own_step (fun t k => XS.ifNo X0.here hx rfl (hb hby d7_1) rfl ((if0 _ _).trans (own_cu (x := p3) (y := (0 : Int32)) rfl rfl hc1).1) k) ?_
    show own_Fin _ _ _ _ _ _ _ _ (mkF m 4 #[.val (.ref a1), .val (.int p2), .val (.int p3), .val (.long q4), .second] [])
    refine own_step (fun t k => XS.iloadN X0.here hx rfl (hb hby d7_4) rfl k) ?_
    show own_Fin _ _ _ _ _ _ _ _ (mkF m 5 #[.val (.ref a1), .val (.int p2), .val (.int p3), .val (.long q4), .second] [(.int p2)])
    have hc3 : ¬ (0 < (p2).toInt) := by omega
    refine own_step (fun t k => XS.ifYes X0.here hx rfl (pc0 := 5) (pc' := 17) rfl (hb hby d7_5) rfl ((if0 _ _).trans (own_cn (x := (0 : Int32)) (y := p2) rfl rfl hc3).2.2.2) (by decide) (by decide) k) ?_
    show own_Fin _ _ _ _ _ _ _ _ (mkF m 17 #[.val (.ref a1), .val (.int p2), .val (.int p3), .val (.long q4), .second] [])
    refine own_step (fun t k => XS.aloadN X0.here hx rfl (hb hby d7_17) rfl rfl k) ?_
    show own_Fin _ _ _ _ _ _ _ _ (mkF m 18 #[.val (.ref a1), .val (.int p2), .val (.int p3), .val (.long q4), .second] [(.ref a1)])
    refine own_step (fun t k => XS.lloadN X0.here hx rfl (hb hby d7_18) rfl k) ?_
    show own_Fin _ _ _ _ _ _ _ _ (mkF m 19 #[.val (.ref a1), .val (.int p2), .val (.int p3), .val (.long q4), .second] [(.long q4), (.ref a1)])
    obtain ⟨cq4, kq4, q4a, q4b, q4c⟩ := isOf hZ e0 E_a1
    obtain ⟨_, _, ⟨T4, L4, k4, n4⟩, -, X4, ⟨Lc4, hQ4, l4, y4, z4⟩, st4⟩ := X0.virtualBack hx (y := (⟨"com/example/limfjord/limfjord/engine/LongQueue", "add", "(J)V"⟩ : MethodName)) (z := (⟨"com/example/limfjord/limfjord/engine/LongQueue", "add", "(J)V"⟩ : MethodName)) hown (mvT hZ (hw _ (List.mem_of_getElem? (i := 25) rfl))) (mvT hZ (hw _ (List.mem_of_getElem? (i := 26) rfl))) (notFace_of_selects (args := #[]) (mvT hZ (hw _ (List.mem_of_getElem? (i := 28) rfl)))) (mvT hZ (hw _ (List.mem_of_getElem? (i := 28) rfl))) (mvT hZ (hw _ (List.mem_of_getElem? (i := 27) rfl))) (by decide) (backOf (W := 0) (rm2 l Z a0 hw [] a1 q4 _ _ _ _ h0 n0 Zs E_a1 F_entries_a1 F_head_a1 F_tail_a1 V_b1 g_a1 g_b1 hne ht) hZ (hw _ (List.mem_of_getElem? (i := 29) rfl)) (hw _ (List.mem_of_getElem? (i := 2) rfl)) (by decide) (by decide)) q4a q4c (g := (mkF m 19 #[.val (.ref a1), .val (.int p2), .val (.int p3), .val (.long q4), .second] [(.long q4), (.ref a1)])) rfl (by rw [hml]; rfl) (Steps.refl _) (argsL := [(.long q4)]) (rest := []) (lenOf own_pd_1 rfl) rfl (by show 2 * 0 + _ ≤ _; exact Nat.le_of_eq rfl) (hb hby d7_19) (fun _ _ => ⟨rfl, e0, (by decide : 0 + 0 ≤ _), (by decide : 0 + 0 ≤ _)⟩)
    dsimp only [Pt.U, Pt.locs, Pt.cells, Pt.slots] at X4 l4 y4 z4 st4 hQ4
    subst l4 y4 z4
    obtain ⟨rfl, Nq4, Kq4, P4_0, P4_1, P4_2, P4_3, P4_4⟩ := hQ4
    replace Nf := Fr.app Nf Nq4
    replace E_a1 := P4_0
    replace F_entries_a1 := P4_1
    replace F_head_a1 := P4_2
    replace F_tail_a1 := P4_3
    replace V_b1 := P4_4
    replace Zs := Nat.le_trans Zs Kq4.1
    replace K := Keep.trans K Kq4 ((allS (Or.inl (by simp)) (allS (Or.inl (by simp)) all0)))
    refine own_stepT st4 ?_
    show own_Fin _ _ _ _ _ _ _ _ (mkF m 22 #[.val (.ref a1), .val (.int p2), .val (.int p3), .val (.long q4), .second] [])
    refine own_step (fun t k => XS.iloadN X4.here hx rfl (hb hby d7_22) rfl k) ?_
    show own_Fin _ _ _ _ _ _ _ _ (mkF m 23 #[.val (.ref a1), .val (.int p2), .val (.int p3), .val (.long q4), .second] [(.int p2)])
    refine own_step (fun t k => XS.iconst X4.here hx rfl (hb hby d7_23) k) ?_
    show own_Fin _ _ _ _ _ _ _ _ (mkF m 24 #[.val (.ref a1), .val (.int p2), .val (.int p3), .val (.long q4), .second] [(.int (1 : Int32)), (.int p2)])
    refine own_step (fun t k => XS.iadd X4.here hx rfl (hb hby d7_24) rfl k) ?_
    show own_Fin _ _ _ _ _ _ _ _ (mkF m 25 #[.val (.ref a1), .val (.int p2), .val (.int p3), .val (.long q4), .second] [(.int (p2 + (1 : Int32)))])
    refine own_retI X4 hx hlk Bd.returns (hb hby d7_25) (by decide) (by decide) rfl ?_
    exact ⟨rfl, Nf, K, E_a1, F_entries_a1, F_head_a1, F_tail_a1, V_b1⟩
theorem own_pd_2 : parseMethodDescriptor "()V" = some ⟨[], none⟩ := by decide +kernel
theorem own_pd_3 : parseMethodDescriptor "()Z" = some ⟨[], some .boolean⟩ := by decide +kernel
theorem own_pd_4 : parseMethodDescriptor "(Lcom/example/limfjord/limfjord/engine/LongQueue;IZJ)I" = some ⟨[(.object "com/example/limfjord/limfjord/engine/LongQueue"), .int, .boolean, .long], some .int⟩ := by decide +kernel
theorem own_pn_0 : plainName "com/example/limfjord/limfjord/engine/LongQueueIsEmptyPinLaw" = true := by first | (simp [plainName, overriddenIn]; done) | decide +kernel
theorem own_ef_0 (m : MethodId) (p1 : Int32) (q2 : Int64) (q3 : Int64) : entryFrame m #[(.int p1), (.long q2), (.long q3)] maxLocals = mkF m 0 #[.val (.int p1), .val (.long q2), .second, .val (.long q3), .second, .unset, .unset, .unset] [] := by first | (simp [entryFrame, mkF, argsToLocals, Value.category, maxLocals]; done) | rfl
def own_Q0 (Z : State) (p1 : Int32) (q2 : Int64) (q3 : Int64) (h0 : Heap) (n0 : Nat) (v : Option Value) (h : Heap) (L : List Loc) : Prop := v = some (.int 1) ∧ Fr n0 L
set_option maxRecDepth 65536 in
set_option maxHeartbeats 40000000 in
theorem rm0 (l : Launch) (Z : State) (a0 : Array Value) (hw : ∀ d ∈ tables_1, d.before a0 Z = true) (ws : List Jvm.Cond) (p1 : Int32) (q2 : Int64) (q3 : Int64) (h0 : Heap) (n0 : Nat) (Z0 : n0 ≤ h0.size) :
    MetFree l x (head1 (Jvm.Cond.code x code maxLocals ret :: ws) room_1) (fun a U => a = #[(.int p1), (.long q2), (.long q3)] ∧ Z.Warmed39 U.vm ∧ U.heap = h0) (fun _ _ _ _ _ => True) (fun _ U o U' => ∃ v L, o = .returned v ∧ own_Q0 Z p1 q2 q3 h0 n0 v U'.heap L ∧ FrameEnd U o U' L 16 2176) := by
  refine MetFree.of_bodySF (plainFor_of_name own_pn_0) hisR ?_
  intro p e s m args below meth c s₁ Bd hml0 hP hK
  obtain ⟨rfl, hZ, hh⟩ := hP
  have hx := Bd.exec
  have hby := Bd.bytes
  have hlk := BodyLoose.notSynchronized Bd
  have hml : c.maxLocals = 8 := hml0
  have hown : s.vm.findClass "com/example/limfjord/limfjord/engine/LongQueueIsEmptyPinLaw" = some m.cls := (findClass_of_methodNamed Bd.named : s.vm.findClass x.cls = some m.cls)
  have hnm := (name_of_methodNamed Bd.named Bd.method).1
  have X0 : Stand p l e room_1 s m #[(.int p1), (.long q2), (.long q3)] below meth c s₁ [] 0 0 := Stand.of_body Bd
  have e0 : s₁.heap = h0 := by rw [← hh, Bd.state]; rfl
  have Nf := Fr.nil n0
  have Zs := Z0
  show own_Fin p e below s (own_Q0 Z p1 q2 q3 h0 n0) 16 2176 s₁ (entryFrame m #[(.int p1), (.long q2), (.long q3)] maxLocals)
  rw [own_ef_0 m p1 q2 q3]
  show own_Fin _ _ _ _ _ _ _ _ (mkF m 0 #[.val (.int p1), .val (.long q2), .second, .val (.long q3), .second, .unset, .unset, .unset] [])
  obtain ⟨T1, h1, X1, e1, E1, A1, D1, -, st1⟩ := newO X0 hx hZ hown (hw _ (List.mem_of_getElem? (i := 0) rfl)) (hw _ (List.mem_of_getElem? (i := 1) rfl)) (hw _ (List.mem_of_getElem? (i := 2) rfl)) e0 (g := (mkF m 0 #[.val (.int p1), .val (.long q2), .second, .val (.long q3), .second, .unset, .unset, .unset] [])) rfl (hb hby at_0) (by decide) (by decide)
  obtain ⟨b1, g1⟩ : ∃ z, z = h0.size := ⟨_, rfl⟩
  rw [← g1] at A1 D1 st1
  refine own_step st1 ?_
  have g_b1 : n0 ≤ b1 := Nat.le_trans Zs (Nat.le_of_eq g1.symm)
  replace Zs := Nat.le_trans Zs E1.1
  have E_b1 := A1
  have F_entries_b1 : Fld Z h1 b1 "com/example/limfjord/limfjord/engine/LongQueue" "entries" "[J" .null := D1 (Or.inl (hw _ (List.mem_of_getElem? (i := 11) rfl))) (ty := (.array .long)) (by decide)
  have F_head_b1 : Fld Z h1 b1 "com/example/limfjord/limfjord/engine/LongQueue" "head" "I" (.int (0 : Int32)) := D1 (Or.inl (hw _ (List.mem_of_getElem? (i := 18) rfl))) (ty := .int) (by decide)
  have F_tail_b1 : Fld Z h1 b1 "com/example/limfjord/limfjord/engine/LongQueue" "tail" "I" (.int (0 : Int32)) := D1 (Or.inl (hw _ (List.mem_of_getElem? (i := 20) rfl))) (ty := .int) (by decide)
  show own_Fin _ _ _ _ _ _ _ _ (mkF m 3 #[.val (.int p1), .val (.long q2), .second, .val (.long q3), .second, .unset, .unset, .unset] [(.ref b1)])
  refine own_step (fun t k => XS.dup X1.here hx rfl (hb hby at_3) rfl rfl k) ?_
  show own_Fin _ _ _ _ _ _ _ _ (mkF m 4 #[.val (.int p1), .val (.long q2), .second, .val (.long q3), .second, .unset, .unset, .unset] [(.ref b1), (.ref b1)])
  obtain ⟨_, _, ⟨T2, L2, k2, n2⟩, -, X2, ⟨Lc2, hQ2, l2, y2, z2⟩, st2⟩ := X1.specialBack hx (y := (⟨"com/example/limfjord/limfjord/engine/LongQueue", "<init>", "()V"⟩ : MethodName)) rfl hown (mvT hZ (hw _ (List.mem_of_getElem? (i := 3) rfl))) (mvT hZ (hw _ (List.mem_of_getElem? (i := 4) rfl))) (mvT hZ (hw _ (List.mem_of_getElem? (i := 5) rfl))) (by decide) (backOf (W := 1) (rm1 l Z a0 hw [] b1 h1 n0 Zs E_b1 F_entries_b1 F_head_b1 F_tail_b1 g_b1) hZ (hw _ (List.mem_of_getElem? (i := 5) rfl)) (hw _ (List.mem_of_getElem? (i := 2) rfl)) (by decide) (by decide)) (g := (mkF m 4 #[.val (.int p1), .val (.long q2), .second, .val (.long q3), .second, .unset, .unset, .unset] [(.ref b1), (.ref b1)])) rfl (by rw [hml]; rfl) (Steps.refl _) (a := b1) (argsL := []) (rest := [(.ref b1)]) (lenOf own_pd_2 rfl) rfl (by show 2 * 0 + _ ≤ _; exact Nat.le_of_eq rfl) (hb hby at_4) (fun _ _ => ⟨rfl, e1, (by decide : 1 + 1 ≤ _), (by decide : 3 + 1024 ≤ _)⟩)
  dsimp only [Pt.U, Pt.locs, Pt.cells, Pt.slots] at X2 l2 y2 z2 st2 hQ2
  subst l2 y2 z2
  obtain ⟨rfl, Nq2, Kq2, bq2, gq2, neq2, szq2, P2_0, P2_1, P2_2, P2_3, P2_4⟩ := hQ2
  replace Nf := Fr.app Nf Nq2
  replace E_b1 := P2_0
  replace F_entries_b1 := P2_1
  replace F_head_b1 := P2_2
  replace F_tail_b1 := P2_3
  have V_bq2 := P2_4
  replace Zs := Nat.le_trans Zs Kq2.1
  refine own_stepT st2 ?_
  show own_Fin _ _ _ _ _ _ _ _ (mkF m 7 #[.val (.int p1), .val (.long q2), .second, .val (.long q3), .second, .unset, .unset, .unset] [(.ref b1)])
  refine own_step (fun t k => XS.astore X2.here hx rfl (hb hby at_7) rfl rfl (l' := #[.val (.int p1), .val (.long q2), .second, .val (.long q3), .second, .val (.ref b1), .unset, .unset]) rfl k) ?_
  show own_Fin _ _ _ _ _ _ _ _ (mkF m 9 #[.val (.int p1), .val (.long q2), .second, .val (.long q3), .second, .val (.ref b1), .unset, .unset] [])
  refine own_step (fun t k => XS.iconst X2.here hx rfl (hb hby at_9) k) ?_
  show own_Fin _ _ _ _ _ _ _ _ (mkF m 10 #[.val (.int p1), .val (.long q2), .second, .val (.long q3), .second, .val (.ref b1), .unset, .unset] [(.int (0 : Int32))])
  refine own_step (fun t k => XS.istore X2.here hx rfl (hb hby at_10) rfl (l' := #[.val (.int p1), .val (.long q2), .second, .val (.long q3), .second, .val (.ref b1), .val (.int (0 : Int32)), .unset]) rfl k) ?_
  show own_Fin _ _ _ _ _ _ _ _ (mkF m 12 #[.val (.int p1), .val (.long q2), .second, .val (.long q3), .second, .val (.ref b1), .val (.int (0 : Int32)), .unset] [])
  refine own_step (fun t k => XS.aload X2.here hx rfl (hb hby at_12) rfl rfl k) ?_
  show own_Fin _ _ _ _ _ _ _ _ (mkF m 14 #[.val (.int p1), .val (.long q2), .second, .val (.long q3), .second, .val (.ref b1), .val (.int (0 : Int32)), .unset] [(.ref b1)])
  obtain ⟨cq3, kq3, q3a, q3b, q3c⟩ := isOf hZ rfl E_b1
  obtain ⟨_, _, ⟨T3, L3, k3, n3⟩, -, X3, ⟨Lc3, hQ3, l3, y3, z3⟩, st3⟩ := X2.virtualBack hx (y := (⟨"com/example/limfjord/limfjord/engine/LongQueue", "isEmpty", "()Z"⟩ : MethodName)) (z := (⟨"com/example/limfjord/limfjord/engine/LongQueue", "isEmpty", "()Z"⟩ : MethodName)) hown (mvT hZ (hw _ (List.mem_of_getElem? (i := 12) rfl))) (mvT hZ (hw _ (List.mem_of_getElem? (i := 13) rfl))) (notFace_of_selects (args := #[]) (mvT hZ (hw _ (List.mem_of_getElem? (i := 15) rfl)))) (mvT hZ (hw _ (List.mem_of_getElem? (i := 15) rfl))) (mvT hZ (hw _ (List.mem_of_getElem? (i := 14) rfl))) (by decide) (backOf (W := 0) (rm5 l Z a0 hw [] b1 _ _ T2.heap n0 Zs F_head_b1 F_tail_b1) hZ (hw _ (List.mem_of_getElem? (i := 16) rfl)) (hw _ (List.mem_of_getElem? (i := 2) rfl)) (by decide) (by decide)) q3a q3c (g := (mkF m 14 #[.val (.int p1), .val (.long q2), .second, .val (.long q3), .second, .val (.ref b1), .val (.int (0 : Int32)), .unset] [(.ref b1)])) rfl (by rw [hml]; rfl) (Steps.refl _) (argsL := []) (rest := []) (lenOf own_pd_3 rfl) rfl (by show 2 * 0 + _ ≤ _; exact Nat.le_of_eq rfl) (hb hby at_14) (fun _ _ => ⟨rfl, rfl, (by decide : 2 + 0 ≤ _), (by decide : 1027 + 0 ≤ _)⟩)
  dsimp only [Pt.U, Pt.locs, Pt.cells, Pt.slots] at X3 l3 y3 z3 st3 hQ3
  subst l3 y3 z3
  obtain ⟨r3, rfl, hB3, Nq3, hh3⟩ := hQ3
  replace Nf := Fr.app Nf Nq3
  refine own_stepT st3 ?_
  show own_Fin _ _ _ _ _ _ _ _ (mkF m 17 #[.val (.int p1), .val (.long q2), .second, .val (.long q3), .second, .val (.ref b1), .val (.int (0 : Int32)), .unset] [(.int r3)])
  refine own_step (fun t k => XS.istore X3.here hx rfl (hb hby at_17) rfl (l' := #[.val (.int p1), .val (.long q2), .second, .val (.long q3), .second, .val (.ref b1), .val (.int (0 : Int32)), .val (.int r3)]) rfl k) ?_
  show own_Fin _ _ _ _ _ _ _ _ (mkF m 19 #[.val (.int p1), .val (.long q2), .second, .val (.long q3), .second, .val (.ref b1), .val (.int (0 : Int32)), .val (.int r3)] [])
  refine own_step (fun t k => XS.aload X3.here hx rfl (hb hby at_19) rfl rfl k) ?_
  show own_Fin _ _ _ _ _ _ _ _ (mkF m 21 #[.val (.int p1), .val (.long q2), .second, .val (.long q3), .second, .val (.ref b1), .val (.int (0 : Int32)), .val (.int r3)] [(.ref b1)])
  refine own_step (fun t k => XS.iload X3.here hx rfl (hb hby at_21) rfl k) ?_
  show own_Fin _ _ _ _ _ _ _ _ (mkF m 23 #[.val (.int p1), .val (.long q2), .second, .val (.long q3), .second, .val (.ref b1), .val (.int (0 : Int32)), .val (.int r3)] [(.int (0 : Int32)), (.ref b1)])
  have j34 : ∀ wt : Int32, own_Fin p e below s (own_Q0 Z p1 q2 q3 h0 n0) 16 2176 T3 (mkF m 34 #[.val (.int p1), .val (.long q2), .second, .val (.long q3), .second, .val (.ref b1), .val (.int (0 : Int32)), .val (.int r3)] [(.int wt), (.int (0 : Int32)), (.ref b1)]) := by
    intro wt
    refine own_step (fun t k => XS.lloadN X3.here hx rfl (hb hby at_34) rfl k) ?_
    show own_Fin _ _ _ _ _ _ _ _ (mkF m 35 #[.val (.int p1), .val (.long q2), .second, .val (.long q3), .second, .val (.ref b1), .val (.int (0 : Int32)), .val (.int r3)] [(.long q2), (.int wt), (.int (0 : Int32)), (.ref b1)])
    obtain ⟨_, _, ⟨T4, L4, k4, n4⟩, -, X4, ⟨Lc4, hQ4, l4, y4, z4⟩, st4⟩ := Jvm.LawKit.callS X3 hx (y := (⟨"com/example/limfjord/limfjord/engine/LongQueueIsEmptyPinLaw", "step", "(Lcom/example/limfjord/limfjord/engine/LongQueue;IZJ)I"⟩ : MethodName)) hown (mvT hZ (hw _ (List.mem_of_getElem? (i := 21) rfl))) (mvT hZ (hw _ (List.mem_of_getElem? (i := 22) rfl))) (mvT hZ (hw _ (List.mem_of_getElem? (i := 23) rfl))) (mvT hZ (hw _ (List.mem_of_getElem? (i := 24) rfl))) (by decide) (backOf (W := 0) (rm7 l Z a0 hw [] b1 (0 : Int32) wt q2 _ _ _ _ T2.heap n0 Zs E_b1 F_entries_b1 F_head_b1 F_tail_b1 V_bq2 g_b1 gq2 neq2 (by decide) (Or.inr (by decide))) hZ (hw _ (List.mem_of_getElem? (i := 24) rfl)) (hw _ (List.mem_of_getElem? (i := 23) rfl)) (by decide) (by decide)) (g := (mkF m 35 #[.val (.int p1), .val (.long q2), .second, .val (.long q3), .second, .val (.ref b1), .val (.int (0 : Int32)), .val (.int r3)] [(.long q2), (.int wt), (.int (0 : Int32)), (.ref b1)])) rfl (by rw [hml]; rfl) (argsL := [(.ref b1), (.int (0 : Int32)), (.int wt), (.long q2)]) (rest := []) (lenOf own_pd_4 rfl) rfl (by show 2 * 0 + _ ≤ _; exact Nat.le_of_eq rfl) (hb hby at_35) (fun _ _ => ⟨rfl, hh3, (by decide : 2 + 0 ≤ _), (by decide : 1027 + 0 ≤ _)⟩)
    dsimp only [Pt.U, Pt.locs, Pt.cells, Pt.slots] at X4 l4 y4 z4 st4 hQ4
    subst l4 y4 z4
    obtain ⟨rfl, Nq4, Kq4, P4_0, P4_1, P4_2, P4_3, P4_4⟩ := hQ4
    replace Nf := Fr.app Nf Nq4
    replace E_b1 := P4_0
    replace F_entries_b1 := P4_1
    replace F_head_b1 := P4_2
    replace F_tail_b1 : Fld Z T4.heap b1 "com/example/limfjord/limfjord/engine/LongQueue" "tail" "I" (.int (1 : Int32)) := P4_3
    replace V_bq2 := P4_4
    replace Zs := Nat.le_trans Zs Kq4.1
    refine own_step st4 ?_
    show own_Fin _ _ _ _ _ _ _ _ (mkF m 38 #[.val (.int p1), .val (.long q2), .second, .val (.long q3), .second, .val (.ref b1), .val (.int (0 : Int32)), .val (.int r3)] [(.int ((0 : Int32) + (1 : Int32)))])
    refine own_step (fun t k => XS.istore X4.here hx rfl (hb hby at_38) rfl (l' := #[.val (.int p1), .val (.long q2), .second, .val (.long q3), .second, .val (.ref b1), .val (.int ((0 : Int32) + (1 : Int32))), .val (.int r3)]) rfl k) ?_
    show own_Fin _ _ _ _ _ _ _ _ (mkF m 40 #[.val (.int p1), .val (.long q2), .second, .val (.long q3), .second, .val (.ref b1), .val (.int ((0 : Int32) + (1 : Int32))), .val (.int r3)] [])
    show own_Fin _ _ _ _ _ _ _ _ (mkF m 40 #[.val (.int p1), .val (.long q2), .second, .val (.long q3), .second, .val (.ref b1), .val (.int (1 : Int32)), .val (.int r3)] [])
    refine own_step (fun t k => XS.iload X4.here hx rfl (hb hby at_40) rfl k) ?_
    show own_Fin _ _ _ _ _ _ _ _ (mkF m 42 #[.val (.int p1), .val (.long q2), .second, .val (.long q3), .second, .val (.ref b1), .val (.int (1 : Int32)), .val (.int r3)] [(.int r3)])
    have hc5 : ¬ ((r3).toInt = 0) := by
      rcases hB3 with ⟨q1, q2⟩ | ⟨q1, q2⟩
      · omega
      · exact absurd (by decide) q2
    refine own_step (fun t k => XS.ifNo X4.here hx rfl (hb hby at_42) rfl ((if0 _ _).trans (own_cu (x := r3) (y := (0 : Int32)) rfl rfl hc5).1) k) ?_
    show own_Fin _ _ _ _ _ _ _ _ (mkF m 45 #[.val (.int p1), .val (.long q2), .second, .val (.long q3), .second, .val (.ref b1), .val (.int (1 : Int32)), .val (.int r3)] [])
    refine own_step (fun t k => XS.aload X4.here hx rfl (hb hby at_45) rfl rfl k) ?_
    show own_Fin _ _ _ _ _ _ _ _ (mkF m 47 #[.val (.int p1), .val (.long q2), .second, .val (.long q3), .second, .val (.ref b1), .val (.int (1 : Int32)), .val (.int r3)] [(.ref b1)])
    obtain ⟨cq6, kq6, q6a, q6b, q6c⟩ := isOf hZ rfl E_b1
    obtain ⟨_, _, ⟨T6, L6, k6, n6⟩, -, X6, ⟨Lc6, hQ6, l6, y6, z6⟩, st6⟩ := X4.virtualBack hx (y := (⟨"com/example/limfjord/limfjord/engine/LongQueue", "isEmpty", "()Z"⟩ : MethodName)) (z := (⟨"com/example/limfjord/limfjord/engine/LongQueue", "isEmpty", "()Z"⟩ : MethodName)) hown (mvT hZ (hw _ (List.mem_of_getElem? (i := 12) rfl))) (mvT hZ (hw _ (List.mem_of_getElem? (i := 13) rfl))) (notFace_of_selects (args := #[]) (mvT hZ (hw _ (List.mem_of_getElem? (i := 15) rfl)))) (mvT hZ (hw _ (List.mem_of_getElem? (i := 15) rfl))) (mvT hZ (hw _ (List.mem_of_getElem? (i := 14) rfl))) (by decide) (backOf (W := 0) (rm5 l Z a0 hw [] b1 _ _ T4.heap n0 Zs F_head_b1 F_tail_b1) hZ (hw _ (List.mem_of_getElem? (i := 16) rfl)) (hw _ (List.mem_of_getElem? (i := 2) rfl)) (by decide) (by decide)) q6a q6c (g := (mkF m 47 #[.val (.int p1), .val (.long q2), .second, .val (.long q3), .second, .val (.ref b1), .val (.int (1 : Int32)), .val (.int r3)] [(.ref b1)])) rfl (by rw [hml]; rfl) (Steps.refl _) (argsL := []) (rest := []) (lenOf own_pd_3 rfl) rfl (by show 2 * 0 + _ ≤ _; exact Nat.le_of_eq rfl) (hb hby at_47) (fun _ _ => ⟨rfl, rfl, (by decide : 2 + 0 ≤ _), (by decide : 1027 + 0 ≤ _)⟩)
    dsimp only [Pt.U, Pt.locs, Pt.cells, Pt.slots] at X6 l6 y6 z6 st6 hQ6
    subst l6 y6 z6
    obtain ⟨r6, rfl, hB6, Nq6, hh6⟩ := hQ6
    replace Nf := Fr.app Nf Nq6
    refine own_stepT st6 ?_
    show own_Fin _ _ _ _ _ _ _ _ (mkF m 50 #[.val (.int p1), .val (.long q2), .second, .val (.long q3), .second, .val (.ref b1), .val (.int (1 : Int32)), .val (.int r3)] [(.int r6)])
    refine own_step (fun t k => XS.iload X6.here hx rfl (hb hby at_50) rfl k) ?_
    show own_Fin _ _ _ _ _ _ _ _ (mkF m 52 #[.val (.int p1), .val (.long q2), .second, .val (.long q3), .second, .val (.ref b1), .val (.int (1 : Int32)), .val (.int r3)] [(.int (1 : Int32)), (.int r6)])
    refine own_step (fun t k => XS.ifYes X6.here hx rfl (pc0 := 52) (pc' := 59) rfl (hb hby at_52) rfl (by decide) (by decide) (by decide) k) ?_
    show own_Fin _ _ _ _ _ _ _ _ (mkF m 59 #[.val (.int p1), .val (.long q2), .second, .val (.long q3), .second, .val (.ref b1), .val (.int (1 : Int32)), .val (.int r3)] [(.int r6)])
    refine own_step (fun t k => XS.iconst X6.here hx rfl (hb hby at_59) k) ?_
    show own_Fin _ _ _ _ _ _ _ _ (mkF m 60 #[.val (.int p1), .val (.long q2), .second, .val (.long q3), .second, .val (.ref b1), .val (.int (1 : Int32)), .val (.int r3)] [(.int (0 : Int32)), (.int r6)])
    have hc7 : (r6).toInt = 0 := by
      rcases hB6 with ⟨q1, q2⟩ | ⟨q1, q2⟩
      · exact absurd q2 (by decide)
      · exact q1
    refine own_step (fun t k => XS.icmpNo X6.here hx rfl (hb hby at_60) rfl (own_ce (x := r6) (y := (0 : Int32)) rfl rfl hc7).2 k) ?_
    show own_Fin _ _ _ _ _ _ _ _ (mkF m 63 #[.val (.int p1), .val (.long q2), .second, .val (.long q3), .second, .val (.ref b1), .val (.int (1 : Int32)), .val (.int r3)] [])
    refine own_step (fun t k => XS.iconst X6.here hx rfl (hb hby at_63) k) ?_
    show own_Fin _ _ _ _ _ _ _ _ (mkF m 64 #[.val (.int p1), .val (.long q2), .second, .val (.long q3), .second, .val (.ref b1), .val (.int (1 : Int32)), .val (.int r3)] [(.int (1 : Int32))])
    refine own_step (fun t k => XS.goto X6.here hx rfl (pc0 := 64) (pc' := 68) rfl (hb hby at_64) (by decide) (by decide) k) ?_
    show own_Fin _ _ _ _ _ _ _ _ (mkF m 68 #[.val (.int p1), .val (.long q2), .second, .val (.long q3), .second, .val (.ref b1), .val (.int (1 : Int32)), .val (.int r3)] [(.int (1 : Int32))])
    refine own_step (fun t k => XS.istore X6.here hx rfl (hb hby at_68) rfl (l' := #[.val (.int p1), .val (.long q2), .second, .val (.long q3), .second, .val (.ref b1), .val (.int (1 : Int32)), .val (.int (1 : Int32))]) rfl k) ?_
    show own_Fin _ _ _ _ _ _ _ _ (mkF m 70 #[.val (.int p1), .val (.long q2), .second, .val (.long q3), .second, .val (.ref b1), .val (.int (1 : Int32)), .val (.int (1 : Int32))] [])
    refine own_step (fun t k => XS.aload X6.here hx rfl (hb hby at_70) rfl rfl k) ?_
    show own_Fin _ _ _ _ _ _ _ _ (mkF m 72 #[.val (.int p1), .val (.long q2), .second, .val (.long q3), .second, .val (.ref b1), .val (.int (1 : Int32)), .val (.int (1 : Int32))] [(.ref b1)])
    refine own_step (fun t k => XS.iload X6.here hx rfl (hb hby at_72) rfl k) ?_
    show own_Fin _ _ _ _ _ _ _ _ (mkF m 74 #[.val (.int p1), .val (.long q2), .second, .val (.long q3), .second, .val (.ref b1), .val (.int (1 : Int32)), .val (.int (1 : Int32))] [(.int (1 : Int32)), (.ref b1)])
    refine own_step (fun t k => XS.iloadN X6.here hx rfl (hb hby at_74) rfl k) ?_
    show own_Fin _ _ _ _ _ _ _ _ (mkF m 75 #[.val (.int p1), .val (.long q2), .second, .val (.long q3), .second, .val (.ref b1), .val (.int (1 : Int32)), .val (.int (1 : Int32))] [(.int p1), (.int (1 : Int32)), (.ref b1)])
    refine own_step (fun t k => XS.iconst X6.here hx rfl (hb hby at_75) k) ?_
    show own_Fin _ _ _ _ _ _ _ _ (mkF m 76 #[.val (.int p1), .val (.long q2), .second, .val (.long q3), .second, .val (.ref b1), .val (.int (1 : Int32)), .val (.int (1 : Int32))] [(.int (2 : Int32)), (.int p1), (.int (1 : Int32)), (.ref b1)])
    refine own_step (fun t k => XS.iand X6.here hx rfl (hb hby at_76) rfl k) ?_
    show own_Fin _ _ _ _ _ _ _ _ (mkF m 77 #[.val (.int p1), .val (.long q2), .second, .val (.long q3), .second, .val (.ref b1), .val (.int (1 : Int32)), .val (.int (1 : Int32))] [(.int (p1 &&& (2 : Int32))), (.int (1 : Int32)), (.ref b1)])
    by_cases hc8 : ((p1 &&& (2 : Int32))).toInt = 0
    · skip
      refine own_step (fun t k => XS.ifYes X6.here hx rfl (pc0 := 77) (pc' := 84) rfl (hb hby at_77) rfl ((if0 _ _).trans (own_ce (x := (p1 &&& (2 : Int32))) (y := (0 : Int32)) rfl rfl hc8).1) (by decide) (by decide) k) ?_
      show own_Fin _ _ _ _ _ _ _ _ (mkF m 84 #[.val (.int p1), .val (.long q2), .second, .val (.long q3), .second, .val (.ref b1), .val (.int (1 : Int32)), .val (.int (1 : Int32))] [(.int (1 : Int32)), (.ref b1)])
      refine own_step (fun t k => XS.iconst X6.here hx rfl (hb hby at_84) k) ?_
      show own_Fin _ _ _ _ _ _ _ _ (mkF m 85 #[.val (.int p1), .val (.long q2), .second, .val (.long q3), .second, .val (.ref b1), .val (.int (1 : Int32)), .val (.int (1 : Int32))] [(.int (0 : Int32)), (.int (1 : Int32)), (.ref b1)])
      refine own_step (fun t k => XS.lloadN X6.here hx rfl (hb hby at_85) rfl k) ?_
      show own_Fin _ _ _ _ _ _ _ _ (mkF m 86 #[.val (.int p1), .val (.long q2), .second, .val (.long q3), .second, .val (.ref b1), .val (.int (1 : Int32)), .val (.int (1 : Int32))] [(.long q3), (.int (0 : Int32)), (.int (1 : Int32)), (.ref b1)])
      obtain ⟨_, _, ⟨T9, L9, k9, n9⟩, -, X9, ⟨Lc9, hQ9, l9, y9, z9⟩, st9⟩ := Jvm.LawKit.callS X6 hx (y := (⟨"com/example/limfjord/limfjord/engine/LongQueueIsEmptyPinLaw", "step", "(Lcom/example/limfjord/limfjord/engine/LongQueue;IZJ)I"⟩ : MethodName)) hown (mvT hZ (hw _ (List.mem_of_getElem? (i := 21) rfl))) (mvT hZ (hw _ (List.mem_of_getElem? (i := 22) rfl))) (mvT hZ (hw _ (List.mem_of_getElem? (i := 23) rfl))) (mvT hZ (hw _ (List.mem_of_getElem? (i := 24) rfl))) (by decide) (backOf (W := 0) (rm7 l Z a0 hw [] b1 (1 : Int32) (0 : Int32) q3 _ _ _ _ T4.heap n0 Zs E_b1 F_entries_b1 F_head_b1 F_tail_b1 V_bq2 g_b1 gq2 neq2 (by decide) (by decide)) hZ (hw _ (List.mem_of_getElem? (i := 24) rfl)) (hw _ (List.mem_of_getElem? (i := 23) rfl)) (by decide) (by decide)) (g := (mkF m 86 #[.val (.int p1), .val (.long q2), .second, .val (.long q3), .second, .val (.ref b1), .val (.int (1 : Int32)), .val (.int (1 : Int32))] [(.long q3), (.int (0 : Int32)), (.int (1 : Int32)), (.ref b1)])) rfl (by rw [hml]; rfl) (argsL := [(.ref b1), (.int (1 : Int32)), (.int (0 : Int32)), (.long q3)]) (rest := []) (lenOf own_pd_4 rfl) rfl (by show 2 * 0 + _ ≤ _; exact Nat.le_of_eq rfl) (hb hby at_86) (fun _ _ => ⟨rfl, hh6, (by decide : 2 + 0 ≤ _), (by decide : 1027 + 0 ≤ _)⟩)
      dsimp only [Pt.U, Pt.locs, Pt.cells, Pt.slots] at X9 l9 y9 z9 st9 hQ9
      subst l9 y9 z9
      obtain ⟨rfl, Nq9, Kq9, P9_0, P9_1, P9_2, P9_3, P9_4⟩ := hQ9
      replace Nf := Fr.app Nf Nq9
      replace E_b1 := P9_0
      replace F_entries_b1 := P9_1
      replace F_head_b1 := P9_2
      replace F_tail_b1 : Fld Z T9.heap b1 "com/example/limfjord/limfjord/engine/LongQueue" "tail" "I" (.int (2 : Int32)) := P9_3
      replace V_bq2 := P9_4
      replace Zs := Nat.le_trans Zs Kq9.1
      refine own_step st9 ?_
      show own_Fin _ _ _ _ _ _ _ _ (mkF m 89 #[.val (.int p1), .val (.long q2), .second, .val (.long q3), .second, .val (.ref b1), .val (.int (1 : Int32)), .val (.int (1 : Int32))] [(.int ((1 : Int32) + (1 : Int32)))])
      refine own_step (fun t k => XS.istore X9.here hx rfl (hb hby at_89) rfl (l' := #[.val (.int p1), .val (.long q2), .second, .val (.long q3), .second, .val (.ref b1), .val (.int ((1 : Int32) + (1 : Int32))), .val (.int (1 : Int32))]) rfl k) ?_
      show own_Fin _ _ _ _ _ _ _ _ (mkF m 91 #[.val (.int p1), .val (.long q2), .second, .val (.long q3), .second, .val (.ref b1), .val (.int ((1 : Int32) + (1 : Int32))), .val (.int (1 : Int32))] [])
      show own_Fin _ _ _ _ _ _ _ _ (mkF m 91 #[.val (.int p1), .val (.long q2), .second, .val (.long q3), .second, .val (.ref b1), .val (.int (2 : Int32)), .val (.int (1 : Int32))] [])
      refine own_step (fun t k => XS.iload X9.here hx rfl (hb hby at_91) rfl k) ?_
      show own_Fin _ _ _ _ _ _ _ _ (mkF m 93 #[.val (.int p1), .val (.long q2), .second, .val (.long q3), .second, .val (.ref b1), .val (.int (2 : Int32)), .val (.int (1 : Int32))] [(.int (1 : Int32))])
      refine own_step (fun t k => XS.ifNo X9.here hx rfl (hb hby at_93) rfl (by decide) k) ?_
      show own_Fin _ _ _ _ _ _ _ _ (mkF m 96 #[.val (.int p1), .val (.long q2), .second, .val (.long q3), .second, .val (.ref b1), .val (.int (2 : Int32)), .val (.int (1 : Int32))] [])
      refine own_step (fun t k => XS.aload X9.here hx rfl (hb hby at_96) rfl rfl k) ?_
      show own_Fin _ _ _ _ _ _ _ _ (mkF m 98 #[.val (.int p1), .val (.long q2), .second, .val (.long q3), .second, .val (.ref b1), .val (.int (2 : Int32)), .val (.int (1 : Int32))] [(.ref b1)])
      obtain ⟨cq10, kq10, q10a, q10b, q10c⟩ := isOf hZ rfl E_b1
      obtain ⟨_, _, ⟨T10, L10, k10, n10⟩, -, X10, ⟨Lc10, hQ10, l10, y10, z10⟩, st10⟩ := X9.virtualBack hx (y := (⟨"com/example/limfjord/limfjord/engine/LongQueue", "isEmpty", "()Z"⟩ : MethodName)) (z := (⟨"com/example/limfjord/limfjord/engine/LongQueue", "isEmpty", "()Z"⟩ : MethodName)) hown (mvT hZ (hw _ (List.mem_of_getElem? (i := 12) rfl))) (mvT hZ (hw _ (List.mem_of_getElem? (i := 13) rfl))) (notFace_of_selects (args := #[]) (mvT hZ (hw _ (List.mem_of_getElem? (i := 15) rfl)))) (mvT hZ (hw _ (List.mem_of_getElem? (i := 15) rfl))) (mvT hZ (hw _ (List.mem_of_getElem? (i := 14) rfl))) (by decide) (backOf (W := 0) (rm5 l Z a0 hw [] b1 _ _ T9.heap n0 Zs F_head_b1 F_tail_b1) hZ (hw _ (List.mem_of_getElem? (i := 16) rfl)) (hw _ (List.mem_of_getElem? (i := 2) rfl)) (by decide) (by decide)) q10a q10c (g := (mkF m 98 #[.val (.int p1), .val (.long q2), .second, .val (.long q3), .second, .val (.ref b1), .val (.int (2 : Int32)), .val (.int (1 : Int32))] [(.ref b1)])) rfl (by rw [hml]; rfl) (Steps.refl _) (argsL := []) (rest := []) (lenOf own_pd_3 rfl) rfl (by show 2 * 0 + _ ≤ _; exact Nat.le_of_eq rfl) (hb hby at_98) (fun _ _ => ⟨rfl, rfl, (by decide : 2 + 0 ≤ _), (by decide : 1027 + 0 ≤ _)⟩)
      dsimp only [Pt.U, Pt.locs, Pt.cells, Pt.slots] at X10 l10 y10 z10 st10 hQ10
      subst l10 y10 z10
      obtain ⟨r10, rfl, hB10, Nq10, hh10⟩ := hQ10
      replace Nf := Fr.app Nf Nq10
      refine own_stepT st10 ?_
      show own_Fin _ _ _ _ _ _ _ _ (mkF m 101 #[.val (.int p1), .val (.long q2), .second, .val (.long q3), .second, .val (.ref b1), .val (.int (2 : Int32)), .val (.int (1 : Int32))] [(.int r10)])
      refine own_step (fun t k => XS.iload X10.here hx rfl (hb hby at_101) rfl k) ?_
      show own_Fin _ _ _ _ _ _ _ _ (mkF m 103 #[.val (.int p1), .val (.long q2), .second, .val (.long q3), .second, .val (.ref b1), .val (.int (2 : Int32)), .val (.int (1 : Int32))] [(.int (2 : Int32)), (.int r10)])
      refine own_step (fun t k => XS.ifYes X10.here hx rfl (pc0 := 103) (pc' := 110) rfl (hb hby at_103) rfl (by decide) (by decide) (by decide) k) ?_
      show own_Fin _ _ _ _ _ _ _ _ (mkF m 110 #[.val (.int p1), .val (.long q2), .second, .val (.long q3), .second, .val (.ref b1), .val (.int (2 : Int32)), .val (.int (1 : Int32))] [(.int r10)])
      refine own_step (fun t k => XS.iconst X10.here hx rfl (hb hby at_110) k) ?_
      show own_Fin _ _ _ _ _ _ _ _ (mkF m 111 #[.val (.int p1), .val (.long q2), .second, .val (.long q3), .second, .val (.ref b1), .val (.int (2 : Int32)), .val (.int (1 : Int32))] [(.int (0 : Int32)), (.int r10)])
      have hc11 : (r10).toInt = 0 := by
        rcases hB10 with ⟨q1, q2⟩ | ⟨q1, q2⟩
        · exact absurd q2 (by decide)
        · exact q1
      refine own_step (fun t k => XS.icmpNo X10.here hx rfl (hb hby at_111) rfl (own_ce (x := r10) (y := (0 : Int32)) rfl rfl hc11).2 k) ?_
      show own_Fin _ _ _ _ _ _ _ _ (mkF m 114 #[.val (.int p1), .val (.long q2), .second, .val (.long q3), .second, .val (.ref b1), .val (.int (2 : Int32)), .val (.int (1 : Int32))] [])
      refine own_step (fun t k => XS.iconst X10.here hx rfl (hb hby at_114) k) ?_
      show own_Fin _ _ _ _ _ _ _ _ (mkF m 115 #[.val (.int p1), .val (.long q2), .second, .val (.long q3), .second, .val (.ref b1), .val (.int (2 : Int32)), .val (.int (1 : Int32))] [(.int (1 : Int32))])
      refine own_step (fun t k => XS.goto X10.here hx rfl (pc0 := 115) (pc' := 119) rfl (hb hby at_115) (by decide) (by decide) k) ?_
      show own_Fin _ _ _ _ _ _ _ _ (mkF m 119 #[.val (.int p1), .val (.long q2), .second, .val (.long q3), .second, .val (.ref b1), .val (.int (2 : Int32)), .val (.int (1 : Int32))] [(.int (1 : Int32))])
      refine own_step (fun t k => XS.istore X10.here hx rfl (hb hby at_119) rfl (l' := #[.val (.int p1), .val (.long q2), .second, .val (.long q3), .second, .val (.ref b1), .val (.int (2 : Int32)), .val (.int (1 : Int32))]) rfl k) ?_
      show own_Fin _ _ _ _ _ _ _ _ (mkF m 121 #[.val (.int p1), .val (.long q2), .second, .val (.long q3), .second, .val (.ref b1), .val (.int (2 : Int32)), .val (.int (1 : Int32))] [])
      refine own_step (fun t k => XS.aload X10.here hx rfl (hb hby at_121) rfl rfl k) ?_
      show own_Fin _ _ _ _ _ _ _ _ (mkF m 123 #[.val (.int p1), .val (.long q2), .second, .val (.long q3), .second, .val (.ref b1), .val (.int (2 : Int32)), .val (.int (1 : Int32))] [(.ref b1)])
      refine own_step (fun t k => XS.iload X10.here hx rfl (hb hby at_123) rfl k) ?_
      show own_Fin _ _ _ _ _ _ _ _ (mkF m 125 #[.val (.int p1), .val (.long q2), .second, .val (.long q3), .second, .val (.ref b1), .val (.int (2 : Int32)), .val (.int (1 : Int32))] [(.int (2 : Int32)), (.ref b1)])
      refine own_step (fun t k => XS.iloadN X10.here hx rfl (hb hby at_125) rfl k) ?_
      show own_Fin _ _ _ _ _ _ _ _ (mkF m 126 #[.val (.int p1), .val (.long q2), .second, .val (.long q3), .second, .val (.ref b1), .val (.int (2 : Int32)), .val (.int (1 : Int32))] [(.int p1), (.int (2 : Int32)), (.ref b1)])
      refine own_step (fun t k => XS.iconst X10.here hx rfl (hb hby at_126) k) ?_
      show own_Fin _ _ _ _ _ _ _ _ (mkF m 127 #[.val (.int p1), .val (.long q2), .second, .val (.long q3), .second, .val (.ref b1), .val (.int (2 : Int32)), .val (.int (1 : Int32))] [(.int (4 : Int32)), (.int p1), (.int (2 : Int32)), (.ref b1)])
      refine own_step (fun t k => XS.iand X10.here hx rfl (hb hby at_127) rfl k) ?_
      show own_Fin _ _ _ _ _ _ _ _ (mkF m 128 #[.val (.int p1), .val (.long q2), .second, .val (.long q3), .second, .val (.ref b1), .val (.int (2 : Int32)), .val (.int (1 : Int32))] [(.int (p1 &&& (4 : Int32))), (.int (2 : Int32)), (.ref b1)])
      by_cases hc12 : ((p1 &&& (4 : Int32))).toInt = 0
      · skip
        refine own_step (fun t k => XS.ifYes X10.here hx rfl (pc0 := 128) (pc' := 135) rfl (hb hby at_128) rfl ((if0 _ _).trans (own_ce (x := (p1 &&& (4 : Int32))) (y := (0 : Int32)) rfl rfl hc12).1) (by decide) (by decide) k) ?_
        show own_Fin _ _ _ _ _ _ _ _ (mkF m 135 #[.val (.int p1), .val (.long q2), .second, .val (.long q3), .second, .val (.ref b1), .val (.int (2 : Int32)), .val (.int (1 : Int32))] [(.int (2 : Int32)), (.ref b1)])
        refine own_step (fun t k => XS.iconst X10.here hx rfl (hb hby at_135) k) ?_
        show own_Fin _ _ _ _ _ _ _ _ (mkF m 136 #[.val (.int p1), .val (.long q2), .second, .val (.long q3), .second, .val (.ref b1), .val (.int (2 : Int32)), .val (.int (1 : Int32))] [(.int (0 : Int32)), (.int (2 : Int32)), (.ref b1)])
        refine own_step (fun t k => XS.lloadN X10.here hx rfl (hb hby at_136) rfl k) ?_
        show own_Fin _ _ _ _ _ _ _ _ (mkF m 137 #[.val (.int p1), .val (.long q2), .second, .val (.long q3), .second, .val (.ref b1), .val (.int (2 : Int32)), .val (.int (1 : Int32))] [(.long q2), (.int (0 : Int32)), (.int (2 : Int32)), (.ref b1)])
        refine own_step (fun t k => XS.lloadN X10.here hx rfl (hb hby at_137) rfl k) ?_
        show own_Fin _ _ _ _ _ _ _ _ (mkF m 138 #[.val (.int p1), .val (.long q2), .second, .val (.long q3), .second, .val (.ref b1), .val (.int (2 : Int32)), .val (.int (1 : Int32))] [(.long q3), (.long q2), (.int (0 : Int32)), (.int (2 : Int32)), (.ref b1)])
        refine own_step (fun t k => XS.lxor X10.here hx rfl (hb hby at_138) rfl k) ?_
        show own_Fin _ _ _ _ _ _ _ _ (mkF m 139 #[.val (.int p1), .val (.long q2), .second, .val (.long q3), .second, .val (.ref b1), .val (.int (2 : Int32)), .val (.int (1 : Int32))] [(.long (q2 ^^^ q3)), (.int (0 : Int32)), (.int (2 : Int32)), (.ref b1)])
        obtain ⟨_, _, ⟨T13, L13, k13, n13⟩, -, X13, ⟨Lc13, hQ13, l13, y13, z13⟩, st13⟩ := Jvm.LawKit.callS X10 hx (y := (⟨"com/example/limfjord/limfjord/engine/LongQueueIsEmptyPinLaw", "step", "(Lcom/example/limfjord/limfjord/engine/LongQueue;IZJ)I"⟩ : MethodName)) hown (mvT hZ (hw _ (List.mem_of_getElem? (i := 21) rfl))) (mvT hZ (hw _ (List.mem_of_getElem? (i := 22) rfl))) (mvT hZ (hw _ (List.mem_of_getElem? (i := 23) rfl))) (mvT hZ (hw _ (List.mem_of_getElem? (i := 24) rfl))) (by decide) (backOf (W := 0) (rm7 l Z a0 hw [] b1 (2 : Int32) (0 : Int32) (q2 ^^^ q3) _ _ _ _ T9.heap n0 Zs E_b1 F_entries_b1 F_head_b1 F_tail_b1 V_bq2 g_b1 gq2 neq2 (by decide) (by decide)) hZ (hw _ (List.mem_of_getElem? (i := 24) rfl)) (hw _ (List.mem_of_getElem? (i := 23) rfl)) (by decide) (by decide)) (g := (mkF m 139 #[.val (.int p1), .val (.long q2), .second, .val (.long q3), .second, .val (.ref b1), .val (.int (2 : Int32)), .val (.int (1 : Int32))] [(.long (q2 ^^^ q3)), (.int (0 : Int32)), (.int (2 : Int32)), (.ref b1)])) rfl (by rw [hml]; rfl) (argsL := [(.ref b1), (.int (2 : Int32)), (.int (0 : Int32)), (.long (q2 ^^^ q3))]) (rest := []) (lenOf own_pd_4 rfl) rfl (by show 2 * 0 + _ ≤ _; exact Nat.le_of_eq rfl) (hb hby at_139) (fun _ _ => ⟨rfl, hh10, (by decide : 2 + 0 ≤ _), (by decide : 1027 + 0 ≤ _)⟩)
        dsimp only [Pt.U, Pt.locs, Pt.cells, Pt.slots] at X13 l13 y13 z13 st13 hQ13
        subst l13 y13 z13
        obtain ⟨rfl, Nq13, Kq13, P13_0, P13_1, P13_2, P13_3, P13_4⟩ := hQ13
        replace Nf := Fr.app Nf Nq13
        replace E_b1 := P13_0
        replace F_entries_b1 := P13_1
        replace F_head_b1 := P13_2
        replace F_tail_b1 : Fld Z T13.heap b1 "com/example/limfjord/limfjord/engine/LongQueue" "tail" "I" (.int (3 : Int32)) := P13_3
        replace V_bq2 := P13_4
        replace Zs := Nat.le_trans Zs Kq13.1
        refine own_step st13 ?_
        show own_Fin _ _ _ _ _ _ _ _ (mkF m 142 #[.val (.int p1), .val (.long q2), .second, .val (.long q3), .second, .val (.ref b1), .val (.int (2 : Int32)), .val (.int (1 : Int32))] [(.int ((2 : Int32) + (1 : Int32)))])
        refine own_step (fun t k => XS.istore X13.here hx rfl (hb hby at_142) rfl (l' := #[.val (.int p1), .val (.long q2), .second, .val (.long q3), .second, .val (.ref b1), .val (.int ((2 : Int32) + (1 : Int32))), .val (.int (1 : Int32))]) rfl k) ?_
        show own_Fin _ _ _ _ _ _ _ _ (mkF m 144 #[.val (.int p1), .val (.long q2), .second, .val (.long q3), .second, .val (.ref b1), .val (.int ((2 : Int32) + (1 : Int32))), .val (.int (1 : Int32))] [])
        show own_Fin _ _ _ _ _ _ _ _ (mkF m 144 #[.val (.int p1), .val (.long q2), .second, .val (.long q3), .second, .val (.ref b1), .val (.int (3 : Int32)), .val (.int (1 : Int32))] [])
        refine own_step (fun t k => XS.iload X13.here hx rfl (hb hby at_144) rfl k) ?_
        show own_Fin _ _ _ _ _ _ _ _ (mkF m 146 #[.val (.int p1), .val (.long q2), .second, .val (.long q3), .second, .val (.ref b1), .val (.int (3 : Int32)), .val (.int (1 : Int32))] [(.int (1 : Int32))])
        refine own_step (fun t k => XS.ifNo X13.here hx rfl (hb hby at_146) rfl (by decide) k) ?_
        show own_Fin _ _ _ _ _ _ _ _ (mkF m 149 #[.val (.int p1), .val (.long q2), .second, .val (.long q3), .second, .val (.ref b1), .val (.int (3 : Int32)), .val (.int (1 : Int32))] [])
        refine own_step (fun t k => XS.aload X13.here hx rfl (hb hby at_149) rfl rfl k) ?_
        show own_Fin _ _ _ _ _ _ _ _ (mkF m 151 #[.val (.int p1), .val (.long q2), .second, .val (.long q3), .second, .val (.ref b1), .val (.int (3 : Int32)), .val (.int (1 : Int32))] [(.ref b1)])
        obtain ⟨cq14, kq14, q14a, q14b, q14c⟩ := isOf hZ rfl E_b1
        obtain ⟨_, _, ⟨T14, L14, k14, n14⟩, -, X14, ⟨Lc14, hQ14, l14, y14, z14⟩, st14⟩ := X13.virtualBack hx (y := (⟨"com/example/limfjord/limfjord/engine/LongQueue", "isEmpty", "()Z"⟩ : MethodName)) (z := (⟨"com/example/limfjord/limfjord/engine/LongQueue", "isEmpty", "()Z"⟩ : MethodName)) hown (mvT hZ (hw _ (List.mem_of_getElem? (i := 12) rfl))) (mvT hZ (hw _ (List.mem_of_getElem? (i := 13) rfl))) (notFace_of_selects (args := #[]) (mvT hZ (hw _ (List.mem_of_getElem? (i := 15) rfl)))) (mvT hZ (hw _ (List.mem_of_getElem? (i := 15) rfl))) (mvT hZ (hw _ (List.mem_of_getElem? (i := 14) rfl))) (by decide) (backOf (W := 0) (rm5 l Z a0 hw [] b1 _ _ T13.heap n0 Zs F_head_b1 F_tail_b1) hZ (hw _ (List.mem_of_getElem? (i := 16) rfl)) (hw _ (List.mem_of_getElem? (i := 2) rfl)) (by decide) (by decide)) q14a q14c (g := (mkF m 151 #[.val (.int p1), .val (.long q2), .second, .val (.long q3), .second, .val (.ref b1), .val (.int (3 : Int32)), .val (.int (1 : Int32))] [(.ref b1)])) rfl (by rw [hml]; rfl) (Steps.refl _) (argsL := []) (rest := []) (lenOf own_pd_3 rfl) rfl (by show 2 * 0 + _ ≤ _; exact Nat.le_of_eq rfl) (hb hby at_151) (fun _ _ => ⟨rfl, rfl, (by decide : 2 + 0 ≤ _), (by decide : 1027 + 0 ≤ _)⟩)
        dsimp only [Pt.U, Pt.locs, Pt.cells, Pt.slots] at X14 l14 y14 z14 st14 hQ14
        subst l14 y14 z14
        obtain ⟨r14, rfl, hB14, Nq14, hh14⟩ := hQ14
        replace Nf := Fr.app Nf Nq14
        refine own_stepT st14 ?_
        show own_Fin _ _ _ _ _ _ _ _ (mkF m 154 #[.val (.int p1), .val (.long q2), .second, .val (.long q3), .second, .val (.ref b1), .val (.int (3 : Int32)), .val (.int (1 : Int32))] [(.int r14)])
        refine own_step (fun t k => XS.iload X14.here hx rfl (hb hby at_154) rfl k) ?_
        show own_Fin _ _ _ _ _ _ _ _ (mkF m 156 #[.val (.int p1), .val (.long q2), .second, .val (.long q3), .second, .val (.ref b1), .val (.int (3 : Int32)), .val (.int (1 : Int32))] [(.int (3 : Int32)), (.int r14)])
        refine own_step (fun t k => XS.ifYes X14.here hx rfl (pc0 := 156) (pc' := 163) rfl (hb hby at_156) rfl (by decide) (by decide) (by decide) k) ?_
        show own_Fin _ _ _ _ _ _ _ _ (mkF m 163 #[.val (.int p1), .val (.long q2), .second, .val (.long q3), .second, .val (.ref b1), .val (.int (3 : Int32)), .val (.int (1 : Int32))] [(.int r14)])
        refine own_step (fun t k => XS.iconst X14.here hx rfl (hb hby at_163) k) ?_
        show own_Fin _ _ _ _ _ _ _ _ (mkF m 164 #[.val (.int p1), .val (.long q2), .second, .val (.long q3), .second, .val (.ref b1), .val (.int (3 : Int32)), .val (.int (1 : Int32))] [(.int (0 : Int32)), (.int r14)])
        have hc15 : (r14).toInt = 0 := by
          rcases hB14 with ⟨q1, q2⟩ | ⟨q1, q2⟩
          · exact absurd q2 (by decide)
          · exact q1
        refine own_step (fun t k => XS.icmpNo X14.here hx rfl (hb hby at_164) rfl (own_ce (x := r14) (y := (0 : Int32)) rfl rfl hc15).2 k) ?_
        show own_Fin _ _ _ _ _ _ _ _ (mkF m 167 #[.val (.int p1), .val (.long q2), .second, .val (.long q3), .second, .val (.ref b1), .val (.int (3 : Int32)), .val (.int (1 : Int32))] [])
        refine own_step (fun t k => XS.iconst X14.here hx rfl (hb hby at_167) k) ?_
        show own_Fin _ _ _ _ _ _ _ _ (mkF m 168 #[.val (.int p1), .val (.long q2), .second, .val (.long q3), .second, .val (.ref b1), .val (.int (3 : Int32)), .val (.int (1 : Int32))] [(.int (1 : Int32))])
        refine own_step (fun t k => XS.goto X14.here hx rfl (pc0 := 168) (pc' := 172) rfl (hb hby at_168) (by decide) (by decide) k) ?_
        show own_Fin _ _ _ _ _ _ _ _ (mkF m 172 #[.val (.int p1), .val (.long q2), .second, .val (.long q3), .second, .val (.ref b1), .val (.int (3 : Int32)), .val (.int (1 : Int32))] [(.int (1 : Int32))])
        refine own_step (fun t k => XS.istore X14.here hx rfl (hb hby at_172) rfl (l' := #[.val (.int p1), .val (.long q2), .second, .val (.long q3), .second, .val (.ref b1), .val (.int (3 : Int32)), .val (.int (1 : Int32))]) rfl k) ?_
        show own_Fin _ _ _ _ _ _ _ _ (mkF m 174 #[.val (.int p1), .val (.long q2), .second, .val (.long q3), .second, .val (.ref b1), .val (.int (3 : Int32)), .val (.int (1 : Int32))] [])
        refine own_step (fun t k => XS.aload X14.here hx rfl (hb hby at_174) rfl rfl k) ?_
        show own_Fin _ _ _ _ _ _ _ _ (mkF m 176 #[.val (.int p1), .val (.long q2), .second, .val (.long q3), .second, .val (.ref b1), .val (.int (3 : Int32)), .val (.int (1 : Int32))] [(.ref b1)])
        refine own_step (fun t k => XS.iload X14.here hx rfl (hb hby at_176) rfl k) ?_
        show own_Fin _ _ _ _ _ _ _ _ (mkF m 178 #[.val (.int p1), .val (.long q2), .second, .val (.long q3), .second, .val (.ref b1), .val (.int (3 : Int32)), .val (.int (1 : Int32))] [(.int (3 : Int32)), (.ref b1)])
        refine own_step (fun t k => XS.iloadN X14.here hx rfl (hb hby at_178) rfl k) ?_
        show own_Fin _ _ _ _ _ _ _ _ (mkF m 179 #[.val (.int p1), .val (.long q2), .second, .val (.long q3), .second, .val (.ref b1), .val (.int (3 : Int32)), .val (.int (1 : Int32))] [(.int p1), (.int (3 : Int32)), (.ref b1)])
        refine own_step (fun t k => XS.bipush X14.here hx rfl (hb hby at_179) k) ?_
        show own_Fin _ _ _ _ _ _ _ _ (mkF m 181 #[.val (.int p1), .val (.long q2), .second, .val (.long q3), .second, .val (.ref b1), .val (.int (3 : Int32)), .val (.int (1 : Int32))] [(.int (8 : Int32)), (.int p1), (.int (3 : Int32)), (.ref b1)])
        refine own_step (fun t k => XS.iand X14.here hx rfl (hb hby at_181) rfl k) ?_
        show own_Fin _ _ _ _ _ _ _ _ (mkF m 182 #[.val (.int p1), .val (.long q2), .second, .val (.long q3), .second, .val (.ref b1), .val (.int (3 : Int32)), .val (.int (1 : Int32))] [(.int (p1 &&& (8 : Int32))), (.int (3 : Int32)), (.ref b1)])
        by_cases hc16 : ((p1 &&& (8 : Int32))).toInt = 0
        · skip
          refine own_step (fun t k => XS.ifYes X14.here hx rfl (pc0 := 182) (pc' := 189) rfl (hb hby at_182) rfl ((if0 _ _).trans (own_ce (x := (p1 &&& (8 : Int32))) (y := (0 : Int32)) rfl rfl hc16).1) (by decide) (by decide) k) ?_
          show own_Fin _ _ _ _ _ _ _ _ (mkF m 189 #[.val (.int p1), .val (.long q2), .second, .val (.long q3), .second, .val (.ref b1), .val (.int (3 : Int32)), .val (.int (1 : Int32))] [(.int (3 : Int32)), (.ref b1)])
          refine own_step (fun t k => XS.iconst X14.here hx rfl (hb hby at_189) k) ?_
          show own_Fin _ _ _ _ _ _ _ _ (mkF m 190 #[.val (.int p1), .val (.long q2), .second, .val (.long q3), .second, .val (.ref b1), .val (.int (3 : Int32)), .val (.int (1 : Int32))] [(.int (0 : Int32)), (.int (3 : Int32)), (.ref b1)])
          refine own_step (fun t k => XS.lloadN X14.here hx rfl (hb hby at_190) rfl k) ?_
          show own_Fin _ _ _ _ _ _ _ _ (mkF m 191 #[.val (.int p1), .val (.long q2), .second, .val (.long q3), .second, .val (.ref b1), .val (.int (3 : Int32)), .val (.int (1 : Int32))] [(.long q2), (.int (0 : Int32)), (.int (3 : Int32)), (.ref b1)])
          refine own_step (fun t k => X14.ldc2Long hx hown (mvT hZ (hw _ (List.mem_of_getElem? (i := 30) rfl))) (g := (mkF m 191 #[.val (.int p1), .val (.long q2), .second, .val (.long q3), .second, .val (.ref b1), .val (.int (3 : Int32)), .val (.int (1 : Int32))] [(.long q2), (.int (0 : Int32)), (.int (3 : Int32)), (.ref b1)])) rfl (hb hby at_191) _ k) ?_
          show own_Fin _ _ _ _ _ _ _ _ (mkF m 194 #[.val (.int p1), .val (.long q2), .second, .val (.long q3), .second, .val (.ref b1), .val (.int (3 : Int32)), .val (.int (1 : Int32))] [(.long (-1 : Int64)), (.long q2), (.int (0 : Int32)), (.int (3 : Int32)), (.ref b1)])
          refine own_step (fun t k => XS.lxor X14.here hx rfl (hb hby at_194) rfl k) ?_
          show own_Fin _ _ _ _ _ _ _ _ (mkF m 195 #[.val (.int p1), .val (.long q2), .second, .val (.long q3), .second, .val (.ref b1), .val (.int (3 : Int32)), .val (.int (1 : Int32))] [(.long (q2 ^^^ (-1 : Int64))), (.int (0 : Int32)), (.int (3 : Int32)), (.ref b1)])
          obtain ⟨_, _, ⟨T17, L17, k17, n17⟩, -, X17, ⟨Lc17, hQ17, l17, y17, z17⟩, st17⟩ := Jvm.LawKit.callS X14 hx (y := (⟨"com/example/limfjord/limfjord/engine/LongQueueIsEmptyPinLaw", "step", "(Lcom/example/limfjord/limfjord/engine/LongQueue;IZJ)I"⟩ : MethodName)) hown (mvT hZ (hw _ (List.mem_of_getElem? (i := 21) rfl))) (mvT hZ (hw _ (List.mem_of_getElem? (i := 22) rfl))) (mvT hZ (hw _ (List.mem_of_getElem? (i := 23) rfl))) (mvT hZ (hw _ (List.mem_of_getElem? (i := 24) rfl))) (by decide) (backOf (W := 0) (rm7 l Z a0 hw [] b1 (3 : Int32) (0 : Int32) (q2 ^^^ (-1 : Int64)) _ _ _ _ T13.heap n0 Zs E_b1 F_entries_b1 F_head_b1 F_tail_b1 V_bq2 g_b1 gq2 neq2 (by decide) (by decide)) hZ (hw _ (List.mem_of_getElem? (i := 24) rfl)) (hw _ (List.mem_of_getElem? (i := 23) rfl)) (by decide) (by decide)) (g := (mkF m 195 #[.val (.int p1), .val (.long q2), .second, .val (.long q3), .second, .val (.ref b1), .val (.int (3 : Int32)), .val (.int (1 : Int32))] [(.long (q2 ^^^ (-1 : Int64))), (.int (0 : Int32)), (.int (3 : Int32)), (.ref b1)])) rfl (by rw [hml]; rfl) (argsL := [(.ref b1), (.int (3 : Int32)), (.int (0 : Int32)), (.long (q2 ^^^ (-1 : Int64)))]) (rest := []) (lenOf own_pd_4 rfl) rfl (by show 2 * 0 + _ ≤ _; exact Nat.le_of_eq rfl) (hb hby at_195) (fun _ _ => ⟨rfl, hh14, (by decide : 2 + 0 ≤ _), (by decide : 1027 + 0 ≤ _)⟩)
          dsimp only [Pt.U, Pt.locs, Pt.cells, Pt.slots] at X17 l17 y17 z17 st17 hQ17
          subst l17 y17 z17
          obtain ⟨rfl, Nq17, Kq17, P17_0, P17_1, P17_2, P17_3, P17_4⟩ := hQ17
          replace Nf := Fr.app Nf Nq17
          replace E_b1 := P17_0
          replace F_entries_b1 := P17_1
          replace F_head_b1 := P17_2
          replace F_tail_b1 : Fld Z T17.heap b1 "com/example/limfjord/limfjord/engine/LongQueue" "tail" "I" (.int (4 : Int32)) := P17_3
          replace V_bq2 := P17_4
          replace Zs := Nat.le_trans Zs Kq17.1
          refine own_step st17 ?_
          show own_Fin _ _ _ _ _ _ _ _ (mkF m 198 #[.val (.int p1), .val (.long q2), .second, .val (.long q3), .second, .val (.ref b1), .val (.int (3 : Int32)), .val (.int (1 : Int32))] [(.int ((3 : Int32) + (1 : Int32)))])
          refine own_step (fun t k => XS.istore X17.here hx rfl (hb hby at_198) rfl (l' := #[.val (.int p1), .val (.long q2), .second, .val (.long q3), .second, .val (.ref b1), .val (.int ((3 : Int32) + (1 : Int32))), .val (.int (1 : Int32))]) rfl k) ?_
          show own_Fin _ _ _ _ _ _ _ _ (mkF m 200 #[.val (.int p1), .val (.long q2), .second, .val (.long q3), .second, .val (.ref b1), .val (.int ((3 : Int32) + (1 : Int32))), .val (.int (1 : Int32))] [])
          show own_Fin _ _ _ _ _ _ _ _ (mkF m 200 #[.val (.int p1), .val (.long q2), .second, .val (.long q3), .second, .val (.ref b1), .val (.int (4 : Int32)), .val (.int (1 : Int32))] [])
          refine own_step (fun t k => XS.iload X17.here hx rfl (hb hby at_200) rfl k) ?_
          show own_Fin _ _ _ _ _ _ _ _ (mkF m 202 #[.val (.int p1), .val (.long q2), .second, .val (.long q3), .second, .val (.ref b1), .val (.int (4 : Int32)), .val (.int (1 : Int32))] [(.int (1 : Int32))])
          refine own_step (fun t k => XS.ifNo X17.here hx rfl (hb hby at_202) rfl (by decide) k) ?_
          show own_Fin _ _ _ _ _ _ _ _ (mkF m 205 #[.val (.int p1), .val (.long q2), .second, .val (.long q3), .second, .val (.ref b1), .val (.int (4 : Int32)), .val (.int (1 : Int32))] [])
          refine own_step (fun t k => XS.aload X17.here hx rfl (hb hby at_205) rfl rfl k) ?_
          show own_Fin _ _ _ _ _ _ _ _ (mkF m 207 #[.val (.int p1), .val (.long q2), .second, .val (.long q3), .second, .val (.ref b1), .val (.int (4 : Int32)), .val (.int (1 : Int32))] [(.ref b1)])
          obtain ⟨cq18, kq18, q18a, q18b, q18c⟩ := isOf hZ rfl E_b1
          obtain ⟨_, _, ⟨T18, L18, k18, n18⟩, -, X18, ⟨Lc18, hQ18, l18, y18, z18⟩, st18⟩ := X17.virtualBack hx (y := (⟨"com/example/limfjord/limfjord/engine/LongQueue", "isEmpty", "()Z"⟩ : MethodName)) (z := (⟨"com/example/limfjord/limfjord/engine/LongQueue", "isEmpty", "()Z"⟩ : MethodName)) hown (mvT hZ (hw _ (List.mem_of_getElem? (i := 12) rfl))) (mvT hZ (hw _ (List.mem_of_getElem? (i := 13) rfl))) (notFace_of_selects (args := #[]) (mvT hZ (hw _ (List.mem_of_getElem? (i := 15) rfl)))) (mvT hZ (hw _ (List.mem_of_getElem? (i := 15) rfl))) (mvT hZ (hw _ (List.mem_of_getElem? (i := 14) rfl))) (by decide) (backOf (W := 0) (rm5 l Z a0 hw [] b1 _ _ T17.heap n0 Zs F_head_b1 F_tail_b1) hZ (hw _ (List.mem_of_getElem? (i := 16) rfl)) (hw _ (List.mem_of_getElem? (i := 2) rfl)) (by decide) (by decide)) q18a q18c (g := (mkF m 207 #[.val (.int p1), .val (.long q2), .second, .val (.long q3), .second, .val (.ref b1), .val (.int (4 : Int32)), .val (.int (1 : Int32))] [(.ref b1)])) rfl (by rw [hml]; rfl) (Steps.refl _) (argsL := []) (rest := []) (lenOf own_pd_3 rfl) rfl (by show 2 * 0 + _ ≤ _; exact Nat.le_of_eq rfl) (hb hby at_207) (fun _ _ => ⟨rfl, rfl, (by decide : 2 + 0 ≤ _), (by decide : 1027 + 0 ≤ _)⟩)
          dsimp only [Pt.U, Pt.locs, Pt.cells, Pt.slots] at X18 l18 y18 z18 st18 hQ18
          subst l18 y18 z18
          obtain ⟨r18, rfl, hB18, Nq18, hh18⟩ := hQ18
          replace Nf := Fr.app Nf Nq18
          refine own_stepT st18 ?_
          show own_Fin _ _ _ _ _ _ _ _ (mkF m 210 #[.val (.int p1), .val (.long q2), .second, .val (.long q3), .second, .val (.ref b1), .val (.int (4 : Int32)), .val (.int (1 : Int32))] [(.int r18)])
          refine own_step (fun t k => XS.iload X18.here hx rfl (hb hby at_210) rfl k) ?_
          show own_Fin _ _ _ _ _ _ _ _ (mkF m 212 #[.val (.int p1), .val (.long q2), .second, .val (.long q3), .second, .val (.ref b1), .val (.int (4 : Int32)), .val (.int (1 : Int32))] [(.int (4 : Int32)), (.int r18)])
          refine own_step (fun t k => XS.ifYes X18.here hx rfl (pc0 := 212) (pc' := 219) rfl (hb hby at_212) rfl (by decide) (by decide) (by decide) k) ?_
          show own_Fin _ _ _ _ _ _ _ _ (mkF m 219 #[.val (.int p1), .val (.long q2), .second, .val (.long q3), .second, .val (.ref b1), .val (.int (4 : Int32)), .val (.int (1 : Int32))] [(.int r18)])
          refine own_step (fun t k => XS.iconst X18.here hx rfl (hb hby at_219) k) ?_
          show own_Fin _ _ _ _ _ _ _ _ (mkF m 220 #[.val (.int p1), .val (.long q2), .second, .val (.long q3), .second, .val (.ref b1), .val (.int (4 : Int32)), .val (.int (1 : Int32))] [(.int (0 : Int32)), (.int r18)])
          have hc19 : (r18).toInt = 0 := by
            rcases hB18 with ⟨q1, q2⟩ | ⟨q1, q2⟩
            · exact absurd q2 (by decide)
            · exact q1
          refine own_step (fun t k => XS.icmpNo X18.here hx rfl (hb hby at_220) rfl (own_ce (x := r18) (y := (0 : Int32)) rfl rfl hc19).2 k) ?_
          show own_Fin _ _ _ _ _ _ _ _ (mkF m 223 #[.val (.int p1), .val (.long q2), .second, .val (.long q3), .second, .val (.ref b1), .val (.int (4 : Int32)), .val (.int (1 : Int32))] [])
          refine own_step (fun t k => XS.iconst X18.here hx rfl (hb hby at_223) k) ?_
          show own_Fin _ _ _ _ _ _ _ _ (mkF m 224 #[.val (.int p1), .val (.long q2), .second, .val (.long q3), .second, .val (.ref b1), .val (.int (4 : Int32)), .val (.int (1 : Int32))] [(.int (1 : Int32))])
          refine own_step (fun t k => XS.goto X18.here hx rfl (pc0 := 224) (pc' := 228) rfl (hb hby at_224) (by decide) (by decide) k) ?_
          show own_Fin _ _ _ _ _ _ _ _ (mkF m 228 #[.val (.int p1), .val (.long q2), .second, .val (.long q3), .second, .val (.ref b1), .val (.int (4 : Int32)), .val (.int (1 : Int32))] [(.int (1 : Int32))])
          refine own_step (fun t k => XS.istore X18.here hx rfl (hb hby at_228) rfl (l' := #[.val (.int p1), .val (.long q2), .second, .val (.long q3), .second, .val (.ref b1), .val (.int (4 : Int32)), .val (.int (1 : Int32))]) rfl k) ?_
          show own_Fin _ _ _ _ _ _ _ _ (mkF m 230 #[.val (.int p1), .val (.long q2), .second, .val (.long q3), .second, .val (.ref b1), .val (.int (4 : Int32)), .val (.int (1 : Int32))] [])
          refine own_step (fun t k => XS.iload X18.here hx rfl (hb hby at_230) rfl k) ?_
          show own_Fin _ _ _ _ _ _ _ _ (mkF m 232 #[.val (.int p1), .val (.long q2), .second, .val (.long q3), .second, .val (.ref b1), .val (.int (4 : Int32)), .val (.int (1 : Int32))] [(.int (1 : Int32))])
          refine own_retZ X18 hx hlk Bd.returns (hb hby at_232) (z' := (1 : Int32)) (by decide) (by decide) (by decide) hh18 ?_
          exact ⟨rfl, Nf⟩
        · skip
          refine own_step (fun t k => XS.ifNo X14.here hx rfl (hb hby at_182) rfl ((if0 _ _).trans (own_cu (x := (p1 &&& (8 : Int32))) (y := (0 : Int32)) rfl rfl hc16).1) k) ?_
          show own_Fin _ _ _ _ _ _ _ _ (mkF m 185 #[.val (.int p1), .val (.long q2), .second, .val (.long q3), .second, .val (.ref b1), .val (.int (3 : Int32)), .val (.int (1 : Int32))] [(.int (3 : Int32)), (.ref b1)])
          refine own_step (fun t k => XS.iconst X14.here hx rfl (hb hby at_185) k) ?_
          show own_Fin _ _ _ _ _ _ _ _ (mkF m 186 #[.val (.int p1), .val (.long q2), .second, .val (.long q3), .second, .val (.ref b1), .val (.int (3 : Int32)), .val (.int (1 : Int32))] [(.int (1 : Int32)), (.int (3 : Int32)), (.ref b1)])
          refine own_step (fun t k => XS.goto X14.here hx rfl (pc0 := 186) (pc' := 190) rfl (hb hby at_186) (by decide) (by decide) k) ?_
          show own_Fin _ _ _ _ _ _ _ _ (mkF m 190 #[.val (.int p1), .val (.long q2), .second, .val (.long q3), .second, .val (.ref b1), .val (.int (3 : Int32)), .val (.int (1 : Int32))] [(.int (1 : Int32)), (.int (3 : Int32)), (.ref b1)])
          refine own_step (fun t k => XS.lloadN X14.here hx rfl (hb hby at_190) rfl k) ?_
          show own_Fin _ _ _ _ _ _ _ _ (mkF m 191 #[.val (.int p1), .val (.long q2), .second, .val (.long q3), .second, .val (.ref b1), .val (.int (3 : Int32)), .val (.int (1 : Int32))] [(.long q2), (.int (1 : Int32)), (.int (3 : Int32)), (.ref b1)])
          refine own_step (fun t k => X14.ldc2Long hx hown (mvT hZ (hw _ (List.mem_of_getElem? (i := 30) rfl))) (g := (mkF m 191 #[.val (.int p1), .val (.long q2), .second, .val (.long q3), .second, .val (.ref b1), .val (.int (3 : Int32)), .val (.int (1 : Int32))] [(.long q2), (.int (1 : Int32)), (.int (3 : Int32)), (.ref b1)])) rfl (hb hby at_191) _ k) ?_
          show own_Fin _ _ _ _ _ _ _ _ (mkF m 194 #[.val (.int p1), .val (.long q2), .second, .val (.long q3), .second, .val (.ref b1), .val (.int (3 : Int32)), .val (.int (1 : Int32))] [(.long (-1 : Int64)), (.long q2), (.int (1 : Int32)), (.int (3 : Int32)), (.ref b1)])
          refine own_step (fun t k => XS.lxor X14.here hx rfl (hb hby at_194) rfl k) ?_
          show own_Fin _ _ _ _ _ _ _ _ (mkF m 195 #[.val (.int p1), .val (.long q2), .second, .val (.long q3), .second, .val (.ref b1), .val (.int (3 : Int32)), .val (.int (1 : Int32))] [(.long (q2 ^^^ (-1 : Int64))), (.int (1 : Int32)), (.int (3 : Int32)), (.ref b1)])
          obtain ⟨_, _, ⟨T20, L20, k20, n20⟩, -, X20, ⟨Lc20, hQ20, l20, y20, z20⟩, st20⟩ := Jvm.LawKit.callS X14 hx (y := (⟨"com/example/limfjord/limfjord/engine/LongQueueIsEmptyPinLaw", "step", "(Lcom/example/limfjord/limfjord/engine/LongQueue;IZJ)I"⟩ : MethodName)) hown (mvT hZ (hw _ (List.mem_of_getElem? (i := 21) rfl))) (mvT hZ (hw _ (List.mem_of_getElem? (i := 22) rfl))) (mvT hZ (hw _ (List.mem_of_getElem? (i := 23) rfl))) (mvT hZ (hw _ (List.mem_of_getElem? (i := 24) rfl))) (by decide) (backOf (W := 0) (rm6 l Z a0 hw [] b1 (3 : Int32) (1 : Int32) (q2 ^^^ (-1 : Int64)) _ _ _ _ T13.heap n0 Zs E_b1 F_entries_b1 F_head_b1 F_tail_b1 V_bq2 g_b1 neq2 (by decide) (by decide)) hZ (hw _ (List.mem_of_getElem? (i := 24) rfl)) (hw _ (List.mem_of_getElem? (i := 23) rfl)) (by decide) (by decide)) (g := (mkF m 195 #[.val (.int p1), .val (.long q2), .second, .val (.long q3), .second, .val (.ref b1), .val (.int (3 : Int32)), .val (.int (1 : Int32))] [(.long (q2 ^^^ (-1 : Int64))), (.int (1 : Int32)), (.int (3 : Int32)), (.ref b1)])) rfl (by rw [hml]; rfl) (argsL := [(.ref b1), (.int (3 : Int32)), (.int (1 : Int32)), (.long (q2 ^^^ (-1 : Int64)))]) (rest := []) (lenOf own_pd_4 rfl) rfl (by show 2 * 0 + _ ≤ _; exact Nat.le_of_eq rfl) (hb hby at_195) (fun _ _ => ⟨rfl, hh14, (by decide : 2 + 0 ≤ _), (by decide : 1027 + 0 ≤ _)⟩)
          dsimp only [Pt.U, Pt.locs, Pt.cells, Pt.slots] at X20 l20 y20 z20 st20 hQ20
          subst l20 y20 z20
          obtain ⟨rfl, Nq20, Kq20, P20_0, P20_1, P20_2, P20_3⟩ := hQ20
          replace Nf := Fr.app Nf Nq20
          replace E_b1 := P20_0
          replace F_entries_b1 := P20_1
          replace F_head_b1 : Fld Z T20.heap b1 "com/example/limfjord/limfjord/engine/LongQueue" "head" "I" (.int (1 : Int32)) := P20_2
          replace F_tail_b1 := P20_3
          replace V_bq2 := V_bq2.keep Kq20 (ninS (Ne.symm neq2) nin0)
          replace Zs := Nat.le_trans Zs Kq20.1
          refine own_step st20 ?_
          show own_Fin _ _ _ _ _ _ _ _ (mkF m 198 #[.val (.int p1), .val (.long q2), .second, .val (.long q3), .second, .val (.ref b1), .val (.int (3 : Int32)), .val (.int (1 : Int32))] [(.int ((3 : Int32) - (1 : Int32)))])
          refine own_step (fun t k => XS.istore X20.here hx rfl (hb hby at_198) rfl (l' := #[.val (.int p1), .val (.long q2), .second, .val (.long q3), .second, .val (.ref b1), .val (.int ((3 : Int32) - (1 : Int32))), .val (.int (1 : Int32))]) rfl k) ?_
          show own_Fin _ _ _ _ _ _ _ _ (mkF m 200 #[.val (.int p1), .val (.long q2), .second, .val (.long q3), .second, .val (.ref b1), .val (.int ((3 : Int32) - (1 : Int32))), .val (.int (1 : Int32))] [])
          show own_Fin _ _ _ _ _ _ _ _ (mkF m 200 #[.val (.int p1), .val (.long q2), .second, .val (.long q3), .second, .val (.ref b1), .val (.int (2 : Int32)), .val (.int (1 : Int32))] [])
          refine own_step (fun t k => XS.iload X20.here hx rfl (hb hby at_200) rfl k) ?_
          show own_Fin _ _ _ _ _ _ _ _ (mkF m 202 #[.val (.int p1), .val (.long q2), .second, .val (.long q3), .second, .val (.ref b1), .val (.int (2 : Int32)), .val (.int (1 : Int32))] [(.int (1 : Int32))])
          refine own_step (fun t k => XS.ifNo X20.here hx rfl (hb hby at_202) rfl (by decide) k) ?_
          show own_Fin _ _ _ _ _ _ _ _ (mkF m 205 #[.val (.int p1), .val (.long q2), .second, .val (.long q3), .second, .val (.ref b1), .val (.int (2 : Int32)), .val (.int (1 : Int32))] [])
          refine own_step (fun t k => XS.aload X20.here hx rfl (hb hby at_205) rfl rfl k) ?_
          show own_Fin _ _ _ _ _ _ _ _ (mkF m 207 #[.val (.int p1), .val (.long q2), .second, .val (.long q3), .second, .val (.ref b1), .val (.int (2 : Int32)), .val (.int (1 : Int32))] [(.ref b1)])
          obtain ⟨cq21, kq21, q21a, q21b, q21c⟩ := isOf hZ rfl E_b1
          obtain ⟨_, _, ⟨T21, L21, k21, n21⟩, -, X21, ⟨Lc21, hQ21, l21, y21, z21⟩, st21⟩ := X20.virtualBack hx (y := (⟨"com/example/limfjord/limfjord/engine/LongQueue", "isEmpty", "()Z"⟩ : MethodName)) (z := (⟨"com/example/limfjord/limfjord/engine/LongQueue", "isEmpty", "()Z"⟩ : MethodName)) hown (mvT hZ (hw _ (List.mem_of_getElem? (i := 12) rfl))) (mvT hZ (hw _ (List.mem_of_getElem? (i := 13) rfl))) (notFace_of_selects (args := #[]) (mvT hZ (hw _ (List.mem_of_getElem? (i := 15) rfl)))) (mvT hZ (hw _ (List.mem_of_getElem? (i := 15) rfl))) (mvT hZ (hw _ (List.mem_of_getElem? (i := 14) rfl))) (by decide) (backOf (W := 0) (rm5 l Z a0 hw [] b1 _ _ T20.heap n0 Zs F_head_b1 F_tail_b1) hZ (hw _ (List.mem_of_getElem? (i := 16) rfl)) (hw _ (List.mem_of_getElem? (i := 2) rfl)) (by decide) (by decide)) q21a q21c (g := (mkF m 207 #[.val (.int p1), .val (.long q2), .second, .val (.long q3), .second, .val (.ref b1), .val (.int (2 : Int32)), .val (.int (1 : Int32))] [(.ref b1)])) rfl (by rw [hml]; rfl) (Steps.refl _) (argsL := []) (rest := []) (lenOf own_pd_3 rfl) rfl (by show 2 * 0 + _ ≤ _; exact Nat.le_of_eq rfl) (hb hby at_207) (fun _ _ => ⟨rfl, rfl, (by decide : 2 + 0 ≤ _), (by decide : 1027 + 0 ≤ _)⟩)
          dsimp only [Pt.U, Pt.locs, Pt.cells, Pt.slots] at X21 l21 y21 z21 st21 hQ21
          subst l21 y21 z21
          obtain ⟨r21, rfl, hB21, Nq21, hh21⟩ := hQ21
          replace Nf := Fr.app Nf Nq21
          refine own_stepT st21 ?_
          show own_Fin _ _ _ _ _ _ _ _ (mkF m 210 #[.val (.int p1), .val (.long q2), .second, .val (.long q3), .second, .val (.ref b1), .val (.int (2 : Int32)), .val (.int (1 : Int32))] [(.int r21)])
          refine own_step (fun t k => XS.iload X21.here hx rfl (hb hby at_210) rfl k) ?_
          show own_Fin _ _ _ _ _ _ _ _ (mkF m 212 #[.val (.int p1), .val (.long q2), .second, .val (.long q3), .second, .val (.ref b1), .val (.int (2 : Int32)), .val (.int (1 : Int32))] [(.int (2 : Int32)), (.int r21)])
          refine own_step (fun t k => XS.ifYes X21.here hx rfl (pc0 := 212) (pc' := 219) rfl (hb hby at_212) rfl (by decide) (by decide) (by decide) k) ?_
          show own_Fin _ _ _ _ _ _ _ _ (mkF m 219 #[.val (.int p1), .val (.long q2), .second, .val (.long q3), .second, .val (.ref b1), .val (.int (2 : Int32)), .val (.int (1 : Int32))] [(.int r21)])
          refine own_step (fun t k => XS.iconst X21.here hx rfl (hb hby at_219) k) ?_
          show own_Fin _ _ _ _ _ _ _ _ (mkF m 220 #[.val (.int p1), .val (.long q2), .second, .val (.long q3), .second, .val (.ref b1), .val (.int (2 : Int32)), .val (.int (1 : Int32))] [(.int (0 : Int32)), (.int r21)])
          have hc22 : (r21).toInt = 0 := by
            rcases hB21 with ⟨q1, q2⟩ | ⟨q1, q2⟩
            · exact absurd q2 (by decide)
            · exact q1
          refine own_step (fun t k => XS.icmpNo X21.here hx rfl (hb hby at_220) rfl (own_ce (x := r21) (y := (0 : Int32)) rfl rfl hc22).2 k) ?_
          show own_Fin _ _ _ _ _ _ _ _ (mkF m 223 #[.val (.int p1), .val (.long q2), .second, .val (.long q3), .second, .val (.ref b1), .val (.int (2 : Int32)), .val (.int (1 : Int32))] [])
          refine own_step (fun t k => XS.iconst X21.here hx rfl (hb hby at_223) k) ?_
          show own_Fin _ _ _ _ _ _ _ _ (mkF m 224 #[.val (.int p1), .val (.long q2), .second, .val (.long q3), .second, .val (.ref b1), .val (.int (2 : Int32)), .val (.int (1 : Int32))] [(.int (1 : Int32))])
          refine own_step (fun t k => XS.goto X21.here hx rfl (pc0 := 224) (pc' := 228) rfl (hb hby at_224) (by decide) (by decide) k) ?_
          show own_Fin _ _ _ _ _ _ _ _ (mkF m 228 #[.val (.int p1), .val (.long q2), .second, .val (.long q3), .second, .val (.ref b1), .val (.int (2 : Int32)), .val (.int (1 : Int32))] [(.int (1 : Int32))])
          refine own_step (fun t k => XS.istore X21.here hx rfl (hb hby at_228) rfl (l' := #[.val (.int p1), .val (.long q2), .second, .val (.long q3), .second, .val (.ref b1), .val (.int (2 : Int32)), .val (.int (1 : Int32))]) rfl k) ?_
          show own_Fin _ _ _ _ _ _ _ _ (mkF m 230 #[.val (.int p1), .val (.long q2), .second, .val (.long q3), .second, .val (.ref b1), .val (.int (2 : Int32)), .val (.int (1 : Int32))] [])
          refine own_step (fun t k => XS.iload X21.here hx rfl (hb hby at_230) rfl k) ?_
          show own_Fin _ _ _ _ _ _ _ _ (mkF m 232 #[.val (.int p1), .val (.long q2), .second, .val (.long q3), .second, .val (.ref b1), .val (.int (2 : Int32)), .val (.int (1 : Int32))] [(.int (1 : Int32))])
          refine own_retZ X21 hx hlk Bd.returns (hb hby at_232) (z' := (1 : Int32)) (by decide) (by decide) (by decide) hh21 ?_
          exact ⟨rfl, Nf⟩
      · skip
        refine own_step (fun t k => XS.ifNo X10.here hx rfl (hb hby at_128) rfl ((if0 _ _).trans (own_cu (x := (p1 &&& (4 : Int32))) (y := (0 : Int32)) rfl rfl hc12).1) k) ?_
        show own_Fin _ _ _ _ _ _ _ _ (mkF m 131 #[.val (.int p1), .val (.long q2), .second, .val (.long q3), .second, .val (.ref b1), .val (.int (2 : Int32)), .val (.int (1 : Int32))] [(.int (2 : Int32)), (.ref b1)])
        refine own_step (fun t k => XS.iconst X10.here hx rfl (hb hby at_131) k) ?_
        show own_Fin _ _ _ _ _ _ _ _ (mkF m 132 #[.val (.int p1), .val (.long q2), .second, .val (.long q3), .second, .val (.ref b1), .val (.int (2 : Int32)), .val (.int (1 : Int32))] [(.int (1 : Int32)), (.int (2 : Int32)), (.ref b1)])
        refine own_step (fun t k => XS.goto X10.here hx rfl (pc0 := 132) (pc' := 136) rfl (hb hby at_132) (by decide) (by decide) k) ?_
        show own_Fin _ _ _ _ _ _ _ _ (mkF m 136 #[.val (.int p1), .val (.long q2), .second, .val (.long q3), .second, .val (.ref b1), .val (.int (2 : Int32)), .val (.int (1 : Int32))] [(.int (1 : Int32)), (.int (2 : Int32)), (.ref b1)])
        refine own_step (fun t k => XS.lloadN X10.here hx rfl (hb hby at_136) rfl k) ?_
        show own_Fin _ _ _ _ _ _ _ _ (mkF m 137 #[.val (.int p1), .val (.long q2), .second, .val (.long q3), .second, .val (.ref b1), .val (.int (2 : Int32)), .val (.int (1 : Int32))] [(.long q2), (.int (1 : Int32)), (.int (2 : Int32)), (.ref b1)])
        refine own_step (fun t k => XS.lloadN X10.here hx rfl (hb hby at_137) rfl k) ?_
        show own_Fin _ _ _ _ _ _ _ _ (mkF m 138 #[.val (.int p1), .val (.long q2), .second, .val (.long q3), .second, .val (.ref b1), .val (.int (2 : Int32)), .val (.int (1 : Int32))] [(.long q3), (.long q2), (.int (1 : Int32)), (.int (2 : Int32)), (.ref b1)])
        refine own_step (fun t k => XS.lxor X10.here hx rfl (hb hby at_138) rfl k) ?_
        show own_Fin _ _ _ _ _ _ _ _ (mkF m 139 #[.val (.int p1), .val (.long q2), .second, .val (.long q3), .second, .val (.ref b1), .val (.int (2 : Int32)), .val (.int (1 : Int32))] [(.long (q2 ^^^ q3)), (.int (1 : Int32)), (.int (2 : Int32)), (.ref b1)])
        obtain ⟨_, _, ⟨T23, L23, k23, n23⟩, -, X23, ⟨Lc23, hQ23, l23, y23, z23⟩, st23⟩ := Jvm.LawKit.callS X10 hx (y := (⟨"com/example/limfjord/limfjord/engine/LongQueueIsEmptyPinLaw", "step", "(Lcom/example/limfjord/limfjord/engine/LongQueue;IZJ)I"⟩ : MethodName)) hown (mvT hZ (hw _ (List.mem_of_getElem? (i := 21) rfl))) (mvT hZ (hw _ (List.mem_of_getElem? (i := 22) rfl))) (mvT hZ (hw _ (List.mem_of_getElem? (i := 23) rfl))) (mvT hZ (hw _ (List.mem_of_getElem? (i := 24) rfl))) (by decide) (backOf (W := 0) (rm6 l Z a0 hw [] b1 (2 : Int32) (1 : Int32) (q2 ^^^ q3) _ _ _ _ T9.heap n0 Zs E_b1 F_entries_b1 F_head_b1 F_tail_b1 V_bq2 g_b1 neq2 (by decide) (by decide)) hZ (hw _ (List.mem_of_getElem? (i := 24) rfl)) (hw _ (List.mem_of_getElem? (i := 23) rfl)) (by decide) (by decide)) (g := (mkF m 139 #[.val (.int p1), .val (.long q2), .second, .val (.long q3), .second, .val (.ref b1), .val (.int (2 : Int32)), .val (.int (1 : Int32))] [(.long (q2 ^^^ q3)), (.int (1 : Int32)), (.int (2 : Int32)), (.ref b1)])) rfl (by rw [hml]; rfl) (argsL := [(.ref b1), (.int (2 : Int32)), (.int (1 : Int32)), (.long (q2 ^^^ q3))]) (rest := []) (lenOf own_pd_4 rfl) rfl (by show 2 * 0 + _ ≤ _; exact Nat.le_of_eq rfl) (hb hby at_139) (fun _ _ => ⟨rfl, hh10, (by decide : 2 + 0 ≤ _), (by decide : 1027 + 0 ≤ _)⟩)
        dsimp only [Pt.U, Pt.locs, Pt.cells, Pt.slots] at X23 l23 y23 z23 st23 hQ23
        subst l23 y23 z23
        obtain ⟨rfl, Nq23, Kq23, P23_0, P23_1, P23_2, P23_3⟩ := hQ23
        replace Nf := Fr.app Nf Nq23
        replace E_b1 := P23_0
        replace F_entries_b1 := P23_1
        replace F_head_b1 : Fld Z T23.heap b1 "com/example/limfjord/limfjord/engine/LongQueue" "head" "I" (.int (1 : Int32)) := P23_2
        replace F_tail_b1 := P23_3
        replace V_bq2 := V_bq2.keep Kq23 (ninS (Ne.symm neq2) nin0)
        replace Zs := Nat.le_trans Zs Kq23.1
        refine own_step st23 ?_
        show own_Fin _ _ _ _ _ _ _ _ (mkF m 142 #[.val (.int p1), .val (.long q2), .second, .val (.long q3), .second, .val (.ref b1), .val (.int (2 : Int32)), .val (.int (1 : Int32))] [(.int ((2 : Int32) - (1 : Int32)))])
        refine own_step (fun t k => XS.istore X23.here hx rfl (hb hby at_142) rfl (l' := #[.val (.int p1), .val (.long q2), .second, .val (.long q3), .second, .val (.ref b1), .val (.int ((2 : Int32) - (1 : Int32))), .val (.int (1 : Int32))]) rfl k) ?_
        show own_Fin _ _ _ _ _ _ _ _ (mkF m 144 #[.val (.int p1), .val (.long q2), .second, .val (.long q3), .second, .val (.ref b1), .val (.int ((2 : Int32) - (1 : Int32))), .val (.int (1 : Int32))] [])
        show own_Fin _ _ _ _ _ _ _ _ (mkF m 144 #[.val (.int p1), .val (.long q2), .second, .val (.long q3), .second, .val (.ref b1), .val (.int (1 : Int32)), .val (.int (1 : Int32))] [])
        refine own_step (fun t k => XS.iload X23.here hx rfl (hb hby at_144) rfl k) ?_
        show own_Fin _ _ _ _ _ _ _ _ (mkF m 146 #[.val (.int p1), .val (.long q2), .second, .val (.long q3), .second, .val (.ref b1), .val (.int (1 : Int32)), .val (.int (1 : Int32))] [(.int (1 : Int32))])
        refine own_step (fun t k => XS.ifNo X23.here hx rfl (hb hby at_146) rfl (by decide) k) ?_
        show own_Fin _ _ _ _ _ _ _ _ (mkF m 149 #[.val (.int p1), .val (.long q2), .second, .val (.long q3), .second, .val (.ref b1), .val (.int (1 : Int32)), .val (.int (1 : Int32))] [])
        refine own_step (fun t k => XS.aload X23.here hx rfl (hb hby at_149) rfl rfl k) ?_
        show own_Fin _ _ _ _ _ _ _ _ (mkF m 151 #[.val (.int p1), .val (.long q2), .second, .val (.long q3), .second, .val (.ref b1), .val (.int (1 : Int32)), .val (.int (1 : Int32))] [(.ref b1)])
        obtain ⟨cq24, kq24, q24a, q24b, q24c⟩ := isOf hZ rfl E_b1
        obtain ⟨_, _, ⟨T24, L24, k24, n24⟩, -, X24, ⟨Lc24, hQ24, l24, y24, z24⟩, st24⟩ := X23.virtualBack hx (y := (⟨"com/example/limfjord/limfjord/engine/LongQueue", "isEmpty", "()Z"⟩ : MethodName)) (z := (⟨"com/example/limfjord/limfjord/engine/LongQueue", "isEmpty", "()Z"⟩ : MethodName)) hown (mvT hZ (hw _ (List.mem_of_getElem? (i := 12) rfl))) (mvT hZ (hw _ (List.mem_of_getElem? (i := 13) rfl))) (notFace_of_selects (args := #[]) (mvT hZ (hw _ (List.mem_of_getElem? (i := 15) rfl)))) (mvT hZ (hw _ (List.mem_of_getElem? (i := 15) rfl))) (mvT hZ (hw _ (List.mem_of_getElem? (i := 14) rfl))) (by decide) (backOf (W := 0) (rm5 l Z a0 hw [] b1 _ _ T23.heap n0 Zs F_head_b1 F_tail_b1) hZ (hw _ (List.mem_of_getElem? (i := 16) rfl)) (hw _ (List.mem_of_getElem? (i := 2) rfl)) (by decide) (by decide)) q24a q24c (g := (mkF m 151 #[.val (.int p1), .val (.long q2), .second, .val (.long q3), .second, .val (.ref b1), .val (.int (1 : Int32)), .val (.int (1 : Int32))] [(.ref b1)])) rfl (by rw [hml]; rfl) (Steps.refl _) (argsL := []) (rest := []) (lenOf own_pd_3 rfl) rfl (by show 2 * 0 + _ ≤ _; exact Nat.le_of_eq rfl) (hb hby at_151) (fun _ _ => ⟨rfl, rfl, (by decide : 2 + 0 ≤ _), (by decide : 1027 + 0 ≤ _)⟩)
        dsimp only [Pt.U, Pt.locs, Pt.cells, Pt.slots] at X24 l24 y24 z24 st24 hQ24
        subst l24 y24 z24
        obtain ⟨r24, rfl, hB24, Nq24, hh24⟩ := hQ24
        replace Nf := Fr.app Nf Nq24
        refine own_stepT st24 ?_
        show own_Fin _ _ _ _ _ _ _ _ (mkF m 154 #[.val (.int p1), .val (.long q2), .second, .val (.long q3), .second, .val (.ref b1), .val (.int (1 : Int32)), .val (.int (1 : Int32))] [(.int r24)])
        refine own_step (fun t k => XS.iload X24.here hx rfl (hb hby at_154) rfl k) ?_
        show own_Fin _ _ _ _ _ _ _ _ (mkF m 156 #[.val (.int p1), .val (.long q2), .second, .val (.long q3), .second, .val (.ref b1), .val (.int (1 : Int32)), .val (.int (1 : Int32))] [(.int (1 : Int32)), (.int r24)])
        refine own_step (fun t k => XS.ifYes X24.here hx rfl (pc0 := 156) (pc' := 163) rfl (hb hby at_156) rfl (by decide) (by decide) (by decide) k) ?_
        show own_Fin _ _ _ _ _ _ _ _ (mkF m 163 #[.val (.int p1), .val (.long q2), .second, .val (.long q3), .second, .val (.ref b1), .val (.int (1 : Int32)), .val (.int (1 : Int32))] [(.int r24)])
        refine own_step (fun t k => XS.iconst X24.here hx rfl (hb hby at_163) k) ?_
        show own_Fin _ _ _ _ _ _ _ _ (mkF m 164 #[.val (.int p1), .val (.long q2), .second, .val (.long q3), .second, .val (.ref b1), .val (.int (1 : Int32)), .val (.int (1 : Int32))] [(.int (0 : Int32)), (.int r24)])
        have hc25 : (r24).toInt = 0 := by
          rcases hB24 with ⟨q1, q2⟩ | ⟨q1, q2⟩
          · exact absurd q2 (by decide)
          · exact q1
        refine own_step (fun t k => XS.icmpNo X24.here hx rfl (hb hby at_164) rfl (own_ce (x := r24) (y := (0 : Int32)) rfl rfl hc25).2 k) ?_
        show own_Fin _ _ _ _ _ _ _ _ (mkF m 167 #[.val (.int p1), .val (.long q2), .second, .val (.long q3), .second, .val (.ref b1), .val (.int (1 : Int32)), .val (.int (1 : Int32))] [])
        refine own_step (fun t k => XS.iconst X24.here hx rfl (hb hby at_167) k) ?_
        show own_Fin _ _ _ _ _ _ _ _ (mkF m 168 #[.val (.int p1), .val (.long q2), .second, .val (.long q3), .second, .val (.ref b1), .val (.int (1 : Int32)), .val (.int (1 : Int32))] [(.int (1 : Int32))])
        refine own_step (fun t k => XS.goto X24.here hx rfl (pc0 := 168) (pc' := 172) rfl (hb hby at_168) (by decide) (by decide) k) ?_
        show own_Fin _ _ _ _ _ _ _ _ (mkF m 172 #[.val (.int p1), .val (.long q2), .second, .val (.long q3), .second, .val (.ref b1), .val (.int (1 : Int32)), .val (.int (1 : Int32))] [(.int (1 : Int32))])
        refine own_step (fun t k => XS.istore X24.here hx rfl (hb hby at_172) rfl (l' := #[.val (.int p1), .val (.long q2), .second, .val (.long q3), .second, .val (.ref b1), .val (.int (1 : Int32)), .val (.int (1 : Int32))]) rfl k) ?_
        show own_Fin _ _ _ _ _ _ _ _ (mkF m 174 #[.val (.int p1), .val (.long q2), .second, .val (.long q3), .second, .val (.ref b1), .val (.int (1 : Int32)), .val (.int (1 : Int32))] [])
        refine own_step (fun t k => XS.aload X24.here hx rfl (hb hby at_174) rfl rfl k) ?_
        show own_Fin _ _ _ _ _ _ _ _ (mkF m 176 #[.val (.int p1), .val (.long q2), .second, .val (.long q3), .second, .val (.ref b1), .val (.int (1 : Int32)), .val (.int (1 : Int32))] [(.ref b1)])
        refine own_step (fun t k => XS.iload X24.here hx rfl (hb hby at_176) rfl k) ?_
        show own_Fin _ _ _ _ _ _ _ _ (mkF m 178 #[.val (.int p1), .val (.long q2), .second, .val (.long q3), .second, .val (.ref b1), .val (.int (1 : Int32)), .val (.int (1 : Int32))] [(.int (1 : Int32)), (.ref b1)])
        refine own_step (fun t k => XS.iloadN X24.here hx rfl (hb hby at_178) rfl k) ?_
        show own_Fin _ _ _ _ _ _ _ _ (mkF m 179 #[.val (.int p1), .val (.long q2), .second, .val (.long q3), .second, .val (.ref b1), .val (.int (1 : Int32)), .val (.int (1 : Int32))] [(.int p1), (.int (1 : Int32)), (.ref b1)])
        refine own_step (fun t k => XS.bipush X24.here hx rfl (hb hby at_179) k) ?_
        show own_Fin _ _ _ _ _ _ _ _ (mkF m 181 #[.val (.int p1), .val (.long q2), .second, .val (.long q3), .second, .val (.ref b1), .val (.int (1 : Int32)), .val (.int (1 : Int32))] [(.int (8 : Int32)), (.int p1), (.int (1 : Int32)), (.ref b1)])
        refine own_step (fun t k => XS.iand X24.here hx rfl (hb hby at_181) rfl k) ?_
        show own_Fin _ _ _ _ _ _ _ _ (mkF m 182 #[.val (.int p1), .val (.long q2), .second, .val (.long q3), .second, .val (.ref b1), .val (.int (1 : Int32)), .val (.int (1 : Int32))] [(.int (p1 &&& (8 : Int32))), (.int (1 : Int32)), (.ref b1)])
        by_cases hc26 : ((p1 &&& (8 : Int32))).toInt = 0
        · skip
          refine own_step (fun t k => XS.ifYes X24.here hx rfl (pc0 := 182) (pc' := 189) rfl (hb hby at_182) rfl ((if0 _ _).trans (own_ce (x := (p1 &&& (8 : Int32))) (y := (0 : Int32)) rfl rfl hc26).1) (by decide) (by decide) k) ?_
          show own_Fin _ _ _ _ _ _ _ _ (mkF m 189 #[.val (.int p1), .val (.long q2), .second, .val (.long q3), .second, .val (.ref b1), .val (.int (1 : Int32)), .val (.int (1 : Int32))] [(.int (1 : Int32)), (.ref b1)])
          refine own_step (fun t k => XS.iconst X24.here hx rfl (hb hby at_189) k) ?_
          show own_Fin _ _ _ _ _ _ _ _ (mkF m 190 #[.val (.int p1), .val (.long q2), .second, .val (.long q3), .second, .val (.ref b1), .val (.int (1 : Int32)), .val (.int (1 : Int32))] [(.int (0 : Int32)), (.int (1 : Int32)), (.ref b1)])
          refine own_step (fun t k => XS.lloadN X24.here hx rfl (hb hby at_190) rfl k) ?_
          show own_Fin _ _ _ _ _ _ _ _ (mkF m 191 #[.val (.int p1), .val (.long q2), .second, .val (.long q3), .second, .val (.ref b1), .val (.int (1 : Int32)), .val (.int (1 : Int32))] [(.long q2), (.int (0 : Int32)), (.int (1 : Int32)), (.ref b1)])
          refine own_step (fun t k => X24.ldc2Long hx hown (mvT hZ (hw _ (List.mem_of_getElem? (i := 30) rfl))) (g := (mkF m 191 #[.val (.int p1), .val (.long q2), .second, .val (.long q3), .second, .val (.ref b1), .val (.int (1 : Int32)), .val (.int (1 : Int32))] [(.long q2), (.int (0 : Int32)), (.int (1 : Int32)), (.ref b1)])) rfl (hb hby at_191) _ k) ?_
          show own_Fin _ _ _ _ _ _ _ _ (mkF m 194 #[.val (.int p1), .val (.long q2), .second, .val (.long q3), .second, .val (.ref b1), .val (.int (1 : Int32)), .val (.int (1 : Int32))] [(.long (-1 : Int64)), (.long q2), (.int (0 : Int32)), (.int (1 : Int32)), (.ref b1)])
          refine own_step (fun t k => XS.lxor X24.here hx rfl (hb hby at_194) rfl k) ?_
          show own_Fin _ _ _ _ _ _ _ _ (mkF m 195 #[.val (.int p1), .val (.long q2), .second, .val (.long q3), .second, .val (.ref b1), .val (.int (1 : Int32)), .val (.int (1 : Int32))] [(.long (q2 ^^^ (-1 : Int64))), (.int (0 : Int32)), (.int (1 : Int32)), (.ref b1)])
          obtain ⟨_, _, ⟨T27, L27, k27, n27⟩, -, X27, ⟨Lc27, hQ27, l27, y27, z27⟩, st27⟩ := Jvm.LawKit.callS X24 hx (y := (⟨"com/example/limfjord/limfjord/engine/LongQueueIsEmptyPinLaw", "step", "(Lcom/example/limfjord/limfjord/engine/LongQueue;IZJ)I"⟩ : MethodName)) hown (mvT hZ (hw _ (List.mem_of_getElem? (i := 21) rfl))) (mvT hZ (hw _ (List.mem_of_getElem? (i := 22) rfl))) (mvT hZ (hw _ (List.mem_of_getElem? (i := 23) rfl))) (mvT hZ (hw _ (List.mem_of_getElem? (i := 24) rfl))) (by decide) (backOf (W := 0) (rm7 l Z a0 hw [] b1 (1 : Int32) (0 : Int32) (q2 ^^^ (-1 : Int64)) _ _ _ _ T23.heap n0 Zs E_b1 F_entries_b1 F_head_b1 F_tail_b1 V_bq2 g_b1 gq2 neq2 (by decide) (by decide)) hZ (hw _ (List.mem_of_getElem? (i := 24) rfl)) (hw _ (List.mem_of_getElem? (i := 23) rfl)) (by decide) (by decide)) (g := (mkF m 195 #[.val (.int p1), .val (.long q2), .second, .val (.long q3), .second, .val (.ref b1), .val (.int (1 : Int32)), .val (.int (1 : Int32))] [(.long (q2 ^^^ (-1 : Int64))), (.int (0 : Int32)), (.int (1 : Int32)), (.ref b1)])) rfl (by rw [hml]; rfl) (argsL := [(.ref b1), (.int (1 : Int32)), (.int (0 : Int32)), (.long (q2 ^^^ (-1 : Int64)))]) (rest := []) (lenOf own_pd_4 rfl) rfl (by show 2 * 0 + _ ≤ _; exact Nat.le_of_eq rfl) (hb hby at_195) (fun _ _ => ⟨rfl, hh24, (by decide : 2 + 0 ≤ _), (by decide : 1027 + 0 ≤ _)⟩)
          dsimp only [Pt.U, Pt.locs, Pt.cells, Pt.slots] at X27 l27 y27 z27 st27 hQ27
          subst l27 y27 z27
          obtain ⟨rfl, Nq27, Kq27, P27_0, P27_1, P27_2, P27_3, P27_4⟩ := hQ27
          replace Nf := Fr.app Nf Nq27
          replace E_b1 := P27_0
          replace F_entries_b1 := P27_1
          replace F_head_b1 := P27_2
          replace F_tail_b1 : Fld Z T27.heap b1 "com/example/limfjord/limfjord/engine/LongQueue" "tail" "I" (.int (3 : Int32)) := P27_3
          replace V_bq2 := P27_4
          replace Zs := Nat.le_trans Zs Kq27.1
          refine own_step st27 ?_
          show own_Fin _ _ _ _ _ _ _ _ (mkF m 198 #[.val (.int p1), .val (.long q2), .second, .val (.long q3), .second, .val (.ref b1), .val (.int (1 : Int32)), .val (.int (1 : Int32))] [(.int ((1 : Int32) + (1 : Int32)))])
          refine own_step (fun t k => XS.istore X27.here hx rfl (hb hby at_198) rfl (l' := #[.val (.int p1), .val (.long q2), .second, .val (.long q3), .second, .val (.ref b1), .val (.int ((1 : Int32) + (1 : Int32))), .val (.int (1 : Int32))]) rfl k) ?_
          show own_Fin _ _ _ _ _ _ _ _ (mkF m 200 #[.val (.int p1), .val (.long q2), .second, .val (.long q3), .second, .val (.ref b1), .val (.int ((1 : Int32) + (1 : Int32))), .val (.int (1 : Int32))] [])
          show own_Fin _ _ _ _ _ _ _ _ (mkF m 200 #[.val (.int p1), .val (.long q2), .second, .val (.long q3), .second, .val (.ref b1), .val (.int (2 : Int32)), .val (.int (1 : Int32))] [])
          refine own_step (fun t k => XS.iload X27.here hx rfl (hb hby at_200) rfl k) ?_
          show own_Fin _ _ _ _ _ _ _ _ (mkF m 202 #[.val (.int p1), .val (.long q2), .second, .val (.long q3), .second, .val (.ref b1), .val (.int (2 : Int32)), .val (.int (1 : Int32))] [(.int (1 : Int32))])
          refine own_step (fun t k => XS.ifNo X27.here hx rfl (hb hby at_202) rfl (by decide) k) ?_
          show own_Fin _ _ _ _ _ _ _ _ (mkF m 205 #[.val (.int p1), .val (.long q2), .second, .val (.long q3), .second, .val (.ref b1), .val (.int (2 : Int32)), .val (.int (1 : Int32))] [])
          refine own_step (fun t k => XS.aload X27.here hx rfl (hb hby at_205) rfl rfl k) ?_
          show own_Fin _ _ _ _ _ _ _ _ (mkF m 207 #[.val (.int p1), .val (.long q2), .second, .val (.long q3), .second, .val (.ref b1), .val (.int (2 : Int32)), .val (.int (1 : Int32))] [(.ref b1)])
          obtain ⟨cq28, kq28, q28a, q28b, q28c⟩ := isOf hZ rfl E_b1
          obtain ⟨_, _, ⟨T28, L28, k28, n28⟩, -, X28, ⟨Lc28, hQ28, l28, y28, z28⟩, st28⟩ := X27.virtualBack hx (y := (⟨"com/example/limfjord/limfjord/engine/LongQueue", "isEmpty", "()Z"⟩ : MethodName)) (z := (⟨"com/example/limfjord/limfjord/engine/LongQueue", "isEmpty", "()Z"⟩ : MethodName)) hown (mvT hZ (hw _ (List.mem_of_getElem? (i := 12) rfl))) (mvT hZ (hw _ (List.mem_of_getElem? (i := 13) rfl))) (notFace_of_selects (args := #[]) (mvT hZ (hw _ (List.mem_of_getElem? (i := 15) rfl)))) (mvT hZ (hw _ (List.mem_of_getElem? (i := 15) rfl))) (mvT hZ (hw _ (List.mem_of_getElem? (i := 14) rfl))) (by decide) (backOf (W := 0) (rm5 l Z a0 hw [] b1 _ _ T27.heap n0 Zs F_head_b1 F_tail_b1) hZ (hw _ (List.mem_of_getElem? (i := 16) rfl)) (hw _ (List.mem_of_getElem? (i := 2) rfl)) (by decide) (by decide)) q28a q28c (g := (mkF m 207 #[.val (.int p1), .val (.long q2), .second, .val (.long q3), .second, .val (.ref b1), .val (.int (2 : Int32)), .val (.int (1 : Int32))] [(.ref b1)])) rfl (by rw [hml]; rfl) (Steps.refl _) (argsL := []) (rest := []) (lenOf own_pd_3 rfl) rfl (by show 2 * 0 + _ ≤ _; exact Nat.le_of_eq rfl) (hb hby at_207) (fun _ _ => ⟨rfl, rfl, (by decide : 2 + 0 ≤ _), (by decide : 1027 + 0 ≤ _)⟩)
          dsimp only [Pt.U, Pt.locs, Pt.cells, Pt.slots] at X28 l28 y28 z28 st28 hQ28
          subst l28 y28 z28
          obtain ⟨r28, rfl, hB28, Nq28, hh28⟩ := hQ28
          replace Nf := Fr.app Nf Nq28
          refine own_stepT st28 ?_
          show own_Fin _ _ _ _ _ _ _ _ (mkF m 210 #[.val (.int p1), .val (.long q2), .second, .val (.long q3), .second, .val (.ref b1), .val (.int (2 : Int32)), .val (.int (1 : Int32))] [(.int r28)])
          refine own_step (fun t k => XS.iload X28.here hx rfl (hb hby at_210) rfl k) ?_
          show own_Fin _ _ _ _ _ _ _ _ (mkF m 212 #[.val (.int p1), .val (.long q2), .second, .val (.long q3), .second, .val (.ref b1), .val (.int (2 : Int32)), .val (.int (1 : Int32))] [(.int (2 : Int32)), (.int r28)])
          refine own_step (fun t k => XS.ifYes X28.here hx rfl (pc0 := 212) (pc' := 219) rfl (hb hby at_212) rfl (by decide) (by decide) (by decide) k) ?_
          show own_Fin _ _ _ _ _ _ _ _ (mkF m 219 #[.val (.int p1), .val (.long q2), .second, .val (.long q3), .second, .val (.ref b1), .val (.int (2 : Int32)), .val (.int (1 : Int32))] [(.int r28)])
          refine own_step (fun t k => XS.iconst X28.here hx rfl (hb hby at_219) k) ?_
          show own_Fin _ _ _ _ _ _ _ _ (mkF m 220 #[.val (.int p1), .val (.long q2), .second, .val (.long q3), .second, .val (.ref b1), .val (.int (2 : Int32)), .val (.int (1 : Int32))] [(.int (0 : Int32)), (.int r28)])
          have hc29 : (r28).toInt = 0 := by
            rcases hB28 with ⟨q1, q2⟩ | ⟨q1, q2⟩
            · exact absurd q2 (by decide)
            · exact q1
          refine own_step (fun t k => XS.icmpNo X28.here hx rfl (hb hby at_220) rfl (own_ce (x := r28) (y := (0 : Int32)) rfl rfl hc29).2 k) ?_
          show own_Fin _ _ _ _ _ _ _ _ (mkF m 223 #[.val (.int p1), .val (.long q2), .second, .val (.long q3), .second, .val (.ref b1), .val (.int (2 : Int32)), .val (.int (1 : Int32))] [])
          refine own_step (fun t k => XS.iconst X28.here hx rfl (hb hby at_223) k) ?_
          show own_Fin _ _ _ _ _ _ _ _ (mkF m 224 #[.val (.int p1), .val (.long q2), .second, .val (.long q3), .second, .val (.ref b1), .val (.int (2 : Int32)), .val (.int (1 : Int32))] [(.int (1 : Int32))])
          refine own_step (fun t k => XS.goto X28.here hx rfl (pc0 := 224) (pc' := 228) rfl (hb hby at_224) (by decide) (by decide) k) ?_
          show own_Fin _ _ _ _ _ _ _ _ (mkF m 228 #[.val (.int p1), .val (.long q2), .second, .val (.long q3), .second, .val (.ref b1), .val (.int (2 : Int32)), .val (.int (1 : Int32))] [(.int (1 : Int32))])
          refine own_step (fun t k => XS.istore X28.here hx rfl (hb hby at_228) rfl (l' := #[.val (.int p1), .val (.long q2), .second, .val (.long q3), .second, .val (.ref b1), .val (.int (2 : Int32)), .val (.int (1 : Int32))]) rfl k) ?_
          show own_Fin _ _ _ _ _ _ _ _ (mkF m 230 #[.val (.int p1), .val (.long q2), .second, .val (.long q3), .second, .val (.ref b1), .val (.int (2 : Int32)), .val (.int (1 : Int32))] [])
          refine own_step (fun t k => XS.iload X28.here hx rfl (hb hby at_230) rfl k) ?_
          show own_Fin _ _ _ _ _ _ _ _ (mkF m 232 #[.val (.int p1), .val (.long q2), .second, .val (.long q3), .second, .val (.ref b1), .val (.int (2 : Int32)), .val (.int (1 : Int32))] [(.int (1 : Int32))])
          refine own_retZ X28 hx hlk Bd.returns (hb hby at_232) (z' := (1 : Int32)) (by decide) (by decide) (by decide) hh28 ?_
          exact ⟨rfl, Nf⟩
        · skip
          refine own_step (fun t k => XS.ifNo X24.here hx rfl (hb hby at_182) rfl ((if0 _ _).trans (own_cu (x := (p1 &&& (8 : Int32))) (y := (0 : Int32)) rfl rfl hc26).1) k) ?_
          show own_Fin _ _ _ _ _ _ _ _ (mkF m 185 #[.val (.int p1), .val (.long q2), .second, .val (.long q3), .second, .val (.ref b1), .val (.int (1 : Int32)), .val (.int (1 : Int32))] [(.int (1 : Int32)), (.ref b1)])
          refine own_step (fun t k => XS.iconst X24.here hx rfl (hb hby at_185) k) ?_
          show own_Fin _ _ _ _ _ _ _ _ (mkF m 186 #[.val (.int p1), .val (.long q2), .second, .val (.long q3), .second, .val (.ref b1), .val (.int (1 : Int32)), .val (.int (1 : Int32))] [(.int (1 : Int32)), (.int (1 : Int32)), (.ref b1)])
          refine own_step (fun t k => XS.goto X24.here hx rfl (pc0 := 186) (pc' := 190) rfl (hb hby at_186) (by decide) (by decide) k) ?_
          show own_Fin _ _ _ _ _ _ _ _ (mkF m 190 #[.val (.int p1), .val (.long q2), .second, .val (.long q3), .second, .val (.ref b1), .val (.int (1 : Int32)), .val (.int (1 : Int32))] [(.int (1 : Int32)), (.int (1 : Int32)), (.ref b1)])
          refine own_step (fun t k => XS.lloadN X24.here hx rfl (hb hby at_190) rfl k) ?_
          show own_Fin _ _ _ _ _ _ _ _ (mkF m 191 #[.val (.int p1), .val (.long q2), .second, .val (.long q3), .second, .val (.ref b1), .val (.int (1 : Int32)), .val (.int (1 : Int32))] [(.long q2), (.int (1 : Int32)), (.int (1 : Int32)), (.ref b1)])
          refine own_step (fun t k => X24.ldc2Long hx hown (mvT hZ (hw _ (List.mem_of_getElem? (i := 30) rfl))) (g := (mkF m 191 #[.val (.int p1), .val (.long q2), .second, .val (.long q3), .second, .val (.ref b1), .val (.int (1 : Int32)), .val (.int (1 : Int32))] [(.long q2), (.int (1 : Int32)), (.int (1 : Int32)), (.ref b1)])) rfl (hb hby at_191) _ k) ?_
          show own_Fin _ _ _ _ _ _ _ _ (mkF m 194 #[.val (.int p1), .val (.long q2), .second, .val (.long q3), .second, .val (.ref b1), .val (.int (1 : Int32)), .val (.int (1 : Int32))] [(.long (-1 : Int64)), (.long q2), (.int (1 : Int32)), (.int (1 : Int32)), (.ref b1)])
          refine own_step (fun t k => XS.lxor X24.here hx rfl (hb hby at_194) rfl k) ?_
          show own_Fin _ _ _ _ _ _ _ _ (mkF m 195 #[.val (.int p1), .val (.long q2), .second, .val (.long q3), .second, .val (.ref b1), .val (.int (1 : Int32)), .val (.int (1 : Int32))] [(.long (q2 ^^^ (-1 : Int64))), (.int (1 : Int32)), (.int (1 : Int32)), (.ref b1)])
          obtain ⟨_, _, ⟨T30, L30, k30, n30⟩, -, X30, ⟨Lc30, hQ30, l30, y30, z30⟩, st30⟩ := Jvm.LawKit.callS X24 hx (y := (⟨"com/example/limfjord/limfjord/engine/LongQueueIsEmptyPinLaw", "step", "(Lcom/example/limfjord/limfjord/engine/LongQueue;IZJ)I"⟩ : MethodName)) hown (mvT hZ (hw _ (List.mem_of_getElem? (i := 21) rfl))) (mvT hZ (hw _ (List.mem_of_getElem? (i := 22) rfl))) (mvT hZ (hw _ (List.mem_of_getElem? (i := 23) rfl))) (mvT hZ (hw _ (List.mem_of_getElem? (i := 24) rfl))) (by decide) (backOf (W := 0) (rm6 l Z a0 hw [] b1 (1 : Int32) (1 : Int32) (q2 ^^^ (-1 : Int64)) _ _ _ _ T23.heap n0 Zs E_b1 F_entries_b1 F_head_b1 F_tail_b1 V_bq2 g_b1 neq2 (by decide) (by decide)) hZ (hw _ (List.mem_of_getElem? (i := 24) rfl)) (hw _ (List.mem_of_getElem? (i := 23) rfl)) (by decide) (by decide)) (g := (mkF m 195 #[.val (.int p1), .val (.long q2), .second, .val (.long q3), .second, .val (.ref b1), .val (.int (1 : Int32)), .val (.int (1 : Int32))] [(.long (q2 ^^^ (-1 : Int64))), (.int (1 : Int32)), (.int (1 : Int32)), (.ref b1)])) rfl (by rw [hml]; rfl) (argsL := [(.ref b1), (.int (1 : Int32)), (.int (1 : Int32)), (.long (q2 ^^^ (-1 : Int64)))]) (rest := []) (lenOf own_pd_4 rfl) rfl (by show 2 * 0 + _ ≤ _; exact Nat.le_of_eq rfl) (hb hby at_195) (fun _ _ => ⟨rfl, hh24, (by decide : 2 + 0 ≤ _), (by decide : 1027 + 0 ≤ _)⟩)
          dsimp only [Pt.U, Pt.locs, Pt.cells, Pt.slots] at X30 l30 y30 z30 st30 hQ30
          subst l30 y30 z30
          obtain ⟨rfl, Nq30, Kq30, P30_0, P30_1, P30_2, P30_3⟩ := hQ30
          replace Nf := Fr.app Nf Nq30
          replace E_b1 := P30_0
          replace F_entries_b1 := P30_1
          replace F_head_b1 : Fld Z T30.heap b1 "com/example/limfjord/limfjord/engine/LongQueue" "head" "I" (.int (2 : Int32)) := P30_2
          replace F_tail_b1 := P30_3
          replace V_bq2 := V_bq2.keep Kq30 (ninS (Ne.symm neq2) nin0)
          replace Zs := Nat.le_trans Zs Kq30.1
          refine own_step st30 ?_
          show own_Fin _ _ _ _ _ _ _ _ (mkF m 198 #[.val (.int p1), .val (.long q2), .second, .val (.long q3), .second, .val (.ref b1), .val (.int (1 : Int32)), .val (.int (1 : Int32))] [(.int ((1 : Int32) - (1 : Int32)))])
          refine own_step (fun t k => XS.istore X30.here hx rfl (hb hby at_198) rfl (l' := #[.val (.int p1), .val (.long q2), .second, .val (.long q3), .second, .val (.ref b1), .val (.int ((1 : Int32) - (1 : Int32))), .val (.int (1 : Int32))]) rfl k) ?_
          show own_Fin _ _ _ _ _ _ _ _ (mkF m 200 #[.val (.int p1), .val (.long q2), .second, .val (.long q3), .second, .val (.ref b1), .val (.int ((1 : Int32) - (1 : Int32))), .val (.int (1 : Int32))] [])
          show own_Fin _ _ _ _ _ _ _ _ (mkF m 200 #[.val (.int p1), .val (.long q2), .second, .val (.long q3), .second, .val (.ref b1), .val (.int (0 : Int32)), .val (.int (1 : Int32))] [])
          refine own_step (fun t k => XS.iload X30.here hx rfl (hb hby at_200) rfl k) ?_
          show own_Fin _ _ _ _ _ _ _ _ (mkF m 202 #[.val (.int p1), .val (.long q2), .second, .val (.long q3), .second, .val (.ref b1), .val (.int (0 : Int32)), .val (.int (1 : Int32))] [(.int (1 : Int32))])
          refine own_step (fun t k => XS.ifNo X30.here hx rfl (hb hby at_202) rfl (by decide) k) ?_
          show own_Fin _ _ _ _ _ _ _ _ (mkF m 205 #[.val (.int p1), .val (.long q2), .second, .val (.long q3), .second, .val (.ref b1), .val (.int (0 : Int32)), .val (.int (1 : Int32))] [])
          refine own_step (fun t k => XS.aload X30.here hx rfl (hb hby at_205) rfl rfl k) ?_
          show own_Fin _ _ _ _ _ _ _ _ (mkF m 207 #[.val (.int p1), .val (.long q2), .second, .val (.long q3), .second, .val (.ref b1), .val (.int (0 : Int32)), .val (.int (1 : Int32))] [(.ref b1)])
          obtain ⟨cq31, kq31, q31a, q31b, q31c⟩ := isOf hZ rfl E_b1
          obtain ⟨_, _, ⟨T31, L31, k31, n31⟩, -, X31, ⟨Lc31, hQ31, l31, y31, z31⟩, st31⟩ := X30.virtualBack hx (y := (⟨"com/example/limfjord/limfjord/engine/LongQueue", "isEmpty", "()Z"⟩ : MethodName)) (z := (⟨"com/example/limfjord/limfjord/engine/LongQueue", "isEmpty", "()Z"⟩ : MethodName)) hown (mvT hZ (hw _ (List.mem_of_getElem? (i := 12) rfl))) (mvT hZ (hw _ (List.mem_of_getElem? (i := 13) rfl))) (notFace_of_selects (args := #[]) (mvT hZ (hw _ (List.mem_of_getElem? (i := 15) rfl)))) (mvT hZ (hw _ (List.mem_of_getElem? (i := 15) rfl))) (mvT hZ (hw _ (List.mem_of_getElem? (i := 14) rfl))) (by decide) (backOf (W := 0) (rm5 l Z a0 hw [] b1 _ _ T30.heap n0 Zs F_head_b1 F_tail_b1) hZ (hw _ (List.mem_of_getElem? (i := 16) rfl)) (hw _ (List.mem_of_getElem? (i := 2) rfl)) (by decide) (by decide)) q31a q31c (g := (mkF m 207 #[.val (.int p1), .val (.long q2), .second, .val (.long q3), .second, .val (.ref b1), .val (.int (0 : Int32)), .val (.int (1 : Int32))] [(.ref b1)])) rfl (by rw [hml]; rfl) (Steps.refl _) (argsL := []) (rest := []) (lenOf own_pd_3 rfl) rfl (by show 2 * 0 + _ ≤ _; exact Nat.le_of_eq rfl) (hb hby at_207) (fun _ _ => ⟨rfl, rfl, (by decide : 2 + 0 ≤ _), (by decide : 1027 + 0 ≤ _)⟩)
          dsimp only [Pt.U, Pt.locs, Pt.cells, Pt.slots] at X31 l31 y31 z31 st31 hQ31
          subst l31 y31 z31
          obtain ⟨r31, rfl, hB31, Nq31, hh31⟩ := hQ31
          replace Nf := Fr.app Nf Nq31
          refine own_stepT st31 ?_
          show own_Fin _ _ _ _ _ _ _ _ (mkF m 210 #[.val (.int p1), .val (.long q2), .second, .val (.long q3), .second, .val (.ref b1), .val (.int (0 : Int32)), .val (.int (1 : Int32))] [(.int r31)])
          refine own_step (fun t k => XS.iload X31.here hx rfl (hb hby at_210) rfl k) ?_
          show own_Fin _ _ _ _ _ _ _ _ (mkF m 212 #[.val (.int p1), .val (.long q2), .second, .val (.long q3), .second, .val (.ref b1), .val (.int (0 : Int32)), .val (.int (1 : Int32))] [(.int (0 : Int32)), (.int r31)])
          refine own_step (fun t k => XS.ifNo X31.here hx rfl (hb hby at_212) rfl (by decide) k) ?_
          show own_Fin _ _ _ _ _ _ _ _ (mkF m 215 #[.val (.int p1), .val (.long q2), .second, .val (.long q3), .second, .val (.ref b1), .val (.int (0 : Int32)), .val (.int (1 : Int32))] [(.int r31)])
          refine own_step (fun t k => XS.iconst X31.here hx rfl (hb hby at_215) k) ?_
          show own_Fin _ _ _ _ _ _ _ _ (mkF m 216 #[.val (.int p1), .val (.long q2), .second, .val (.long q3), .second, .val (.ref b1), .val (.int (0 : Int32)), .val (.int (1 : Int32))] [(.int (1 : Int32)), (.int r31)])
          refine own_step (fun t k => XS.goto X31.here hx rfl (pc0 := 216) (pc' := 220) rfl (hb hby at_216) (by decide) (by decide) k) ?_
          show own_Fin _ _ _ _ _ _ _ _ (mkF m 220 #[.val (.int p1), .val (.long q2), .second, .val (.long q3), .second, .val (.ref b1), .val (.int (0 : Int32)), .val (.int (1 : Int32))] [(.int (1 : Int32)), (.int r31)])
          have hc32 : (r31).toInt = 1 := by
            rcases hB31 with ⟨q1, q2⟩ | ⟨q1, q2⟩
            · exact q1
            · exact absurd (by decide) q2
          refine own_step (fun t k => XS.icmpNo X31.here hx rfl (hb hby at_220) rfl (own_ce (x := r31) (y := (1 : Int32)) rfl rfl hc32).2 k) ?_
          show own_Fin _ _ _ _ _ _ _ _ (mkF m 223 #[.val (.int p1), .val (.long q2), .second, .val (.long q3), .second, .val (.ref b1), .val (.int (0 : Int32)), .val (.int (1 : Int32))] [])
          refine own_step (fun t k => XS.iconst X31.here hx rfl (hb hby at_223) k) ?_
          show own_Fin _ _ _ _ _ _ _ _ (mkF m 224 #[.val (.int p1), .val (.long q2), .second, .val (.long q3), .second, .val (.ref b1), .val (.int (0 : Int32)), .val (.int (1 : Int32))] [(.int (1 : Int32))])
          refine own_step (fun t k => XS.goto X31.here hx rfl (pc0 := 224) (pc' := 228) rfl (hb hby at_224) (by decide) (by decide) k) ?_
          show own_Fin _ _ _ _ _ _ _ _ (mkF m 228 #[.val (.int p1), .val (.long q2), .second, .val (.long q3), .second, .val (.ref b1), .val (.int (0 : Int32)), .val (.int (1 : Int32))] [(.int (1 : Int32))])
          refine own_step (fun t k => XS.istore X31.here hx rfl (hb hby at_228) rfl (l' := #[.val (.int p1), .val (.long q2), .second, .val (.long q3), .second, .val (.ref b1), .val (.int (0 : Int32)), .val (.int (1 : Int32))]) rfl k) ?_
          show own_Fin _ _ _ _ _ _ _ _ (mkF m 230 #[.val (.int p1), .val (.long q2), .second, .val (.long q3), .second, .val (.ref b1), .val (.int (0 : Int32)), .val (.int (1 : Int32))] [])
          refine own_step (fun t k => XS.iload X31.here hx rfl (hb hby at_230) rfl k) ?_
          show own_Fin _ _ _ _ _ _ _ _ (mkF m 232 #[.val (.int p1), .val (.long q2), .second, .val (.long q3), .second, .val (.ref b1), .val (.int (0 : Int32)), .val (.int (1 : Int32))] [(.int (1 : Int32))])
          refine own_retZ X31 hx hlk Bd.returns (hb hby at_232) (z' := (1 : Int32)) (by decide) (by decide) (by decide) hh31 ?_
          exact ⟨rfl, Nf⟩
    · skip
      refine own_step (fun t k => XS.ifNo X6.here hx rfl (hb hby at_77) rfl ((if0 _ _).trans (own_cu (x := (p1 &&& (2 : Int32))) (y := (0 : Int32)) rfl rfl hc8).1) k) ?_
      show own_Fin _ _ _ _ _ _ _ _ (mkF m 80 #[.val (.int p1), .val (.long q2), .second, .val (.long q3), .second, .val (.ref b1), .val (.int (1 : Int32)), .val (.int (1 : Int32))] [(.int (1 : Int32)), (.ref b1)])
      refine own_step (fun t k => XS.iconst X6.here hx rfl (hb hby at_80) k) ?_
      show own_Fin _ _ _ _ _ _ _ _ (mkF m 81 #[.val (.int p1), .val (.long q2), .second, .val (.long q3), .second, .val (.ref b1), .val (.int (1 : Int32)), .val (.int (1 : Int32))] [(.int (1 : Int32)), (.int (1 : Int32)), (.ref b1)])
      refine own_step (fun t k => XS.goto X6.here hx rfl (pc0 := 81) (pc' := 85) rfl (hb hby at_81) (by decide) (by decide) k) ?_
      show own_Fin _ _ _ _ _ _ _ _ (mkF m 85 #[.val (.int p1), .val (.long q2), .second, .val (.long q3), .second, .val (.ref b1), .val (.int (1 : Int32)), .val (.int (1 : Int32))] [(.int (1 : Int32)), (.int (1 : Int32)), (.ref b1)])
      refine own_step (fun t k => XS.lloadN X6.here hx rfl (hb hby at_85) rfl k) ?_
      show own_Fin _ _ _ _ _ _ _ _ (mkF m 86 #[.val (.int p1), .val (.long q2), .second, .val (.long q3), .second, .val (.ref b1), .val (.int (1 : Int32)), .val (.int (1 : Int32))] [(.long q3), (.int (1 : Int32)), (.int (1 : Int32)), (.ref b1)])
      obtain ⟨_, _, ⟨T33, L33, k33, n33⟩, -, X33, ⟨Lc33, hQ33, l33, y33, z33⟩, st33⟩ := Jvm.LawKit.callS X6 hx (y := (⟨"com/example/limfjord/limfjord/engine/LongQueueIsEmptyPinLaw", "step", "(Lcom/example/limfjord/limfjord/engine/LongQueue;IZJ)I"⟩ : MethodName)) hown (mvT hZ (hw _ (List.mem_of_getElem? (i := 21) rfl))) (mvT hZ (hw _ (List.mem_of_getElem? (i := 22) rfl))) (mvT hZ (hw _ (List.mem_of_getElem? (i := 23) rfl))) (mvT hZ (hw _ (List.mem_of_getElem? (i := 24) rfl))) (by decide) (backOf (W := 0) (rm6 l Z a0 hw [] b1 (1 : Int32) (1 : Int32) q3 _ _ _ _ T4.heap n0 Zs E_b1 F_entries_b1 F_head_b1 F_tail_b1 V_bq2 g_b1 neq2 (by decide) (by decide)) hZ (hw _ (List.mem_of_getElem? (i := 24) rfl)) (hw _ (List.mem_of_getElem? (i := 23) rfl)) (by decide) (by decide)) (g := (mkF m 86 #[.val (.int p1), .val (.long q2), .second, .val (.long q3), .second, .val (.ref b1), .val (.int (1 : Int32)), .val (.int (1 : Int32))] [(.long q3), (.int (1 : Int32)), (.int (1 : Int32)), (.ref b1)])) rfl (by rw [hml]; rfl) (argsL := [(.ref b1), (.int (1 : Int32)), (.int (1 : Int32)), (.long q3)]) (rest := []) (lenOf own_pd_4 rfl) rfl (by show 2 * 0 + _ ≤ _; exact Nat.le_of_eq rfl) (hb hby at_86) (fun _ _ => ⟨rfl, hh6, (by decide : 2 + 0 ≤ _), (by decide : 1027 + 0 ≤ _)⟩)
      dsimp only [Pt.U, Pt.locs, Pt.cells, Pt.slots] at X33 l33 y33 z33 st33 hQ33
      subst l33 y33 z33
      obtain ⟨rfl, Nq33, Kq33, P33_0, P33_1, P33_2, P33_3⟩ := hQ33
      replace Nf := Fr.app Nf Nq33
      replace E_b1 := P33_0
      replace F_entries_b1 := P33_1
      replace F_head_b1 : Fld Z T33.heap b1 "com/example/limfjord/limfjord/engine/LongQueue" "head" "I" (.int (1 : Int32)) := P33_2
      replace F_tail_b1 := P33_3
      replace V_bq2 := V_bq2.keep Kq33 (ninS (Ne.symm neq2) nin0)
      replace Zs := Nat.le_trans Zs Kq33.1
      refine own_step st33 ?_
      show own_Fin _ _ _ _ _ _ _ _ (mkF m 89 #[.val (.int p1), .val (.long q2), .second, .val (.long q3), .second, .val (.ref b1), .val (.int (1 : Int32)), .val (.int (1 : Int32))] [(.int ((1 : Int32) - (1 : Int32)))])
      refine own_step (fun t k => XS.istore X33.here hx rfl (hb hby at_89) rfl (l' := #[.val (.int p1), .val (.long q2), .second, .val (.long q3), .second, .val (.ref b1), .val (.int ((1 : Int32) - (1 : Int32))), .val (.int (1 : Int32))]) rfl k) ?_
      show own_Fin _ _ _ _ _ _ _ _ (mkF m 91 #[.val (.int p1), .val (.long q2), .second, .val (.long q3), .second, .val (.ref b1), .val (.int ((1 : Int32) - (1 : Int32))), .val (.int (1 : Int32))] [])
      show own_Fin _ _ _ _ _ _ _ _ (mkF m 91 #[.val (.int p1), .val (.long q2), .second, .val (.long q3), .second, .val (.ref b1), .val (.int (0 : Int32)), .val (.int (1 : Int32))] [])
      refine own_step (fun t k => XS.iload X33.here hx rfl (hb hby at_91) rfl k) ?_
      show own_Fin _ _ _ _ _ _ _ _ (mkF m 93 #[.val (.int p1), .val (.long q2), .second, .val (.long q3), .second, .val (.ref b1), .val (.int (0 : Int32)), .val (.int (1 : Int32))] [(.int (1 : Int32))])
      refine own_step (fun t k => XS.ifNo X33.here hx rfl (hb hby at_93) rfl (by decide) k) ?_
      show own_Fin _ _ _ _ _ _ _ _ (mkF m 96 #[.val (.int p1), .val (.long q2), .second, .val (.long q3), .second, .val (.ref b1), .val (.int (0 : Int32)), .val (.int (1 : Int32))] [])
      refine own_step (fun t k => XS.aload X33.here hx rfl (hb hby at_96) rfl rfl k) ?_
      show own_Fin _ _ _ _ _ _ _ _ (mkF m 98 #[.val (.int p1), .val (.long q2), .second, .val (.long q3), .second, .val (.ref b1), .val (.int (0 : Int32)), .val (.int (1 : Int32))] [(.ref b1)])
      obtain ⟨cq34, kq34, q34a, q34b, q34c⟩ := isOf hZ rfl E_b1
      obtain ⟨_, _, ⟨T34, L34, k34, n34⟩, -, X34, ⟨Lc34, hQ34, l34, y34, z34⟩, st34⟩ := X33.virtualBack hx (y := (⟨"com/example/limfjord/limfjord/engine/LongQueue", "isEmpty", "()Z"⟩ : MethodName)) (z := (⟨"com/example/limfjord/limfjord/engine/LongQueue", "isEmpty", "()Z"⟩ : MethodName)) hown (mvT hZ (hw _ (List.mem_of_getElem? (i := 12) rfl))) (mvT hZ (hw _ (List.mem_of_getElem? (i := 13) rfl))) (notFace_of_selects (args := #[]) (mvT hZ (hw _ (List.mem_of_getElem? (i := 15) rfl)))) (mvT hZ (hw _ (List.mem_of_getElem? (i := 15) rfl))) (mvT hZ (hw _ (List.mem_of_getElem? (i := 14) rfl))) (by decide) (backOf (W := 0) (rm5 l Z a0 hw [] b1 _ _ T33.heap n0 Zs F_head_b1 F_tail_b1) hZ (hw _ (List.mem_of_getElem? (i := 16) rfl)) (hw _ (List.mem_of_getElem? (i := 2) rfl)) (by decide) (by decide)) q34a q34c (g := (mkF m 98 #[.val (.int p1), .val (.long q2), .second, .val (.long q3), .second, .val (.ref b1), .val (.int (0 : Int32)), .val (.int (1 : Int32))] [(.ref b1)])) rfl (by rw [hml]; rfl) (Steps.refl _) (argsL := []) (rest := []) (lenOf own_pd_3 rfl) rfl (by show 2 * 0 + _ ≤ _; exact Nat.le_of_eq rfl) (hb hby at_98) (fun _ _ => ⟨rfl, rfl, (by decide : 2 + 0 ≤ _), (by decide : 1027 + 0 ≤ _)⟩)
      dsimp only [Pt.U, Pt.locs, Pt.cells, Pt.slots] at X34 l34 y34 z34 st34 hQ34
      subst l34 y34 z34
      obtain ⟨r34, rfl, hB34, Nq34, hh34⟩ := hQ34
      replace Nf := Fr.app Nf Nq34
      refine own_stepT st34 ?_
      show own_Fin _ _ _ _ _ _ _ _ (mkF m 101 #[.val (.int p1), .val (.long q2), .second, .val (.long q3), .second, .val (.ref b1), .val (.int (0 : Int32)), .val (.int (1 : Int32))] [(.int r34)])
      refine own_step (fun t k => XS.iload X34.here hx rfl (hb hby at_101) rfl k) ?_
      show own_Fin _ _ _ _ _ _ _ _ (mkF m 103 #[.val (.int p1), .val (.long q2), .second, .val (.long q3), .second, .val (.ref b1), .val (.int (0 : Int32)), .val (.int (1 : Int32))] [(.int (0 : Int32)), (.int r34)])
      refine own_step (fun t k => XS.ifNo X34.here hx rfl (hb hby at_103) rfl (by decide) k) ?_
      show own_Fin _ _ _ _ _ _ _ _ (mkF m 106 #[.val (.int p1), .val (.long q2), .second, .val (.long q3), .second, .val (.ref b1), .val (.int (0 : Int32)), .val (.int (1 : Int32))] [(.int r34)])
      refine own_step (fun t k => XS.iconst X34.here hx rfl (hb hby at_106) k) ?_
      show own_Fin _ _ _ _ _ _ _ _ (mkF m 107 #[.val (.int p1), .val (.long q2), .second, .val (.long q3), .second, .val (.ref b1), .val (.int (0 : Int32)), .val (.int (1 : Int32))] [(.int (1 : Int32)), (.int r34)])
      refine own_step (fun t k => XS.goto X34.here hx rfl (pc0 := 107) (pc' := 111) rfl (hb hby at_107) (by decide) (by decide) k) ?_
      show own_Fin _ _ _ _ _ _ _ _ (mkF m 111 #[.val (.int p1), .val (.long q2), .second, .val (.long q3), .second, .val (.ref b1), .val (.int (0 : Int32)), .val (.int (1 : Int32))] [(.int (1 : Int32)), (.int r34)])
      have hc35 : (r34).toInt = 1 := by
        rcases hB34 with ⟨q1, q2⟩ | ⟨q1, q2⟩
        · exact q1
        · exact absurd (by decide) q2
      refine own_step (fun t k => XS.icmpNo X34.here hx rfl (hb hby at_111) rfl (own_ce (x := r34) (y := (1 : Int32)) rfl rfl hc35).2 k) ?_
      show own_Fin _ _ _ _ _ _ _ _ (mkF m 114 #[.val (.int p1), .val (.long q2), .second, .val (.long q3), .second, .val (.ref b1), .val (.int (0 : Int32)), .val (.int (1 : Int32))] [])
      refine own_step (fun t k => XS.iconst X34.here hx rfl (hb hby at_114) k) ?_
      show own_Fin _ _ _ _ _ _ _ _ (mkF m 115 #[.val (.int p1), .val (.long q2), .second, .val (.long q3), .second, .val (.ref b1), .val (.int (0 : Int32)), .val (.int (1 : Int32))] [(.int (1 : Int32))])
      refine own_step (fun t k => XS.goto X34.here hx rfl (pc0 := 115) (pc' := 119) rfl (hb hby at_115) (by decide) (by decide) k) ?_
      show own_Fin _ _ _ _ _ _ _ _ (mkF m 119 #[.val (.int p1), .val (.long q2), .second, .val (.long q3), .second, .val (.ref b1), .val (.int (0 : Int32)), .val (.int (1 : Int32))] [(.int (1 : Int32))])
      refine own_step (fun t k => XS.istore X34.here hx rfl (hb hby at_119) rfl (l' := #[.val (.int p1), .val (.long q2), .second, .val (.long q3), .second, .val (.ref b1), .val (.int (0 : Int32)), .val (.int (1 : Int32))]) rfl k) ?_
      show own_Fin _ _ _ _ _ _ _ _ (mkF m 121 #[.val (.int p1), .val (.long q2), .second, .val (.long q3), .second, .val (.ref b1), .val (.int (0 : Int32)), .val (.int (1 : Int32))] [])
      refine own_step (fun t k => XS.aload X34.here hx rfl (hb hby at_121) rfl rfl k) ?_
      show own_Fin _ _ _ _ _ _ _ _ (mkF m 123 #[.val (.int p1), .val (.long q2), .second, .val (.long q3), .second, .val (.ref b1), .val (.int (0 : Int32)), .val (.int (1 : Int32))] [(.ref b1)])
      refine own_step (fun t k => XS.iload X34.here hx rfl (hb hby at_123) rfl k) ?_
      show own_Fin _ _ _ _ _ _ _ _ (mkF m 125 #[.val (.int p1), .val (.long q2), .second, .val (.long q3), .second, .val (.ref b1), .val (.int (0 : Int32)), .val (.int (1 : Int32))] [(.int (0 : Int32)), (.ref b1)])
      refine own_step (fun t k => XS.iloadN X34.here hx rfl (hb hby at_125) rfl k) ?_
      show own_Fin _ _ _ _ _ _ _ _ (mkF m 126 #[.val (.int p1), .val (.long q2), .second, .val (.long q3), .second, .val (.ref b1), .val (.int (0 : Int32)), .val (.int (1 : Int32))] [(.int p1), (.int (0 : Int32)), (.ref b1)])
      refine own_step (fun t k => XS.iconst X34.here hx rfl (hb hby at_126) k) ?_
      show own_Fin _ _ _ _ _ _ _ _ (mkF m 127 #[.val (.int p1), .val (.long q2), .second, .val (.long q3), .second, .val (.ref b1), .val (.int (0 : Int32)), .val (.int (1 : Int32))] [(.int (4 : Int32)), (.int p1), (.int (0 : Int32)), (.ref b1)])
      refine own_step (fun t k => XS.iand X34.here hx rfl (hb hby at_127) rfl k) ?_
      show own_Fin _ _ _ _ _ _ _ _ (mkF m 128 #[.val (.int p1), .val (.long q2), .second, .val (.long q3), .second, .val (.ref b1), .val (.int (0 : Int32)), .val (.int (1 : Int32))] [(.int (p1 &&& (4 : Int32))), (.int (0 : Int32)), (.ref b1)])
      by_cases hc36 : ((p1 &&& (4 : Int32))).toInt = 0
      · skip
        refine own_step (fun t k => XS.ifYes X34.here hx rfl (pc0 := 128) (pc' := 135) rfl (hb hby at_128) rfl ((if0 _ _).trans (own_ce (x := (p1 &&& (4 : Int32))) (y := (0 : Int32)) rfl rfl hc36).1) (by decide) (by decide) k) ?_
        show own_Fin _ _ _ _ _ _ _ _ (mkF m 135 #[.val (.int p1), .val (.long q2), .second, .val (.long q3), .second, .val (.ref b1), .val (.int (0 : Int32)), .val (.int (1 : Int32))] [(.int (0 : Int32)), (.ref b1)])
        refine own_step (fun t k => XS.iconst X34.here hx rfl (hb hby at_135) k) ?_
        show own_Fin _ _ _ _ _ _ _ _ (mkF m 136 #[.val (.int p1), .val (.long q2), .second, .val (.long q3), .second, .val (.ref b1), .val (.int (0 : Int32)), .val (.int (1 : Int32))] [(.int (0 : Int32)), (.int (0 : Int32)), (.ref b1)])
        refine own_step (fun t k => XS.lloadN X34.here hx rfl (hb hby at_136) rfl k) ?_
        show own_Fin _ _ _ _ _ _ _ _ (mkF m 137 #[.val (.int p1), .val (.long q2), .second, .val (.long q3), .second, .val (.ref b1), .val (.int (0 : Int32)), .val (.int (1 : Int32))] [(.long q2), (.int (0 : Int32)), (.int (0 : Int32)), (.ref b1)])
        refine own_step (fun t k => XS.lloadN X34.here hx rfl (hb hby at_137) rfl k) ?_
        show own_Fin _ _ _ _ _ _ _ _ (mkF m 138 #[.val (.int p1), .val (.long q2), .second, .val (.long q3), .second, .val (.ref b1), .val (.int (0 : Int32)), .val (.int (1 : Int32))] [(.long q3), (.long q2), (.int (0 : Int32)), (.int (0 : Int32)), (.ref b1)])
        refine own_step (fun t k => XS.lxor X34.here hx rfl (hb hby at_138) rfl k) ?_
        show own_Fin _ _ _ _ _ _ _ _ (mkF m 139 #[.val (.int p1), .val (.long q2), .second, .val (.long q3), .second, .val (.ref b1), .val (.int (0 : Int32)), .val (.int (1 : Int32))] [(.long (q2 ^^^ q3)), (.int (0 : Int32)), (.int (0 : Int32)), (.ref b1)])
        obtain ⟨_, _, ⟨T37, L37, k37, n37⟩, -, X37, ⟨Lc37, hQ37, l37, y37, z37⟩, st37⟩ := Jvm.LawKit.callS X34 hx (y := (⟨"com/example/limfjord/limfjord/engine/LongQueueIsEmptyPinLaw", "step", "(Lcom/example/limfjord/limfjord/engine/LongQueue;IZJ)I"⟩ : MethodName)) hown (mvT hZ (hw _ (List.mem_of_getElem? (i := 21) rfl))) (mvT hZ (hw _ (List.mem_of_getElem? (i := 22) rfl))) (mvT hZ (hw _ (List.mem_of_getElem? (i := 23) rfl))) (mvT hZ (hw _ (List.mem_of_getElem? (i := 24) rfl))) (by decide) (backOf (W := 0) (rm7 l Z a0 hw [] b1 (0 : Int32) (0 : Int32) (q2 ^^^ q3) _ _ _ _ T33.heap n0 Zs E_b1 F_entries_b1 F_head_b1 F_tail_b1 V_bq2 g_b1 gq2 neq2 (by decide) (by decide)) hZ (hw _ (List.mem_of_getElem? (i := 24) rfl)) (hw _ (List.mem_of_getElem? (i := 23) rfl)) (by decide) (by decide)) (g := (mkF m 139 #[.val (.int p1), .val (.long q2), .second, .val (.long q3), .second, .val (.ref b1), .val (.int (0 : Int32)), .val (.int (1 : Int32))] [(.long (q2 ^^^ q3)), (.int (0 : Int32)), (.int (0 : Int32)), (.ref b1)])) rfl (by rw [hml]; rfl) (argsL := [(.ref b1), (.int (0 : Int32)), (.int (0 : Int32)), (.long (q2 ^^^ q3))]) (rest := []) (lenOf own_pd_4 rfl) rfl (by show 2 * 0 + _ ≤ _; exact Nat.le_of_eq rfl) (hb hby at_139) (fun _ _ => ⟨rfl, hh34, (by decide : 2 + 0 ≤ _), (by decide : 1027 + 0 ≤ _)⟩)
        dsimp only [Pt.U, Pt.locs, Pt.cells, Pt.slots] at X37 l37 y37 z37 st37 hQ37
        subst l37 y37 z37
        obtain ⟨rfl, Nq37, Kq37, P37_0, P37_1, P37_2, P37_3, P37_4⟩ := hQ37
        replace Nf := Fr.app Nf Nq37
        replace E_b1 := P37_0
        replace F_entries_b1 := P37_1
        replace F_head_b1 := P37_2
        replace F_tail_b1 : Fld Z T37.heap b1 "com/example/limfjord/limfjord/engine/LongQueue" "tail" "I" (.int (2 : Int32)) := P37_3
        replace V_bq2 := P37_4
        replace Zs := Nat.le_trans Zs Kq37.1
        refine own_step st37 ?_
        show own_Fin _ _ _ _ _ _ _ _ (mkF m 142 #[.val (.int p1), .val (.long q2), .second, .val (.long q3), .second, .val (.ref b1), .val (.int (0 : Int32)), .val (.int (1 : Int32))] [(.int ((0 : Int32) + (1 : Int32)))])
        refine own_step (fun t k => XS.istore X37.here hx rfl (hb hby at_142) rfl (l' := #[.val (.int p1), .val (.long q2), .second, .val (.long q3), .second, .val (.ref b1), .val (.int ((0 : Int32) + (1 : Int32))), .val (.int (1 : Int32))]) rfl k) ?_
        show own_Fin _ _ _ _ _ _ _ _ (mkF m 144 #[.val (.int p1), .val (.long q2), .second, .val (.long q3), .second, .val (.ref b1), .val (.int ((0 : Int32) + (1 : Int32))), .val (.int (1 : Int32))] [])
        show own_Fin _ _ _ _ _ _ _ _ (mkF m 144 #[.val (.int p1), .val (.long q2), .second, .val (.long q3), .second, .val (.ref b1), .val (.int (1 : Int32)), .val (.int (1 : Int32))] [])
        refine own_step (fun t k => XS.iload X37.here hx rfl (hb hby at_144) rfl k) ?_
        show own_Fin _ _ _ _ _ _ _ _ (mkF m 146 #[.val (.int p1), .val (.long q2), .second, .val (.long q3), .second, .val (.ref b1), .val (.int (1 : Int32)), .val (.int (1 : Int32))] [(.int (1 : Int32))])
        refine own_step (fun t k => XS.ifNo X37.here hx rfl (hb hby at_146) rfl (by decide) k) ?_
        show own_Fin _ _ _ _ _ _ _ _ (mkF m 149 #[.val (.int p1), .val (.long q2), .second, .val (.long q3), .second, .val (.ref b1), .val (.int (1 : Int32)), .val (.int (1 : Int32))] [])
        refine own_step (fun t k => XS.aload X37.here hx rfl (hb hby at_149) rfl rfl k) ?_
        show own_Fin _ _ _ _ _ _ _ _ (mkF m 151 #[.val (.int p1), .val (.long q2), .second, .val (.long q3), .second, .val (.ref b1), .val (.int (1 : Int32)), .val (.int (1 : Int32))] [(.ref b1)])
        obtain ⟨cq38, kq38, q38a, q38b, q38c⟩ := isOf hZ rfl E_b1
        obtain ⟨_, _, ⟨T38, L38, k38, n38⟩, -, X38, ⟨Lc38, hQ38, l38, y38, z38⟩, st38⟩ := X37.virtualBack hx (y := (⟨"com/example/limfjord/limfjord/engine/LongQueue", "isEmpty", "()Z"⟩ : MethodName)) (z := (⟨"com/example/limfjord/limfjord/engine/LongQueue", "isEmpty", "()Z"⟩ : MethodName)) hown (mvT hZ (hw _ (List.mem_of_getElem? (i := 12) rfl))) (mvT hZ (hw _ (List.mem_of_getElem? (i := 13) rfl))) (notFace_of_selects (args := #[]) (mvT hZ (hw _ (List.mem_of_getElem? (i := 15) rfl)))) (mvT hZ (hw _ (List.mem_of_getElem? (i := 15) rfl))) (mvT hZ (hw _ (List.mem_of_getElem? (i := 14) rfl))) (by decide) (backOf (W := 0) (rm5 l Z a0 hw [] b1 _ _ T37.heap n0 Zs F_head_b1 F_tail_b1) hZ (hw _ (List.mem_of_getElem? (i := 16) rfl)) (hw _ (List.mem_of_getElem? (i := 2) rfl)) (by decide) (by decide)) q38a q38c (g := (mkF m 151 #[.val (.int p1), .val (.long q2), .second, .val (.long q3), .second, .val (.ref b1), .val (.int (1 : Int32)), .val (.int (1 : Int32))] [(.ref b1)])) rfl (by rw [hml]; rfl) (Steps.refl _) (argsL := []) (rest := []) (lenOf own_pd_3 rfl) rfl (by show 2 * 0 + _ ≤ _; exact Nat.le_of_eq rfl) (hb hby at_151) (fun _ _ => ⟨rfl, rfl, (by decide : 2 + 0 ≤ _), (by decide : 1027 + 0 ≤ _)⟩)
        dsimp only [Pt.U, Pt.locs, Pt.cells, Pt.slots] at X38 l38 y38 z38 st38 hQ38
        subst l38 y38 z38
        obtain ⟨r38, rfl, hB38, Nq38, hh38⟩ := hQ38
        replace Nf := Fr.app Nf Nq38
        refine own_stepT st38 ?_
        show own_Fin _ _ _ _ _ _ _ _ (mkF m 154 #[.val (.int p1), .val (.long q2), .second, .val (.long q3), .second, .val (.ref b1), .val (.int (1 : Int32)), .val (.int (1 : Int32))] [(.int r38)])
        refine own_step (fun t k => XS.iload X38.here hx rfl (hb hby at_154) rfl k) ?_
        show own_Fin _ _ _ _ _ _ _ _ (mkF m 156 #[.val (.int p1), .val (.long q2), .second, .val (.long q3), .second, .val (.ref b1), .val (.int (1 : Int32)), .val (.int (1 : Int32))] [(.int (1 : Int32)), (.int r38)])
        refine own_step (fun t k => XS.ifYes X38.here hx rfl (pc0 := 156) (pc' := 163) rfl (hb hby at_156) rfl (by decide) (by decide) (by decide) k) ?_
        show own_Fin _ _ _ _ _ _ _ _ (mkF m 163 #[.val (.int p1), .val (.long q2), .second, .val (.long q3), .second, .val (.ref b1), .val (.int (1 : Int32)), .val (.int (1 : Int32))] [(.int r38)])
        refine own_step (fun t k => XS.iconst X38.here hx rfl (hb hby at_163) k) ?_
        show own_Fin _ _ _ _ _ _ _ _ (mkF m 164 #[.val (.int p1), .val (.long q2), .second, .val (.long q3), .second, .val (.ref b1), .val (.int (1 : Int32)), .val (.int (1 : Int32))] [(.int (0 : Int32)), (.int r38)])
        have hc39 : (r38).toInt = 0 := by
          rcases hB38 with ⟨q1, q2⟩ | ⟨q1, q2⟩
          · exact absurd q2 (by decide)
          · exact q1
        refine own_step (fun t k => XS.icmpNo X38.here hx rfl (hb hby at_164) rfl (own_ce (x := r38) (y := (0 : Int32)) rfl rfl hc39).2 k) ?_
        show own_Fin _ _ _ _ _ _ _ _ (mkF m 167 #[.val (.int p1), .val (.long q2), .second, .val (.long q3), .second, .val (.ref b1), .val (.int (1 : Int32)), .val (.int (1 : Int32))] [])
        refine own_step (fun t k => XS.iconst X38.here hx rfl (hb hby at_167) k) ?_
        show own_Fin _ _ _ _ _ _ _ _ (mkF m 168 #[.val (.int p1), .val (.long q2), .second, .val (.long q3), .second, .val (.ref b1), .val (.int (1 : Int32)), .val (.int (1 : Int32))] [(.int (1 : Int32))])
        refine own_step (fun t k => XS.goto X38.here hx rfl (pc0 := 168) (pc' := 172) rfl (hb hby at_168) (by decide) (by decide) k) ?_
        show own_Fin _ _ _ _ _ _ _ _ (mkF m 172 #[.val (.int p1), .val (.long q2), .second, .val (.long q3), .second, .val (.ref b1), .val (.int (1 : Int32)), .val (.int (1 : Int32))] [(.int (1 : Int32))])
        refine own_step (fun t k => XS.istore X38.here hx rfl (hb hby at_172) rfl (l' := #[.val (.int p1), .val (.long q2), .second, .val (.long q3), .second, .val (.ref b1), .val (.int (1 : Int32)), .val (.int (1 : Int32))]) rfl k) ?_
        show own_Fin _ _ _ _ _ _ _ _ (mkF m 174 #[.val (.int p1), .val (.long q2), .second, .val (.long q3), .second, .val (.ref b1), .val (.int (1 : Int32)), .val (.int (1 : Int32))] [])
        refine own_step (fun t k => XS.aload X38.here hx rfl (hb hby at_174) rfl rfl k) ?_
        show own_Fin _ _ _ _ _ _ _ _ (mkF m 176 #[.val (.int p1), .val (.long q2), .second, .val (.long q3), .second, .val (.ref b1), .val (.int (1 : Int32)), .val (.int (1 : Int32))] [(.ref b1)])
        refine own_step (fun t k => XS.iload X38.here hx rfl (hb hby at_176) rfl k) ?_
        show own_Fin _ _ _ _ _ _ _ _ (mkF m 178 #[.val (.int p1), .val (.long q2), .second, .val (.long q3), .second, .val (.ref b1), .val (.int (1 : Int32)), .val (.int (1 : Int32))] [(.int (1 : Int32)), (.ref b1)])
        refine own_step (fun t k => XS.iloadN X38.here hx rfl (hb hby at_178) rfl k) ?_
        show own_Fin _ _ _ _ _ _ _ _ (mkF m 179 #[.val (.int p1), .val (.long q2), .second, .val (.long q3), .second, .val (.ref b1), .val (.int (1 : Int32)), .val (.int (1 : Int32))] [(.int p1), (.int (1 : Int32)), (.ref b1)])
        refine own_step (fun t k => XS.bipush X38.here hx rfl (hb hby at_179) k) ?_
        show own_Fin _ _ _ _ _ _ _ _ (mkF m 181 #[.val (.int p1), .val (.long q2), .second, .val (.long q3), .second, .val (.ref b1), .val (.int (1 : Int32)), .val (.int (1 : Int32))] [(.int (8 : Int32)), (.int p1), (.int (1 : Int32)), (.ref b1)])
        refine own_step (fun t k => XS.iand X38.here hx rfl (hb hby at_181) rfl k) ?_
        show own_Fin _ _ _ _ _ _ _ _ (mkF m 182 #[.val (.int p1), .val (.long q2), .second, .val (.long q3), .second, .val (.ref b1), .val (.int (1 : Int32)), .val (.int (1 : Int32))] [(.int (p1 &&& (8 : Int32))), (.int (1 : Int32)), (.ref b1)])
        by_cases hc40 : ((p1 &&& (8 : Int32))).toInt = 0
        · skip
          refine own_step (fun t k => XS.ifYes X38.here hx rfl (pc0 := 182) (pc' := 189) rfl (hb hby at_182) rfl ((if0 _ _).trans (own_ce (x := (p1 &&& (8 : Int32))) (y := (0 : Int32)) rfl rfl hc40).1) (by decide) (by decide) k) ?_
          show own_Fin _ _ _ _ _ _ _ _ (mkF m 189 #[.val (.int p1), .val (.long q2), .second, .val (.long q3), .second, .val (.ref b1), .val (.int (1 : Int32)), .val (.int (1 : Int32))] [(.int (1 : Int32)), (.ref b1)])
          refine own_step (fun t k => XS.iconst X38.here hx rfl (hb hby at_189) k) ?_
          show own_Fin _ _ _ _ _ _ _ _ (mkF m 190 #[.val (.int p1), .val (.long q2), .second, .val (.long q3), .second, .val (.ref b1), .val (.int (1 : Int32)), .val (.int (1 : Int32))] [(.int (0 : Int32)), (.int (1 : Int32)), (.ref b1)])
          refine own_step (fun t k => XS.lloadN X38.here hx rfl (hb hby at_190) rfl k) ?_
          show own_Fin _ _ _ _ _ _ _ _ (mkF m 191 #[.val (.int p1), .val (.long q2), .second, .val (.long q3), .second, .val (.ref b1), .val (.int (1 : Int32)), .val (.int (1 : Int32))] [(.long q2), (.int (0 : Int32)), (.int (1 : Int32)), (.ref b1)])
          refine own_step (fun t k => X38.ldc2Long hx hown (mvT hZ (hw _ (List.mem_of_getElem? (i := 30) rfl))) (g := (mkF m 191 #[.val (.int p1), .val (.long q2), .second, .val (.long q3), .second, .val (.ref b1), .val (.int (1 : Int32)), .val (.int (1 : Int32))] [(.long q2), (.int (0 : Int32)), (.int (1 : Int32)), (.ref b1)])) rfl (hb hby at_191) _ k) ?_
          show own_Fin _ _ _ _ _ _ _ _ (mkF m 194 #[.val (.int p1), .val (.long q2), .second, .val (.long q3), .second, .val (.ref b1), .val (.int (1 : Int32)), .val (.int (1 : Int32))] [(.long (-1 : Int64)), (.long q2), (.int (0 : Int32)), (.int (1 : Int32)), (.ref b1)])
          refine own_step (fun t k => XS.lxor X38.here hx rfl (hb hby at_194) rfl k) ?_
          show own_Fin _ _ _ _ _ _ _ _ (mkF m 195 #[.val (.int p1), .val (.long q2), .second, .val (.long q3), .second, .val (.ref b1), .val (.int (1 : Int32)), .val (.int (1 : Int32))] [(.long (q2 ^^^ (-1 : Int64))), (.int (0 : Int32)), (.int (1 : Int32)), (.ref b1)])
          obtain ⟨_, _, ⟨T41, L41, k41, n41⟩, -, X41, ⟨Lc41, hQ41, l41, y41, z41⟩, st41⟩ := Jvm.LawKit.callS X38 hx (y := (⟨"com/example/limfjord/limfjord/engine/LongQueueIsEmptyPinLaw", "step", "(Lcom/example/limfjord/limfjord/engine/LongQueue;IZJ)I"⟩ : MethodName)) hown (mvT hZ (hw _ (List.mem_of_getElem? (i := 21) rfl))) (mvT hZ (hw _ (List.mem_of_getElem? (i := 22) rfl))) (mvT hZ (hw _ (List.mem_of_getElem? (i := 23) rfl))) (mvT hZ (hw _ (List.mem_of_getElem? (i := 24) rfl))) (by decide) (backOf (W := 0) (rm7 l Z a0 hw [] b1 (1 : Int32) (0 : Int32) (q2 ^^^ (-1 : Int64)) _ _ _ _ T37.heap n0 Zs E_b1 F_entries_b1 F_head_b1 F_tail_b1 V_bq2 g_b1 gq2 neq2 (by decide) (by decide)) hZ (hw _ (List.mem_of_getElem? (i := 24) rfl)) (hw _ (List.mem_of_getElem? (i := 23) rfl)) (by decide) (by decide)) (g := (mkF m 195 #[.val (.int p1), .val (.long q2), .second, .val (.long q3), .second, .val (.ref b1), .val (.int (1 : Int32)), .val (.int (1 : Int32))] [(.long (q2 ^^^ (-1 : Int64))), (.int (0 : Int32)), (.int (1 : Int32)), (.ref b1)])) rfl (by rw [hml]; rfl) (argsL := [(.ref b1), (.int (1 : Int32)), (.int (0 : Int32)), (.long (q2 ^^^ (-1 : Int64)))]) (rest := []) (lenOf own_pd_4 rfl) rfl (by show 2 * 0 + _ ≤ _; exact Nat.le_of_eq rfl) (hb hby at_195) (fun _ _ => ⟨rfl, hh38, (by decide : 2 + 0 ≤ _), (by decide : 1027 + 0 ≤ _)⟩)
          dsimp only [Pt.U, Pt.locs, Pt.cells, Pt.slots] at X41 l41 y41 z41 st41 hQ41
          subst l41 y41 z41
          obtain ⟨rfl, Nq41, Kq41, P41_0, P41_1, P41_2, P41_3, P41_4⟩ := hQ41
          replace Nf := Fr.app Nf Nq41
          replace E_b1 := P41_0
          replace F_entries_b1 := P41_1
          replace F_head_b1 := P41_2
          replace F_tail_b1 : Fld Z T41.heap b1 "com/example/limfjord/limfjord/engine/LongQueue" "tail" "I" (.int (3 : Int32)) := P41_3
          replace V_bq2 := P41_4
          replace Zs := Nat.le_trans Zs Kq41.1
          refine own_step st41 ?_
          show own_Fin _ _ _ _ _ _ _ _ (mkF m 198 #[.val (.int p1), .val (.long q2), .second, .val (.long q3), .second, .val (.ref b1), .val (.int (1 : Int32)), .val (.int (1 : Int32))] [(.int ((1 : Int32) + (1 : Int32)))])
          refine own_step (fun t k => XS.istore X41.here hx rfl (hb hby at_198) rfl (l' := #[.val (.int p1), .val (.long q2), .second, .val (.long q3), .second, .val (.ref b1), .val (.int ((1 : Int32) + (1 : Int32))), .val (.int (1 : Int32))]) rfl k) ?_
          show own_Fin _ _ _ _ _ _ _ _ (mkF m 200 #[.val (.int p1), .val (.long q2), .second, .val (.long q3), .second, .val (.ref b1), .val (.int ((1 : Int32) + (1 : Int32))), .val (.int (1 : Int32))] [])
          show own_Fin _ _ _ _ _ _ _ _ (mkF m 200 #[.val (.int p1), .val (.long q2), .second, .val (.long q3), .second, .val (.ref b1), .val (.int (2 : Int32)), .val (.int (1 : Int32))] [])
          refine own_step (fun t k => XS.iload X41.here hx rfl (hb hby at_200) rfl k) ?_
          show own_Fin _ _ _ _ _ _ _ _ (mkF m 202 #[.val (.int p1), .val (.long q2), .second, .val (.long q3), .second, .val (.ref b1), .val (.int (2 : Int32)), .val (.int (1 : Int32))] [(.int (1 : Int32))])
          refine own_step (fun t k => XS.ifNo X41.here hx rfl (hb hby at_202) rfl (by decide) k) ?_
          show own_Fin _ _ _ _ _ _ _ _ (mkF m 205 #[.val (.int p1), .val (.long q2), .second, .val (.long q3), .second, .val (.ref b1), .val (.int (2 : Int32)), .val (.int (1 : Int32))] [])
          refine own_step (fun t k => XS.aload X41.here hx rfl (hb hby at_205) rfl rfl k) ?_
          show own_Fin _ _ _ _ _ _ _ _ (mkF m 207 #[.val (.int p1), .val (.long q2), .second, .val (.long q3), .second, .val (.ref b1), .val (.int (2 : Int32)), .val (.int (1 : Int32))] [(.ref b1)])
          obtain ⟨cq42, kq42, q42a, q42b, q42c⟩ := isOf hZ rfl E_b1
          obtain ⟨_, _, ⟨T42, L42, k42, n42⟩, -, X42, ⟨Lc42, hQ42, l42, y42, z42⟩, st42⟩ := X41.virtualBack hx (y := (⟨"com/example/limfjord/limfjord/engine/LongQueue", "isEmpty", "()Z"⟩ : MethodName)) (z := (⟨"com/example/limfjord/limfjord/engine/LongQueue", "isEmpty", "()Z"⟩ : MethodName)) hown (mvT hZ (hw _ (List.mem_of_getElem? (i := 12) rfl))) (mvT hZ (hw _ (List.mem_of_getElem? (i := 13) rfl))) (notFace_of_selects (args := #[]) (mvT hZ (hw _ (List.mem_of_getElem? (i := 15) rfl)))) (mvT hZ (hw _ (List.mem_of_getElem? (i := 15) rfl))) (mvT hZ (hw _ (List.mem_of_getElem? (i := 14) rfl))) (by decide) (backOf (W := 0) (rm5 l Z a0 hw [] b1 _ _ T41.heap n0 Zs F_head_b1 F_tail_b1) hZ (hw _ (List.mem_of_getElem? (i := 16) rfl)) (hw _ (List.mem_of_getElem? (i := 2) rfl)) (by decide) (by decide)) q42a q42c (g := (mkF m 207 #[.val (.int p1), .val (.long q2), .second, .val (.long q3), .second, .val (.ref b1), .val (.int (2 : Int32)), .val (.int (1 : Int32))] [(.ref b1)])) rfl (by rw [hml]; rfl) (Steps.refl _) (argsL := []) (rest := []) (lenOf own_pd_3 rfl) rfl (by show 2 * 0 + _ ≤ _; exact Nat.le_of_eq rfl) (hb hby at_207) (fun _ _ => ⟨rfl, rfl, (by decide : 2 + 0 ≤ _), (by decide : 1027 + 0 ≤ _)⟩)
          dsimp only [Pt.U, Pt.locs, Pt.cells, Pt.slots] at X42 l42 y42 z42 st42 hQ42
          subst l42 y42 z42
          obtain ⟨r42, rfl, hB42, Nq42, hh42⟩ := hQ42
          replace Nf := Fr.app Nf Nq42
          refine own_stepT st42 ?_
          show own_Fin _ _ _ _ _ _ _ _ (mkF m 210 #[.val (.int p1), .val (.long q2), .second, .val (.long q3), .second, .val (.ref b1), .val (.int (2 : Int32)), .val (.int (1 : Int32))] [(.int r42)])
          refine own_step (fun t k => XS.iload X42.here hx rfl (hb hby at_210) rfl k) ?_
          show own_Fin _ _ _ _ _ _ _ _ (mkF m 212 #[.val (.int p1), .val (.long q2), .second, .val (.long q3), .second, .val (.ref b1), .val (.int (2 : Int32)), .val (.int (1 : Int32))] [(.int (2 : Int32)), (.int r42)])
          refine own_step (fun t k => XS.ifYes X42.here hx rfl (pc0 := 212) (pc' := 219) rfl (hb hby at_212) rfl (by decide) (by decide) (by decide) k) ?_
          show own_Fin _ _ _ _ _ _ _ _ (mkF m 219 #[.val (.int p1), .val (.long q2), .second, .val (.long q3), .second, .val (.ref b1), .val (.int (2 : Int32)), .val (.int (1 : Int32))] [(.int r42)])
          refine own_step (fun t k => XS.iconst X42.here hx rfl (hb hby at_219) k) ?_
          show own_Fin _ _ _ _ _ _ _ _ (mkF m 220 #[.val (.int p1), .val (.long q2), .second, .val (.long q3), .second, .val (.ref b1), .val (.int (2 : Int32)), .val (.int (1 : Int32))] [(.int (0 : Int32)), (.int r42)])
          have hc43 : (r42).toInt = 0 := by
            rcases hB42 with ⟨q1, q2⟩ | ⟨q1, q2⟩
            · exact absurd q2 (by decide)
            · exact q1
          refine own_step (fun t k => XS.icmpNo X42.here hx rfl (hb hby at_220) rfl (own_ce (x := r42) (y := (0 : Int32)) rfl rfl hc43).2 k) ?_
          show own_Fin _ _ _ _ _ _ _ _ (mkF m 223 #[.val (.int p1), .val (.long q2), .second, .val (.long q3), .second, .val (.ref b1), .val (.int (2 : Int32)), .val (.int (1 : Int32))] [])
          refine own_step (fun t k => XS.iconst X42.here hx rfl (hb hby at_223) k) ?_
          show own_Fin _ _ _ _ _ _ _ _ (mkF m 224 #[.val (.int p1), .val (.long q2), .second, .val (.long q3), .second, .val (.ref b1), .val (.int (2 : Int32)), .val (.int (1 : Int32))] [(.int (1 : Int32))])
          refine own_step (fun t k => XS.goto X42.here hx rfl (pc0 := 224) (pc' := 228) rfl (hb hby at_224) (by decide) (by decide) k) ?_
          show own_Fin _ _ _ _ _ _ _ _ (mkF m 228 #[.val (.int p1), .val (.long q2), .second, .val (.long q3), .second, .val (.ref b1), .val (.int (2 : Int32)), .val (.int (1 : Int32))] [(.int (1 : Int32))])
          refine own_step (fun t k => XS.istore X42.here hx rfl (hb hby at_228) rfl (l' := #[.val (.int p1), .val (.long q2), .second, .val (.long q3), .second, .val (.ref b1), .val (.int (2 : Int32)), .val (.int (1 : Int32))]) rfl k) ?_
          show own_Fin _ _ _ _ _ _ _ _ (mkF m 230 #[.val (.int p1), .val (.long q2), .second, .val (.long q3), .second, .val (.ref b1), .val (.int (2 : Int32)), .val (.int (1 : Int32))] [])
          refine own_step (fun t k => XS.iload X42.here hx rfl (hb hby at_230) rfl k) ?_
          show own_Fin _ _ _ _ _ _ _ _ (mkF m 232 #[.val (.int p1), .val (.long q2), .second, .val (.long q3), .second, .val (.ref b1), .val (.int (2 : Int32)), .val (.int (1 : Int32))] [(.int (1 : Int32))])
          refine own_retZ X42 hx hlk Bd.returns (hb hby at_232) (z' := (1 : Int32)) (by decide) (by decide) (by decide) hh42 ?_
          exact ⟨rfl, Nf⟩
        · skip
          refine own_step (fun t k => XS.ifNo X38.here hx rfl (hb hby at_182) rfl ((if0 _ _).trans (own_cu (x := (p1 &&& (8 : Int32))) (y := (0 : Int32)) rfl rfl hc40).1) k) ?_
          show own_Fin _ _ _ _ _ _ _ _ (mkF m 185 #[.val (.int p1), .val (.long q2), .second, .val (.long q3), .second, .val (.ref b1), .val (.int (1 : Int32)), .val (.int (1 : Int32))] [(.int (1 : Int32)), (.ref b1)])
          refine own_step (fun t k => XS.iconst X38.here hx rfl (hb hby at_185) k) ?_
          show own_Fin _ _ _ _ _ _ _ _ (mkF m 186 #[.val (.int p1), .val (.long q2), .second, .val (.long q3), .second, .val (.ref b1), .val (.int (1 : Int32)), .val (.int (1 : Int32))] [(.int (1 : Int32)), (.int (1 : Int32)), (.ref b1)])
          refine own_step (fun t k => XS.goto X38.here hx rfl (pc0 := 186) (pc' := 190) rfl (hb hby at_186) (by decide) (by decide) k) ?_
          show own_Fin _ _ _ _ _ _ _ _ (mkF m 190 #[.val (.int p1), .val (.long q2), .second, .val (.long q3), .second, .val (.ref b1), .val (.int (1 : Int32)), .val (.int (1 : Int32))] [(.int (1 : Int32)), (.int (1 : Int32)), (.ref b1)])
          refine own_step (fun t k => XS.lloadN X38.here hx rfl (hb hby at_190) rfl k) ?_
          show own_Fin _ _ _ _ _ _ _ _ (mkF m 191 #[.val (.int p1), .val (.long q2), .second, .val (.long q3), .second, .val (.ref b1), .val (.int (1 : Int32)), .val (.int (1 : Int32))] [(.long q2), (.int (1 : Int32)), (.int (1 : Int32)), (.ref b1)])
          refine own_step (fun t k => X38.ldc2Long hx hown (mvT hZ (hw _ (List.mem_of_getElem? (i := 30) rfl))) (g := (mkF m 191 #[.val (.int p1), .val (.long q2), .second, .val (.long q3), .second, .val (.ref b1), .val (.int (1 : Int32)), .val (.int (1 : Int32))] [(.long q2), (.int (1 : Int32)), (.int (1 : Int32)), (.ref b1)])) rfl (hb hby at_191) _ k) ?_
          show own_Fin _ _ _ _ _ _ _ _ (mkF m 194 #[.val (.int p1), .val (.long q2), .second, .val (.long q3), .second, .val (.ref b1), .val (.int (1 : Int32)), .val (.int (1 : Int32))] [(.long (-1 : Int64)), (.long q2), (.int (1 : Int32)), (.int (1 : Int32)), (.ref b1)])
          refine own_step (fun t k => XS.lxor X38.here hx rfl (hb hby at_194) rfl k) ?_
          show own_Fin _ _ _ _ _ _ _ _ (mkF m 195 #[.val (.int p1), .val (.long q2), .second, .val (.long q3), .second, .val (.ref b1), .val (.int (1 : Int32)), .val (.int (1 : Int32))] [(.long (q2 ^^^ (-1 : Int64))), (.int (1 : Int32)), (.int (1 : Int32)), (.ref b1)])
          obtain ⟨_, _, ⟨T44, L44, k44, n44⟩, -, X44, ⟨Lc44, hQ44, l44, y44, z44⟩, st44⟩ := Jvm.LawKit.callS X38 hx (y := (⟨"com/example/limfjord/limfjord/engine/LongQueueIsEmptyPinLaw", "step", "(Lcom/example/limfjord/limfjord/engine/LongQueue;IZJ)I"⟩ : MethodName)) hown (mvT hZ (hw _ (List.mem_of_getElem? (i := 21) rfl))) (mvT hZ (hw _ (List.mem_of_getElem? (i := 22) rfl))) (mvT hZ (hw _ (List.mem_of_getElem? (i := 23) rfl))) (mvT hZ (hw _ (List.mem_of_getElem? (i := 24) rfl))) (by decide) (backOf (W := 0) (rm6 l Z a0 hw [] b1 (1 : Int32) (1 : Int32) (q2 ^^^ (-1 : Int64)) _ _ _ _ T37.heap n0 Zs E_b1 F_entries_b1 F_head_b1 F_tail_b1 V_bq2 g_b1 neq2 (by decide) (by decide)) hZ (hw _ (List.mem_of_getElem? (i := 24) rfl)) (hw _ (List.mem_of_getElem? (i := 23) rfl)) (by decide) (by decide)) (g := (mkF m 195 #[.val (.int p1), .val (.long q2), .second, .val (.long q3), .second, .val (.ref b1), .val (.int (1 : Int32)), .val (.int (1 : Int32))] [(.long (q2 ^^^ (-1 : Int64))), (.int (1 : Int32)), (.int (1 : Int32)), (.ref b1)])) rfl (by rw [hml]; rfl) (argsL := [(.ref b1), (.int (1 : Int32)), (.int (1 : Int32)), (.long (q2 ^^^ (-1 : Int64)))]) (rest := []) (lenOf own_pd_4 rfl) rfl (by show 2 * 0 + _ ≤ _; exact Nat.le_of_eq rfl) (hb hby at_195) (fun _ _ => ⟨rfl, hh38, (by decide : 2 + 0 ≤ _), (by decide : 1027 + 0 ≤ _)⟩)
          dsimp only [Pt.U, Pt.locs, Pt.cells, Pt.slots] at X44 l44 y44 z44 st44 hQ44
          subst l44 y44 z44
          obtain ⟨rfl, Nq44, Kq44, P44_0, P44_1, P44_2, P44_3⟩ := hQ44
          replace Nf := Fr.app Nf Nq44
          replace E_b1 := P44_0
          replace F_entries_b1 := P44_1
          replace F_head_b1 : Fld Z T44.heap b1 "com/example/limfjord/limfjord/engine/LongQueue" "head" "I" (.int (2 : Int32)) := P44_2
          replace F_tail_b1 := P44_3
          replace V_bq2 := V_bq2.keep Kq44 (ninS (Ne.symm neq2) nin0)
          replace Zs := Nat.le_trans Zs Kq44.1
          refine own_step st44 ?_
          show own_Fin _ _ _ _ _ _ _ _ (mkF m 198 #[.val (.int p1), .val (.long q2), .second, .val (.long q3), .second, .val (.ref b1), .val (.int (1 : Int32)), .val (.int (1 : Int32))] [(.int ((1 : Int32) - (1 : Int32)))])
          refine own_step (fun t k => XS.istore X44.here hx rfl (hb hby at_198) rfl (l' := #[.val (.int p1), .val (.long q2), .second, .val (.long q3), .second, .val (.ref b1), .val (.int ((1 : Int32) - (1 : Int32))), .val (.int (1 : Int32))]) rfl k) ?_
          show own_Fin _ _ _ _ _ _ _ _ (mkF m 200 #[.val (.int p1), .val (.long q2), .second, .val (.long q3), .second, .val (.ref b1), .val (.int ((1 : Int32) - (1 : Int32))), .val (.int (1 : Int32))] [])
          show own_Fin _ _ _ _ _ _ _ _ (mkF m 200 #[.val (.int p1), .val (.long q2), .second, .val (.long q3), .second, .val (.ref b1), .val (.int (0 : Int32)), .val (.int (1 : Int32))] [])
          refine own_step (fun t k => XS.iload X44.here hx rfl (hb hby at_200) rfl k) ?_
          show own_Fin _ _ _ _ _ _ _ _ (mkF m 202 #[.val (.int p1), .val (.long q2), .second, .val (.long q3), .second, .val (.ref b1), .val (.int (0 : Int32)), .val (.int (1 : Int32))] [(.int (1 : Int32))])
          refine own_step (fun t k => XS.ifNo X44.here hx rfl (hb hby at_202) rfl (by decide) k) ?_
          show own_Fin _ _ _ _ _ _ _ _ (mkF m 205 #[.val (.int p1), .val (.long q2), .second, .val (.long q3), .second, .val (.ref b1), .val (.int (0 : Int32)), .val (.int (1 : Int32))] [])
          refine own_step (fun t k => XS.aload X44.here hx rfl (hb hby at_205) rfl rfl k) ?_
          show own_Fin _ _ _ _ _ _ _ _ (mkF m 207 #[.val (.int p1), .val (.long q2), .second, .val (.long q3), .second, .val (.ref b1), .val (.int (0 : Int32)), .val (.int (1 : Int32))] [(.ref b1)])
          obtain ⟨cq45, kq45, q45a, q45b, q45c⟩ := isOf hZ rfl E_b1
          obtain ⟨_, _, ⟨T45, L45, k45, n45⟩, -, X45, ⟨Lc45, hQ45, l45, y45, z45⟩, st45⟩ := X44.virtualBack hx (y := (⟨"com/example/limfjord/limfjord/engine/LongQueue", "isEmpty", "()Z"⟩ : MethodName)) (z := (⟨"com/example/limfjord/limfjord/engine/LongQueue", "isEmpty", "()Z"⟩ : MethodName)) hown (mvT hZ (hw _ (List.mem_of_getElem? (i := 12) rfl))) (mvT hZ (hw _ (List.mem_of_getElem? (i := 13) rfl))) (notFace_of_selects (args := #[]) (mvT hZ (hw _ (List.mem_of_getElem? (i := 15) rfl)))) (mvT hZ (hw _ (List.mem_of_getElem? (i := 15) rfl))) (mvT hZ (hw _ (List.mem_of_getElem? (i := 14) rfl))) (by decide) (backOf (W := 0) (rm5 l Z a0 hw [] b1 _ _ T44.heap n0 Zs F_head_b1 F_tail_b1) hZ (hw _ (List.mem_of_getElem? (i := 16) rfl)) (hw _ (List.mem_of_getElem? (i := 2) rfl)) (by decide) (by decide)) q45a q45c (g := (mkF m 207 #[.val (.int p1), .val (.long q2), .second, .val (.long q3), .second, .val (.ref b1), .val (.int (0 : Int32)), .val (.int (1 : Int32))] [(.ref b1)])) rfl (by rw [hml]; rfl) (Steps.refl _) (argsL := []) (rest := []) (lenOf own_pd_3 rfl) rfl (by show 2 * 0 + _ ≤ _; exact Nat.le_of_eq rfl) (hb hby at_207) (fun _ _ => ⟨rfl, rfl, (by decide : 2 + 0 ≤ _), (by decide : 1027 + 0 ≤ _)⟩)
          dsimp only [Pt.U, Pt.locs, Pt.cells, Pt.slots] at X45 l45 y45 z45 st45 hQ45
          subst l45 y45 z45
          obtain ⟨r45, rfl, hB45, Nq45, hh45⟩ := hQ45
          replace Nf := Fr.app Nf Nq45
          refine own_stepT st45 ?_
          show own_Fin _ _ _ _ _ _ _ _ (mkF m 210 #[.val (.int p1), .val (.long q2), .second, .val (.long q3), .second, .val (.ref b1), .val (.int (0 : Int32)), .val (.int (1 : Int32))] [(.int r45)])
          refine own_step (fun t k => XS.iload X45.here hx rfl (hb hby at_210) rfl k) ?_
          show own_Fin _ _ _ _ _ _ _ _ (mkF m 212 #[.val (.int p1), .val (.long q2), .second, .val (.long q3), .second, .val (.ref b1), .val (.int (0 : Int32)), .val (.int (1 : Int32))] [(.int (0 : Int32)), (.int r45)])
          refine own_step (fun t k => XS.ifNo X45.here hx rfl (hb hby at_212) rfl (by decide) k) ?_
          show own_Fin _ _ _ _ _ _ _ _ (mkF m 215 #[.val (.int p1), .val (.long q2), .second, .val (.long q3), .second, .val (.ref b1), .val (.int (0 : Int32)), .val (.int (1 : Int32))] [(.int r45)])
          refine own_step (fun t k => XS.iconst X45.here hx rfl (hb hby at_215) k) ?_
          show own_Fin _ _ _ _ _ _ _ _ (mkF m 216 #[.val (.int p1), .val (.long q2), .second, .val (.long q3), .second, .val (.ref b1), .val (.int (0 : Int32)), .val (.int (1 : Int32))] [(.int (1 : Int32)), (.int r45)])
          refine own_step (fun t k => XS.goto X45.here hx rfl (pc0 := 216) (pc' := 220) rfl (hb hby at_216) (by decide) (by decide) k) ?_
          show own_Fin _ _ _ _ _ _ _ _ (mkF m 220 #[.val (.int p1), .val (.long q2), .second, .val (.long q3), .second, .val (.ref b1), .val (.int (0 : Int32)), .val (.int (1 : Int32))] [(.int (1 : Int32)), (.int r45)])
          have hc46 : (r45).toInt = 1 := by
            rcases hB45 with ⟨q1, q2⟩ | ⟨q1, q2⟩
            · exact q1
            · exact absurd (by decide) q2
          refine own_step (fun t k => XS.icmpNo X45.here hx rfl (hb hby at_220) rfl (own_ce (x := r45) (y := (1 : Int32)) rfl rfl hc46).2 k) ?_
          show own_Fin _ _ _ _ _ _ _ _ (mkF m 223 #[.val (.int p1), .val (.long q2), .second, .val (.long q3), .second, .val (.ref b1), .val (.int (0 : Int32)), .val (.int (1 : Int32))] [])
          refine own_step (fun t k => XS.iconst X45.here hx rfl (hb hby at_223) k) ?_
          show own_Fin _ _ _ _ _ _ _ _ (mkF m 224 #[.val (.int p1), .val (.long q2), .second, .val (.long q3), .second, .val (.ref b1), .val (.int (0 : Int32)), .val (.int (1 : Int32))] [(.int (1 : Int32))])
          refine own_step (fun t k => XS.goto X45.here hx rfl (pc0 := 224) (pc' := 228) rfl (hb hby at_224) (by decide) (by decide) k) ?_
          show own_Fin _ _ _ _ _ _ _ _ (mkF m 228 #[.val (.int p1), .val (.long q2), .second, .val (.long q3), .second, .val (.ref b1), .val (.int (0 : Int32)), .val (.int (1 : Int32))] [(.int (1 : Int32))])
          refine own_step (fun t k => XS.istore X45.here hx rfl (hb hby at_228) rfl (l' := #[.val (.int p1), .val (.long q2), .second, .val (.long q3), .second, .val (.ref b1), .val (.int (0 : Int32)), .val (.int (1 : Int32))]) rfl k) ?_
          show own_Fin _ _ _ _ _ _ _ _ (mkF m 230 #[.val (.int p1), .val (.long q2), .second, .val (.long q3), .second, .val (.ref b1), .val (.int (0 : Int32)), .val (.int (1 : Int32))] [])
          refine own_step (fun t k => XS.iload X45.here hx rfl (hb hby at_230) rfl k) ?_
          show own_Fin _ _ _ _ _ _ _ _ (mkF m 232 #[.val (.int p1), .val (.long q2), .second, .val (.long q3), .second, .val (.ref b1), .val (.int (0 : Int32)), .val (.int (1 : Int32))] [(.int (1 : Int32))])
          refine own_retZ X45 hx hlk Bd.returns (hb hby at_232) (z' := (1 : Int32)) (by decide) (by decide) (by decide) hh45 ?_
          exact ⟨rfl, Nf⟩
      · skip
        refine own_step (fun t k => XS.ifNo X34.here hx rfl (hb hby at_128) rfl ((if0 _ _).trans (own_cu (x := (p1 &&& (4 : Int32))) (y := (0 : Int32)) rfl rfl hc36).1) k) ?_
        show own_Fin _ _ _ _ _ _ _ _ (mkF m 131 #[.val (.int p1), .val (.long q2), .second, .val (.long q3), .second, .val (.ref b1), .val (.int (0 : Int32)), .val (.int (1 : Int32))] [(.int (0 : Int32)), (.ref b1)])
        refine own_step (fun t k => XS.iconst X34.here hx rfl (hb hby at_131) k) ?_
        show own_Fin _ _ _ _ _ _ _ _ (mkF m 132 #[.val (.int p1), .val (.long q2), .second, .val (.long q3), .second, .val (.ref b1), .val (.int (0 : Int32)), .val (.int (1 : Int32))] [(.int (1 : Int32)), (.int (0 : Int32)), (.ref b1)])
        refine own_step (fun t k => XS.goto X34.here hx rfl (pc0 := 132) (pc' := 136) rfl (hb hby at_132) (by decide) (by decide) k) ?_
        show own_Fin _ _ _ _ _ _ _ _ (mkF m 136 #[.val (.int p1), .val (.long q2), .second, .val (.long q3), .second, .val (.ref b1), .val (.int (0 : Int32)), .val (.int (1 : Int32))] [(.int (1 : Int32)), (.int (0 : Int32)), (.ref b1)])
        refine own_step (fun t k => XS.lloadN X34.here hx rfl (hb hby at_136) rfl k) ?_
        show own_Fin _ _ _ _ _ _ _ _ (mkF m 137 #[.val (.int p1), .val (.long q2), .second, .val (.long q3), .second, .val (.ref b1), .val (.int (0 : Int32)), .val (.int (1 : Int32))] [(.long q2), (.int (1 : Int32)), (.int (0 : Int32)), (.ref b1)])
        refine own_step (fun t k => XS.lloadN X34.here hx rfl (hb hby at_137) rfl k) ?_
        show own_Fin _ _ _ _ _ _ _ _ (mkF m 138 #[.val (.int p1), .val (.long q2), .second, .val (.long q3), .second, .val (.ref b1), .val (.int (0 : Int32)), .val (.int (1 : Int32))] [(.long q3), (.long q2), (.int (1 : Int32)), (.int (0 : Int32)), (.ref b1)])
        refine own_step (fun t k => XS.lxor X34.here hx rfl (hb hby at_138) rfl k) ?_
        show own_Fin _ _ _ _ _ _ _ _ (mkF m 139 #[.val (.int p1), .val (.long q2), .second, .val (.long q3), .second, .val (.ref b1), .val (.int (0 : Int32)), .val (.int (1 : Int32))] [(.long (q2 ^^^ q3)), (.int (1 : Int32)), (.int (0 : Int32)), (.ref b1)])
        obtain ⟨_, _, ⟨T47, L47, k47, n47⟩, -, X47, ⟨Lc47, hQ47, l47, y47, z47⟩, st47⟩ := Jvm.LawKit.callS X34 hx (y := (⟨"com/example/limfjord/limfjord/engine/LongQueueIsEmptyPinLaw", "step", "(Lcom/example/limfjord/limfjord/engine/LongQueue;IZJ)I"⟩ : MethodName)) hown (mvT hZ (hw _ (List.mem_of_getElem? (i := 21) rfl))) (mvT hZ (hw _ (List.mem_of_getElem? (i := 22) rfl))) (mvT hZ (hw _ (List.mem_of_getElem? (i := 23) rfl))) (mvT hZ (hw _ (List.mem_of_getElem? (i := 24) rfl))) (by decide) (backOf (W := 0) (rm7 l Z a0 hw [] b1 (0 : Int32) (1 : Int32) (q2 ^^^ q3) _ _ _ _ T33.heap n0 Zs E_b1 F_entries_b1 F_head_b1 F_tail_b1 V_bq2 g_b1 gq2 neq2 (by decide) (by decide)) hZ (hw _ (List.mem_of_getElem? (i := 24) rfl)) (hw _ (List.mem_of_getElem? (i := 23) rfl)) (by decide) (by decide)) (g := (mkF m 139 #[.val (.int p1), .val (.long q2), .second, .val (.long q3), .second, .val (.ref b1), .val (.int (0 : Int32)), .val (.int (1 : Int32))] [(.long (q2 ^^^ q3)), (.int (1 : Int32)), (.int (0 : Int32)), (.ref b1)])) rfl (by rw [hml]; rfl) (argsL := [(.ref b1), (.int (0 : Int32)), (.int (1 : Int32)), (.long (q2 ^^^ q3))]) (rest := []) (lenOf own_pd_4 rfl) rfl (by show 2 * 0 + _ ≤ _; exact Nat.le_of_eq rfl) (hb hby at_139) (fun _ _ => ⟨rfl, hh34, (by decide : 2 + 0 ≤ _), (by decide : 1027 + 0 ≤ _)⟩)
        dsimp only [Pt.U, Pt.locs, Pt.cells, Pt.slots] at X47 l47 y47 z47 st47 hQ47
        subst l47 y47 z47
        obtain ⟨rfl, Nq47, Kq47, P47_0, P47_1, P47_2, P47_3, P47_4⟩ := hQ47
        replace Nf := Fr.app Nf Nq47
        replace E_b1 := P47_0
        replace F_entries_b1 := P47_1
        replace F_head_b1 := P47_2
        replace F_tail_b1 : Fld Z T47.heap b1 "com/example/limfjord/limfjord/engine/LongQueue" "tail" "I" (.int (2 : Int32)) := P47_3
        replace V_bq2 := P47_4
        replace Zs := Nat.le_trans Zs Kq47.1
        refine own_step st47 ?_
        show own_Fin _ _ _ _ _ _ _ _ (mkF m 142 #[.val (.int p1), .val (.long q2), .second, .val (.long q3), .second, .val (.ref b1), .val (.int (0 : Int32)), .val (.int (1 : Int32))] [(.int ((0 : Int32) + (1 : Int32)))])
        refine own_step (fun t k => XS.istore X47.here hx rfl (hb hby at_142) rfl (l' := #[.val (.int p1), .val (.long q2), .second, .val (.long q3), .second, .val (.ref b1), .val (.int ((0 : Int32) + (1 : Int32))), .val (.int (1 : Int32))]) rfl k) ?_
        show own_Fin _ _ _ _ _ _ _ _ (mkF m 144 #[.val (.int p1), .val (.long q2), .second, .val (.long q3), .second, .val (.ref b1), .val (.int ((0 : Int32) + (1 : Int32))), .val (.int (1 : Int32))] [])
        show own_Fin _ _ _ _ _ _ _ _ (mkF m 144 #[.val (.int p1), .val (.long q2), .second, .val (.long q3), .second, .val (.ref b1), .val (.int (1 : Int32)), .val (.int (1 : Int32))] [])
        refine own_step (fun t k => XS.iload X47.here hx rfl (hb hby at_144) rfl k) ?_
        show own_Fin _ _ _ _ _ _ _ _ (mkF m 146 #[.val (.int p1), .val (.long q2), .second, .val (.long q3), .second, .val (.ref b1), .val (.int (1 : Int32)), .val (.int (1 : Int32))] [(.int (1 : Int32))])
        refine own_step (fun t k => XS.ifNo X47.here hx rfl (hb hby at_146) rfl (by decide) k) ?_
        show own_Fin _ _ _ _ _ _ _ _ (mkF m 149 #[.val (.int p1), .val (.long q2), .second, .val (.long q3), .second, .val (.ref b1), .val (.int (1 : Int32)), .val (.int (1 : Int32))] [])
        refine own_step (fun t k => XS.aload X47.here hx rfl (hb hby at_149) rfl rfl k) ?_
        show own_Fin _ _ _ _ _ _ _ _ (mkF m 151 #[.val (.int p1), .val (.long q2), .second, .val (.long q3), .second, .val (.ref b1), .val (.int (1 : Int32)), .val (.int (1 : Int32))] [(.ref b1)])
        obtain ⟨cq48, kq48, q48a, q48b, q48c⟩ := isOf hZ rfl E_b1
        obtain ⟨_, _, ⟨T48, L48, k48, n48⟩, -, X48, ⟨Lc48, hQ48, l48, y48, z48⟩, st48⟩ := X47.virtualBack hx (y := (⟨"com/example/limfjord/limfjord/engine/LongQueue", "isEmpty", "()Z"⟩ : MethodName)) (z := (⟨"com/example/limfjord/limfjord/engine/LongQueue", "isEmpty", "()Z"⟩ : MethodName)) hown (mvT hZ (hw _ (List.mem_of_getElem? (i := 12) rfl))) (mvT hZ (hw _ (List.mem_of_getElem? (i := 13) rfl))) (notFace_of_selects (args := #[]) (mvT hZ (hw _ (List.mem_of_getElem? (i := 15) rfl)))) (mvT hZ (hw _ (List.mem_of_getElem? (i := 15) rfl))) (mvT hZ (hw _ (List.mem_of_getElem? (i := 14) rfl))) (by decide) (backOf (W := 0) (rm5 l Z a0 hw [] b1 _ _ T47.heap n0 Zs F_head_b1 F_tail_b1) hZ (hw _ (List.mem_of_getElem? (i := 16) rfl)) (hw _ (List.mem_of_getElem? (i := 2) rfl)) (by decide) (by decide)) q48a q48c (g := (mkF m 151 #[.val (.int p1), .val (.long q2), .second, .val (.long q3), .second, .val (.ref b1), .val (.int (1 : Int32)), .val (.int (1 : Int32))] [(.ref b1)])) rfl (by rw [hml]; rfl) (Steps.refl _) (argsL := []) (rest := []) (lenOf own_pd_3 rfl) rfl (by show 2 * 0 + _ ≤ _; exact Nat.le_of_eq rfl) (hb hby at_151) (fun _ _ => ⟨rfl, rfl, (by decide : 2 + 0 ≤ _), (by decide : 1027 + 0 ≤ _)⟩)
        dsimp only [Pt.U, Pt.locs, Pt.cells, Pt.slots] at X48 l48 y48 z48 st48 hQ48
        subst l48 y48 z48
        obtain ⟨r48, rfl, hB48, Nq48, hh48⟩ := hQ48
        replace Nf := Fr.app Nf Nq48
        refine own_stepT st48 ?_
        show own_Fin _ _ _ _ _ _ _ _ (mkF m 154 #[.val (.int p1), .val (.long q2), .second, .val (.long q3), .second, .val (.ref b1), .val (.int (1 : Int32)), .val (.int (1 : Int32))] [(.int r48)])
        refine own_step (fun t k => XS.iload X48.here hx rfl (hb hby at_154) rfl k) ?_
        show own_Fin _ _ _ _ _ _ _ _ (mkF m 156 #[.val (.int p1), .val (.long q2), .second, .val (.long q3), .second, .val (.ref b1), .val (.int (1 : Int32)), .val (.int (1 : Int32))] [(.int (1 : Int32)), (.int r48)])
        refine own_step (fun t k => XS.ifYes X48.here hx rfl (pc0 := 156) (pc' := 163) rfl (hb hby at_156) rfl (by decide) (by decide) (by decide) k) ?_
        show own_Fin _ _ _ _ _ _ _ _ (mkF m 163 #[.val (.int p1), .val (.long q2), .second, .val (.long q3), .second, .val (.ref b1), .val (.int (1 : Int32)), .val (.int (1 : Int32))] [(.int r48)])
        refine own_step (fun t k => XS.iconst X48.here hx rfl (hb hby at_163) k) ?_
        show own_Fin _ _ _ _ _ _ _ _ (mkF m 164 #[.val (.int p1), .val (.long q2), .second, .val (.long q3), .second, .val (.ref b1), .val (.int (1 : Int32)), .val (.int (1 : Int32))] [(.int (0 : Int32)), (.int r48)])
        have hc49 : (r48).toInt = 0 := by
          rcases hB48 with ⟨q1, q2⟩ | ⟨q1, q2⟩
          · exact absurd q2 (by decide)
          · exact q1
        refine own_step (fun t k => XS.icmpNo X48.here hx rfl (hb hby at_164) rfl (own_ce (x := r48) (y := (0 : Int32)) rfl rfl hc49).2 k) ?_
        show own_Fin _ _ _ _ _ _ _ _ (mkF m 167 #[.val (.int p1), .val (.long q2), .second, .val (.long q3), .second, .val (.ref b1), .val (.int (1 : Int32)), .val (.int (1 : Int32))] [])
        refine own_step (fun t k => XS.iconst X48.here hx rfl (hb hby at_167) k) ?_
        show own_Fin _ _ _ _ _ _ _ _ (mkF m 168 #[.val (.int p1), .val (.long q2), .second, .val (.long q3), .second, .val (.ref b1), .val (.int (1 : Int32)), .val (.int (1 : Int32))] [(.int (1 : Int32))])
        refine own_step (fun t k => XS.goto X48.here hx rfl (pc0 := 168) (pc' := 172) rfl (hb hby at_168) (by decide) (by decide) k) ?_
        show own_Fin _ _ _ _ _ _ _ _ (mkF m 172 #[.val (.int p1), .val (.long q2), .second, .val (.long q3), .second, .val (.ref b1), .val (.int (1 : Int32)), .val (.int (1 : Int32))] [(.int (1 : Int32))])
        refine own_step (fun t k => XS.istore X48.here hx rfl (hb hby at_172) rfl (l' := #[.val (.int p1), .val (.long q2), .second, .val (.long q3), .second, .val (.ref b1), .val (.int (1 : Int32)), .val (.int (1 : Int32))]) rfl k) ?_
        show own_Fin _ _ _ _ _ _ _ _ (mkF m 174 #[.val (.int p1), .val (.long q2), .second, .val (.long q3), .second, .val (.ref b1), .val (.int (1 : Int32)), .val (.int (1 : Int32))] [])
        refine own_step (fun t k => XS.aload X48.here hx rfl (hb hby at_174) rfl rfl k) ?_
        show own_Fin _ _ _ _ _ _ _ _ (mkF m 176 #[.val (.int p1), .val (.long q2), .second, .val (.long q3), .second, .val (.ref b1), .val (.int (1 : Int32)), .val (.int (1 : Int32))] [(.ref b1)])
        refine own_step (fun t k => XS.iload X48.here hx rfl (hb hby at_176) rfl k) ?_
        show own_Fin _ _ _ _ _ _ _ _ (mkF m 178 #[.val (.int p1), .val (.long q2), .second, .val (.long q3), .second, .val (.ref b1), .val (.int (1 : Int32)), .val (.int (1 : Int32))] [(.int (1 : Int32)), (.ref b1)])
        refine own_step (fun t k => XS.iloadN X48.here hx rfl (hb hby at_178) rfl k) ?_
        show own_Fin _ _ _ _ _ _ _ _ (mkF m 179 #[.val (.int p1), .val (.long q2), .second, .val (.long q3), .second, .val (.ref b1), .val (.int (1 : Int32)), .val (.int (1 : Int32))] [(.int p1), (.int (1 : Int32)), (.ref b1)])
        refine own_step (fun t k => XS.bipush X48.here hx rfl (hb hby at_179) k) ?_
        show own_Fin _ _ _ _ _ _ _ _ (mkF m 181 #[.val (.int p1), .val (.long q2), .second, .val (.long q3), .second, .val (.ref b1), .val (.int (1 : Int32)), .val (.int (1 : Int32))] [(.int (8 : Int32)), (.int p1), (.int (1 : Int32)), (.ref b1)])
        refine own_step (fun t k => XS.iand X48.here hx rfl (hb hby at_181) rfl k) ?_
        show own_Fin _ _ _ _ _ _ _ _ (mkF m 182 #[.val (.int p1), .val (.long q2), .second, .val (.long q3), .second, .val (.ref b1), .val (.int (1 : Int32)), .val (.int (1 : Int32))] [(.int (p1 &&& (8 : Int32))), (.int (1 : Int32)), (.ref b1)])
        by_cases hc50 : ((p1 &&& (8 : Int32))).toInt = 0
        · skip
          refine own_step (fun t k => XS.ifYes X48.here hx rfl (pc0 := 182) (pc' := 189) rfl (hb hby at_182) rfl ((if0 _ _).trans (own_ce (x := (p1 &&& (8 : Int32))) (y := (0 : Int32)) rfl rfl hc50).1) (by decide) (by decide) k) ?_
          show own_Fin _ _ _ _ _ _ _ _ (mkF m 189 #[.val (.int p1), .val (.long q2), .second, .val (.long q3), .second, .val (.ref b1), .val (.int (1 : Int32)), .val (.int (1 : Int32))] [(.int (1 : Int32)), (.ref b1)])
          refine own_step (fun t k => XS.iconst X48.here hx rfl (hb hby at_189) k) ?_
          show own_Fin _ _ _ _ _ _ _ _ (mkF m 190 #[.val (.int p1), .val (.long q2), .second, .val (.long q3), .second, .val (.ref b1), .val (.int (1 : Int32)), .val (.int (1 : Int32))] [(.int (0 : Int32)), (.int (1 : Int32)), (.ref b1)])
          refine own_step (fun t k => XS.lloadN X48.here hx rfl (hb hby at_190) rfl k) ?_
          show own_Fin _ _ _ _ _ _ _ _ (mkF m 191 #[.val (.int p1), .val (.long q2), .second, .val (.long q3), .second, .val (.ref b1), .val (.int (1 : Int32)), .val (.int (1 : Int32))] [(.long q2), (.int (0 : Int32)), (.int (1 : Int32)), (.ref b1)])
          refine own_step (fun t k => X48.ldc2Long hx hown (mvT hZ (hw _ (List.mem_of_getElem? (i := 30) rfl))) (g := (mkF m 191 #[.val (.int p1), .val (.long q2), .second, .val (.long q3), .second, .val (.ref b1), .val (.int (1 : Int32)), .val (.int (1 : Int32))] [(.long q2), (.int (0 : Int32)), (.int (1 : Int32)), (.ref b1)])) rfl (hb hby at_191) _ k) ?_
          show own_Fin _ _ _ _ _ _ _ _ (mkF m 194 #[.val (.int p1), .val (.long q2), .second, .val (.long q3), .second, .val (.ref b1), .val (.int (1 : Int32)), .val (.int (1 : Int32))] [(.long (-1 : Int64)), (.long q2), (.int (0 : Int32)), (.int (1 : Int32)), (.ref b1)])
          refine own_step (fun t k => XS.lxor X48.here hx rfl (hb hby at_194) rfl k) ?_
          show own_Fin _ _ _ _ _ _ _ _ (mkF m 195 #[.val (.int p1), .val (.long q2), .second, .val (.long q3), .second, .val (.ref b1), .val (.int (1 : Int32)), .val (.int (1 : Int32))] [(.long (q2 ^^^ (-1 : Int64))), (.int (0 : Int32)), (.int (1 : Int32)), (.ref b1)])
          obtain ⟨_, _, ⟨T51, L51, k51, n51⟩, -, X51, ⟨Lc51, hQ51, l51, y51, z51⟩, st51⟩ := Jvm.LawKit.callS X48 hx (y := (⟨"com/example/limfjord/limfjord/engine/LongQueueIsEmptyPinLaw", "step", "(Lcom/example/limfjord/limfjord/engine/LongQueue;IZJ)I"⟩ : MethodName)) hown (mvT hZ (hw _ (List.mem_of_getElem? (i := 21) rfl))) (mvT hZ (hw _ (List.mem_of_getElem? (i := 22) rfl))) (mvT hZ (hw _ (List.mem_of_getElem? (i := 23) rfl))) (mvT hZ (hw _ (List.mem_of_getElem? (i := 24) rfl))) (by decide) (backOf (W := 0) (rm7 l Z a0 hw [] b1 (1 : Int32) (0 : Int32) (q2 ^^^ (-1 : Int64)) _ _ _ _ T47.heap n0 Zs E_b1 F_entries_b1 F_head_b1 F_tail_b1 V_bq2 g_b1 gq2 neq2 (by decide) (by decide)) hZ (hw _ (List.mem_of_getElem? (i := 24) rfl)) (hw _ (List.mem_of_getElem? (i := 23) rfl)) (by decide) (by decide)) (g := (mkF m 195 #[.val (.int p1), .val (.long q2), .second, .val (.long q3), .second, .val (.ref b1), .val (.int (1 : Int32)), .val (.int (1 : Int32))] [(.long (q2 ^^^ (-1 : Int64))), (.int (0 : Int32)), (.int (1 : Int32)), (.ref b1)])) rfl (by rw [hml]; rfl) (argsL := [(.ref b1), (.int (1 : Int32)), (.int (0 : Int32)), (.long (q2 ^^^ (-1 : Int64)))]) (rest := []) (lenOf own_pd_4 rfl) rfl (by show 2 * 0 + _ ≤ _; exact Nat.le_of_eq rfl) (hb hby at_195) (fun _ _ => ⟨rfl, hh48, (by decide : 2 + 0 ≤ _), (by decide : 1027 + 0 ≤ _)⟩)
          dsimp only [Pt.U, Pt.locs, Pt.cells, Pt.slots] at X51 l51 y51 z51 st51 hQ51
          subst l51 y51 z51
          obtain ⟨rfl, Nq51, Kq51, P51_0, P51_1, P51_2, P51_3, P51_4⟩ := hQ51
          replace Nf := Fr.app Nf Nq51
          replace E_b1 := P51_0
          replace F_entries_b1 := P51_1
          replace F_head_b1 := P51_2
          replace F_tail_b1 : Fld Z T51.heap b1 "com/example/limfjord/limfjord/engine/LongQueue" "tail" "I" (.int (3 : Int32)) := P51_3
          replace V_bq2 := P51_4
          replace Zs := Nat.le_trans Zs Kq51.1
          refine own_step st51 ?_
          show own_Fin _ _ _ _ _ _ _ _ (mkF m 198 #[.val (.int p1), .val (.long q2), .second, .val (.long q3), .second, .val (.ref b1), .val (.int (1 : Int32)), .val (.int (1 : Int32))] [(.int ((1 : Int32) + (1 : Int32)))])
          refine own_step (fun t k => XS.istore X51.here hx rfl (hb hby at_198) rfl (l' := #[.val (.int p1), .val (.long q2), .second, .val (.long q3), .second, .val (.ref b1), .val (.int ((1 : Int32) + (1 : Int32))), .val (.int (1 : Int32))]) rfl k) ?_
          show own_Fin _ _ _ _ _ _ _ _ (mkF m 200 #[.val (.int p1), .val (.long q2), .second, .val (.long q3), .second, .val (.ref b1), .val (.int ((1 : Int32) + (1 : Int32))), .val (.int (1 : Int32))] [])
          show own_Fin _ _ _ _ _ _ _ _ (mkF m 200 #[.val (.int p1), .val (.long q2), .second, .val (.long q3), .second, .val (.ref b1), .val (.int (2 : Int32)), .val (.int (1 : Int32))] [])
          refine own_step (fun t k => XS.iload X51.here hx rfl (hb hby at_200) rfl k) ?_
          show own_Fin _ _ _ _ _ _ _ _ (mkF m 202 #[.val (.int p1), .val (.long q2), .second, .val (.long q3), .second, .val (.ref b1), .val (.int (2 : Int32)), .val (.int (1 : Int32))] [(.int (1 : Int32))])
          refine own_step (fun t k => XS.ifNo X51.here hx rfl (hb hby at_202) rfl (by decide) k) ?_
          show own_Fin _ _ _ _ _ _ _ _ (mkF m 205 #[.val (.int p1), .val (.long q2), .second, .val (.long q3), .second, .val (.ref b1), .val (.int (2 : Int32)), .val (.int (1 : Int32))] [])
          refine own_step (fun t k => XS.aload X51.here hx rfl (hb hby at_205) rfl rfl k) ?_
          show own_Fin _ _ _ _ _ _ _ _ (mkF m 207 #[.val (.int p1), .val (.long q2), .second, .val (.long q3), .second, .val (.ref b1), .val (.int (2 : Int32)), .val (.int (1 : Int32))] [(.ref b1)])
          obtain ⟨cq52, kq52, q52a, q52b, q52c⟩ := isOf hZ rfl E_b1
          obtain ⟨_, _, ⟨T52, L52, k52, n52⟩, -, X52, ⟨Lc52, hQ52, l52, y52, z52⟩, st52⟩ := X51.virtualBack hx (y := (⟨"com/example/limfjord/limfjord/engine/LongQueue", "isEmpty", "()Z"⟩ : MethodName)) (z := (⟨"com/example/limfjord/limfjord/engine/LongQueue", "isEmpty", "()Z"⟩ : MethodName)) hown (mvT hZ (hw _ (List.mem_of_getElem? (i := 12) rfl))) (mvT hZ (hw _ (List.mem_of_getElem? (i := 13) rfl))) (notFace_of_selects (args := #[]) (mvT hZ (hw _ (List.mem_of_getElem? (i := 15) rfl)))) (mvT hZ (hw _ (List.mem_of_getElem? (i := 15) rfl))) (mvT hZ (hw _ (List.mem_of_getElem? (i := 14) rfl))) (by decide) (backOf (W := 0) (rm5 l Z a0 hw [] b1 _ _ T51.heap n0 Zs F_head_b1 F_tail_b1) hZ (hw _ (List.mem_of_getElem? (i := 16) rfl)) (hw _ (List.mem_of_getElem? (i := 2) rfl)) (by decide) (by decide)) q52a q52c (g := (mkF m 207 #[.val (.int p1), .val (.long q2), .second, .val (.long q3), .second, .val (.ref b1), .val (.int (2 : Int32)), .val (.int (1 : Int32))] [(.ref b1)])) rfl (by rw [hml]; rfl) (Steps.refl _) (argsL := []) (rest := []) (lenOf own_pd_3 rfl) rfl (by show 2 * 0 + _ ≤ _; exact Nat.le_of_eq rfl) (hb hby at_207) (fun _ _ => ⟨rfl, rfl, (by decide : 2 + 0 ≤ _), (by decide : 1027 + 0 ≤ _)⟩)
          dsimp only [Pt.U, Pt.locs, Pt.cells, Pt.slots] at X52 l52 y52 z52 st52 hQ52
          subst l52 y52 z52
          obtain ⟨r52, rfl, hB52, Nq52, hh52⟩ := hQ52
          replace Nf := Fr.app Nf Nq52
          refine own_stepT st52 ?_
          show own_Fin _ _ _ _ _ _ _ _ (mkF m 210 #[.val (.int p1), .val (.long q2), .second, .val (.long q3), .second, .val (.ref b1), .val (.int (2 : Int32)), .val (.int (1 : Int32))] [(.int r52)])
          refine own_step (fun t k => XS.iload X52.here hx rfl (hb hby at_210) rfl k) ?_
          show own_Fin _ _ _ _ _ _ _ _ (mkF m 212 #[.val (.int p1), .val (.long q2), .second, .val (.long q3), .second, .val (.ref b1), .val (.int (2 : Int32)), .val (.int (1 : Int32))] [(.int (2 : Int32)), (.int r52)])
          refine own_step (fun t k => XS.ifYes X52.here hx rfl (pc0 := 212) (pc' := 219) rfl (hb hby at_212) rfl (by decide) (by decide) (by decide) k) ?_
          show own_Fin _ _ _ _ _ _ _ _ (mkF m 219 #[.val (.int p1), .val (.long q2), .second, .val (.long q3), .second, .val (.ref b1), .val (.int (2 : Int32)), .val (.int (1 : Int32))] [(.int r52)])
          refine own_step (fun t k => XS.iconst X52.here hx rfl (hb hby at_219) k) ?_
          show own_Fin _ _ _ _ _ _ _ _ (mkF m 220 #[.val (.int p1), .val (.long q2), .second, .val (.long q3), .second, .val (.ref b1), .val (.int (2 : Int32)), .val (.int (1 : Int32))] [(.int (0 : Int32)), (.int r52)])
          have hc53 : (r52).toInt = 0 := by
            rcases hB52 with ⟨q1, q2⟩ | ⟨q1, q2⟩
            · exact absurd q2 (by decide)
            · exact q1
          refine own_step (fun t k => XS.icmpNo X52.here hx rfl (hb hby at_220) rfl (own_ce (x := r52) (y := (0 : Int32)) rfl rfl hc53).2 k) ?_
          show own_Fin _ _ _ _ _ _ _ _ (mkF m 223 #[.val (.int p1), .val (.long q2), .second, .val (.long q3), .second, .val (.ref b1), .val (.int (2 : Int32)), .val (.int (1 : Int32))] [])
          refine own_step (fun t k => XS.iconst X52.here hx rfl (hb hby at_223) k) ?_
          show own_Fin _ _ _ _ _ _ _ _ (mkF m 224 #[.val (.int p1), .val (.long q2), .second, .val (.long q3), .second, .val (.ref b1), .val (.int (2 : Int32)), .val (.int (1 : Int32))] [(.int (1 : Int32))])
          refine own_step (fun t k => XS.goto X52.here hx rfl (pc0 := 224) (pc' := 228) rfl (hb hby at_224) (by decide) (by decide) k) ?_
          show own_Fin _ _ _ _ _ _ _ _ (mkF m 228 #[.val (.int p1), .val (.long q2), .second, .val (.long q3), .second, .val (.ref b1), .val (.int (2 : Int32)), .val (.int (1 : Int32))] [(.int (1 : Int32))])
          refine own_step (fun t k => XS.istore X52.here hx rfl (hb hby at_228) rfl (l' := #[.val (.int p1), .val (.long q2), .second, .val (.long q3), .second, .val (.ref b1), .val (.int (2 : Int32)), .val (.int (1 : Int32))]) rfl k) ?_
          show own_Fin _ _ _ _ _ _ _ _ (mkF m 230 #[.val (.int p1), .val (.long q2), .second, .val (.long q3), .second, .val (.ref b1), .val (.int (2 : Int32)), .val (.int (1 : Int32))] [])
          refine own_step (fun t k => XS.iload X52.here hx rfl (hb hby at_230) rfl k) ?_
          show own_Fin _ _ _ _ _ _ _ _ (mkF m 232 #[.val (.int p1), .val (.long q2), .second, .val (.long q3), .second, .val (.ref b1), .val (.int (2 : Int32)), .val (.int (1 : Int32))] [(.int (1 : Int32))])
          refine own_retZ X52 hx hlk Bd.returns (hb hby at_232) (z' := (1 : Int32)) (by decide) (by decide) (by decide) hh52 ?_
          exact ⟨rfl, Nf⟩
        · skip
          refine own_step (fun t k => XS.ifNo X48.here hx rfl (hb hby at_182) rfl ((if0 _ _).trans (own_cu (x := (p1 &&& (8 : Int32))) (y := (0 : Int32)) rfl rfl hc50).1) k) ?_
          show own_Fin _ _ _ _ _ _ _ _ (mkF m 185 #[.val (.int p1), .val (.long q2), .second, .val (.long q3), .second, .val (.ref b1), .val (.int (1 : Int32)), .val (.int (1 : Int32))] [(.int (1 : Int32)), (.ref b1)])
          refine own_step (fun t k => XS.iconst X48.here hx rfl (hb hby at_185) k) ?_
          show own_Fin _ _ _ _ _ _ _ _ (mkF m 186 #[.val (.int p1), .val (.long q2), .second, .val (.long q3), .second, .val (.ref b1), .val (.int (1 : Int32)), .val (.int (1 : Int32))] [(.int (1 : Int32)), (.int (1 : Int32)), (.ref b1)])
          refine own_step (fun t k => XS.goto X48.here hx rfl (pc0 := 186) (pc' := 190) rfl (hb hby at_186) (by decide) (by decide) k) ?_
          show own_Fin _ _ _ _ _ _ _ _ (mkF m 190 #[.val (.int p1), .val (.long q2), .second, .val (.long q3), .second, .val (.ref b1), .val (.int (1 : Int32)), .val (.int (1 : Int32))] [(.int (1 : Int32)), (.int (1 : Int32)), (.ref b1)])
          refine own_step (fun t k => XS.lloadN X48.here hx rfl (hb hby at_190) rfl k) ?_
          show own_Fin _ _ _ _ _ _ _ _ (mkF m 191 #[.val (.int p1), .val (.long q2), .second, .val (.long q3), .second, .val (.ref b1), .val (.int (1 : Int32)), .val (.int (1 : Int32))] [(.long q2), (.int (1 : Int32)), (.int (1 : Int32)), (.ref b1)])
          refine own_step (fun t k => X48.ldc2Long hx hown (mvT hZ (hw _ (List.mem_of_getElem? (i := 30) rfl))) (g := (mkF m 191 #[.val (.int p1), .val (.long q2), .second, .val (.long q3), .second, .val (.ref b1), .val (.int (1 : Int32)), .val (.int (1 : Int32))] [(.long q2), (.int (1 : Int32)), (.int (1 : Int32)), (.ref b1)])) rfl (hb hby at_191) _ k) ?_
          show own_Fin _ _ _ _ _ _ _ _ (mkF m 194 #[.val (.int p1), .val (.long q2), .second, .val (.long q3), .second, .val (.ref b1), .val (.int (1 : Int32)), .val (.int (1 : Int32))] [(.long (-1 : Int64)), (.long q2), (.int (1 : Int32)), (.int (1 : Int32)), (.ref b1)])
          refine own_step (fun t k => XS.lxor X48.here hx rfl (hb hby at_194) rfl k) ?_
          show own_Fin _ _ _ _ _ _ _ _ (mkF m 195 #[.val (.int p1), .val (.long q2), .second, .val (.long q3), .second, .val (.ref b1), .val (.int (1 : Int32)), .val (.int (1 : Int32))] [(.long (q2 ^^^ (-1 : Int64))), (.int (1 : Int32)), (.int (1 : Int32)), (.ref b1)])
          obtain ⟨_, _, ⟨T54, L54, k54, n54⟩, -, X54, ⟨Lc54, hQ54, l54, y54, z54⟩, st54⟩ := Jvm.LawKit.callS X48 hx (y := (⟨"com/example/limfjord/limfjord/engine/LongQueueIsEmptyPinLaw", "step", "(Lcom/example/limfjord/limfjord/engine/LongQueue;IZJ)I"⟩ : MethodName)) hown (mvT hZ (hw _ (List.mem_of_getElem? (i := 21) rfl))) (mvT hZ (hw _ (List.mem_of_getElem? (i := 22) rfl))) (mvT hZ (hw _ (List.mem_of_getElem? (i := 23) rfl))) (mvT hZ (hw _ (List.mem_of_getElem? (i := 24) rfl))) (by decide) (backOf (W := 0) (rm6 l Z a0 hw [] b1 (1 : Int32) (1 : Int32) (q2 ^^^ (-1 : Int64)) _ _ _ _ T47.heap n0 Zs E_b1 F_entries_b1 F_head_b1 F_tail_b1 V_bq2 g_b1 neq2 (by decide) (by decide)) hZ (hw _ (List.mem_of_getElem? (i := 24) rfl)) (hw _ (List.mem_of_getElem? (i := 23) rfl)) (by decide) (by decide)) (g := (mkF m 195 #[.val (.int p1), .val (.long q2), .second, .val (.long q3), .second, .val (.ref b1), .val (.int (1 : Int32)), .val (.int (1 : Int32))] [(.long (q2 ^^^ (-1 : Int64))), (.int (1 : Int32)), (.int (1 : Int32)), (.ref b1)])) rfl (by rw [hml]; rfl) (argsL := [(.ref b1), (.int (1 : Int32)), (.int (1 : Int32)), (.long (q2 ^^^ (-1 : Int64)))]) (rest := []) (lenOf own_pd_4 rfl) rfl (by show 2 * 0 + _ ≤ _; exact Nat.le_of_eq rfl) (hb hby at_195) (fun _ _ => ⟨rfl, hh48, (by decide : 2 + 0 ≤ _), (by decide : 1027 + 0 ≤ _)⟩)
          dsimp only [Pt.U, Pt.locs, Pt.cells, Pt.slots] at X54 l54 y54 z54 st54 hQ54
          subst l54 y54 z54
          obtain ⟨rfl, Nq54, Kq54, P54_0, P54_1, P54_2, P54_3⟩ := hQ54
          replace Nf := Fr.app Nf Nq54
          replace E_b1 := P54_0
          replace F_entries_b1 := P54_1
          replace F_head_b1 : Fld Z T54.heap b1 "com/example/limfjord/limfjord/engine/LongQueue" "head" "I" (.int (2 : Int32)) := P54_2
          replace F_tail_b1 := P54_3
          replace V_bq2 := V_bq2.keep Kq54 (ninS (Ne.symm neq2) nin0)
          replace Zs := Nat.le_trans Zs Kq54.1
          refine own_step st54 ?_
          show own_Fin _ _ _ _ _ _ _ _ (mkF m 198 #[.val (.int p1), .val (.long q2), .second, .val (.long q3), .second, .val (.ref b1), .val (.int (1 : Int32)), .val (.int (1 : Int32))] [(.int ((1 : Int32) - (1 : Int32)))])
          refine own_step (fun t k => XS.istore X54.here hx rfl (hb hby at_198) rfl (l' := #[.val (.int p1), .val (.long q2), .second, .val (.long q3), .second, .val (.ref b1), .val (.int ((1 : Int32) - (1 : Int32))), .val (.int (1 : Int32))]) rfl k) ?_
          show own_Fin _ _ _ _ _ _ _ _ (mkF m 200 #[.val (.int p1), .val (.long q2), .second, .val (.long q3), .second, .val (.ref b1), .val (.int ((1 : Int32) - (1 : Int32))), .val (.int (1 : Int32))] [])
          show own_Fin _ _ _ _ _ _ _ _ (mkF m 200 #[.val (.int p1), .val (.long q2), .second, .val (.long q3), .second, .val (.ref b1), .val (.int (0 : Int32)), .val (.int (1 : Int32))] [])
          refine own_step (fun t k => XS.iload X54.here hx rfl (hb hby at_200) rfl k) ?_
          show own_Fin _ _ _ _ _ _ _ _ (mkF m 202 #[.val (.int p1), .val (.long q2), .second, .val (.long q3), .second, .val (.ref b1), .val (.int (0 : Int32)), .val (.int (1 : Int32))] [(.int (1 : Int32))])
          refine own_step (fun t k => XS.ifNo X54.here hx rfl (hb hby at_202) rfl (by decide) k) ?_
          show own_Fin _ _ _ _ _ _ _ _ (mkF m 205 #[.val (.int p1), .val (.long q2), .second, .val (.long q3), .second, .val (.ref b1), .val (.int (0 : Int32)), .val (.int (1 : Int32))] [])
          refine own_step (fun t k => XS.aload X54.here hx rfl (hb hby at_205) rfl rfl k) ?_
          show own_Fin _ _ _ _ _ _ _ _ (mkF m 207 #[.val (.int p1), .val (.long q2), .second, .val (.long q3), .second, .val (.ref b1), .val (.int (0 : Int32)), .val (.int (1 : Int32))] [(.ref b1)])
          obtain ⟨cq55, kq55, q55a, q55b, q55c⟩ := isOf hZ rfl E_b1
          obtain ⟨_, _, ⟨T55, L55, k55, n55⟩, -, X55, ⟨Lc55, hQ55, l55, y55, z55⟩, st55⟩ := X54.virtualBack hx (y := (⟨"com/example/limfjord/limfjord/engine/LongQueue", "isEmpty", "()Z"⟩ : MethodName)) (z := (⟨"com/example/limfjord/limfjord/engine/LongQueue", "isEmpty", "()Z"⟩ : MethodName)) hown (mvT hZ (hw _ (List.mem_of_getElem? (i := 12) rfl))) (mvT hZ (hw _ (List.mem_of_getElem? (i := 13) rfl))) (notFace_of_selects (args := #[]) (mvT hZ (hw _ (List.mem_of_getElem? (i := 15) rfl)))) (mvT hZ (hw _ (List.mem_of_getElem? (i := 15) rfl))) (mvT hZ (hw _ (List.mem_of_getElem? (i := 14) rfl))) (by decide) (backOf (W := 0) (rm5 l Z a0 hw [] b1 _ _ T54.heap n0 Zs F_head_b1 F_tail_b1) hZ (hw _ (List.mem_of_getElem? (i := 16) rfl)) (hw _ (List.mem_of_getElem? (i := 2) rfl)) (by decide) (by decide)) q55a q55c (g := (mkF m 207 #[.val (.int p1), .val (.long q2), .second, .val (.long q3), .second, .val (.ref b1), .val (.int (0 : Int32)), .val (.int (1 : Int32))] [(.ref b1)])) rfl (by rw [hml]; rfl) (Steps.refl _) (argsL := []) (rest := []) (lenOf own_pd_3 rfl) rfl (by show 2 * 0 + _ ≤ _; exact Nat.le_of_eq rfl) (hb hby at_207) (fun _ _ => ⟨rfl, rfl, (by decide : 2 + 0 ≤ _), (by decide : 1027 + 0 ≤ _)⟩)
          dsimp only [Pt.U, Pt.locs, Pt.cells, Pt.slots] at X55 l55 y55 z55 st55 hQ55
          subst l55 y55 z55
          obtain ⟨r55, rfl, hB55, Nq55, hh55⟩ := hQ55
          replace Nf := Fr.app Nf Nq55
          refine own_stepT st55 ?_
          show own_Fin _ _ _ _ _ _ _ _ (mkF m 210 #[.val (.int p1), .val (.long q2), .second, .val (.long q3), .second, .val (.ref b1), .val (.int (0 : Int32)), .val (.int (1 : Int32))] [(.int r55)])
          refine own_step (fun t k => XS.iload X55.here hx rfl (hb hby at_210) rfl k) ?_
          show own_Fin _ _ _ _ _ _ _ _ (mkF m 212 #[.val (.int p1), .val (.long q2), .second, .val (.long q3), .second, .val (.ref b1), .val (.int (0 : Int32)), .val (.int (1 : Int32))] [(.int (0 : Int32)), (.int r55)])
          refine own_step (fun t k => XS.ifNo X55.here hx rfl (hb hby at_212) rfl (by decide) k) ?_
          show own_Fin _ _ _ _ _ _ _ _ (mkF m 215 #[.val (.int p1), .val (.long q2), .second, .val (.long q3), .second, .val (.ref b1), .val (.int (0 : Int32)), .val (.int (1 : Int32))] [(.int r55)])
          refine own_step (fun t k => XS.iconst X55.here hx rfl (hb hby at_215) k) ?_
          show own_Fin _ _ _ _ _ _ _ _ (mkF m 216 #[.val (.int p1), .val (.long q2), .second, .val (.long q3), .second, .val (.ref b1), .val (.int (0 : Int32)), .val (.int (1 : Int32))] [(.int (1 : Int32)), (.int r55)])
          refine own_step (fun t k => XS.goto X55.here hx rfl (pc0 := 216) (pc' := 220) rfl (hb hby at_216) (by decide) (by decide) k) ?_
          show own_Fin _ _ _ _ _ _ _ _ (mkF m 220 #[.val (.int p1), .val (.long q2), .second, .val (.long q3), .second, .val (.ref b1), .val (.int (0 : Int32)), .val (.int (1 : Int32))] [(.int (1 : Int32)), (.int r55)])
          have hc56 : (r55).toInt = 1 := by
            rcases hB55 with ⟨q1, q2⟩ | ⟨q1, q2⟩
            · exact q1
            · exact absurd (by decide) q2
          refine own_step (fun t k => XS.icmpNo X55.here hx rfl (hb hby at_220) rfl (own_ce (x := r55) (y := (1 : Int32)) rfl rfl hc56).2 k) ?_
          show own_Fin _ _ _ _ _ _ _ _ (mkF m 223 #[.val (.int p1), .val (.long q2), .second, .val (.long q3), .second, .val (.ref b1), .val (.int (0 : Int32)), .val (.int (1 : Int32))] [])
          refine own_step (fun t k => XS.iconst X55.here hx rfl (hb hby at_223) k) ?_
          show own_Fin _ _ _ _ _ _ _ _ (mkF m 224 #[.val (.int p1), .val (.long q2), .second, .val (.long q3), .second, .val (.ref b1), .val (.int (0 : Int32)), .val (.int (1 : Int32))] [(.int (1 : Int32))])
          refine own_step (fun t k => XS.goto X55.here hx rfl (pc0 := 224) (pc' := 228) rfl (hb hby at_224) (by decide) (by decide) k) ?_
          show own_Fin _ _ _ _ _ _ _ _ (mkF m 228 #[.val (.int p1), .val (.long q2), .second, .val (.long q3), .second, .val (.ref b1), .val (.int (0 : Int32)), .val (.int (1 : Int32))] [(.int (1 : Int32))])
          refine own_step (fun t k => XS.istore X55.here hx rfl (hb hby at_228) rfl (l' := #[.val (.int p1), .val (.long q2), .second, .val (.long q3), .second, .val (.ref b1), .val (.int (0 : Int32)), .val (.int (1 : Int32))]) rfl k) ?_
          show own_Fin _ _ _ _ _ _ _ _ (mkF m 230 #[.val (.int p1), .val (.long q2), .second, .val (.long q3), .second, .val (.ref b1), .val (.int (0 : Int32)), .val (.int (1 : Int32))] [])
          refine own_step (fun t k => XS.iload X55.here hx rfl (hb hby at_230) rfl k) ?_
          show own_Fin _ _ _ _ _ _ _ _ (mkF m 232 #[.val (.int p1), .val (.long q2), .second, .val (.long q3), .second, .val (.ref b1), .val (.int (0 : Int32)), .val (.int (1 : Int32))] [(.int (1 : Int32))])
          refine own_retZ X55 hx hlk Bd.returns (hb hby at_232) (z' := (1 : Int32)) (by decide) (by decide) (by decide) hh55 ?_
          exact ⟨rfl, Nf⟩
  refine own_step (fun t k => XS.iloadN X3.here hx rfl (hb hby at_23) rfl k) ?_
  show own_Fin _ _ _ _ _ _ _ _ (mkF m 24 #[.val (.int p1), .val (.long q2), .second, .val (.long q3), .second, .val (.ref b1), .val (.int (0 : Int32)), .val (.int r3)] [(.int p1), (.int (0 : Int32)), (.ref b1)])
  refine own_step (fun t k => XS.iconst X3.here hx rfl (hb hby at_24) k) ?_
  show own_Fin _ _ _ _ _ _ _ _ (mkF m 25 #[.val (.int p1), .val (.long q2), .second, .val (.long q3), .second, .val (.ref b1), .val (.int (0 : Int32)), .val (.int r3)] [(.int (1 : Int32)), (.int p1), (.int (0 : Int32)), (.ref b1)])
  refine own_step (fun t k => XS.iand X3.here hx rfl (hb hby at_25) rfl k) ?_
  show own_Fin _ _ _ _ _ _ _ _ (mkF m 26 #[.val (.int p1), .val (.long q2), .second, .val (.long q3), .second, .val (.ref b1), .val (.int (0 : Int32)), .val (.int r3)] [(.int (p1 &&& (1 : Int32))), (.int (0 : Int32)), (.ref b1)])
  by_cases hc57 : ((p1 &&& (1 : Int32))).toInt = 0
  · skip
    refine own_step (fun t k => XS.ifYes X3.here hx rfl (pc0 := 26) (pc' := 33) rfl (hb hby at_26) rfl ((if0 _ _).trans (own_ce (x := (p1 &&& (1 : Int32))) (y := (0 : Int32)) rfl rfl hc57).1) (by decide) (by decide) k) ?_
    show own_Fin _ _ _ _ _ _ _ _ (mkF m 33 #[.val (.int p1), .val (.long q2), .second, .val (.long q3), .second, .val (.ref b1), .val (.int (0 : Int32)), .val (.int r3)] [(.int (0 : Int32)), (.ref b1)])
    refine own_step (fun t k => XS.iconst X3.here hx rfl (hb hby at_33) k) ?_
    show own_Fin _ _ _ _ _ _ _ _ (mkF m 34 #[.val (.int p1), .val (.long q2), .second, .val (.long q3), .second, .val (.ref b1), .val (.int (0 : Int32)), .val (.int r3)] [(.int (0 : Int32)), (.int (0 : Int32)), (.ref b1)])
    exact j34 _
  · skip
    refine own_step (fun t k => XS.ifNo X3.here hx rfl (hb hby at_26) rfl ((if0 _ _).trans (own_cu (x := (p1 &&& (1 : Int32))) (y := (0 : Int32)) rfl rfl hc57).1) k) ?_
    show own_Fin _ _ _ _ _ _ _ _ (mkF m 29 #[.val (.int p1), .val (.long q2), .second, .val (.long q3), .second, .val (.ref b1), .val (.int (0 : Int32)), .val (.int r3)] [(.int (0 : Int32)), (.ref b1)])
    refine own_step (fun t k => XS.iconst X3.here hx rfl (hb hby at_29) k) ?_
    show own_Fin _ _ _ _ _ _ _ _ (mkF m 30 #[.val (.int p1), .val (.long q2), .second, .val (.long q3), .second, .val (.ref b1), .val (.int (0 : Int32)), .val (.int r3)] [(.int (1 : Int32)), (.int (0 : Int32)), (.ref b1)])
    refine own_step (fun t k => XS.goto X3.here hx rfl (pc0 := 30) (pc' := 34) rfl (hb hby at_30) (by decide) (by decide) k) ?_
    show own_Fin _ _ _ _ _ _ _ _ (mkF m 34 #[.val (.int p1), .val (.long q2), .second, .val (.long q3), .second, .val (.ref b1), .val (.int (0 : Int32)), .val (.int r3)] [(.int (1 : Int32)), (.int (0 : Int32)), (.ref b1)])
    exact j34 _
set_option maxRecDepth 65536 in
set_option maxHeartbeats 40000000 in
theorem comes_1 {Post : Tables → Env → Array Value → State → Outcome → State → Prop} (hpost : ∀ tb e args s v u, (limb_1_1.after args s (.returned v) u = true ∧ limb_1_2.after args s (.returned v) u = true ∧ True) → FrameEnd s (.returned v) u (Jvm.fieldLocs frame_1_writes args s ++ Jvm.arrayLocs frame_1_arrays args s ++ Jvm.staticLocs frame_1_statics s) 16 2176 → Post tb e args s (.returned v) u) :
    ArmFor flags0 classFile x code maxLocals ret World_1 tables_1 room_1 Calls_1 rest_1 Pre_1 Post := by
  intro l hfl _ _ p e ha hc hk s m args below hf hA hF happ hP
  obtain ⟨hcalls, hrest, hpre⟩ := hP
  obtain ⟨-, -, -, hnamed, -, -, -, hat⟩ := (Spec.applies_iff hf).mp happ
  obtain ⟨hg, hn⟩ := and_e (Cond.before_iff.mp (show (Jvm.Cond.and given_1 narrow_1).before args s = true from hpre))
  obtain ⟨g1, g2⟩ := and_e hg
  obtain ⟨g3, g4⟩ := and_e g2
  obtain ⟨g5, g6⟩ := and_e g4
  obtain ⟨w0, w1, w2, rfl⟩ : ∃ w0 w1 w2 : Value, args = #[w0, w1, w2] := by
    have hs : args.size = 3 := by simpa [Cond.value, given_1] using g1
    obtain ⟨L⟩ := args
    match L, hs with
    | [w0, w1, w2], _ => exact ⟨w0, w1, w2, rfl⟩
  have hw := fun d (hd : d ∈ tables_1) => atoms_spec (ws := Jvm.Cond.code x code maxLocals ret :: tables_1) hat d (List.mem_cons_of_mem _ hd)
  obtain ⟨i0, ei0⟩ := is_v g3
  obtain rfl : w0 = (.int i0) := Option.some.inj ei0
  obtain ⟨i1, ei1⟩ := isL_v g5
  obtain rfl : w1 = (.long i1) := Option.some.inj ei1
  obtain ⟨i2, ei2⟩ := isL_v g6
  obtain rfl : w2 = (.long i2) := Option.some.inj ei2
  obtain ⟨n, o, h1, h2, h3, _, L, rfl, ⟨rfl, N⟩, hq⟩ := rm0 l s _ hw tables_1 i0 i1 i2 s.heap s.heap.size (Nat.le_refl _) p e ha hc hk s m _ below hf ((Spec.applies_iff_loose hf).mp happ).1 ⟨rfl, State.Warmed39.refl s, rfl⟩ trivial
  refine ⟨n, _, h1, h2, h3, hpost _ _ _ _ _ _ ⟨Cond.after_iff.mpr rfl, Cond.after_iff.mpr (eq_i res_at (Term.int_eval (1)) rfl), trivial⟩ ⟨hq.1, hq.2.1, (hq.2.2.sift fun y hy => Or.inr (N y hy)).mono (by decide) (by decide)⟩⟩
theorem main_1_1 : Claimed_1_1 := comes_1 fun _ _ _ _ _ _ h hF => ⟨h.1, hF⟩
theorem main_1_2 : Claimed_1_2 := comes_1 fun _ _ _ _ _ _ h hF => ⟨h.2.1, hF⟩
end Jvm.Pilot.@@N@@
namespace Jvm.Pilot.@@N@@
open Jvm Jvm.ClassFile Sem Op Lib Jvm.Free Jvm.Stand Jvm.Pilot.@@N@@.Jvm.D
/-! MADE BY PROGRAM (witnessworld.py) out of the Statement's table words and the real class files: 11 classes; the members and pool entries that the words name. The judged class is class 1, her method 2. -/
namespace start1
open Jvm.ClassFile
def u (s : String) : CpInfo := .utf8 (stringToUtf16 s)
/-- a pool by its gaps: so many unusable entries, then the entry; so many at the end -/
def gap : Nat → List CpInfo → List CpInfo
  | 0, r => r
  | n + 1, r => .unusable :: gap n r
def poolList (es : List (Nat × CpInfo)) (last : Nat) : List CpInfo := es.foldr (fun e r => gap e.1 (e.2 :: r)) (gap last [])
def pool (es : List (Nat × CpInfo)) (last : Nat) : Array CpInfo := ⟨poolList es last⟩
def fileOf (pool : Array CpInfo) (this : Nat) (attrs : Array Attribute := #[]) (ms : Array MethodInfo := #[]) (fl : Nat := 33) (sup : Nat := 0) (ifs : Array Nat := #[]) (fds : Array FieldInfo := #[]) : ClassFile where
  minorVersion := 0
  majorVersion := 65
  constantPool := pool
  accessFlags := fl
  thisClass := this
  superClass := sup
  interfaces := ifs
  fields := fds
  methods := ms
  attributes := attrs
def plain (name : String) (sup : Option ClassId) : Class where
  name := name
  kind := .ordinary
  loader := none
  accessFlags := 33
  super := sup
  interfaces := #[]
  cf := none
  fields := #[]
  methods := #[]
  instanceTypes := #[]
  staticTypes := #[]
  resolved := #[]
  callSites := []
  init := .initialized
  statics := none
  mirror := none

def pool0 : Array CpInfo := pool [(5, u "<init>"), (0, u "()V"), (1, .class_ 10), (1, u "java/lang/Object")] 113

def k0c0 : Code := { maxStack := 0, maxLocals := 1, code := object_method_1_code, exceptionTable := #[], attributes := #[] }
def k0m0 : Method := { name := "<init>", desc := "()V", sig := { parameters := [], returnType := none }, accessFlags := 1, code := some k0c0 }
/-- java/lang/Object -/
def k0 : Class := { plain "java/lang/Object" none with
  accessFlags := 33
  interfaces := #[]
  cf := some (fileOf pool0 8 #[] #[{ accessFlags := 1, nameIndex := 5, descriptorIndex := 6, attributes := #[] }] 33 0 #[] #[])
  fields := #[]
  methods := #[k0m0]
  instanceTypes := #[]
  staticTypes := #[]
  resolved := Array.replicate 124 none
  statics := none }

def pool1 : Array CpInfo := pool [(2, .class_ 4), (0, .nameAndType 5 6), (0, u "java/lang/Object"), (0, u "<init>"), (0, u "()V"), (0, .methodref 8 9), (0, .class_ 10), (0, .nameAndType 11 12), (0, u "com/example/limfjord/limfjord/engine/LongQueue"), (0, u "poll"), (0, u "()J"), (0, .methodref 8 14), (0, .nameAndType 15 16), (0, u "add"), (0, u "(J)V"), (0, .methodref 8 3), (0, .methodref 8 19), (0, .nameAndType 20 21), (0, u "isEmpty"), (0, u "()Z"), (0, .methodref 23 24), (0, .class_ 25), (0, .nameAndType 26 27), (0, u "com/example/limfjord/limfjord/engine/LongQueueIsEmptyPinLaw"), (0, u "step"), (0, u "(Lcom/example/limfjord/limfjord/engine/LongQueue;IZJ)I"), (0, .long 18446744073709551615), (4, u "law"), (0, u "(IJJ)Z")] 2

def k1m0 : Method := { name := "<init>", desc := "()V", sig := { parameters := [], returnType := none }, accessFlags := 1, code := none }
def k1c1 : Code := { maxStack := 3, maxLocals := 5, code := method_2_code, exceptionTable := #[], attributes := #[] }
def k1m1 : Method := { name := "step", desc := "(Lcom/example/limfjord/limfjord/engine/LongQueue;IZJ)I", sig := { parameters := [(.object "com/example/limfjord/limfjord/engine/LongQueue"), .int, .boolean, .long], returnType := some .int }, accessFlags := 10, code := some k1c1 }
def k1c2 : Code := { maxStack := 7, maxLocals := 8, code := code, exceptionTable := #[], attributes := #[] }
def k1m2 : Method := { name := "law", desc := "(IJJ)Z", sig := { parameters := [.int, .long, .long], returnType := some .boolean }, accessFlags := 9, code := some k1c2 }
/-- com/example/limfjord/limfjord/engine/LongQueueIsEmptyPinLaw -/
def k1 : Class := { plain "com/example/limfjord/limfjord/engine/LongQueueIsEmptyPinLaw" (some 0) with
  accessFlags := 49
  interfaces := #[]
  cf := some (fileOf pool1 23 #[] #[{ accessFlags := 1, nameIndex := 5, descriptorIndex := 6, attributes := #[] }, { accessFlags := 10, nameIndex := 26, descriptorIndex := 27, attributes := #[] }, { accessFlags := 9, nameIndex := 33, descriptorIndex := 34, attributes := #[] }] 49 2 #[] #[])
  fields := #[]
  methods := #[k1m0, k1m1, k1m2]
  instanceTypes := #[]
  staticTypes := #[]
  resolved := Array.replicate 37 none
  statics := none }

def pool2 : Array CpInfo := pool [(1, .methodref 2 3), (0, .class_ 4), (0, .nameAndType 5 6), (0, u "java/lang/Object"), (0, u "<init>"), (0, u "()V"), (0, .fieldref 8 9), (0, .class_ 10), (0, .nameAndType 11 12), (0, u "com/example/limfjord/limfjord/engine/LongQueue"), (0, u "entries"), (0, u "[J"), (0, .fieldref 8 14), (0, .nameAndType 15 16), (0, u "head"), (0, u "I"), (0, .fieldref 8 18), (0, .nameAndType 19 16), (0, u "tail"), (8, u "isEmpty"), (0, u "()Z"), (2, u "()J"), (0, u "poll"), (0, u "add"), (0, u "(J)V")] 3

def k2c0 : Code := { maxStack := 2, maxLocals := 1, code := prog_36_method_1_code, exceptionTable := #[], attributes := #[] }
def k2m0 : Method := { name := "<init>", desc := "()V", sig := { parameters := [], returnType := none }, accessFlags := 0, code := some k2c0 }
def k2c1 : Code := { maxStack := 2, maxLocals := 1, code := prog_36_method_2_code, exceptionTable := #[], attributes := #[] }
def k2m1 : Method := { name := "isEmpty", desc := "()Z", sig := { parameters := [], returnType := some .boolean }, accessFlags := 0, code := some k2c1 }
def k2c2 : Code := { maxStack := 3, maxLocals := 3, code := prog_36_method_4_code, exceptionTable := #[], attributes := #[] }
def k2m2 : Method := { name := "poll", desc := "()J", sig := { parameters := [], returnType := some .long }, accessFlags := 0, code := some k2c2 }
def k2c3 : Code := { maxStack := 5, maxLocals := 5, code := prog_36_method_5_code, exceptionTable := #[], attributes := #[] }
def k2m3 : Method := { name := "add", desc := "(J)V", sig := { parameters := [.long], returnType := none }, accessFlags := 0, code := some k2c3 }
/-- com/example/limfjord/limfjord/engine/LongQueue -/
def k2 : Class := { plain "com/example/limfjord/limfjord/engine/LongQueue" (some 0) with
  accessFlags := 32
  interfaces := #[]
  cf := some (fileOf pool2 8 #[] #[{ accessFlags := 0, nameIndex := 5, descriptorIndex := 6, attributes := #[] }, { accessFlags := 0, nameIndex := 28, descriptorIndex := 29, attributes := #[] }, { accessFlags := 0, nameIndex := 33, descriptorIndex := 32, attributes := #[] }, { accessFlags := 0, nameIndex := 34, descriptorIndex := 35, attributes := #[] }] 32 2 #[] #[{ accessFlags := 2, nameIndex := 11, descriptorIndex := 12, attributes := #[] }, { accessFlags := 2, nameIndex := 15, descriptorIndex := 16, attributes := #[] }, { accessFlags := 2, nameIndex := 19, descriptorIndex := 16, attributes := #[] }])
  fields := #[{ name := "entries", type := (.array .long), accessFlags := 2, slot := 0, constantValue := 0 }, { name := "head", type := .int, accessFlags := 2, slot := 1, constantValue := 0 }, { name := "tail", type := .int, accessFlags := 2, slot := 2, constantValue := 0 }]
  methods := #[k2m0, k2m1, k2m2, k2m3]
  instanceTypes := #[(.array .long), .int, .int]
  staticTypes := #[]
  resolved := Array.replicate 39 none
  statics := none }

def pool3 : Array CpInfo := pool [(1, u "java/lang/Cloneable"), (0, .class_ 1), (0, u "java/lang/Object"), (0, .class_ 3)] 3

/-- java/lang/Cloneable -/
def k3 : Class := { plain "java/lang/Cloneable" (some 0) with
  accessFlags := 1537
  interfaces := #[]
  cf := some (fileOf pool3 2 #[] #[] 1537 4 #[] #[])
  fields := #[]
  methods := #[]
  instanceTypes := #[]
  staticTypes := #[]
  resolved := Array.replicate 8 none
  statics := none }

def pool4 : Array CpInfo := pool [(1, u "java/io/Serializable"), (0, .class_ 1), (0, u "java/lang/Object"), (0, .class_ 3)] 3

/-- java/io/Serializable -/
def k4 : Class := { plain "java/io/Serializable" (some 0) with
  accessFlags := 1537
  interfaces := #[]
  cf := some (fileOf pool4 2 #[] #[] 1537 4 #[] #[])
  fields := #[]
  methods := #[]
  instanceTypes := #[]
  staticTypes := #[]
  resolved := Array.replicate 8 none
  statics := none }

/-- the primitive byte -/
def k5 : Class := { plain "byte" none with kind := .primitive 'B', accessFlags := 0x411 }
/-- [B -/
def k6 : Class := { plain "[B" (some 0) with kind := .array 5 .byte, interfaces := #[3, 4], accessFlags := 1041 }

/-- the primitive int -/
def k7 : Class := { plain "int" none with kind := .primitive 'I', accessFlags := 0x411 }
/-- [I -/
def k8 : Class := { plain "[I" (some 0) with kind := .array 7 .int, interfaces := #[3, 4], accessFlags := 1041 }

/-- the primitive long -/
def k9 : Class := { plain "long" none with kind := .primitive 'J', accessFlags := 0x411 }
/-- [J -/
def k10 : Class := { plain "[J" (some 0) with kind := .array 9 .long, interfaces := #[3, 4], accessFlags := 1041 }

def heap : Heap := #[]
def classes : Array Class := #[k0, k1, k2, k3, k4, k5, k6, k7, k8, k9, k10]
def interned : List (Array UInt16 × Addr) := []
def slotsUsed : Nat := 0
def theMethod : MethodId := ⟨1, 2⟩
def args0 : Array Value := #[.int 5, .long 7, .long 7]
def aboutOver (below : List Frame) : State where
  vm := { classes := classes, interned := interned.toArray }
  heap := heap
  slotsUsed := slotsUsed
  threads := #[{ frames := .invoking theMethod args0 :: below }]
def below0 : List Frame := [.native { method := ⟨0, 0⟩, args := #[] }]
def about1 : State := aboutOver below0
def p0 : Program := .bare "" "" ""
def e0 : Env := launch0.env 0 0 0
theorem w_frames : about1.frames = Frame.invoking theMethod args0 :: below0 := rfl
set_option maxRecDepth 65536 in
theorem w_args : argsFit about1.vm theMethod args0 = true := by decide +kernel
set_option maxRecDepth 65536 in
theorem w_heap : heapFits about1 = true := by decide +kernel
set_option maxRecDepth 65536 in
theorem w_runnable : about1.curStatus? = some .runnable := by decide +kernel
set_option maxRecDepth 65536 in
theorem w_alone : about1.alone = true := by decide +kernel
set_option maxRecDepth 65536 in
theorem w_named : about1.methodNamed? x = some theMethod := by decide +kernel
set_option maxRecDepth 65536 in
theorem w_hears : about1.hears theMethod below0 = true := by decide +kernel
set_option maxRecDepth 65536 in
theorem w_ripe : about1.ripe theMethod args0 below0 = true := by decide +kernel
theorem w_running : about1.status = .running := rfl
set_option maxRecDepth 65536 in
theorem w_room : about1.hasRoom e0.platform room_1 = true :=
  launch0.hasRoom_least _ room_1 (by decide +kernel) (by decide +kernel) (by decide +kernel) (by decide +kernel) (by decide +kernel) (by decide +kernel)
theorem allAtoms_all (ts : List Jvm.Cond) (a : Array Jvm.Value) (st : Jvm.State) : (allAtoms ts).before a st = ts.all (fun c => c.before a st) := by
  induction ts with
  | nil => rfl
  | cons c t ih =>
    show (Jvm.Cond.and c (allAtoms t)).before a st = _
    rw [Jvm.Cond.before_and, ih, List.all_cons]
def words1 : List Jvm.Cond := Jvm.Cond.code x code maxLocals ret :: tables_1
/-- a 'code' word, met by the world's own term for the bytes: nothing is compared byte by byte -/
theorem code_word {y : MethodName} {bytes : ByteArray} {mx : Nat} {rt : Option FieldType} {a : Array Value} {s : State} {m : MethodId} {meth : Method} {c : Code} (h1 : s.methodNamed? y = some m) (h2 : s.vm.method? m = some meth) (h3 : meth.code = some c) (h4 : c.code = bytes)
    (h5 : (c.maxLocals == mx && c.exceptionTable.isEmpty && decide (c.maxStack ≤ mostOperands) && decide (meth.sig.returnType = rt) && !meth.locks && decide (parseMethodDescriptor y.desc = some meth.sig)) = true) : (Jvm.Cond.code y bytes mx rt).before a s = true := by
  simp only [Bool.and_eq_true, beq_iff_eq, Bool.not_eq_true', decide_eq_true_eq] at h5
  obtain ⟨⟨⟨⟨⟨g1, g2⟩, g3⟩, g4⟩, g5⟩, g6⟩ := h5
  simp [Cond.before, Cond.holds, Cond.value, h1, h2, h3, h4, g1, g2, g3, g4, g5, g6]
def isCode : Jvm.Cond → Bool
  | .code _ _ _ _ => true
  | _ => false
theorem all_split {L : List Jvm.Cond} {P : Jvm.Cond → Bool} (h1 : L.all (fun c => isCode c || P c) = true) (h2 : ∀ c ∈ L.filter isCode, P c = true) : L.all P = true := by
  refine List.all_eq_true.mpr fun c hc => ?_
  have h := List.all_eq_true.mp h1 c hc
  rcases Bool.eq_false_or_eq_true (isCode c) with hi | hi
  · exact h2 c (List.mem_filter.mpr ⟨hc, hi⟩)
  · simpa [hi] using h
set_option maxRecDepth 65536 in
theorem w_c0 : (Jvm.Cond.code x code maxLocals ret).before args0 about1 = true := code_word (m := ⟨1, 2⟩) (meth := k1m2) (c := k1c2) (by decide +kernel) rfl rfl rfl (by decide +kernel)
set_option maxRecDepth 65536 in
theorem w_c1 : (Jvm.Cond.code ({ cls := "com/example/limfjord/limfjord/engine/LongQueue", name := "<init>", desc := "()V" } : Jvm.MethodName) prog_36_method_1_code (1 : Nat) (Option.none : Option Jvm.ClassFile.FieldType)).before args0 about1 = true := code_word (m := ⟨2, 0⟩) (meth := k2m0) (c := k2c0) (by decide +kernel) rfl rfl rfl (by decide +kernel)
set_option maxRecDepth 65536 in
theorem w_c2 : (Jvm.Cond.code ({ cls := "java/lang/Object", name := "<init>", desc := "()V" } : Jvm.MethodName) object_method_1_code (1 : Nat) (Option.none : Option Jvm.ClassFile.FieldType)).before args0 about1 = true := code_word (m := ⟨0, 0⟩) (meth := k0m0) (c := k0c0) (by decide +kernel) rfl rfl rfl (by decide +kernel)
set_option maxRecDepth 65536 in
theorem w_c3 : (Jvm.Cond.code ({ cls := "com/example/limfjord/limfjord/engine/LongQueue", name := "isEmpty", desc := "()Z" } : Jvm.MethodName) prog_36_method_2_code (1 : Nat) (Option.some Jvm.ClassFile.FieldType.boolean)).before args0 about1 = true := code_word (m := ⟨2, 1⟩) (meth := k2m1) (c := k2c1) (by decide +kernel) rfl rfl rfl (by decide +kernel)
set_option maxRecDepth 65536 in
theorem w_c4 : (Jvm.Cond.code ({ cls := "com/example/limfjord/limfjord/engine/LongQueueIsEmptyPinLaw", name := "step", desc := "(Lcom/example/limfjord/limfjord/engine/LongQueue;IZJ)I" } : Jvm.MethodName) method_2_code (5 : Nat) (Option.some Jvm.ClassFile.FieldType.int)).before args0 about1 = true := code_word (m := ⟨1, 1⟩) (meth := k1m1) (c := k1c1) (by decide +kernel) rfl rfl rfl (by decide +kernel)
set_option maxRecDepth 65536 in
theorem w_c5 : (Jvm.Cond.code ({ cls := "com/example/limfjord/limfjord/engine/LongQueue", name := "add", desc := "(J)V" } : Jvm.MethodName) prog_36_method_5_code (5 : Nat) (Option.none : Option Jvm.ClassFile.FieldType)).before args0 about1 = true := code_word (m := ⟨2, 3⟩) (meth := k2m3) (c := k2c3) (by decide +kernel) rfl rfl rfl (by decide +kernel)
set_option maxRecDepth 65536 in
theorem w_c6 : (Jvm.Cond.code ({ cls := "com/example/limfjord/limfjord/engine/LongQueue", name := "poll", desc := "()J" } : Jvm.MethodName) prog_36_method_4_code (3 : Nat) (Option.some Jvm.ClassFile.FieldType.long)).before args0 about1 = true := code_word (m := ⟨2, 2⟩) (meth := k2m2) (c := k2c2) (by decide +kernel) rfl rfl rfl (by decide +kernel)
def codes1 : List Jvm.Cond := [Jvm.Cond.code x code maxLocals ret, Jvm.Cond.code ({ cls := "com/example/limfjord/limfjord/engine/LongQueue", name := "<init>", desc := "()V" } : Jvm.MethodName) prog_36_method_1_code (1 : Nat) (Option.none : Option Jvm.ClassFile.FieldType), Jvm.Cond.code ({ cls := "java/lang/Object", name := "<init>", desc := "()V" } : Jvm.MethodName) object_method_1_code (1 : Nat) (Option.none : Option Jvm.ClassFile.FieldType), Jvm.Cond.code ({ cls := "com/example/limfjord/limfjord/engine/LongQueue", name := "isEmpty", desc := "()Z" } : Jvm.MethodName) prog_36_method_2_code (1 : Nat) (Option.some Jvm.ClassFile.FieldType.boolean), Jvm.Cond.code ({ cls := "com/example/limfjord/limfjord/engine/LongQueueIsEmptyPinLaw", name := "step", desc := "(Lcom/example/limfjord/limfjord/engine/LongQueue;IZJ)I" } : Jvm.MethodName) method_2_code (5 : Nat) (Option.some Jvm.ClassFile.FieldType.int), Jvm.Cond.code ({ cls := "com/example/limfjord/limfjord/engine/LongQueue", name := "add", desc := "(J)V" } : Jvm.MethodName) prog_36_method_5_code (5 : Nat) (Option.none : Option Jvm.ClassFile.FieldType), Jvm.Cond.code ({ cls := "com/example/limfjord/limfjord/engine/LongQueue", name := "poll", desc := "()J" } : Jvm.MethodName) prog_36_method_4_code (3 : Nat) (Option.some Jvm.ClassFile.FieldType.long)]
set_option maxRecDepth 65536 in
theorem codes_eq : words1.filter isCode = codes1 := rfl
theorem w_codes : ∀ c ∈ words1.filter isCode, c.before args0 about1 = true := by
  rw [codes_eq]
  intro c hc
  simp only [codes1, List.mem_cons, List.not_mem_nil, or_false] at hc
  rcases hc with rfl | rfl | rfl | rfl | rfl | rfl | rfl
  · exact w_c0
  · exact w_c1
  · exact w_c2
  · exact w_c3
  · exact w_c4
  · exact w_c5
  · exact w_c6
set_option maxRecDepth 65536 in
theorem w_t1 : (words1.take 24).all (fun c => isCode c || c.before args0 about1) = true := by decide +kernel
set_option maxRecDepth 65536 in
theorem w_t2 : (words1.drop 24).all (fun c => isCode c || c.before args0 about1) = true := by decide +kernel
theorem w_tables : (allAtoms (Jvm.Cond.code x code maxLocals ret :: tables_1)).before args0 about1 = true := by
  rw [allAtoms_all]
  show words1.all (fun c => c.before args0 about1) = true
  refine all_split ?_ w_codes
  rw [← List.take_append_drop 24 words1, List.all_append, w_t1, w_t2]
  rfl
set_option maxRecDepth 65536 in
theorem w_case : (Jvm.Cond.and given_1 narrow_1).before args0 about1 = true := by decide +kernel
theorem w_applies : (headSpec (Jvm.Cond.code x code maxLocals ret :: tables_1) room_1).applies x e0.platform about1 = true :=
  (Spec.applies_iff w_frames).mpr ⟨w_running, w_runnable, w_alone, w_named, w_hears, w_ripe, w_room, w_tables⟩
theorem atStart : AtStart classFile x code maxLocals ret World_1 tables_1 room_1 Calls_1 rest_1 Pre_1 launch0 p0 e0 about1 theMethod args0 below0 :=
  ⟨lists_1, trivial, launch0.admits_env _ _ _, launch0.least_env, fairChoices_fair.cas, fairChoices_fair.clock, w_frames, w_args, w_heap, w_applies, trivial, trivial, w_case⟩
end start1
theorem witness_1 : WitnessClaimed_1 := ⟨start1.p0, start1.e0, start1.about1, start1.theMethod, start1.args0, start1.below0, start1.atStart⟩
end Jvm.Pilot.@@N@@
