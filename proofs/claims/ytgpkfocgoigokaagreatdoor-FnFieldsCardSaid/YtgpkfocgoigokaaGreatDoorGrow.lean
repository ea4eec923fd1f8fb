/- A region that draws its order, whose operations read, or make memory: what each one leaves, stated slot by slot, holds whatever order is drawn. No statement of the program stands here. -/
import Derived.Test.YtgpkfocgoigokaaGreatDoorBase
import Derived.Orders
import Derived.StillTail
set_option linter.unusedVariables false
set_option linter.unusedSimpArgs false
namespace Go.Proofs.YtgpkfocgoigokaaGreatDoor
open Go.RowKit

section
variable {P : Program} {ops : Array Oper} {md : Region.Mode} {Q : Exit → Act → World → Prop}
def oval (o : Oper) (a : Act) : Value := match o.dst with | some t => a.eval (.tmp t) | none => undef
def tmpOf : Operand → Option Nat
  | .tmp t => some t
  | _ => none
/-- each operand that another operation of the region leaves is waited for -/
def depsB (md : Region.Mode) (ops : Array Oper) : Bool :=
  ops.all fun o => (o.op.operands.toList.filterMap tmpOf).all fun t =>
    (List.range ops.size).all fun j => ((ops[j]?).bind (·.dst)) != some t || o.after.any fun e => e.on == j && Region.binds md e
def apartB (ops : Array Oper) (n : Nat) : Bool :=
  ((List.range ops.size).all fun i => (List.range ops.size).all fun j => i == j ||
    match ops[i]?, ops[j]? with
    | some x, some y => x.dst == none || x.dst != y.dst
    | _, _ => true) &&
  ops.all (fun o => match o.dst with | some t => decide (t < n) | none => true) && ops.all (fun o => o.guard == none) &&
  ops.all fun o => (o.op.operands.toList.filterMap tmpOf).all fun t => decide (t < n)

/-- what an operation leaves -/
def SAt (S : Nat → Value → World → Prop) (Z : Nat → World → Prop) (i : Nat) (d : Option Tmp) (v : Value) (w : World) : Prop := match d with | some t => S t v w | none => Z i w
structure GrowInv (ops : Array Oper) (S : Nat → Value → World → Prop) (Z : Nat → World → Prop) (G : World → Prop) (n : Nat) (a0 : Act) (listed : Array Bool) (a : Act) (w : World) : Prop where
  g : G w
  d : a.defers = []
  sz : a.tmps.size = n
  old : ∀ t, t < n → (∀ (i : Nat) (o : Oper), ops[i]? = some o → o.dst ≠ some t) → S t (a.eval (.tmp t)) w
  un : ∀ t, (∀ (i : Nat) (o : Oper), ops[i]? = some o → listed.getD i false = true → o.dst ≠ some t) → a.eval (.tmp t) = a0.eval (.tmp t)
  new : ∀ (i : Nat) (o : Oper), ops[i]? = some o → listed.getD i false = true → SAt S Z i o.dst (oval o a) w

theorem depsB_spec (h : depsB md ops = true) {i : Nat} {o : Oper} (ho : ops[i]? = some o) {t : Nat} (ht : Operand.tmp t ∈ o.op.operands) {j : Nat} {oj : Oper} (hj : ops[j]? = some oj) (hd : oj.dst = some t) :
    ∃ e ∈ o.after, e.on = j ∧ Region.binds md e = true := by
  unfold depsB at h
  have h1 := (Array.all_eq_true_iff_forall_mem.1 h) o (by obtain ⟨hlt, e⟩ := Array.getElem?_eq_some_iff.1 ho; rw [← e]; exact Array.getElem_mem hlt)
  have h2 := List.all_eq_true.1 h1 t (List.mem_filterMap.2 ⟨.tmp t, by simpa using ht, rfl⟩)
  have h3 := List.all_eq_true.1 h2 j (List.mem_range.2 (Array.getElem?_eq_some_iff.1 hj).1)
  simp only [hj, Option.bind_some, hd, bne_self_eq_false, Bool.false_or, Array.any_eq_true'] at h3
  obtain ⟨e, he, h4⟩ := h3
  simp only [Bool.and_eq_true, beq_iff_eq] at h4
  exact ⟨e, he, h4.1, h4.2⟩
theorem apartB_ne {n : Nat} (h : apartB ops n = true) {i j : Nat} {x y : Oper} (hx : ops[i]? = some x) (hy : ops[j]? = some y) (hne : i ≠ j) : x.dst = none ∨ x.dst ≠ y.dst := by
  unfold apartB at h
  simp only [Bool.and_eq_true] at h
  have h1 := List.all_eq_true.1 h.1.1.1 i (List.mem_range.2 (Array.getElem?_eq_some_iff.1 hx).1)
  have h2 := List.all_eq_true.1 h1 j (List.mem_range.2 (Array.getElem?_eq_some_iff.1 hy).1)
  simp only [hx, hy, Bool.or_eq_true, beq_iff_eq, bne_iff_ne] at h2
  rcases h2 with h2 | h2
  · exact (hne h2).elim
  · exact h2
theorem apartB_lt {n : Nat} (h : apartB ops n = true) {i : Nat} {x : Oper} (hx : ops[i]? = some x) {t : Nat} (ht : x.dst = some t) : t < n := by
  unfold apartB at h
  simp only [Bool.and_eq_true] at h
  have h1 := (Array.all_eq_true_iff_forall_mem.1 h.1.1.2) x (by obtain ⟨hlt, e⟩ := Array.getElem?_eq_some_iff.1 hx; rw [← e]; exact Array.getElem_mem hlt)
  simp only [ht, decide_eq_true_eq] at h1
  exact h1
theorem apartB_guard {n : Nat} (h : apartB ops n = true) {i : Nat} {x : Oper} (hx : ops[i]? = some x) : x.guard = none := by
  unfold apartB at h
  simp only [Bool.and_eq_true] at h
  have h1 := (Array.all_eq_true_iff_forall_mem.1 h.1.2) x (by obtain ⟨hlt, e⟩ := Array.getElem?_eq_some_iff.1 hx; rw [← e]; exact Array.getElem_mem hlt)
  cases hg : x.guard with
  | none => rfl
  | some g => rw [hg] at h1; simp at h1
theorem apartB_op {n : Nat} (h : apartB ops n = true) {i : Nat} {x : Oper} (hx : ops[i]? = some x) {t : Nat} (ht : Operand.tmp t ∈ x.op.operands) : t < n := by
  unfold apartB at h
  simp only [Bool.and_eq_true] at h
  have h1 := (Array.all_eq_true_iff_forall_mem.1 h.2) x (by obtain ⟨hlt, e⟩ := Array.getElem?_eq_some_iff.1 hx; rw [← e]; exact Array.getElem_mem hlt)
  have h2 := List.all_eq_true.1 h1 t (List.mem_filterMap.2 ⟨.tmp t, by simpa using ht, rfl⟩)
  exact of_decide_eq_true h2
/-- what an operation must leave -/
def GrowStep (P : Program) (S : Nat → Value → World → Prop) (Z : Nat → World → Prop) (G : World → Prop) (Q : Exit → Act → World → Prop) (i : Nat) (o : Oper) : Prop :=
  ∀ a w, G w → (∀ t, Operand.tmp t ∈ o.op.operands → S t (a.eval (.tmp t)) w) →
    o.wp P a w (fun a' w' => ∃ v, a' = a.put o.dst v ∧ G w' ∧ (∀ t u, o.dst ≠ some t → S t u w → S t u w') ∧ (∀ j, j ≠ i → Z j w → Z j w') ∧ SAt S Z i o.dst v w') Q
theorem eval_put_same {a : Act} {t : Nat} (v : Value) (h : t < a.tmps.size) : (a.put (some t) v).eval (.tmp t) = v := by simp [Act.put, Act.eval, h]
theorem eval_put_ne {a : Act} {d : Option Nat} {t : Nat} (v : Value) (h : d ≠ some t) : (a.put d v).eval (.tmp t) = a.eval (.tmp t) :=
  Act.eval_put (fun d' hd e => h (by rw [hd]; injection e with e; rw [e]))
theorem put_size (a : Act) (d : Option Nat) (v : Value) : (a.put d v).tmps.size = a.tmps.size := by cases d <;> simp [Act.put]
theorem put_defers' (a : Act) (d : Option Nat) (v : Value) : (a.put d v).defers = a.defers := by cases d <;> rfl
theorem oval_put {a : Act} {d : Option Nat} {o : Oper} (v : Value) (h : o.dst = none ∨ d ≠ o.dst) : oval o (a.put d v) = oval o a := by
  unfold oval
  cases ho : o.dst with
  | none => rfl
  | some t =>
    rw [ho] at h
    rcases h with h | h
    · cases h
    · exact eval_put_ne v h
theorem grow_step {S : Nat → Value → World → Prop} {Z : Nat → World → Prop} {G : World → Prop} {n i : Nat} (hd : depsB md ops = true) (ha : apartB ops n = true) {o : Oper} (ho : ops[i]? = some o) (hs : GrowStep P S Z G Q i o)
    {listed : Array Bool} {a0 a : Act} {w : World} (h : GrowInv ops S Z G n a0 listed a w) (hr : i ∈ Region.ready md ops listed) : wpOp P ops Q i (GrowInv ops S Z G n a0 (listed.setIfInBounds i true)) a w := by
  obtain ⟨hun, o', ho', hall⟩ := mem_ready.1 hr
  obtain rfl : o' = o := Option.some.inj (ho'.symm.trans ho)
  have hw : Region.wanted o' (yielded ops a.tmps) = true := by unfold Region.wanted; rw [apartB_guard ha ho]
  unfold wpOp
  simp only [ho, hw, if_true]
  left
  refine Oper.wp_mono ?_ (hs a w h.g fun t ht => ?_)
  · rintro a' w' ⟨v, rfl, hg, hS, hZ, hv⟩
    refine ⟨hg, (put_defers' _ _ _).trans h.d, (put_size _ _ _).trans h.sz, fun t ht hno => ?_, fun t hno => ?_, fun j oj hj hl => ?_⟩
    · have hne : o'.dst ≠ some t := hno i o' ho
      rw [eval_put_ne v hne]
      exact hS t _ hne (h.old t ht hno)
    · have hilt : i < listed.size := by
        rcases Nat.lt_or_ge i listed.size with h' | h'
        · exact h'
        · rw [Array.getD_eq_getD_getElem?, Array.getElem?_eq_none h'] at hun; simp at hun
      have hne : o'.dst ≠ some t := hno i o' ho (by rw [Array.getD_eq_getD_getElem?, Array.getElem?_setIfInBounds_self_of_lt hilt]; rfl)
      rw [eval_put_ne v hne]
      refine h.un t fun j oj hj hl => hno j oj hj ?_
      by_cases hij : i = j
      · subst hij; rw [Array.getD_eq_getD_getElem?, Array.getElem?_setIfInBounds_self_of_lt hilt]; rfl
      · rw [getD_set_ne false hij]; exact hl
    · by_cases hij : i = j
      · subst hij
        obtain rfl : oj = o' := Option.some.inj (hj.symm.trans ho)
        unfold oval
        cases hdd : oj.dst with
        | none => rw [hdd] at hv; exact hv
        | some t =>
          dsimp only
          rw [eval_put_same v (by rw [h.sz]; exact apartB_lt ha ho hdd)]
          rw [hdd] at hv
          exact hv
      · have hl' : listed.getD j false = true := by rw [getD_set_ne false hij] at hl; exact hl
        have hne := apartB_ne ha ho hj hij
        have hold := h.new j oj hj hl'
        cases hdj : oj.dst with
        | none =>
          rw [hdj] at hold
          exact hZ j (fun e => hij e.symm) hold
        | some t =>
          rw [hdj] at hold hne
          unfold oval at hold ⊢
          rw [hdj] at hold ⊢
          have hnt : o'.dst ≠ some t := by rcases hne with h | h; · rw [h]; simp
                                           · exact h
          dsimp only
          rw [eval_put_ne v hnt]
          exact hS t _ hnt hold
  · by_cases hw2 : ∃ (j : Nat) (oj : Oper), ops[j]? = some oj ∧ oj.dst = some t
    · obtain ⟨j, oj, hj, hdj⟩ := hw2
      obtain ⟨e, he, heon, hb⟩ := depsB_spec hd ho ht hj hdj
      have hlj := hall e he hb
      rw [heon] at hlj
      have hnew := h.new j oj hj hlj
      unfold oval at hnew
      rw [hdj] at hnew
      exact hnew
    · exact h.old t (apartB_op ha ho ht) fun j oj hj hdj => hw2 ⟨j, oj, hj, hdj⟩
/-- what is waited for stands ahead -/
def aheadB (md : Region.Mode) (ops : Array Oper) : Bool :=
  (List.range ops.size).all fun i => match ops[i]? with
    | some o => o.after.all fun e => !Region.binds md e || decide (e.on < i)
    | none => true
theorem all_listed (h : aheadB md ops = true) {listed : Array Bool} (hz : listed.size = ops.size) (hr : Region.ready md ops listed = []) : ∀ i, i < ops.size → listed.getD i false = true := by
  intro i
  induction i using Nat.strongRecOn with
  | _ i ih =>
    intro hi
    cases hl : listed.getD i false with
    | true => rfl
    | false =>
      exfalso
      have hin : i ∈ Region.ready md ops listed := by
        refine mem_ready.2 ⟨getD_in (by omega) hl, ops[i], Array.getElem?_eq_getElem hi, fun e he hb => ?_⟩
        have h1 := List.all_eq_true.1 h i (List.mem_range.2 hi)
        rw [Array.getElem?_eq_getElem hi] at h1
        have h2 := (Array.all_eq_true_iff_forall_mem.1 h1) e he
        simp only [hb, Bool.not_true, Bool.false_or, decide_eq_true_eq] at h2
        exact ih e.on h2 (by omega)
      rw [hr] at hin
      cases hin
theorem grow_any' {S : Nat → Value → World → Prop} {Z : Nat → World → Prop} {G : World → Prop} {n : Nat} {a0 : Act} (hd : depsB md ops = true) (ha : apartB ops n = true) (hs : ∀ (i : Nat) (o : Oper), ops[i]? = some o → GrowStep P S Z G Q i o)
    (hdone : ∀ listed a w, listed.size = ops.size → GrowInv ops S Z G n a0 listed a w → Region.ready md ops listed = [] → Q .normal a w) :
    ∀ (f : Nat) (listed : Array Bool) (a : Act) (w : World), listed.size = ops.size → listed.toList.count false ≤ f → GrowInv ops S Z G n a0 listed a w → wpAny P md ops Q f listed a w := by
  intro f
  induction f with
  | zero =>
    intro listed a w hz hc h
    have hr : Region.ready md ops listed = [] := by
      apply List.eq_nil_iff_forall_not_mem.2
      intro i hi
      obtain ⟨hun, o, ho, _⟩ := mem_ready.1 hi
      have hlt : i < listed.size := by rw [hz]; exact (Array.getElem?_eq_some_iff.1 ho).1
      have hm : false ∈ listed.toList := by
        rw [Array.getD_eq_getD_getElem?, Array.getElem?_eq_getElem hlt] at hun
        simp only [Option.getD_some] at hun
        rw [← hun]
        exact Array.getElem_mem_toList hlt
      have := List.count_pos_iff.2 hm
      omega
    exact ⟨hr, hdone _ _ _ hz h hr⟩
  | succ f ih =>
    intro listed a w hz hc h
    refine ⟨fun hr => hdone _ _ _ hz h hr, fun i hi => ?_⟩
    obtain ⟨hun, o, ho, _⟩ := mem_ready.1 hi
    have hlt : i < listed.size := by rw [hz]; exact (Array.getElem?_eq_some_iff.1 ho).1
    have hm : listed[i] = false := by
      rw [Array.getD_eq_getD_getElem?, Array.getElem?_eq_getElem hlt] at hun
      simpa using hun
    refine wpOp_mono (fun a' w' h' => ih _ a' w' (by simpa using hz) ?_ h') (grow_step hd ha ho (hs i o ho) h hi)
    rw [Array.setIfInBounds_def, dif_pos hlt, Array.toList_set, List.count_set (by simpa using hlt)]
    have hpos : 0 < listed.toList.count false := List.count_pos_iff.2 (by rw [← hm]; exact Array.getElem_mem_toList hlt)
    simp only [Array.getElem_toList, hm]
    simpa using hc
def GrowAll (P : Program) (S : Nat → Value → World → Prop) (Z : Nat → World → Prop) (G : World → Prop) (Q : Exit → Act → World → Prop) : Nat → List Oper → Prop
  | _, [] => True
  | k, o :: r => GrowStep P S Z G Q k o ∧ GrowAll P S Z G Q (k + 1) r
theorem GrowAll.at {S : Nat → Value → World → Prop} {Z : Nat → World → Prop} {G : World → Prop} : ∀ {l : List Oper} {k : Nat}, GrowAll P S Z G Q k l → ∀ (i : Nat) (o : Oper), l[i]? = some o → GrowStep P S Z G Q (k + i) o
  | [], _, _, i, o, h => by simp at h
  | x :: r, k, ⟨h1, h2⟩, 0, o, h => by simp at h; subst h; exact h1
  | x :: r, k, ⟨h1, h2⟩, i + 1, o, h => by
    have := GrowAll.at h2 i o (by simpa using h)
    rw [show k + (i + 1) = k + 1 + i from by omega]
    exact this
/-- THE RULE. S: what is known of each slot; G: what is known of the world. -/
theorem wp_region_grow {id : Nat} {l : List Oper} {a : Act} {w : World} (S : Nat → Value → World → Prop) (Z : Nat → World → Prop) (G : World → Prop) (n : Nat)
    (hm : P.follows .mixedOrders = true) (hB : (depsB .any l.toArray && apartB l.toArray n && aheadB .any l.toArray) = true)
    (hn : a.tmps.size = n) (hdef : a.defers = []) (hG : G w.drew) (keep : List Nat) (hkB : ((List.range n).all fun t => keep.contains t || l.any fun o => o.dst == some t) = true) (hold : ∀ t ∈ keep, S t (a.eval (.tmp t)) w.drew)
    (hs : GrowAll P S Z G Q 0 l)
    (hend : ∀ a' w', G w' → a'.defers = [] → a'.tmps.size = n → (∀ t, t < n → S t (a'.eval (.tmp t)) w') → (∀ (i : Nat) (o : Oper), l[i]? = some o → o.dst = none → Z i w') → Q .normal a' w') :
    (Code.region id l.toArray true).wp P Q a w := by
  simp only [Bool.and_eq_true] at hB
  obtain ⟨⟨hd, ha⟩, hah⟩ := hB
  refine wp_region_any hm ?_
  refine grow_any' hd ha (fun i o ho => by have := hs.at i o (by simpa using ho); simpa using this) ?_ l.toArray.size _ a _ (by simp) ?_ ?_ (S := S) (Z := Z) (G := G) (n := n) (a0 := a)
  · intro listed a' w' hz h hr
    have hall := all_listed hah hz hr
    refine hend a' w' h.g h.d h.sz (fun t ht => ?_) (fun i o ho hdn => ?_)
    · by_cases hw : ∃ (i : Nat) (o : Oper), l.toArray[i]? = some o ∧ o.dst = some t
      · obtain ⟨i, o, ho, hdt⟩ := hw
        have := h.new i o ho (hall i (Array.getElem?_eq_some_iff.1 ho).1)
        unfold oval at this
        rw [hdt] at this
        exact this
      · exact h.old t ht fun i o ho hdt => hw ⟨i, o, ho, hdt⟩
    · have ho' : l.toArray[i]? = some o := by simpa using ho
      have := h.new i o ho' (hall i (Array.getElem?_eq_some_iff.1 ho').1)
      unfold oval at this
      rw [hdn] at this
      exact this
  · simp
  · refine ⟨hG, hdef, hn, fun t ht hno => ?_, fun t _ => rfl, fun i o ho hl => ?_⟩
    · have h1 := List.all_eq_true.1 hkB t (List.mem_range.2 ht)
      simp only [Bool.or_eq_true, List.any_eq_true] at h1
      rcases h1 with h | ⟨o, ho, hdt⟩
      · exact hold t (by simpa using h)
      · obtain ⟨i, hi, e⟩ := List.getElem_of_mem ho
        exact absurd (by simpa using hdt) (hno i o (by simp [List.getElem?_eq_getElem hi, e]))
    · rw [getD_replicate_false] at hl; cases hl

/-! ### the steps -/
/-- .. that leaves the world as it is -/
theorem GrowStep.det {S : Nat → Value → World → Prop} {Z : Nat → World → Prop} {G : World → Prop} {i : Nat} {o : Oper}
    (h : ∀ (a : Act) (w : World), G w → (∀ t, Operand.tmp t ∈ o.op.operands → S t (a.eval (.tmp t)) w) → ∃ v, (execOp a.eval o).run P w = .ok (.value v) w ∧ SAt S Z i o.dst v w) : GrowStep P S Z G Q i o := by
  intro a w hg hop
  obtain ⟨v, hr, hv⟩ := h a w hg hop
  unfold Oper.wp
  rw [hr]
  exact ⟨v, rfl, hg, fun _ _ _ hs => hs, fun _ _ hz => hz, hv⟩
/-- .. that makes memory -/
theorem GrowStep.le {S : Nat → Value → World → Prop} {Z : Nat → World → Prop} {G : World → Prop} {i : Nat} {o : Oper} (hS : ∀ t u w w', Le w w' → S t u w → S t u w') (hZ : ∀ j w w', Le w w' → Z j w → Z j w') (hGl : ∀ w w', Le w w' → G w → G w')
    (h : ∀ (a : Act) (w : World), G w → (∀ t, Operand.tmp t ∈ o.op.operands → S t (a.eval (.tmp t)) w) → ∃ v w', (execOp a.eval o).run P w = .ok (.value v) w' ∧ Le w w' ∧ SAt S Z i o.dst v w') : GrowStep P S Z G Q i o := by
  intro a w hg hop
  obtain ⟨v, w', hr, hle, hv⟩ := h a w hg hop
  unfold Oper.wp
  rw [hr]
  exact ⟨v, rfl, hGl _ _ hle hg, fun _ _ _ hs => hS _ _ _ _ hle hs, fun _ _ hz => hZ _ _ _ hle hz, hv⟩
/-- .. that calls a function that makes memory -/
theorem GrowStep.call {S : Nat → Value → World → Prop} {Z : Nat → World → Prop} {G : World → Prop} {i : Nat} {o : Oper} (hS : ∀ t u w w', Le w w' → S t u w → S t u w') (hZ : ∀ j w w', Le w w' → Z j w → Z j w') (hGl : ∀ w w', Le w w' → G w → G w')
    (h : ∀ (a : Act) (w : World), G w → (∀ t, Operand.tmp t ∈ o.op.operands → S t (a.eval (.tmp t)) w) → ∃ f args, (execOp a.eval o).run P w = .ok (.enter f args) w ∧
      Calls P f args w fun e w' => ∃ v, e = .returned v ∧ Le w w' ∧ SAt S Z i o.dst v w') : GrowStep P S Z G Q i o := by
  intro a w hg hop
  obtain ⟨f, args, hr, hc⟩ := h a w hg hop
  unfold Oper.wp
  rw [hr, Oper.upon_enter]
  refine hc.mono ?_
  rintro e w' ⟨v, rfl, hle, hv⟩
  exact ⟨v, rfl, hGl _ _ hle hg, fun _ _ _ hs => hS _ _ _ _ hle hs, fun _ _ hz => hZ _ _ _ hle hz, hv⟩
/-- .. that stores -/
theorem GrowStep.store {S : Nat → Value → World → Prop} {Z : Nat → World → Prop} {G : World → Prop} {i : Nat} {o : Oper}
    (h : ∀ (a : Act) (w : World), G w → (∀ t, Operand.tmp t ∈ o.op.operands → S t (a.eval (.tmp t)) w) → ∃ w', (execOp a.eval o).run P w = .ok .skip w' ∧ G w' ∧ (∀ t u, S t u w → S t u w') ∧ (∀ j, j ≠ i → Z j w → Z j w') ∧ Z i w') (hd : o.dst = none) : GrowStep P S Z G Q i o := by
  intro a w hg hop
  obtain ⟨w', hr, hg', hs', hz', hv⟩ := h a w hg hop
  unfold Oper.wp
  rw [hr]
  exact ⟨undef, rfl, hg', fun t u _ => hs' t u, hz', by rw [hd]; exact hv⟩

/-! ### .. with a tail in one order -/
def headDone (n N : Nat) : Array Bool := (List.replicate N true ++ List.replicate (n - N) false).toArray
/-- a closed part of the region: what is listed waits for nothing that is not -/
structure HeadI (ops : Array Oper) (N : Nat) (listed : Array Bool) : Prop where
  size : listed.size = ops.size
  tail : ∀ t, N ≤ t → t < ops.size → listed.getD t true = false
theorem listed_done {N : Nat} {listed : Array Bool} (hN : N ≤ ops.size) (h : HeadI ops N listed) (ha : ∀ i, i < N → listed.getD i false = true) : listed = headDone ops.size N := by
  apply Array.ext
  · simp [headDone, h.size]; omega
  · intro i h1 h2
    simp only [headDone, List.getElem_toArray]
    by_cases hi : i < N
    · rw [List.getElem_append_left (by simpa using hi), List.getElem_replicate]
      have := ha i hi
      rw [Array.getD_eq_getD_getElem?, Array.getElem?_eq_getElem h1] at this
      simpa using this
    · rw [List.getElem_append_right (by simp; omega), List.getElem_replicate]
      have := h.tail i (by omega) (by rw [← h.size]; exact h1)
      rw [Array.getD_eq_getD_getElem?, Array.getElem?_eq_getElem h1] at this
      simpa using this
/-- every operation of the tail waits for each one ahead of the tail -/
def tailB (md : Region.Mode) (ops : Array Oper) (N : Nat) : Bool :=
  Region.sinkB md ops N && Region.chainB md ops N && decide (N < ops.size) && Region.seqB md ops (ops.size - N) N (headDone ops.size N)
theorem grow_tail_any {S : Nat → Value → World → Prop} {Z : Nat → World → Prop} {G : World → Prop} {n N : Nat} {a0 : Act} (hd : depsB md ops = true) (ha : apartB ops n = true) (hah : aheadB md ops = true) (ht : tailB md ops N = true)
    (hs : ∀ (i : Nat) (o : Oper), i < N → ops[i]? = some o → GrowStep P S Z G Q i o)
    (hdone : ∀ a w, GrowInv ops S Z G n a0 (headDone ops.size N) a w → wpList P ops Q (ops.toList.drop N) a w) :
    ∀ (f : Nat) (listed : Array Bool) (a : Act) (w : World), HeadInv md ops N listed → listed.toList.count false = f → GrowInv ops S Z G n a0 listed a w → wpAny P md ops Q f listed a w := by
  simp only [tailB, Bool.and_eq_true, decide_eq_true_eq] at ht
  obtain ⟨⟨⟨hsk, hch⟩, hN⟩, hsq⟩ := ht
  intro f
  induction f with
  | zero =>
    intro listed a w hi hc h
    exfalso
    have hlt : N < listed.size := by rw [hi.size]; exact hN
    have hm : listed[N] = false := by
      have := hi.tail N (Nat.le_refl _) hN
      rw [Array.getD_eq_getD_getElem?, Array.getElem?_eq_getElem hlt] at this
      simpa using this
    have : 0 < listed.toList.count false := List.count_pos_iff.2 (by rw [← hm]; exact Array.getElem_mem_toList hlt)
    omega
  | succ f ih =>
    intro listed a w hi hc h
    by_cases hall : ∀ i, i < N → listed.getD i false = true
    · have e := listed_done (Nat.le_of_lt hN) ⟨hi.size, hi.tail⟩ hall
      subst e
      have hl : (ops.toList.drop N).length = f + 1 := by
        rw [← hc]
        simp [headDone, List.count_replicate]
      have := wpAny_of_seq (P := P) (md := md) (ops := ops) (Q' := Q) (ops.toList.drop N) N (headDone ops.size N) a w (fun j => by simp [List.getElem?_drop]) (by rw [List.length_drop, Array.length_toList]; exact hsq) (hdone a w h)
      rw [hl] at this
      exact this
    · obtain ⟨j, hj⟩ : ∃ j, ¬(j < N → listed.getD j false = true) := by
        refine Classical.byContradiction fun hno => hall fun i hi' => ?_
        exact Classical.byContradiction fun hx => hno ⟨i, fun k => hx (k hi')⟩
      have hjN : j < N := Classical.byContradiction fun hx => hj (fun k => absurd k hx)
      have hjl : listed.getD j false = false := by
        cases hx : listed.getD j false with
        | false => rfl
        | true => exact absurd (fun _ => hx) hj
      refine ⟨fun hr => ?_, fun i hir => ?_⟩
      · have := all_listed hah hi.size hr j (by omega)
        rw [this] at hjl
        cases hjl
      · have hiN : i < N := by
          rcases Nat.lt_or_ge i N with h' | h'
          · exact h'
          · exact absurd hir (tail_waits hsk hch hN hi _ j rfl hjN (getD_in (by rw [hi.size]; omega) hjl) i h')
        obtain ⟨hun, o, ho, _⟩ := mem_ready.1 hir
        have hlt : i < listed.size := by rw [hi.size]; exact (Array.getElem?_eq_some_iff.1 ho).1
        have hm : listed[i] = false := by
          rw [Array.getD_eq_getD_getElem?, Array.getElem?_eq_getElem hlt] at hun
          simpa using hun
        refine wpOp_mono (fun a' w' h' => ih _ a' w' (hi.set hir hiN) ?_ h') (grow_step hd ha ho (hs i o hiN ho) h hir)
        rw [Array.setIfInBounds_def, dif_pos hlt, Array.toList_set, List.count_set (by simpa using hlt)]
        have hpos : 0 < listed.toList.count false := List.count_pos_iff.2 (by rw [← hm]; exact Array.getElem_mem_toList hlt)
        have hb : (listed.toList[i]'(by simpa using hlt) == false) = true := by simp [hm]
        rw [if_pos hb, if_neg (by decide)]
        omega
/-- the state with the slots of ds as v has them -/
def putsL (a : Act) (v : Nat → Value) : List Nat → Act
  | [] => a
  | d :: ds => putsL (a.put (some d) (v d)) v ds
theorem putsL_tmps_size (v : Nat → Value) : ∀ (ds : List Nat) (a : Act), (putsL a v ds).tmps.size = a.tmps.size
  | [], a => rfl
  | d :: ds, a => (putsL_tmps_size v ds _).trans (put_size _ _ _)
theorem putsL_defers (v : Nat → Value) : ∀ (ds : List Nat) (a : Act), (putsL a v ds).defers = a.defers
  | [], a => rfl
  | d :: ds, a => putsL_defers v ds _
theorem putsL_eval (v : Nat → Value) (t : Nat) : ∀ (ds : List Nat) (a : Act), t < a.tmps.size → (putsL a v ds).eval (.tmp t) = if t ∈ ds then v t else a.eval (.tmp t)
  | [], a, h => by simp [putsL]
  | d :: ds, a, h => by
    unfold putsL
    rw [putsL_eval v t ds _ (by rw [put_size]; exact h)]
    by_cases ht : t ∈ ds
    · rw [if_pos ht, if_pos (List.mem_cons_of_mem _ ht)]
    · rw [if_neg ht]
      by_cases hd : d = t
      · subst hd
        rw [if_pos List.mem_cons_self, eval_put_same _ h]
      · rw [eval_put_ne _ (by simpa using hd), if_neg (by simp [ht, Ne.symm hd])]
theorem act_ext {a b : Act} (hd : a.defers = b.defers) (hz : a.tmps.size = b.tmps.size) (h : ∀ t, t < a.tmps.size → a.eval (.tmp t) = b.eval (.tmp t)) : a = b := by
  cases a with | mk ta da =>
  cases b with | mk tb db =>
  simp only at hd hz
  subst hd
  congr 1
  apply Array.ext hz
  intro i h1 h2
  have := h i h1
  simpa [Act.eval, Array.getD_eq_getD_getElem?, Array.getElem?_eq_getElem h1, Array.getElem?_eq_getElem h2] using this
/-- THE RULE, WITH A TAIL. ds: the slots that the head writes. -/
theorem wp_region_grow_tail {id : Nat} {l : List Oper} {a : Act} {w : World} (S : Nat → Value → World → Prop) (G : World → Prop) (n N : Nat) (ds : List Nat)
    (hm : P.follows .mixedOrders = true) (hB : (depsB .any l.toArray && apartB l.toArray n && aheadB .any l.toArray && tailB .any l.toArray N && decide ((l.take N).map (·.dst) = ds.map some)) = true)
    (hn : a.tmps.size = n) (hdef : a.defers = []) (hG : G w.drew) (hold : ∀ t, t ∉ ds → S t (a.eval (.tmp t)) w.drew)
    (hs : GrowAll P S (fun _ _ => True) G Q 0 (l.take N))
    (hend : ∀ v w', G w' → (∀ t, t ∈ ds → S t (v t) w') → wpList P l.toArray Q (l.drop N) (putsL a v ds) w') :
    (Code.region id l.toArray true).wp P Q a w := by
  simp only [Bool.and_eq_true, decide_eq_true_eq] at hB
  obtain ⟨⟨⟨⟨hd, ha⟩, hah⟩, htb⟩, hds⟩ := hB
  have htb' := htb
  simp only [tailB, Bool.and_eq_true, decide_eq_true_eq] at htb'
  obtain ⟨⟨⟨hsk, hch⟩, hN⟩, hsq⟩ := htb'
  have hNl : N < l.length := by simpa using hN
  refine wp_region_any hm ?_
  refine grow_tail_any (S := S) (Z := fun _ _ => True) (G := G) (n := n) (N := N) (a0 := a) hd ha hah htb (fun i o hi ho => ?_) ?_ l.toArray.size _ a _ ?_ (by simp) ?_
  · have := hs.at i o (by rw [List.getElem?_take_of_lt hi]; simpa using ho)
    simpa using this
  · intro a' w' h
    have e : a' = putsL a (fun t => a'.eval (.tmp t)) ds := by
      refine act_ext (by rw [h.d, putsL_defers, hdef]) (by rw [h.sz, putsL_tmps_size, hn]) fun t ht => ?_
      rw [putsL_eval _ t ds a (by rw [hn, ← h.sz]; exact ht)]
      by_cases hm : t ∈ ds
      · rw [if_pos hm]
      · rw [if_neg hm]
        refine h.un t fun i o ho hl hdt => hm ?_
        have hiN : i < N := by
          refine Classical.byContradiction fun hx => ?_
          rw [Array.getD_eq_getD_getElem?] at hl
          by_cases hlt : i < (headDone l.toArray.size N).size
          · rw [Array.getElem?_eq_getElem hlt] at hl
            simp only [headDone, List.getElem_toArray, Option.getD_some] at hl
            rw [List.getElem_append_right (by simp; omega), List.getElem_replicate] at hl
            cases hl
          · rw [Array.getElem?_eq_none (by omega)] at hl
            cases hl
        have hmem : o.dst ∈ (l.take N).map (·.dst) := List.mem_map.2 ⟨o, by
          rw [List.mem_take_iff_getElem]
          obtain ⟨hlt, e⟩ := List.getElem?_eq_some_iff.1 (show l[i]? = some o by simpa using ho)
          exact ⟨i, by omega, e⟩, rfl⟩
        rw [hds, hdt] at hmem
        obtain ⟨t', ht', e⟩ := List.mem_map.1 hmem
        injection e with e
        exact e ▸ ht'
    rw [e]
    refine hend _ w' h.g fun t ht => ?_
    have hmem : some t ∈ (l.take N).map (·.dst) := by rw [hds]; exact List.mem_map.2 ⟨t, ht, rfl⟩
    obtain ⟨o, ho, hdt⟩ := List.mem_map.1 hmem
    obtain ⟨i, hi, e2⟩ := List.getElem_of_mem ho
    have hiN : i < N := by simp at hi; omega
    have hli : l.toArray[i]? = some o := by
      have : (l.take N)[i]? = some o := by rw [List.getElem?_eq_getElem hi, e2]
      rw [List.getElem?_take_of_lt hiN] at this
      simpa using this
    have hnew := h.new i o hli (by
      have hil : i < (headDone l.toArray.size N).size := by simp [headDone]; omega
      rw [Array.getD_eq_getD_getElem?, Array.getElem?_eq_getElem hil]
      simp only [headDone, List.getElem_toArray, Option.getD_some]
      rw [List.getElem_append_left (by simpa using hiN), List.getElem_replicate])
    unfold oval at hnew
    rw [hdt] at hnew
    exact hnew
  · exact ⟨by simp, fun j oj _ hl => (by rw [getD_replicate_false] at hl; cases hl), fun t _ ht => getD_in (by simpa using ht) (getD_replicate_false _ _)⟩
  · refine ⟨hG, hdef, hn, fun t ht hno => ?_, fun t _ => rfl, fun i o ho hl => ?_⟩
    · refine hold t fun hm => ?_
      have hmem : some t ∈ (l.take N).map (·.dst) := by rw [hds]; exact List.mem_map.2 ⟨t, hm, rfl⟩
      obtain ⟨o, ho, hdt⟩ := List.mem_map.1 hmem
      obtain ⟨i, hi, e2⟩ := List.getElem_of_mem (List.mem_of_mem_take ho)
      exact hno i o (by simp [List.getElem?_eq_getElem hi, e2]) hdt
    · rw [getD_replicate_false] at hl; cases hl
end
end Go.Proofs.YtgpkfocgoigokaaGreatDoor
