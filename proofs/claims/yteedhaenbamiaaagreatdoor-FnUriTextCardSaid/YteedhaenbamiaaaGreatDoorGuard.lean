/- The rule of XGrow for regions with guards, where each guard's value is known (printed by gen_grow2.py). No statement of the program stands here. -/
import Derived.Test.YteedhaenbamiaaaGreatDoorHead
set_option linter.unusedVariables false
set_option linter.unusedSimpArgs false
namespace Go.Proofs.YteedhaenbamiaaaGreatDoor.G2
open Go.RowKit

section
variable {P : Program} {ops : Array Oper} {md : Region.Mode} {Q : Exit → Act → World → Prop}
def apartB (ops : Array Oper) (n : Nat) : Bool :=
  ((List.range ops.size).all fun i => (List.range ops.size).all fun j => i == j ||
    match ops[i]?, ops[j]? with
    | some x, some y => x.dst == none || x.dst != y.dst
    | _, _ => true) &&
  ops.all (fun o => match o.dst with | some t => decide (t < n) | none => true) &&
  ops.all fun o => (o.op.operands.toList.filterMap tmpOf).all fun t => decide (t < n)

theorem apartB_ne {n : Nat} (h : apartB ops n = true) {i j : Nat} {x y : Oper} (hx : ops[i]? = some x) (hy : ops[j]? = some y) (hne : i ≠ j) : x.dst = none ∨ x.dst ≠ y.dst := by
  unfold apartB at h
  simp only [Bool.and_eq_true] at h
  have h1 := List.all_eq_true.1 h.1.1 i (List.mem_range.2 (Array.getElem?_eq_some_iff.1 hx).1)
  have h2 := List.all_eq_true.1 h1 j (List.mem_range.2 (Array.getElem?_eq_some_iff.1 hy).1)
  simp only [hx, hy, Bool.or_eq_true, beq_iff_eq, bne_iff_ne] at h2
  rcases h2 with h2 | h2
  · exact (hne h2).elim
  · exact h2
theorem apartB_lt {n : Nat} (h : apartB ops n = true) {i : Nat} {x : Oper} (hx : ops[i]? = some x) {t : Nat} (ht : x.dst = some t) : t < n := by
  unfold apartB at h
  simp only [Bool.and_eq_true] at h
  have h1 := (Array.all_eq_true_iff_forall_mem.1 h.1.2) x (by obtain ⟨hlt, e⟩ := Array.getElem?_eq_some_iff.1 hx; rw [← e]; exact Array.getElem_mem hlt)
  simp only [ht, decide_eq_true_eq] at h1
  exact h1
theorem apartB_op {n : Nat} (h : apartB ops n = true) {i : Nat} {x : Oper} (hx : ops[i]? = some x) {t : Nat} (ht : Operand.tmp t ∈ x.op.operands) : t < n := by
  unfold apartB at h
  simp only [Bool.and_eq_true] at h
  have h1 := (Array.all_eq_true_iff_forall_mem.1 h.2) x (by obtain ⟨hlt, e⟩ := Array.getElem?_eq_some_iff.1 hx; rw [← e]; exact Array.getElem_mem hlt)
  have h2 := List.all_eq_true.1 h1 t (List.mem_filterMap.2 ⟨.tmp t, by simpa using ht, rfl⟩)
  exact of_decide_eq_true h2
/-- the guard's value is known: the operation is wanted, or not -/
def GuardIs (md : Region.Mode) (ops : Array Oper) (S : Nat → Value → World → Prop) (G : World → Prop) (o : Oper) (c : Bool) : Prop :=
  ∃ j b oj tj, o.guard = some (j, b) ∧ ops[j]? = some oj ∧ oj.dst = some tj ∧ (o.after.any fun e => e.on == j && Region.binds md e) = true ∧
    ∀ v w, G w → S tj v w → (match v with | .bool x => x == b | _ => false) = c
def GrowStepG (P : Program) (md : Region.Mode) (ops : Array Oper) (S : Nat → Value → World → Prop) (Z : Nat → World → Prop) (G : World → Prop) (Q : Exit → Act → World → Prop) (i : Nat) (o : Oper) : Prop :=
  (GrowStep P S Z G Q i o ∧ (o.guard = none ∨ GuardIs md ops S G o true)) ∨ (GuardIs md ops S G o false ∧ ∀ w, G w → SAt S Z i o.dst undef w)
theorem GrowStepG.free {S : Nat → Value → World → Prop} {Z : Nat → World → Prop} {G : World → Prop} {i : Nat} {o : Oper} (h : GrowStep P S Z G Q i o) (hg : o.guard = none) : GrowStepG P md ops S Z G Q i o := .inl ⟨h, .inl hg⟩
theorem wanted_of {S : Nat → Value → World → Prop} {Z : Nat → World → Prop} {G : World → Prop} {n : Nat} (ha : apartB ops n = true) {o : Oper} {c : Bool} (hg : GuardIs md ops S G o c) {listed : Array Bool} {a0 a : Act} {w : World} (h : GrowInv ops S Z G n a0 listed a w)
    (hall : ∀ e ∈ o.after, Region.binds md e = true → listed.getD e.on false = true) : Region.wanted o (yielded ops a.tmps) = c := by
  obtain ⟨j, b, oj, tj, h1, h2, h3, h4, h5⟩ := hg
  simp only [Array.any_eq_true', Bool.and_eq_true, beq_iff_eq] at h4
  obtain ⟨e, he, e1, e2⟩ := h4
  have hl := hall e he e2
  rw [e1] at hl
  have hn := h.new j oj h2 hl
  unfold oval at hn
  rw [h3] at hn
  have hn : S tj (a.eval (.tmp tj)) w := hn
  have hc := h5 _ _ h.g hn
  have hlt : tj < a.tmps.size := by rw [h.sz]; exact apartB_lt ha h2 h3
  have hev : a.eval (.tmp tj) = a.tmps[tj] := by simp [Act.eval, Array.getElem?_eq_getElem hlt]
  rw [hev] at hc
  unfold Region.wanted yielded
  simp only [h1, h2, h3, Option.bind_some, Array.getElem?_eq_getElem hlt]
  generalize a.tmps[tj] = v at hc
  cases v <;> simp_all
theorem grow_step {S : Nat → Value → World → Prop} {Z : Nat → World → Prop} {G : World → Prop} {n i : Nat} (hd : depsB md ops = true) (ha : apartB ops n = true) {o : Oper} (ho : ops[i]? = some o) (hs : GrowStepG P md ops S Z G Q i o)
    {listed : Array Bool} {a0 a : Act} {w : World} (h : GrowInv ops S Z G n a0 listed a w) (hr : i ∈ Region.ready md ops listed) : wpOp P ops Q i (GrowInv ops S Z G n a0 (listed.setIfInBounds i true)) a w := by
  obtain ⟨hun, o', ho', hall⟩ := mem_ready.1 hr
  obtain rfl : o' = o := Option.some.inj (ho'.symm.trans ho)
  have key : ∀ a' w', (∃ v, a' = a.put o'.dst v ∧ G w' ∧ (∀ t u, o'.dst ≠ some t → S t u w → S t u w') ∧ (∀ j, j ≠ i → Z j w → Z j w') ∧ SAt S Z i o'.dst v w') → GrowInv ops S Z G n a0 (listed.setIfInBounds i true) a' w' := by
    rintro a' w' ⟨v, rfl, hg, hS, hZ, hv⟩
    refine ⟨hg, (put_defers' _ _ _).trans h.d, (put_size _ _ _).trans h.sz, fun t ht hno => ?_, fun t hno => ?_, fun j oj hj hl => ?_⟩
    · have hne : o'.dst ≠ some t := hno i o' ho
      rw [eval_put_ne v hne]
      exact hS t _ hne (h.old t ht hno)
    · have hilt : i < listed.size := by
        rcases Nat.lt_or_ge i listed.size with h' | h'
        · exact h'
        · rw [Array.getD_eq_getD_getElem?, Array.getElem?_eq_none h'] at hun; simp at hun
      have hne : o'.dst ≠ some t := hno i o' ho (by rw [Array.getD_eq_getD_getElem?, Array.getElem?_setIfInBounds_self_of_lt hilt]; rfl)
      rw [eval_put_ne v hne]
      refine h.un t fun j oj hj hl => hno j oj hj ?_
      by_cases hij : i = j
      · subst hij; rw [Array.getD_eq_getD_getElem?, Array.getElem?_setIfInBounds_self_of_lt hilt]; rfl
      · rw [getD_set_ne false hij]; exact hl
    · by_cases hij : i = j
      · subst hij
        obtain rfl : oj = o' := Option.some.inj (hj.symm.trans ho)
        unfold oval
        cases hdd : oj.dst with
        | none => rw [hdd] at hv; exact hv
        | some t =>
          dsimp only
          rw [eval_put_same v (by rw [h.sz]; exact apartB_lt ha ho hdd)]
          rw [hdd] at hv
          exact hv
      · have hl' : listed.getD j false = true := by rw [getD_set_ne false hij] at hl; exact hl
        have hne := apartB_ne ha ho hj hij
        have hold := h.new j oj hj hl'
        cases hdj : oj.dst with
        | none =>
          rw [hdj] at hold
          exact hZ j (fun e => hij e.symm) hold
        | some t =>
          rw [hdj] at hold hne
          unfold oval at hold ⊢
          rw [hdj] at hold ⊢
          have hnt : o'.dst ≠ some t := by rcases hne with h | h; · rw [h]; simp
                                           · exact h
          dsimp only
          rw [eval_put_ne v hnt]
          exact hS t _ hnt hold
  rcases hs with ⟨hs, hgd⟩ | ⟨hgd, hu⟩
  · have hw : Region.wanted o' (yielded ops a.tmps) = true := by
      rcases hgd with hgd | hgd
      · unfold Region.wanted; rw [hgd]
      · exact wanted_of ha hgd h hall
    unfold wpOp
    simp only [ho, hw, if_true]
    left
    refine Oper.wp_mono key (hs a w h.g fun t ht => ?_)
    by_cases hw2 : ∃ (j : Nat) (oj : Oper), ops[j]? = some oj ∧ oj.dst = some t
    · obtain ⟨j, oj, hj, hdj⟩ := hw2
      obtain ⟨e, he, heon, hb⟩ := depsB_spec hd ho ht hj hdj
      have hlj := hall e he hb
      rw [heon] at hlj
      have hnew := h.new j oj hj hlj
      unfold oval at hnew
      rw [hdj] at hnew
      exact hnew
    · exact h.old t (apartB_op ha ho ht) fun j oj hj hdj => hw2 ⟨j, oj, hj, hdj⟩
  · have hw : Region.wanted o' (yielded ops a.tmps) = false := wanted_of ha hgd h hall
    unfold wpOp
    simp only [ho, hw]
    exact key _ _ ⟨undef, rfl, h.g, fun _ _ _ hs => hs, fun _ _ hz => hz, hu w h.g⟩
theorem grow_any' {S : Nat → Value → World → Prop} {Z : Nat → World → Prop} {G : World → Prop} {n : Nat} {a0 : Act} (hd : depsB md ops = true) (ha : apartB ops n = true) (hs : ∀ (i : Nat) (o : Oper), ops[i]? = some o → GrowStepG P md ops S Z G Q i o)
    (hdone : ∀ listed a w, listed.size = ops.size → GrowInv ops S Z G n a0 listed a w → Region.ready md ops listed = [] → Q .normal a w) :
    ∀ (f : Nat) (listed : Array Bool) (a : Act) (w : World), listed.size = ops.size → listed.toList.count false ≤ f → GrowInv ops S Z G n a0 listed a w → wpAny P md ops Q f listed a w := by
  intro f
  induction f with
  | zero =>
    intro listed a w hz hc h
    have hr : Region.ready md ops listed = [] := by
      apply List.eq_nil_iff_forall_not_mem.2
      intro i hi
      obtain ⟨hun, o, ho, _⟩ := mem_ready.1 hi
      have hlt : i < listed.size := by rw [hz]; exact (Array.getElem?_eq_some_iff.1 ho).1
      have hm : false ∈ listed.toList := by
        rw [Array.getD_eq_getD_getElem?, Array.getElem?_eq_getElem hlt] at hun
        simp only [Option.getD_some] at hun
        rw [← hun]
        exact Array.getElem_mem_toList hlt
      have := List.count_pos_iff.2 hm
      omega
    exact ⟨hr, hdone _ _ _ hz h hr⟩
  | succ f ih =>
    intro listed a w hz hc h
    refine ⟨fun hr => hdone _ _ _ hz h hr, fun i hi => ?_⟩
    obtain ⟨hun, o, ho, _⟩ := mem_ready.1 hi
    have hlt : i < listed.size := by rw [hz]; exact (Array.getElem?_eq_some_iff.1 ho).1
    have hm : listed[i] = false := by
      rw [Array.getD_eq_getD_getElem?, Array.getElem?_eq_getElem hlt] at hun
      simpa using hun
    refine wpOp_mono (fun a' w' h' => ih _ a' w' (by simpa using hz) ?_ h') (grow_step hd ha ho (hs i o ho) h hi)
    rw [Array.setIfInBounds_def, dif_pos hlt, Array.toList_set, List.count_set (by simpa using hlt)]
    have hpos : 0 < listed.toList.count false := List.count_pos_iff.2 (by rw [← hm]; exact Array.getElem_mem_toList hlt)
    simp only [Array.getElem_toList, hm]
    simpa using hc
def GrowAllG (P : Program) (md : Region.Mode) (ops : Array Oper) (S : Nat → Value → World → Prop) (Z : Nat → World → Prop) (G : World → Prop) (Q : Exit → Act → World → Prop) : Nat → List Oper → Prop
  | _, [] => True
  | k, o :: r => GrowStepG P md ops S Z G Q k o ∧ GrowAllG P md ops S Z G Q (k + 1) r
theorem GrowAllG.at {S : Nat → Value → World → Prop} {Z : Nat → World → Prop} {G : World → Prop} : ∀ {l : List Oper} {k : Nat}, GrowAllG P md ops S Z G Q k l → ∀ (i : Nat) (o : Oper), l[i]? = some o → GrowStepG P md ops S Z G Q (k + i) o
  | [], _, _, i, o, h => by simp at h
  | x :: r, k, ⟨h1, h2⟩, 0, o, h => by simp at h; subst h; exact h1
  | x :: r, k, ⟨h1, h2⟩, i + 1, o, h => by
    have := GrowAllG.at h2 i o (by simpa using h)
    rw [show k + (i + 1) = k + 1 + i from by omega]
    exact this
theorem wp_region_grow_put {id : Nat} {l : List Oper} {a : Act} {w : World} (S : Nat → Value → World → Prop) (Z : Nat → World → Prop) (G : World → Prop) (n : Nat) (ds : List Nat)
    (hm : P.follows .mixedOrders = true) (hB : (depsB .any l.toArray && apartB l.toArray n && aheadB .any l.toArray && decide (l.filterMap (·.dst) = ds)) = true)
    (hn : a.tmps.size = n) (hdef : a.defers = []) (hG : G w.drew) (hold : ∀ t, t ∉ ds → S t (a.eval (.tmp t)) w.drew)
    (hs : GrowAllG P .any l.toArray S Z G Q 0 l)
    (hend : ∀ v w', G w' → (∀ t, t ∈ ds → S t (v t) w') → (∀ (i : Nat) (o : Oper), l[i]? = some o → o.dst = none → Z i w') → Q .normal (putsL a v ds) w') :
    (Code.region id l.toArray true).wp P Q a w := by
  simp only [Bool.and_eq_true, decide_eq_true_eq] at hB
  obtain ⟨⟨⟨hd, ha⟩, hah⟩, hds⟩ := hB
  refine wp_region_any hm ?_
  refine grow_any' hd ha (fun i o ho => by have := hs.at i o (by simpa using ho); simpa using this) ?_ l.toArray.size _ a _ (by simp) ?_ ?_ (S := S) (Z := Z) (G := G) (n := n) (a0 := a)
  · intro listed a' w' hz h hr
    have hall := all_listed hah hz hr
    have hmem : ∀ (i : Nat) (o : Oper) (t : Nat), l.toArray[i]? = some o → o.dst = some t → t ∈ ds := fun i o t ho hdt => by
      rw [← hds]
      obtain ⟨hlt, e⟩ := List.getElem?_eq_some_iff.1 (show l[i]? = some o by simpa using ho)
      exact List.mem_filterMap.2 ⟨o, e ▸ List.getElem_mem hlt, hdt⟩
    have e : a' = putsL a (fun t => a'.eval (.tmp t)) ds := by
      refine act_ext (by rw [h.d, putsL_defers, hdef]) (by rw [h.sz, putsL_tmps_size, hn]) fun t ht => ?_
      rw [putsL_eval _ t ds a (by rw [hn, ← h.sz]; exact ht)]
      by_cases hm : t ∈ ds
      · rw [if_pos hm]
      · rw [if_neg hm]
        exact h.un t fun i o ho _ hdt => hm (hmem i o t ho hdt)
    rw [e]
    refine hend _ w' h.g (fun t ht => ?_) (fun i o ho hdn => ?_)
    · rw [← hds] at ht
      obtain ⟨o, ho, hdt⟩ := List.mem_filterMap.1 ht
      obtain ⟨i, hi, e2⟩ := List.getElem_of_mem ho
      have hli : l.toArray[i]? = some o := by simp [List.getElem?_eq_getElem hi, e2]
      have hnew := h.new i o hli (hall i (Array.getElem?_eq_some_iff.1 hli).1)
      unfold oval at hnew
      rw [hdt] at hnew
      exact hnew
    · have ho' : l.toArray[i]? = some o := by simpa using ho
      have hnew := h.new i o ho' (hall i (Array.getElem?_eq_some_iff.1 ho').1)
      rw [hdn] at hnew
      exact hnew
  · simp
  · refine ⟨hG, hdef, hn, fun t ht hno => ?_, fun t _ => rfl, fun i o ho hl => ?_⟩
    · refine hold t fun hm => ?_
      rw [← hds] at hm
      obtain ⟨o, ho, hdt⟩ := List.mem_filterMap.1 hm
      obtain ⟨i, hi, e2⟩ := List.getElem_of_mem ho
      exact hno i o (by simp [List.getElem?_eq_getElem hi, e2]) hdt
    · rw [getD_replicate_false] at hl; cases hl
end
end Go.Proofs.YteedhaenbamiaaaGreatDoor.G2
