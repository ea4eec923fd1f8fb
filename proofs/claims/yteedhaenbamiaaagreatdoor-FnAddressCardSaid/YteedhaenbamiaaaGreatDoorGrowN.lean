/- The rule of XGrow for a region whose tail may write what its head reads ('x = append(append(x, ..), ..)'). No statement of the program stands here. -/
import Derived.Test.YteedhaenbamiaaaGreatDoorGrow
set_option linter.unusedVariables false
set_option linter.unusedSimpArgs false
namespace Go.Proofs.YteedhaenbamiaaaGreatDoor.G3
open Go.RowKit

section
variable {P : Program} {ops : Array Oper} {md : Region.Mode} {Q : Exit → Act → World → Prop}
/-- each operand that another operation of the head leaves is waited for -/
def depsB (md : Region.Mode) (ops : Array Oper) (N : Nat) : Bool :=
  (List.range N).all fun i => match ops[i]? with
    | some o => (o.op.operands.toList.filterMap tmpOf).all fun t => (List.range N).all fun j => ((ops[j]?).bind (·.dst)) != some t || o.after.any fun e => e.on == j && Region.binds md e
    | none => true
def oneB (ops : Array Oper) (n i : Nat) : Bool := match ops[i]? with
  | some o => (match o.dst with | some t => decide (t < n) | none => true) && (o.guard == none && (o.op.operands.toList.filterMap tmpOf).all fun t => decide (t < n))
  | none => true
def apartB (ops : Array Oper) (N n : Nat) : Bool :=
  ((List.range N).all fun i => (List.range N).all fun j => i == j ||
    match ops[i]?, ops[j]? with
    | some x, some y => x.dst == none || x.dst != y.dst
    | _, _ => true) && (List.range N).all (oneB ops n)
structure GrowInv (ops : Array Oper) (N : Nat) (S : Nat → Value → World → Prop) (Z : Nat → World → Prop) (G : World → Prop) (n : Nat) (a0 : Act) (listed : Array Bool) (a : Act) (w : World) : Prop where
  g : G w
  d : a.defers = []
  sz : a.tmps.size = n
  old : ∀ t, t < n → (∀ (i : Nat) (o : Oper), i < N → ops[i]? = some o → o.dst ≠ some t) → S t (a.eval (.tmp t)) w
  un : ∀ t, (∀ (i : Nat) (o : Oper), i < N → ops[i]? = some o → listed.getD i false = true → o.dst ≠ some t) → a.eval (.tmp t) = a0.eval (.tmp t)
  new : ∀ (i : Nat) (o : Oper), i < N → ops[i]? = some o → listed.getD i false = true → SAt S Z i o.dst (oval o a) w

theorem depsB_spec {N : Nat} (h : depsB md ops N = true) {i : Nat} (hi : i < N) {o : Oper} (ho : ops[i]? = some o) {t : Nat} (ht : Operand.tmp t ∈ o.op.operands) {j : Nat} (hjN : j < N) {oj : Oper} (hj : ops[j]? = some oj) (hd : oj.dst = some t) :
    ∃ e ∈ o.after, e.on = j ∧ Region.binds md e = true := by
  unfold depsB at h
  have h1 := List.all_eq_true.1 h i (List.mem_range.2 hi)
  simp only [ho] at h1
  have h2 := List.all_eq_true.1 h1 t (List.mem_filterMap.2 ⟨.tmp t, by simpa using ht, rfl⟩)
  have h3 := List.all_eq_true.1 h2 j (List.mem_range.2 hjN)
  simp only [hj, Option.bind_some, hd, bne_self_eq_false, Bool.false_or, Array.any_eq_true'] at h3
  obtain ⟨e, he, h4⟩ := h3
  simp only [Bool.and_eq_true, beq_iff_eq] at h4
  exact ⟨e, he, h4.1, h4.2⟩
theorem apartB_ne {N n : Nat} (h : apartB ops N n = true) {i j : Nat} (hi : i < N) (hj : j < N) {x y : Oper} (hx : ops[i]? = some x) (hy : ops[j]? = some y) (hne : i ≠ j) : x.dst = none ∨ x.dst ≠ y.dst := by
  unfold apartB at h
  simp only [Bool.and_eq_true] at h
  have h1 := List.all_eq_true.1 h.1 i (List.mem_range.2 hi)
  have h2 := List.all_eq_true.1 h1 j (List.mem_range.2 hj)
  simp only [hx, hy, Bool.or_eq_true, beq_iff_eq, bne_iff_ne] at h2
  rcases h2 with h2 | h2
  · exact (hne h2).elim
  · exact h2
theorem apartB_one {N n : Nat} (h : apartB ops N n = true) {i : Nat} (hi : i < N) {x : Oper} (hx : ops[i]? = some x) : (∀ t, x.dst = some t → t < n) ∧ x.guard = none ∧ ∀ t, Operand.tmp t ∈ x.op.operands → t < n := by
  unfold apartB at h
  simp only [Bool.and_eq_true] at h
  have h1 := List.all_eq_true.1 h.2 i (List.mem_range.2 hi)
  unfold oneB at h1
  simp only [hx, Bool.and_eq_true] at h1
  refine ⟨fun t ht => ?_, ?_, fun t ht => ?_⟩
  · have := h1.1
    simp only [ht, decide_eq_true_eq] at this
    exact this
  · have := h1.2.1
    cases hg : x.guard with
    | none => rfl
    | some g => rw [hg] at this; simp at this
  · exact of_decide_eq_true (List.all_eq_true.1 h1.2.2 t (List.mem_filterMap.2 ⟨.tmp t, by simpa using ht, rfl⟩))
theorem grow_step {S : Nat → Value → World → Prop} {Z : Nat → World → Prop} {G : World → Prop} {n i : Nat} {N : Nat} (hiN : i < N) (hd : depsB md ops N = true) (ha : apartB ops N n = true) {o : Oper} (ho : ops[i]? = some o) (hs : GrowStep P S Z G Q i o)
    {listed : Array Bool} {a0 a : Act} {w : World} (h : GrowInv ops N S Z G n a0 listed a w) (hr : i ∈ Region.ready md ops listed) : wpOp P ops Q i (GrowInv ops N S Z G n a0 (listed.setIfInBounds i true)) a w := by
  obtain ⟨hun, o', ho', hall⟩ := mem_ready.1 hr
  obtain rfl : o' = o := Option.some.inj (ho'.symm.trans ho)
  have hw : Region.wanted o' (yielded ops a.tmps) = true := by unfold Region.wanted; rw [(apartB_one ha hiN ho).2.1]
  unfold wpOp
  simp only [ho, hw, if_true]
  left
  refine Oper.wp_mono ?_ (hs a w h.g fun t ht => ?_)
  · rintro a' w' ⟨v, rfl, hg, hS, hZ, hv⟩
    refine ⟨hg, (put_defers' _ _ _).trans h.d, (put_size _ _ _).trans h.sz, fun t ht hno => ?_, fun t hno => ?_, fun j oj hjN hj hl => ?_⟩
    · have hne : o'.dst ≠ some t := hno i o' hiN ho
      rw [eval_put_ne v hne]
      exact hS t _ hne (h.old t ht hno)
    · have hilt : i < listed.size := by
        rcases Nat.lt_or_ge i listed.size with h' | h'
        · exact h'
        · rw [Array.getD_eq_getD_getElem?, Array.getElem?_eq_none h'] at hun; simp at hun
      have hne : o'.dst ≠ some t := hno i o' hiN ho (by rw [Array.getD_eq_getD_getElem?, Array.getElem?_setIfInBounds_self_of_lt hilt]; rfl)
      rw [eval_put_ne v hne]
      refine h.un t fun j oj hjN hj hl => hno j oj hjN hj ?_
      by_cases hij : i = j
      · subst hij; rw [Array.getD_eq_getD_getElem?, Array.getElem?_setIfInBounds_self_of_lt hilt]; rfl
      · rw [getD_set_ne false hij]; exact hl
    · by_cases hij : i = j
      · subst hij
        obtain rfl : oj = o' := Option.some.inj (hj.symm.trans ho)
        unfold oval
        cases hdd : oj.dst with
        | none => rw [hdd] at hv; exact hv
        | some t =>
          dsimp only
          rw [eval_put_same v (by rw [h.sz]; exact (apartB_one ha hiN ho).1 _ hdd)]
          rw [hdd] at hv
          exact hv
      · have hl' : listed.getD j false = true := by rw [getD_set_ne false hij] at hl; exact hl
        have hne := apartB_ne ha hiN hjN ho hj hij
        have hold := h.new j oj hjN hj hl'
        cases hdj : oj.dst with
        | none =>
          rw [hdj] at hold
          exact hZ j (fun e => hij e.symm) hold
        | some t =>
          rw [hdj] at hold hne
          unfold oval at hold ⊢
          rw [hdj] at hold ⊢
          have hnt : o'.dst ≠ some t := by rcases hne with h | h; · rw [h]; simp
                                           · exact h
          dsimp only
          rw [eval_put_ne v hnt]
          exact hS t _ hnt hold
  · by_cases hw2 : ∃ (j : Nat) (oj : Oper), j < N ∧ ops[j]? = some oj ∧ oj.dst = some t
    · obtain ⟨j, oj, hjN, hj, hdj⟩ := hw2
      obtain ⟨e, he, heon, hb⟩ := depsB_spec hd hiN ho ht hjN hj hdj
      have hlj := hall e he hb
      rw [heon] at hlj
      have hnew := h.new j oj hjN hj hlj
      unfold oval at hnew
      rw [hdj] at hnew
      exact hnew
    · exact h.old t ((apartB_one ha hiN ho).2.2 _ ht) fun j oj hjN hj hdj => hw2 ⟨j, oj, hjN, hj, hdj⟩
theorem grow_tail_any {S : Nat → Value → World → Prop} {Z : Nat → World → Prop} {G : World → Prop} {n N : Nat} {a0 : Act} (hd : depsB md ops N = true) (ha : apartB ops N n = true) (hah : aheadB md ops = true) (ht : tailB md ops N = true)
    (hs : ∀ (i : Nat) (o : Oper), i < N → ops[i]? = some o → GrowStep P S Z G Q i o)
    (hdone : ∀ a w, GrowInv ops N S Z G n a0 (headDone ops.size N) a w → wpList P ops Q (ops.toList.drop N) a w) :
    ∀ (f : Nat) (listed : Array Bool) (a : Act) (w : World), HeadInv md ops N listed → listed.toList.count false = f → GrowInv ops N S Z G n a0 listed a w → wpAny P md ops Q f listed a w := by
  simp only [tailB, Bool.and_eq_true, decide_eq_true_eq] at ht
  obtain ⟨⟨⟨hsk, hch⟩, hN⟩, hsq⟩ := ht
  intro f
  induction f with
  | zero =>
    intro listed a w hi hc h
    exfalso
    have hlt : N < listed.size := by rw [hi.size]; exact hN
    have hm : listed[N] = false := by
      have := hi.tail N (Nat.le_refl _) hN
      rw [Array.getD_eq_getD_getElem?, Array.getElem?_eq_getElem hlt] at this
      simpa using this
    have : 0 < listed.toList.count false := List.count_pos_iff.2 (by rw [← hm]; exact Array.getElem_mem_toList hlt)
    omega
  | succ f ih =>
    intro listed a w hi hc h
    by_cases hall : ∀ i, i < N → listed.getD i false = true
    · have e := listed_done (Nat.le_of_lt hN) ⟨hi.size, hi.tail⟩ hall
      subst e
      have hl : (ops.toList.drop N).length = f + 1 := by
        rw [← hc]
        simp [headDone, List.count_replicate]
      have := wpAny_of_seq (P := P) (md := md) (ops := ops) (Q' := Q) (ops.toList.drop N) N (headDone ops.size N) a w (fun j => by simp [List.getElem?_drop]) (by rw [List.length_drop, Array.length_toList]; exact hsq) (hdone a w h)
      rw [hl] at this
      exact this
    · obtain ⟨j, hj⟩ : ∃ j, ¬(j < N → listed.getD j false = true) := by
        refine Classical.byContradiction fun hno => hall fun i hi' => ?_
        exact Classical.byContradiction fun hx => hno ⟨i, fun k => hx (k hi')⟩
      have hjN : j < N := Classical.byContradiction fun hx => hj (fun k => absurd k hx)
      have hjl : listed.getD j false = false := by
        cases hx : listed.getD j false with
        | false => rfl
        | true => exact absurd (fun _ => hx) hj
      refine ⟨fun hr => ?_, fun i hir => ?_⟩
      · have := all_listed hah hi.size hr j (by omega)
        rw [this] at hjl
        cases hjl
      · have hiN : i < N := by
          rcases Nat.lt_or_ge i N with h' | h'
          · exact h'
          · exact absurd hir (tail_waits hsk hch hN hi _ j rfl hjN (getD_in (by rw [hi.size]; omega) hjl) i h')
        obtain ⟨hun, o, ho, _⟩ := mem_ready.1 hir
        have hlt : i < listed.size := by rw [hi.size]; exact (Array.getElem?_eq_some_iff.1 ho).1
        have hm : listed[i] = false := by
          rw [Array.getD_eq_getD_getElem?, Array.getElem?_eq_getElem hlt] at hun
          simpa using hun
        refine wpOp_mono (fun a' w' h' => ih _ a' w' (hi.set hir hiN) ?_ h') (grow_step hiN hd ha ho (hs i o hiN ho) h hir)
        rw [Array.setIfInBounds_def, dif_pos hlt, Array.toList_set, List.count_set (by simpa using hlt)]
        have hpos : 0 < listed.toList.count false := List.count_pos_iff.2 (by rw [← hm]; exact Array.getElem_mem_toList hlt)
        have hb : (listed.toList[i]'(by simpa using hlt) == false) = true := by simp [hm]
        rw [if_pos hb, if_neg (by decide)]
        omega
theorem wp_region_grow_tail {id : Nat} {l : List Oper} {a : Act} {w : World} (S : Nat → Value → World → Prop) (G : World → Prop) (n N : Nat) (ds : List Nat)
    (hm : P.follows .mixedOrders = true) (hB : (depsB .any l.toArray N && apartB l.toArray N n && aheadB .any l.toArray && tailB .any l.toArray N && decide ((l.take N).map (·.dst) = ds.map some)) = true)
    (hn : a.tmps.size = n) (hdef : a.defers = []) (hG : G w.drew) (hold : ∀ t, t ∉ ds → S t (a.eval (.tmp t)) w.drew)
    (hs : GrowAll P S (fun _ _ => True) G Q 0 (l.take N))
    (hend : ∀ v w', G w' → (∀ t, t ∈ ds → S t (v t) w') → wpList P l.toArray Q (l.drop N) (putsL a v ds) w') :
    (Code.region id l.toArray true).wp P Q a w := by
  simp only [Bool.and_eq_true, decide_eq_true_eq] at hB
  obtain ⟨⟨⟨⟨hd, ha⟩, hah⟩, htb⟩, hds⟩ := hB
  have htb' := htb
  simp only [tailB, Bool.and_eq_true, decide_eq_true_eq] at htb'
  obtain ⟨⟨⟨hsk, hch⟩, hN⟩, hsq⟩ := htb'
  have hNl : N < l.length := by simpa using hN
  refine wp_region_any hm ?_
  refine grow_tail_any (S := S) (Z := fun _ _ => True) (G := G) (n := n) (N := N) (a0 := a) hd ha hah htb (fun i o hi ho => ?_) ?_ l.toArray.size _ a _ ?_ (by simp) ?_
  · have := hs.at i o (by rw [List.getElem?_take_of_lt hi]; simpa using ho)
    simpa using this
  · intro a' w' h
    have e : a' = putsL a (fun t => a'.eval (.tmp t)) ds := by
      refine act_ext (by rw [h.d, putsL_defers, hdef]) (by rw [h.sz, putsL_tmps_size, hn]) fun t ht => ?_
      rw [putsL_eval _ t ds a (by rw [hn, ← h.sz]; exact ht)]
      by_cases hm : t ∈ ds
      · rw [if_pos hm]
      · rw [if_neg hm]
        refine h.un t fun i o hiN ho hl hdt => hm ?_
        have hmem : o.dst ∈ (l.take N).map (·.dst) := List.mem_map.2 ⟨o, by
          rw [List.mem_take_iff_getElem]
          obtain ⟨hlt, e⟩ := List.getElem?_eq_some_iff.1 (show l[i]? = some o by simpa using ho)
          exact ⟨i, by omega, e⟩, rfl⟩
        rw [hds, hdt] at hmem
        obtain ⟨t', ht', e⟩ := List.mem_map.1 hmem
        injection e with e
        exact e ▸ ht'
    rw [e]
    refine hend _ w' h.g fun t ht => ?_
    have hmem : some t ∈ (l.take N).map (·.dst) := by rw [hds]; exact List.mem_map.2 ⟨t, ht, rfl⟩
    obtain ⟨o, ho, hdt⟩ := List.mem_map.1 hmem
    obtain ⟨i, hi, e2⟩ := List.getElem_of_mem ho
    have hiN : i < N := by simp at hi; omega
    have hli : l.toArray[i]? = some o := by
      have : (l.take N)[i]? = some o := by rw [List.getElem?_eq_getElem hi, e2]
      rw [List.getElem?_take_of_lt hiN] at this
      simpa using this
    have hnew := h.new i o hiN hli (by
      have hil : i < (headDone l.toArray.size N).size := by simp [headDone]; omega
      rw [Array.getD_eq_getD_getElem?, Array.getElem?_eq_getElem hil]
      simp only [headDone, List.getElem_toArray, Option.getD_some]
      rw [List.getElem_append_left (by simpa using hiN), List.getElem_replicate])
    unfold oval at hnew
    rw [hdt] at hnew
    exact hnew
  · exact ⟨by simp, fun j oj _ hl => (by rw [getD_replicate_false] at hl; cases hl), fun t _ ht => getD_in (by simpa using ht) (getD_replicate_false _ _)⟩
  · refine ⟨hG, hdef, hn, fun t ht hno => ?_, fun t _ => rfl, fun i o _ ho hl => ?_⟩
    · refine hold t fun hm => ?_
      have hmem : some t ∈ (l.take N).map (·.dst) := by rw [hds]; exact List.mem_map.2 ⟨t, hm, rfl⟩
      obtain ⟨o, ho, hdt⟩ := List.mem_map.1 hmem
      obtain ⟨i, hi, e2⟩ := List.getElem_of_mem (List.mem_of_mem_take ho)
      have hlen : (List.take N l).length ≤ N := by simp; omega
      have hmt := List.mem_of_mem_take ho
      obtain ⟨k, hk, e3⟩ := List.mem_take_iff_getElem.1 ho
      exact hno k o (by omega) (by
        have hkl : k < l.length := by omega
        simp [List.getElem?_eq_getElem hkl, e3]) hdt
    · rw [getD_replicate_false] at hl; cases hl
end
end Go.Proofs.YteedhaenbamiaaaGreatDoor.G3
