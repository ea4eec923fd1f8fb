/- The rule of XGrowN, where what is known of the world may speak of the slots. No statement of the program stands here. -/
import Derived.Test.YteedhaenbamiaaaGreatDoorGrowN
set_option linter.unusedVariables false
set_option linter.unusedSimpArgs false
namespace Go.Proofs.YteedhaenbamiaaaGreatDoor.G4
open Go.RowKit

section
variable {P : Program} {ops : Array Oper} {md : Region.Mode} {Q : Exit → Act → World → Prop}
structure GrowInv (ops : Array Oper) (N : Nat) (S : Nat → Value → World → Prop) (G : Act → World → Prop) (n : Nat) (a0 : Act) (listed : Array Bool) (a : Act) (w : World) : Prop where
  g : G a w
  d : a.defers = []
  sz : a.tmps.size = n
  old : ∀ t, t < n → (∀ (i : Nat) (o : Oper), i < N → ops[i]? = some o → o.dst ≠ some t) → S t (a.eval (.tmp t)) w
  un : ∀ t, (∀ (i : Nat) (o : Oper), i < N → ops[i]? = some o → listed.getD i false = true → o.dst ≠ some t) → a.eval (.tmp t) = a0.eval (.tmp t)
  new : ∀ (i : Nat) (o : Oper), i < N → ops[i]? = some o → listed.getD i false = true → SAt S (fun _ _ => True) i o.dst (oval o a) w

def TT : Nat → World → Prop := fun _ _ => True
/-- what an operation must leave; what is known of the world may speak of the slots, too -/
def GrowStep (P : Program) (n : Nat) (a0 : Act) (S : Nat → Value → World → Prop) (G : Act → World → Prop) (Q : Exit → Act → World → Prop) (i : Nat) (o : Oper) : Prop :=
  ∀ a w, a.tmps.size = n → (∀ t, o.dst = some t → a.eval (.tmp t) = a0.eval (.tmp t)) → G a w → (∀ t, Operand.tmp t ∈ o.op.operands → S t (a.eval (.tmp t)) w) →
    o.wp P a w (fun a' w' => ∃ v, a' = a.put o.dst v ∧ G (a.put o.dst v) w' ∧ (∀ t, o.dst ≠ some t → S t (a.eval (.tmp t)) w → S t (a.eval (.tmp t)) w') ∧ SAt S TT i o.dst v w') Q
def GrowAll (P : Program) (n : Nat) (a0 : Act) (S : Nat → Value → World → Prop) (G : Act → World → Prop) (Q : Exit → Act → World → Prop) : Nat → List Oper → Prop
  | _, [] => True
  | k, o :: r => GrowStep P n a0 S G Q k o ∧ GrowAll P n a0 S G Q (k + 1) r
theorem GrowAll.at {n : Nat} {a0 : Act} {S : Nat → Value → World → Prop} {G : Act → World → Prop} : ∀ {l : List Oper} {k : Nat}, GrowAll P n a0 S G Q k l → ∀ (i : Nat) (o : Oper), l[i]? = some o → GrowStep P n a0 S G Q (k + i) o
  | [], _, _, i, o, h => by simp at h
  | x :: r, k, ⟨h1, h2⟩, 0, o, h => by simp at h; subst h; exact h1
  | x :: r, k, ⟨h1, h2⟩, i + 1, o, h => by
    have := GrowAll.at h2 i o (by simpa using h)
    rw [show k + (i + 1) = k + 1 + i from by omega]
    exact this
theorem grow_step {S : Nat → Value → World → Prop} {G : Act → World → Prop} {n i : Nat} {N : Nat} {a0 : Act} (hiN : i < N) (hd : G3.depsB md ops N = true) (ha : G3.apartB ops N n = true) {o : Oper} (ho : ops[i]? = some o) (hs : GrowStep P n a0 S G Q i o)
    {listed : Array Bool} {a : Act} {w : World} (h : GrowInv ops N S G n a0 listed a w) (hr : i ∈ Region.ready md ops listed) : wpOp P ops Q i (GrowInv ops N S G n a0 (listed.setIfInBounds i true)) a w := by
  obtain ⟨hun, o', ho', hall⟩ := mem_ready.1 hr
  obtain rfl : o' = o := Option.some.inj (ho'.symm.trans ho)
  have hw : Region.wanted o' (yielded ops a.tmps) = true := by unfold Region.wanted; rw [(G3.apartB_one ha hiN ho).2.1]
  unfold wpOp
  simp only [ho, hw, if_true]
  left
  refine Oper.wp_mono ?_ (hs a w h.sz (fun t ht => h.un t fun j oj hjN hj hl hdt => by
      by_cases hij : j = i
      · subst hij; rw [getD_both hun] at hl; cases hl
      · rcases G3.apartB_ne ha hjN hiN hj ho hij with e | e
        · rw [hdt] at e; cases e
        · exact e (hdt.trans ht.symm)) h.g fun t ht => ?_)
  · rintro a' w' ⟨v, rfl, hg, hS, hv⟩
    refine ⟨hg, (put_defers' _ _ _).trans h.d, (put_size _ _ _).trans h.sz, fun t ht hno => ?_, fun t hno => ?_, fun j oj hjN hj hl => ?_⟩
    · have hne : o'.dst ≠ some t := hno i o' hiN ho
      rw [eval_put_ne v hne]
      exact hS t hne (h.old t ht hno)
    · have hilt : i < listed.size := by
        rcases Nat.lt_or_ge i listed.size with h' | h'
        · exact h'
        · rw [Array.getD_eq_getD_getElem?, Array.getElem?_eq_none h'] at hun; simp at hun
      have hne : o'.dst ≠ some t := hno i o' hiN ho (by rw [Array.getD_eq_getD_getElem?, Array.getElem?_setIfInBounds_self_of_lt hilt]; rfl)
      rw [eval_put_ne v hne]
      refine h.un t fun j oj hjN hj hl => hno j oj hjN hj ?_
      by_cases hij : i = j
      · subst hij; rw [Array.getD_eq_getD_getElem?, Array.getElem?_setIfInBounds_self_of_lt hilt]; rfl
      · rw [getD_set_ne false hij]; exact hl
    · by_cases hij : i = j
      · subst hij
        obtain rfl : oj = o' := Option.some.inj (hj.symm.trans ho)
        unfold oval
        cases hdd : oj.dst with
        | none => rw [hdd] at hv; exact hv
        | some t =>
          dsimp only
          rw [eval_put_same v (by rw [h.sz]; exact (G3.apartB_one ha hiN ho).1 _ hdd)]
          rw [hdd] at hv
          exact hv
      · have hl' : listed.getD j false = true := by rw [getD_set_ne false hij] at hl; exact hl
        have hne := G3.apartB_ne ha hiN hjN ho hj hij
        have hold := h.new j oj hjN hj hl'
        cases hdj : oj.dst with
        | none =>
          rw [hdj] at hold
          trivial
        | some t =>
          rw [hdj] at hold hne
          unfold oval at hold ⊢
          rw [hdj] at hold ⊢
          have hnt : o'.dst ≠ some t := by rcases hne with h | h; · rw [h]; simp
                                           · exact h
          dsimp only
          rw [eval_put_ne v hnt]
          exact hS t hnt hold
  · by_cases hw2 : ∃ (j : Nat) (oj : Oper), j < N ∧ ops[j]? = some oj ∧ oj.dst = some t
    · obtain ⟨j, oj, hjN, hj, hdj⟩ := hw2
      obtain ⟨e, he, heon, hb⟩ := G3.depsB_spec hd hiN ho ht hjN hj hdj
      have hlj := hall e he hb
      rw [heon] at hlj
      have hnew := h.new j oj hjN hj hlj
      unfold oval at hnew
      rw [hdj] at hnew
      exact hnew
    · exact h.old t ((G3.apartB_one ha hiN ho).2.2 _ ht) fun j oj hjN hj hdj => hw2 ⟨j, oj, hjN, hj, hdj⟩
theorem grow_tail_any {S : Nat → Value → World → Prop} {G : Act → World → Prop} {n N : Nat} {a0 : Act} (hd : G3.depsB md ops N = true) (ha : G3.apartB ops N n = true) (hah : aheadB md ops = true) (ht : tailB md ops N = true)
    (hs : ∀ (i : Nat) (o : Oper), i < N → ops[i]? = some o → GrowStep P n a0 S G Q i o)
    (hdone : ∀ a w, GrowInv ops N S G n a0 (headDone ops.size N) a w → wpList P ops Q (ops.toList.drop N) a w) :
    ∀ (f : Nat) (listed : Array Bool) (a : Act) (w : World), HeadInv md ops N listed → listed.toList.count false = f → GrowInv ops N S G n a0 listed a w → wpAny P md ops Q f listed a w := by
  simp only [tailB, Bool.and_eq_true, decide_eq_true_eq] at ht
  obtain ⟨⟨⟨hsk, hch⟩, hN⟩, hsq⟩ := ht
  intro f
  induction f with
  | zero =>
    intro listed a w hi hc h
    exfalso
    have hlt : N < listed.size := by rw [hi.size]; exact hN
    have hm : listed[N] = false := by
      have := hi.tail N (Nat.le_refl _) hN
      rw [Array.getD_eq_getD_getElem?, Array.getElem?_eq_getElem hlt] at this
      simpa using this
    have : 0 < listed.toList.count false := List.count_pos_iff.2 (by rw [← hm]; exact Array.getElem_mem_toList hlt)
    omega
  | succ f ih =>
    intro listed a w hi hc h
    by_cases hall : ∀ i, i < N → listed.getD i false = true
    · have e := listed_done (Nat.le_of_lt hN) ⟨hi.size, hi.tail⟩ hall
      subst e
      have hl : (ops.toList.drop N).length = f + 1 := by
        rw [← hc]
        simp [headDone, List.count_replicate]
      have := wpAny_of_seq (P := P) (md := md) (ops := ops) (Q' := Q) (ops.toList.drop N) N (headDone ops.size N) a w (fun j => by simp [List.getElem?_drop]) (by rw [List.length_drop, Array.length_toList]; exact hsq) (hdone a w h)
      rw [hl] at this
      exact this
    · obtain ⟨j, hj⟩ : ∃ j, ¬(j < N → listed.getD j false = true) := by
        refine Classical.byContradiction fun hno => hall fun i hi' => ?_
        exact Classical.byContradiction fun hx => hno ⟨i, fun k => hx (k hi')⟩
      have hjN : j < N := Classical.byContradiction fun hx => hj (fun k => absurd k hx)
      have hjl : listed.getD j false = false := by
        cases hx : listed.getD j false with
        | false => rfl
        | true => exact absurd (fun _ => hx) hj
      refine ⟨fun hr => ?_, fun i hir => ?_⟩
      · have := all_listed hah hi.size hr j (by omega)
        rw [this] at hjl
        cases hjl
      · have hiN : i < N := by
          rcases Nat.lt_or_ge i N with h' | h'
          · exact h'
          · exact absurd hir (tail_waits hsk hch hN hi _ j rfl hjN (getD_in (by rw [hi.size]; omega) hjl) i h')
        obtain ⟨hun, o, ho, _⟩ := mem_ready.1 hir
        have hlt : i < listed.size := by rw [hi.size]; exact (Array.getElem?_eq_some_iff.1 ho).1
        have hm : listed[i] = false := by
          rw [Array.getD_eq_getD_getElem?, Array.getElem?_eq_getElem hlt] at hun
          simpa using hun
        refine wpOp_mono (fun a' w' h' => ih _ a' w' (hi.set hir hiN) ?_ h') (grow_step hiN hd ha ho (hs i o hiN ho) h hir)
        rw [Array.setIfInBounds_def, dif_pos hlt, Array.toList_set, List.count_set (by simpa using hlt)]
        have hpos : 0 < listed.toList.count false := List.count_pos_iff.2 (by rw [← hm]; exact Array.getElem_mem_toList hlt)
        have hb : (listed.toList[i]'(by simpa using hlt) == false) = true := by simp [hm]
        rw [if_pos hb, if_neg (by decide)]
        omega
theorem wp_region_grow_tail {id : Nat} {l : List Oper} {a : Act} {w : World} (S : Nat → Value → World → Prop) (G : Act → World → Prop) (n N : Nat) (ds : List Nat)
    (hm : P.follows .mixedOrders = true) (hB : (G3.depsB .any l.toArray N && G3.apartB l.toArray N n && aheadB .any l.toArray && tailB .any l.toArray N && decide ((l.take N).map (·.dst) = ds.map some)) = true)
    (hn : a.tmps.size = n) (hdef : a.defers = []) (hG : G a w.drew) (hold : ∀ t, t ∉ ds → S t (a.eval (.tmp t)) w.drew)
    (hs : GrowAll P n a S G Q 0 (l.take N))
    (hend : ∀ v w', G (putsL a v ds) w' → (∀ t, t ∈ ds → S t (v t) w') → wpList P l.toArray Q (l.drop N) (putsL a v ds) w') :
    (Code.region id l.toArray true).wp P Q a w := by
  simp only [Bool.and_eq_true, decide_eq_true_eq] at hB
  obtain ⟨⟨⟨⟨hd, ha⟩, hah⟩, htb⟩, hds⟩ := hB
  have htb' := htb
  simp only [tailB, Bool.and_eq_true, decide_eq_true_eq] at htb'
  obtain ⟨⟨⟨hsk, hch⟩, hN⟩, hsq⟩ := htb'
  have hNl : N < l.length := by simpa using hN
  refine wp_region_any hm ?_
  refine grow_tail_any (S := S) (G := G) (n := n) (N := N) (a0 := a) hd ha hah htb (fun i o hi ho => ?_) ?_ l.toArray.size _ a _ ?_ (by simp) ?_
  · have := hs.at i o (by rw [List.getElem?_take_of_lt hi]; simpa using ho)
    simpa using this
  · intro a' w' h
    have e : a' = putsL a (fun t => a'.eval (.tmp t)) ds := by
      refine act_ext (by rw [h.d, putsL_defers, hdef]) (by rw [h.sz, putsL_tmps_size, hn]) fun t ht => ?_
      rw [putsL_eval _ t ds a (by rw [hn, ← h.sz]; exact ht)]
      by_cases hm : t ∈ ds
      · rw [if_pos hm]
      · rw [if_neg hm]
        refine h.un t fun i o hiN ho hl hdt => hm ?_
        have hmem : o.dst ∈ (l.take N).map (·.dst) := List.mem_map.2 ⟨o, by
          rw [List.mem_take_iff_getElem]
          obtain ⟨hlt, e⟩ := List.getElem?_eq_some_iff.1 (show l[i]? = some o by simpa using ho)
          exact ⟨i, by omega, e⟩, rfl⟩
        rw [hds, hdt] at hmem
        obtain ⟨t', ht', e⟩ := List.mem_map.1 hmem
        injection e with e
        exact e ▸ ht'
    rw [e]
    refine hend _ w' (e ▸ h.g) fun t ht => ?_
    have hmem : some t ∈ (l.take N).map (·.dst) := by rw [hds]; exact List.mem_map.2 ⟨t, ht, rfl⟩
    obtain ⟨o, ho, hdt⟩ := List.mem_map.1 hmem
    obtain ⟨i, hi, e2⟩ := List.getElem_of_mem ho
    have hiN : i < N := by simp at hi; omega
    have hli : l.toArray[i]? = some o := by
      have : (l.take N)[i]? = some o := by rw [List.getElem?_eq_getElem hi, e2]
      rw [List.getElem?_take_of_lt hiN] at this
      simpa using this
    have hnew := h.new i o hiN hli (by
      have hil : i < (headDone l.toArray.size N).size := by simp [headDone]; omega
      rw [Array.getD_eq_getD_getElem?, Array.getElem?_eq_getElem hil]
      simp only [headDone, List.getElem_toArray, Option.getD_some]
      rw [List.getElem_append_left (by simpa using hiN), List.getElem_replicate])
    unfold oval at hnew
    rw [hdt] at hnew
    exact hnew
  · exact ⟨by simp, fun j oj _ hl => (by rw [getD_replicate_false] at hl; cases hl), fun t _ ht => getD_in (by simpa using ht) (getD_replicate_false _ _)⟩
  · refine ⟨hG, hdef, hn, fun t ht hno => ?_, fun t _ => rfl, fun i o _ ho hl => ?_⟩
    · refine hold t fun hm => ?_
      have hmem : some t ∈ (l.take N).map (·.dst) := by rw [hds]; exact List.mem_map.2 ⟨t, hm, rfl⟩
      obtain ⟨o, ho, hdt⟩ := List.mem_map.1 hmem
      obtain ⟨i, hi, e2⟩ := List.getElem_of_mem (List.mem_of_mem_take ho)
      have hlen : (List.take N l).length ≤ N := by simp; omega
      have hmt := List.mem_of_mem_take ho
      obtain ⟨k, hk, e3⟩ := List.mem_take_iff_getElem.1 ho
      exact hno k o (by omega) (by
        have hkl : k < l.length := by omega
        simp [List.getElem?_eq_getElem hkl, e3]) hdt
    · rw [getD_replicate_false] at hl; cases hl
theorem grow_any' {S : Nat → Value → World → Prop} {G : Act → World → Prop} {n : Nat} {a0 : Act} (hd : G3.depsB md ops ops.size = true) (ha : G3.apartB ops ops.size n = true) (hs : ∀ (i : Nat) (o : Oper), ops[i]? = some o → GrowStep P n a0 S G Q i o)
    (hdone : ∀ listed a w, listed.size = ops.size → GrowInv ops ops.size S G n a0 listed a w → Region.ready md ops listed = [] → Q .normal a w) :
    ∀ (f : Nat) (listed : Array Bool) (a : Act) (w : World), listed.size = ops.size → listed.toList.count false ≤ f → GrowInv ops ops.size S G n a0 listed a w → wpAny P md ops Q f listed a w := by
  intro f
  induction f with
  | zero =>
    intro listed a w hz hc h
    have hr : Region.ready md ops listed = [] := by
      apply List.eq_nil_iff_forall_not_mem.2
      intro i hi
      obtain ⟨hun, o, ho, _⟩ := mem_ready.1 hi
      have hlt : i < listed.size := by rw [hz]; exact (Array.getElem?_eq_some_iff.1 ho).1
      have hm : false ∈ listed.toList := by
        rw [Array.getD_eq_getD_getElem?, Array.getElem?_eq_getElem hlt] at hun
        simp only [Option.getD_some] at hun
        rw [← hun]
        exact Array.getElem_mem_toList hlt
      have := List.count_pos_iff.2 hm
      omega
    exact ⟨hr, hdone _ _ _ hz h hr⟩
  | succ f ih =>
    intro listed a w hz hc h
    refine ⟨fun hr => hdone _ _ _ hz h hr, fun i hi => ?_⟩
    obtain ⟨hun, o, ho, _⟩ := mem_ready.1 hi
    have hlt : i < listed.size := by rw [hz]; exact (Array.getElem?_eq_some_iff.1 ho).1
    have hm : listed[i] = false := by
      rw [Array.getD_eq_getD_getElem?, Array.getElem?_eq_getElem hlt] at hun
      simpa using hun
    refine wpOp_mono (fun a' w' h' => ih _ a' w' (by simpa using hz) ?_ h') (grow_step (Array.getElem?_eq_some_iff.1 ho).1 hd ha ho (hs i o ho) h hi)
    rw [Array.setIfInBounds_def, dif_pos hlt, Array.toList_set, List.count_set (by simpa using hlt)]
    have hpos : 0 < listed.toList.count false := List.count_pos_iff.2 (by rw [← hm]; exact Array.getElem_mem_toList hlt)
    simp only [Array.getElem_toList, hm]
    simpa using hc
theorem wp_region_grow_put {id : Nat} {l : List Oper} {a : Act} {w : World} (S : Nat → Value → World → Prop) (G : Act → World → Prop) (n : Nat) (ds : List Nat)
    (hm : P.follows .mixedOrders = true) (hB : (G3.depsB .any l.toArray l.length && G3.apartB l.toArray l.length n && aheadB .any l.toArray && decide (l.filterMap (·.dst) = ds)) = true)
    (hn : a.tmps.size = n) (hdef : a.defers = []) (hG : G a w.drew) (hold : ∀ t, t ∉ ds → S t (a.eval (.tmp t)) w.drew)
    (hs : GrowAll P n a S G Q 0 l)
    (hend : ∀ v w', G (putsL a v ds) w' → (∀ t, t ∈ ds → S t (v t) w') → Q .normal (putsL a v ds) w') :
    (Code.region id l.toArray true).wp P Q a w := by
  simp only [Bool.and_eq_true, decide_eq_true_eq] at hB
  obtain ⟨⟨⟨hd, ha⟩, hah⟩, hds⟩ := hB
  have hd : G3.depsB .any l.toArray l.toArray.size = true := by simpa using hd
  have ha : G3.apartB l.toArray l.toArray.size n = true := by simpa using ha
  refine wp_region_any hm ?_
  refine grow_any' hd ha (fun i o ho => by have := hs.at i o (by simpa using ho); simpa using this) ?_ l.toArray.size _ a _ (by simp) ?_ ?_ (S := S) (G := G) (n := n) (a0 := a)
  · intro listed a' w' hz h hr
    have hall := all_listed hah hz hr
    have hmem : ∀ (i : Nat) (o : Oper) (t : Nat), l.toArray[i]? = some o → o.dst = some t → t ∈ ds := fun i o t ho hdt => by
      rw [← hds]
      obtain ⟨hlt, e⟩ := List.getElem?_eq_some_iff.1 (show l[i]? = some o by simpa using ho)
      exact List.mem_filterMap.2 ⟨o, e ▸ List.getElem_mem hlt, hdt⟩
    have e : a' = putsL a (fun t => a'.eval (.tmp t)) ds := by
      refine act_ext (by rw [h.d, putsL_defers, hdef]) (by rw [h.sz, putsL_tmps_size, hn]) fun t ht => ?_
      rw [putsL_eval _ t ds a (by rw [hn, ← h.sz]; exact ht)]
      by_cases hm : t ∈ ds
      · rw [if_pos hm]
      · rw [if_neg hm]
        exact h.un t fun i o _ ho _ hdt => hm (hmem i o t ho hdt)
    rw [e]
    refine hend _ w' (e ▸ h.g) (fun t ht => ?_)
    rw [← hds] at ht
    obtain ⟨o, ho, hdt⟩ := List.mem_filterMap.1 ht
    obtain ⟨i, hi, e2⟩ := List.getElem_of_mem ho
    have hli : l.toArray[i]? = some o := by simp [List.getElem?_eq_getElem hi, e2]
    have hnew := h.new i o (by simpa using hi) hli (hall i (Array.getElem?_eq_some_iff.1 hli).1)
    unfold oval at hnew
    rw [hdt] at hnew
    exact hnew
  · simp
  · refine ⟨hG, hdef, hn, fun t ht hno => ?_, fun t _ => rfl, fun i o _ ho hl => ?_⟩
    · refine hold t fun hm => ?_
      rw [← hds] at hm
      obtain ⟨o, ho, hdt⟩ := List.mem_filterMap.1 hm
      obtain ⟨i, hi, e2⟩ := List.getElem_of_mem ho
      exact hno i o (by simpa using hi) (by simp [List.getElem?_eq_getElem hi, e2]) hdt
    · rw [getD_replicate_false] at hl; cases hl
end
end Go.Proofs.YteedhaenbamiaaaGreatDoor.G4
