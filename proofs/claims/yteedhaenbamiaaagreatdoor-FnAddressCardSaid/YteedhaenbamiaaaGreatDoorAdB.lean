/- The plain law of FnAddress: the text of a right address, in each of its forms, is read as the address. -/
import Derived.Test.YteedhaenbamiaaaGreatDoorAdL
import Derived.Test.YteedhaenbamiaaaGreatDoorFnUB
set_option linter.unusedVariables false
set_option linter.unusedSimpArgs false
namespace Go.Proofs.YteedhaenbamiaaaGreatDoor
open Go.RowKit

def adTail (l : KVs) : Tx := if l = [] then [] else 59 :: ptT l 59
def adBrack (u : PU) : Tx := 60 :: (uText u ++ [62])
def adHead (s : Tx) (u : PU) (form : Int) : Tx :=
  if form = 2 then uText u else if form = 1 ∧ s ≠ [] then s ++ 32 :: adBrack u else if s ≠ [] then 34 :: (s ++ 34 :: 32 :: adBrack u) else adBrack u
/-- what is asked of the address -/
structure GoodA (s : Tx) (u : PU) (l : KVs) (form : Int) : Prop where
  show_ : ∀ c ∈ s, c ≠ 34 ∧ c ≠ 92
  len : s.length ≤ 8192
  uri : GoodU u
  ps : prmB l false = true
  one : form = 1 → s ≠ [] → wordB s = true
  two : form = 2 → s = [] ∧ u.ps = [] ∧ u.hs = []

theorem uPs_ch {l : KVs} {a b : UInt8} (h : ∀ x ∈ l, WdK x) : ∀ c ∈ uPs l a b, wdq c = true ∨ c = 61 ∨ c = a ∨ c = b := by
  intro c hc
  unfold uPs at hc
  split at hc
  · cases hc
  · rw [List.mem_cons] at hc
    rcases hc with hc | hc
    · exact .inr (.inr (.inl hc))
    · rcases psText_mem h c hc with h | h | h
      · exact .inl h
      · exact .inr (.inl h)
      · exact .inr (.inr (.inr h))
theorem uText_ch {u : PU} (h : GoodU u) : ∀ c ∈ uText u, (c ≠ 62 ∧ c ≠ 34 ∧ c ≠ 60) ∧ (u.ps = [] → u.hs = [] → c ≠ 59) := by
  have w1 : ∀ c, usq c = true → (c ≠ 62 ∧ c ≠ 34 ∧ c ≠ 60) ∧ (u.ps = [] → u.hs = [] → c ≠ 59) := fun c h => by
    refine ⟨⟨?_, ?_, ?_⟩, fun _ _ => ?_⟩ <;> (rintro rfl; revert h; decide)
  have w2 : ∀ c, hoq c = true → (c ≠ 62 ∧ c ≠ 34 ∧ c ≠ 60) ∧ (u.ps = [] → u.hs = [] → c ≠ 59) := fun c h => by
    refine ⟨⟨?_, ?_, ?_⟩, fun _ _ => ?_⟩ <;> (rintro rfl; revert h; decide)
  have w3 : ∀ c, isNm c = true → (c ≠ 62 ∧ c ≠ 34 ∧ c ≠ 60) ∧ (u.ps = [] → u.hs = [] → c ≠ 59) := fun c h => by
    refine ⟨⟨?_, ?_, ?_⟩, fun _ _ => ?_⟩ <;> (rintro rfl; revert h; decide)
  have w4 : ∀ c, wdq c = true ∨ c = 61 ∨ c = 59 ∨ c = 38 ∨ c = 63 → (c ≠ 62 ∧ c ≠ 34 ∧ c ≠ 60) := by
    rintro c (h | rfl | rfl | rfl | rfl)
    · refine ⟨?_, ?_, ?_⟩ <;> (rintro rfl; revert h; decide)
    all_goals decide
  have w5 : ∀ c : UInt8, c = 58 ∨ c = 64 → (c ≠ 62 ∧ c ≠ 34 ∧ c ≠ 60) ∧ (u.ps = [] → u.hs = [] → c ≠ 59) := by
    rintro c (rfl | rfl)
    all_goals exact ⟨by decide, fun _ _ => by decide⟩
  have hsc : ∀ c ∈ u.scheme, (c ≠ 62 ∧ c ≠ 34 ∧ c ≠ 60) ∧ (u.ps = [] → u.hs = [] → c ≠ 59) := by
    have k1 : ∀ c ∈ sSip, (c ≠ 62 ∧ c ≠ 34 ∧ c ≠ 60) ∧ c ≠ 59 := by decide
    have k2 : ∀ c ∈ sSips, (c ≠ 62 ∧ c ≠ 34 ∧ c ≠ 60) ∧ c ≠ 59 := by decide
    intro c hc
    rcases (good_scheme h).2.2.2.1 with e | e <;> rw [e] at hc
    · exact ⟨(k1 c hc).1, fun _ _ => (k1 c hc).2⟩
    · exact ⟨(k2 c hc).1, fun _ _ => (k2 c hc).2⟩
  obtain ⟨u1, u2, _⟩ := good_user h
  intro c hc
  rw [uText_good h, List.mem_append, List.mem_cons] at hc
  rcases hc with hc | hc | hc
  · exact hsc c hc
  · exact w5 c (.inl hc)
  · unfold goodRest at hc
    rw [List.mem_append, List.mem_append, List.mem_append, List.mem_append] at hc
    rcases hc with hc | hc | hc | hc | hc
    · split at hc
      · cases hc
      · rename_i hu
        rw [List.mem_append, List.mem_append] at hc
        rcases hc with hc | hc | hc
        · exact w1 c (u1.resolve_left hu c hc)
        · split at hc
          · cases hc
          · rw [List.mem_cons] at hc
            rcases hc with hc | hc
            · exact w5 c (.inl hc)
            · exact w1 c (u2 c hc)
        · exact w5 c (.inr (by simpa using hc))
    · exact w2 c ((host_parts h.host).1 c hc)
    · rcases good_port h with ⟨e, _⟩ | ⟨D, e, hD, _⟩ <;> rw [e] at hc
      · cases hc
      · rw [List.mem_cons] at hc
        rcases hc with hc | hc
        · exact w5 c (.inl hc)
        · exact w3 c (hD c hc)
    · refine ⟨w4 c ?_, fun hp _ => ?_⟩
      · rcases uPs_ch (fun x hx => ((prm_parts h.ps).2.1 x hx).1) c hc with h | h | h | h
        · exact .inl h
        · exact .inr (.inl h)
        · exact .inr (.inr (.inl h))
        · exact .inr (.inr (.inl h))
      · rw [hp] at hc
        cases hc
    · refine ⟨w4 c ?_, fun _ hp => ?_⟩
      · rcases uPs_ch (fun x hx => ((prm_parts h.hs).2.1 x hx).1) c hc with h | h | h | h
        · exact .inl h
        · exact .inr (.inl h)
        · exact .inr (.inr (.inr (.inr h)))
        · exact .inr (.inr (.inr (.inl h)))
      · rw [hp] at hc
        cases hc
theorem adTailB {l : KVs} {v : AV} {r : Option AV} (hl : prmB l false = true) (hne : l ≠ []) (hv : v.ps = []) (hr : ARun .prms (ptT l 59) v r) : r = some { v with ps := l } := by
  obtain ⟨_, h2, h3⟩ := prm_parts hl
  have hw := fun x hx => (h2 x hx).1
  have hp := pairs_word (sep := 59) (signs := tokenL) (by decide) (by decide) (by decide) hne hw h3
  rw [psText_pt hw] at hp
  exact prms_run hp hv hr
theorem adTailB2 {l : KVs} {v : AV} {r : Option AV} (hl : prmB l false = true) (hv : v.ps = []) (hr : ARun .prms (adTail l) v r) : r = some { v with ps := l } := by
  unfold adTail at hr
  by_cases hne : l = []
  · subst hne
    rw [if_pos rfl] at hr
    have h1 := arun_next (x := (.stop, [], v)) hr (by simp) (fun y hy => by
      have hy : y = some (aPrms [] v) := hy
      rw [hy]
      unfold aPrms
      rw [if_neg (by simp), addP_nil])
    rw [arun_stop h1]
    cases v
    simp only at hv
    subst hv
    rfl
  · rw [if_neg hne] at hr
    have h1 := arun_next (x := (.prms, ptT l 59, v)) hr (by simp) (fun y hy => by
      have hy : y = some (aPrms (59 :: ptT l 59) v) := hy
      rw [hy]
      have hi : ixOf (59 :: ptT l 59) 59 = 0 := ixOf_at (a := []) (fun x hx => by cases hx)
      unfold aPrms
      rw [hi, if_pos (by simp)]
      simp only [List.take_zero, addP_nil]
      rfl)
    exact adTailB hl hne hv h1
theorem adBrackB {u : PU} {T : Tx} {v : AV} {r : Option AV} (h : GoodU u) (hz : v.uri = PU.zero) (hr : ARun .brack (uText u ++ 62 :: T) v r) : ARun .prms T { v with uri := u } r :=
  arun_next (x := (.prms, T, { v with uri := u })) hr (by simp) (fun y hy => by
    have hy : (if ixOf (uText u ++ 62 :: T) 62 < (uText u ++ 62 :: T).length then aUri ((uText u ++ 62 :: T).take (ixOf (uText u ++ 62 :: T) 62)) .prms ((uText u ++ 62 :: T).drop (ixOf (uText u ++ 62 :: T) 62 + 1)) v y else y = none) := hy
    rw [ixOf_at (fun c hc => (uText_ch h c hc).1.1), if_pos (lt_mid _ _ _), take_mid, drop_mid] at hy
    obtain ⟨o, hp, rfl⟩ := hy
    rw [hz] at hp
    rw [law_back h hp]
    rfl)
theorem wdq_tkq {c : UInt8} (h : wdq c = true) : tkq c = true := by
  have h1 := wdq_alw h
  have hs : ∀ c ∈ wdL, tokenL.contains c = true := by decide
  unfold tkq
  rw [Bool.or_eq_true] at h1 ⊢
  rcases h1 with h1 | h1
  · exact .inl h1
  · exact .inr (hs c (by simpa using h1))
theorem uText_ne {u : PU} (h : GoodU u) : uText u ≠ [] := by
  rw [uText_good h]
  simp
/-- THE PLAIN LAW -/
theorem adText_law {s : Tx} {u : PU} {l : KVs} {form : Int} (h : GoodA s u l form) {r : Option AV} (hr : ATop (adHead s u form ++ adTail l) r) : r = some ⟨s, u, l⟩ := by
  have hch := uText_ch h.uri
  have key : ∀ (a : Tx), adHead s u form ++ adTail l = a ++ 60 :: (uText u ++ 62 :: adTail l) → ((∀ v, ARun .disp (a ++ 60 :: (uText u ++ 62 :: adTail l)) v r → v.name = [] → ARun .brack (uText u ++ 62 :: adTail l) { v with name := s } r)) → r = some ⟨s, u, l⟩ := by
    intro a e hk
    rw [e] at hr
    unfold ATop at hr
    rw [if_neg (by simp)] at hr
    have h1 := adBrackB h.uri rfl (hk _ hr rfl)
    exact adTailB2 h.ps rfl h1
  unfold adHead at key hr
  by_cases h2 : form = 2
  · obtain ⟨rfl, hp, hh⟩ := h.two h2
    rw [if_pos h2] at hr
    have hds : ∀ c ∈ uText u, dsEnd c = false ∧ c ≠ 59 := fun c hc => by
      obtain ⟨⟨_, a, b⟩, d⟩ := hch c hc
      have d := d hp hh
      exact ⟨by simp [dsEnd, a, b, d], d⟩
    unfold adTail at hr
    unfold ATop at hr
    by_cases hne : l = []
    · rw [if_pos hne, List.append_nil, if_neg (uText_ne h.uri)] at hr
      have h1 := disp_bare (fun c hc => (hds c hc).1) hr
      have hno : ¬ ixOf (uText u) 59 < (uText u).length := by
        rw [ixOf_no (fun c hc => (hds c hc).2)]
        omega
      have h3 := arun_next (x := (.stop, uText u, { AV.zero with uri := u })) h1 (by simp) (fun y hy => by
        have hy : (if uText u = [] then y = none else if ixOf (uText u) 59 < (uText u).length then aUri ((uText u).take (ixOf (uText u) 59)) .prms ((uText u).drop (ixOf (uText u) 59 + 1)) AV.zero y else aUri (uText u) .stop (uText u) AV.zero y) := hy
        rw [if_neg (uText_ne h.uri), if_neg hno] at hy
        obtain ⟨o, hp, rfl⟩ := hy
        rw [law_back h.uri hp]
        rfl)
      rw [arun_stop h3, hne]
      rfl
    · rw [if_neg hne, if_neg (by simp)] at hr
      have hi := findIdx_app (p := dsEnd) (a := uText u) (r := ptT l 59) (c := 59) (fun c hc => (hds c hc).1) (by rfl)
      have h1 := arun_next (x := (.uri, uText u ++ 59 :: ptT l 59, AV.zero)) hr (by simp) (fun y hy => by
        have hy : y = some (aDisp (uText u ++ 59 :: ptT l 59) AV.zero) := hy
        rw [hy]
        unfold aDisp
        simp only [hi]
        rw [if_pos (lt_mid _ _ _), getD_mid, if_neg (by decide), if_neg (by decide)])
      have h3 := arun_next (x := (.prms, ptT l 59, { AV.zero with uri := u })) h1 (by simp) (fun y hy => by
        have hy : (if uText u ++ 59 :: ptT l 59 = [] then y = none else if ixOf (uText u ++ 59 :: ptT l 59) 59 < (uText u ++ 59 :: ptT l 59).length then aUri ((uText u ++ 59 :: ptT l 59).take (ixOf (uText u ++ 59 :: ptT l 59) 59)) .prms ((uText u ++ 59 :: ptT l 59).drop (ixOf (uText u ++ 59 :: ptT l 59) 59 + 1)) AV.zero y else aUri (uText u ++ 59 :: ptT l 59) .stop (uText u ++ 59 :: ptT l 59) AV.zero y) := hy
        rw [if_neg (by simp), ixOf_at (fun c hc => (hds c hc).2), if_pos (lt_mid _ _ _), take_mid, drop_mid] at hy
        obtain ⟨o, hp, rfl⟩ := hy
        rw [law_back h.uri hp]
        rfl)
      exact adTailB h.ps hne rfl h3
  · rw [if_neg h2] at key
    by_cases hs : s = []
    · subst hs
      rw [if_neg (by simp), if_neg (by simp)] at key
      refine key [] (by unfold adBrack; simp) fun v hv hn => ?_
      have h1 := disp_brack (a := []) (fun x hx => by cases hx) hv
      exact h1
    · by_cases h1 : form = 1
      · rw [if_pos ⟨h1, hs⟩] at key
        obtain ⟨_, hw, _⟩ := word_k (h.one h1 hs)
        refine key (s ++ [32]) (by unfold adBrack; simp) fun v hv hn => ?_
        have hds : ∀ c ∈ s ++ [32], dsEnd c = false := fun c hc => by
          rw [List.mem_append] at hc
          rcases hc with hc | hc
          · have := tk_not (wdq_tkq (hw c hc))
            simp [dsEnd, this.2.2.1, this.2.2.2.1, this.2.1]
          · obtain rfl : c = 32 := by simpa using hc
            rfl
        have h3 := disp_brack hds hv
        obtain ⟨x, m, ex⟩ := List.exists_cons_of_ne_nil hs
        have hx := wdq_tkq (hw x (by rw [ex]; simp))
        have hy := wdq_tkq (hw (s.getLast hs) (List.getLast_mem hs))
        have ht : Lib.trimSpaceD (s ++ [32]) = s := trim_word (tk_not hx).2.2.2.2.2.2.1 (tk_not hx).2.2.2.2.2.2.2 ex (List.getLast?_eq_some_getLast hs) (tk_not hy).2.2.2.2.2.2.1 (tk_not hy).2.2.2.2.2.2.2
        rw [ht] at h3
        exact h3
      · rw [if_neg (by simp [h1]), if_pos hs] at key
        refine key (34 :: (s ++ [34, 32])) (by unfold adBrack; simp) fun v hv hn => ?_
        have e : 34 :: (s ++ [34, 32]) ++ 60 :: (uText u ++ 62 :: adTail l) = 34 :: (s ++ 34 :: 32 :: 60 :: (uText u ++ 62 :: adTail l)) := by simp
        rw [e] at hv
        exact quoted_run h.show_ (disp_quote hv)
end Go.Proofs.YteedhaenbamiaaaGreatDoor
