/- The plain law of a text of parameters that reads back. -/
import Derived.Test.YteedhaenbamiaaaGreatDoorLaw
import Derived.Test.YteedhaenbamiaaaGreatDoorText
import Derived.Test.YteedhaenbamiaaaGreatDoorLw
set_option linter.unusedVariables false
set_option linter.unusedSimpArgs false
namespace Go.Proofs.YteedhaenbamiaaaGreatDoor
open Go.RowKit

/-! ### words -/
def wdL : Tx := [45, 46, 33, 42, 95, 43, 126]
theorem wdq_alw {c : UInt8} (h : wdq c = true) : (isAn c || wdL.contains c) = true := by
  unfold wdq at h
  unfold isAn wdL
  simp only [Bool.or_eq_true, beq_iff_eq, List.contains_iff_mem, List.mem_cons, List.mem_nil_iff, or_false] at h ⊢
  rcases h with (((((((h | h) | h) | h) | h) | h) | h) | h) | h <;> simp [h]
theorem wdq_al {c : UInt8} (h : wdq c = true) : alw wdL c = true := by
  have := wdq_alw h
  unfold alw
  simp only [Bool.or_eq_true] at this ⊢
  rcases this with h | h
  · exact .inl (.inl h)
  · exact .inr h
def pceT (x : Tx × Tx) : Tx := x.1 ++ (if x.2 = [] then [] else 61 :: x.2)
def WdK (x : Tx × Tx) : Prop := x.1 ≠ [] ∧ (∀ c ∈ x.1, wdq c = true) ∧ (∀ c ∈ x.2, wdq c = true)
theorem wdq_not {c : UInt8} (h : wdq c = true) : c ≠ 61 ∧ c ≠ 59 ∧ c ≠ 38 ∧ c ≠ 63 ∧ c ≠ 37 ∧ c ≠ 91 ∧ c ≠ 64 ∧ c ≠ 32 ∧ c ≠ 9 := by
  have h := wdq_al h
  -- '%' is let through by alw; it is no word's byte
  refine ⟨ne_alw h rfl, ne_alw h rfl, ne_alw h rfl, ne_alw h rfl, ?_, ne_alw h rfl, ne_alw h rfl, ne_alw h rfl, ne_alw h rfl⟩
  rintro rfl
  rename_i h0
  revert h0; decide
theorem okOf_word {signs : Tx} (hs : ∀ c ∈ wdL, signs.contains c = true) : ∀ l : Tx, (∀ c ∈ l, wdq c = true) → okOf signs l = true := by
  intro l
  induction l with
  | nil => intro _; rfl
  | cons c r ih =>
    intro h
    have hc := h c (by simp)
    unfold okOf
    rw [if_neg (wdq_not hc).2.2.2.2.1, ih (fun c hc => h c (by simp [hc])), Bool.and_true]
    have := wdq_alw hc
    simp only [Bool.or_eq_true] at this ⊢
    rcases this with h | h
    · exact .inl h
    · exact .inr (hs c (by simpa using h))
theorem pcs_one {c : UInt8} : ∀ {a : Tx}, (∀ x ∈ a, x ≠ c) → pcs c a = [a] := by
  intro a
  induction a with
  | nil => intro _; rfl
  | cons x a ih =>
    intro h
    unfold pcs
    rw [if_neg (h x (by simp)), ih (fun y hy => h y (by simp [hy]))]
theorem pcs_app {c : UInt8} {r : Tx} : ∀ {a : Tx}, (∀ x ∈ a, x ≠ c) → pcs c (a ++ c :: r) = a :: pcs c r := by
  intro a
  induction a with
  | nil => intro _; simp [pcs]
  | cons x a ih =>
    intro h
    rw [List.cons_append]
    conv => lhs; unfold pcs
    rw [if_neg (h x (by simp)), ih (fun y hy => h y (by simp [hy]))]
theorem kvText_word {sep : UInt8} {x : Tx × Tx} (h : WdK x) : kvText sep x = sep :: pceT x := by
  have hb : x.2.any bl2 = false := by
    rw [List.any_eq_false]
    intro c hc
    have := wdq_not (h.2.2 c hc)
    simp [bl2, this.2.2.2.2.2.2.2.1, this.2.2.2.2.2.2.2.2]
  unfold kvText pceT
  rw [hb, if_neg (by simp)]
theorem pceT_mem {x : Tx × Tx} (h : WdK x) : ∀ c ∈ pceT x, wdq c = true ∨ c = 61 := by
  intro c hc
  unfold pceT at hc
  rw [List.mem_append] at hc
  rcases hc with hc | hc
  · exact .inl (h.2.1 c hc)
  · split at hc
    · cases hc
    · rw [List.mem_cons] at hc
      rcases hc with hc | hc
      · exact .inr hc
      · exact .inl (h.2.2 c hc)
theorem pceT_ne {x : Tx × Tx} (h : WdK x) {sep : UInt8} (hw : wdq sep = false) (he : sep ≠ 61) : ∀ c ∈ pceT x, c ≠ sep := by
  rintro c hc rfl
  rcases pceT_mem h c hc with h1 | h1
  · rw [hw] at h1; cases h1
  · exact he h1
theorem pcs_flat {sep : UInt8} (hw : wdq sep = false) (he : sep ≠ 61) : ∀ (l : KVs) (x : Tx × Tx), WdK x → (∀ y ∈ l, WdK y) → pcs sep (pceT x ++ l.flatMap (kvText sep)) = (x :: l).map pceT := by
  intro l
  induction l with
  | nil => intro x hx _; simp only [List.flatMap_nil, List.append_nil, List.map_cons, List.map_nil]; exact pcs_one (pceT_ne hx hw he)
  | cons y l ih =>
    intro x hx hl
    rw [List.flatMap_cons, kvText_word (hl y (by simp)), List.cons_append, pcs_app (pceT_ne hx hw he), ih y (hl y (by simp)) (fun z hz => hl z (by simp [hz]))]
    rfl
theorem ixOf_no {l : Tx} {c : UInt8} (h : ∀ x ∈ l, x ≠ c) : ixOf l c = l.length := by
  unfold ixOf
  rw [List.findIdx_eq_length]
  intro x hx
  simpa using h x hx
theorem kv_pce {x : Tx × Tx} (h : WdK x) : kvOf (pceT x) = x ∧ (x.2 = [] → ¬ ixOf (pceT x) 61 < (pceT x).length) := by
  obtain ⟨k, v⟩ := x
  have hk : ∀ c ∈ k, c ≠ 61 := fun c hc => (wdq_not (h.2.1 c hc)).1
  by_cases hv : v = []
  · subst hv
    have e : pceT (k, []) = k := by simp [pceT]
    have hi := ixOf_no hk
    rw [e]
    unfold kvOf
    rw [hi, if_neg (by omega)]
    exact ⟨rfl, fun _ => by omega⟩
  · have e : pceT (k, v) = k ++ 61 :: v := by simp [pceT, hv]
    have hi := ixOf_at (a := k) (c := 61) (r := v) hk
    rw [e]
    unfold kvOf
    rw [hi, if_pos (lt_mid _ _ _), take_mid, drop_mid]
    exact ⟨rfl, fun h => absurd h hv⟩
theorem kvOk_pce {signs : Tx} (hs : ∀ c ∈ wdL, signs.contains c = true) {x : Tx × Tx} (h : WdK x) : kvOk signs (pceT x) = true := by
  obtain ⟨e, hn⟩ := kv_pce h
  unfold kvOk
  rw [e, okOf_word hs _ h.2.1, okOf_word hs _ h.2.2]
  have h1 : x.1.isEmpty = false := by simpa using h.1
  rw [h1]
  by_cases hv : x.2 = []
  · rw [decide_eq_false (hn hv)]; rfl
  · have h2 : x.2.isEmpty = false := by simpa using hv
    rw [h2, Bool.and_false]; rfl
theorem pairs_word {sep : UInt8} {signs : Tx} {l : KVs} (hw : wdq sep = false) (he : sep ≠ 61) (hs : ∀ c ∈ wdL, signs.contains c = true) (hne : l ≠ []) (hl : ∀ x ∈ l, WdK x) (hap : apB l = true) :
    pairsS (psText l sep) sep signs = some l := by
  obtain ⟨x, r, rfl⟩ := List.exists_cons_of_ne_nil hne
  have e : psText (x :: r) sep = pceT x ++ r.flatMap (kvText sep) := by
    unfold psText
    rw [List.flatMap_cons, kvText_word (hl x (by simp))]
    rfl
  have hp := pcs_flat hw he r x (hl x (by simp)) (fun y hy => hl y (by simp [hy]))
  have hm : ((x :: r).map pceT).map kvOf = x :: r := by
    rw [List.map_map]
    conv => rhs; rw [← List.map_id (x :: r)]
    exact List.map_congr_left fun y hy => (kv_pce (hl y hy)).1
  unfold pairsS
  rw [e, hp, hm, hap, Bool.and_true, if_pos]
  rw [List.all_eq_true]
  intro p hp
  obtain ⟨y, hy, rfl⟩ := List.mem_map.1 hp
  exact kvOk_pce hs (hl y hy)
theorem psText_mem {sep : UInt8} {l : KVs} (hl : ∀ x ∈ l, WdK x) : ∀ c ∈ psText l sep, wdq c = true ∨ c = 61 ∨ c = sep := by
  intro c hc
  unfold psText at hc
  have hc := List.mem_of_mem_drop hc
  obtain ⟨x, hx, hc⟩ := List.mem_flatMap.1 hc
  rw [kvText_word (hl x hx), List.mem_cons] at hc
  rcases hc with hc | hc
  · exact .inr (.inr hc)
  · rcases pceT_mem (hl x hx) c hc with h | h
    · exact .inl h
    · exact .inr (.inl h)

/-! ### the text of parameters, as the laws write it -/
def ptT : KVs → UInt8 → Tx
  | [], _ => []
  | x :: r, sep => pceT x ++ r.flatMap (fun y => sep :: pceT y)
/-- the text of the first k -/
def ptP (l : KVs) (sep : UInt8) (k : Nat) : Tx := ptT (l.take k) sep
theorem ptP_succ {l : KVs} {sep : UInt8} {k : Nat} (h : k < l.length) : ptP l sep (k + 1) = ptP l sep k ++ ((if 0 < k then [sep] else []) ++ pceT l[k]) := by
  unfold ptP
  rw [List.take_succ_eq_append_getElem h]
  cases k with
  | zero => simp [ptT]
  | succ k =>
    cases l with
    | nil => simp at h
    | cons x r =>
      simp only [List.take_succ_cons, List.cons_append, ptT, List.flatMap_append, List.flatMap_cons, List.flatMap_nil, List.append_nil]
      rw [if_pos (by omega)]
      simp [List.append_assoc]
theorem ptP_all (l : KVs) (sep : UInt8) : ptP l sep l.length = ptT l sep := by unfold ptP; rw [List.take_length]
theorem pceT_len (x : Tx × Tx) : (pceT x).length ≤ x.1.length + x.2.length + 1 := by
  unfold pceT
  rw [List.length_append]
  split
  · simp; omega
  · rw [List.length_cons]; omega
theorem ptP_len {l : KVs} {sep : UInt8} {N : Nat} (hx : ∀ x ∈ l, x.1.length + x.2.length ≤ N) : ∀ k, k ≤ l.length → (ptP l sep k).length ≤ k * (N + 2) := by
  intro k
  induction k with
  | zero => intro _; simp [ptP, ptT]
  | succ k ih =>
    intro hk
    have h1 := ih (by omega)
    rw [ptP_succ (by omega), List.length_append, List.length_append]
    have h2 := pceT_len (l[k]'(by omega))
    have h3 := hx (l[k]'(by omega)) (List.getElem_mem _)
    have h4 : (if 0 < k then [sep] else ([] : Tx)).length ≤ 1 := by split <;> simp
    rw [Nat.succ_mul]
    omega
theorem flat_word {sep : UInt8} : ∀ {l : KVs}, (∀ x ∈ l, WdK x) → l.flatMap (kvText sep) = l.flatMap (fun y => sep :: pceT y) := by
  intro l
  induction l with
  | nil => intro _; rfl
  | cons x r ih =>
    intro h
    rw [List.flatMap_cons, List.flatMap_cons, kvText_word (h x (by simp)), ih (fun y hy => h y (by simp [hy]))]
theorem psText_pt {sep : UInt8} {l : KVs} (h : ∀ x ∈ l, WdK x) : psText l sep = ptT l sep := by
  unfold psText
  cases l with
  | nil => rfl
  | cons x r =>
    rw [List.flatMap_cons, kvText_word (h x (by simp)), flat_word (fun y hy => h y (by simp [hy]))]
    rfl
theorem word_k {l : Tx} (h : wordB l = true) : l ≠ [] ∧ (∀ c ∈ l, wdq c = true) ∧ l.length ≤ 8192 := by
  unfold wordB at h
  simp only [Bool.and_eq_true, decide_eq_true_eq] at h
  exact ⟨List.length_pos_iff.1 h.1.2, fun c hc => List.all_eq_true.1 h.1.1 c hc, h.2⟩
theorem prq_k {x : Tx × Tx} {f : Bool} (h : prq f x = true) : WdK x ∧ x.1.length ≤ 8192 ∧ x.2.length ≤ 8192 := by
  unfold prq at h
  simp only [Bool.and_eq_true, Bool.or_eq_true, decide_eq_true_eq] at h
  obtain ⟨h1, h2, h3⟩ := word_k h.1
  rcases h.2 with h4 | ⟨_, h4⟩
  · obtain ⟨_, g2, g3⟩ := word_k h4
    exact ⟨⟨h1, h2, g2⟩, h3, g3⟩
  · have e := List.eq_nil_of_length_eq_zero h4
    exact ⟨⟨h1, h2, by rw [e]; simp⟩, h3, by omega⟩
structure PrmG (l : KVs) : Prop where
  len : l.length ≤ 64
  wd : ∀ x ∈ l, WdK x
  sm : ∀ x ∈ l, x.1.length ≤ 8192 ∧ x.2.length ≤ 8192
  ap : apB l = true
theorem prm_k {l : KVs} {f : Bool} (h : prmB l f = true) : PrmG l := by
  unfold prmB at h
  simp only [Bool.and_eq_true, decide_eq_true_eq] at h
  have hq : ∀ x ∈ l, prq f x = true := fun x hx => List.all_eq_true.1 h.1.2 x hx
  exact ⟨h.1.1, fun x hx => (prq_k (hq x hx)).1, fun x hx => (prq_k (hq x hx)).2, h.2⟩
theorem PrmG.ptlen {l : KVs} (h : PrmG l) (sep : UInt8) : ∀ k ≤ l.length, (ptP l sep k).length ≤ 2097152 := by
  intro k hk
  have := ptP_len (sep := sep) (N := 16384) (fun x hx => by have := h.sm x hx; omega) k hk
  have h2 := h.len
  have h3 : k * (16384 + 2) ≤ 64 * 16386 := Nat.mul_le_mul (by omega) (by omega)
  omega
theorem wdL_low : ∀ c ∈ wdL, c.toNat < 128 ∧ spB c = false := by decide
/-- what is read of a text of right parameters and what follows it -/
theorem back_tail {l : KVs} {sep : UInt8} {tl t : Tx} (h : PrmG l) (hne : l ≠ []) (hs : sep = 59 ∨ sep = 38) (htl : ends 63 tl) (hlast : tl ≠ [] → lastV l ≠ []) (ht : TrimT (ptT l sep ++ tl) t) :
    unm t sep 63 [] = ((ptT l sep).length, l) := by
  have hw : wdq sep = false := by rcases hs with rfl | rfl <;> decide
  have h61 : sep ≠ 61 := by rcases hs with rfl | rfl <;> decide
  have h34 : sep ≠ 34 := by rcases hs with rfl | rfl <;> decide
  have h63 : sep ≠ 63 := by rcases hs with rfl | rfl <;> decide
  have hal : alw wdL sep = false := by rcases hs with rfl | rfl <;> decide
  have hp := pairs_word hw h61 (signs := wdL) (fun c hc => by simpa using hc) hne h.wd h.ap
  obtain ⟨_, x, r, e, hx⟩ := pairs_head hp
  rw [psText_pt h.wd] at hp e
  have et : t = ptT l sep ++ tl := trim_eq wdL_low ht (x := x) (r := r ++ tl) (by rw [e]; rfl) hx
  rw [et]
  exact unm_pairs hal (by decide) (by decide) (by decide) h61 (by decide) h34 h63 htl hp hlast
theorem back_all {l : KVs} {sep : UInt8} {t : Tx} (h : PrmG l) (hs : sep = 59 ∨ sep = 38) (ht : TrimT (ptT l sep) t) : (unm t sep 63 []).2 = l := by
  by_cases hne : l = []
  · subst hne
    have e : t = [] := ht.2.2 rfl
    rw [e]
    rfl
  · have := back_tail (tl := []) h hne hs (.inl rfl) (fun hh => absurd rfl hh) (by rw [List.append_nil]; exact ht)
    rw [this]
end Go.Proofs.YteedhaenbamiaaaGreatDoor
