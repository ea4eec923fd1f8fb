/- The plain law: what the package reads of a text of a URI is what the specification tells. -/
import Derived.Test.YtbdeohmdpkkpdaaGreatDoorSpecU
import Derived.Test.YtbdeohmdpkkpdaaGreatDoorParse6
set_option linter.unusedVariables false
set_option linter.unusedSimpArgs false
namespace Go.Proofs.YtbdeohmdpkkpdaaGreatDoor
open Go.RowKit

/-! ### pieces -/
def joinS (sp : UInt8) : List Tx → Tx
  | [] => []
  | [p] => p
  | p :: q :: r => p ++ sp :: joinS sp (q :: r)
theorem pcs_cons (c : UInt8) (l : Tx) : ∃ p ps, pcs c l = p :: ps := by
  cases l with
  | nil => exact ⟨_, _, rfl⟩
  | cons x r =>
    unfold pcs
    split
    · exact ⟨_, _, rfl⟩
    · split <;> exact ⟨_, _, rfl⟩
theorem join_pcs (c : UInt8) (l : Tx) : joinS c (pcs c l) = l := by
  induction l with
  | nil => rfl
  | cons x r ih =>
    obtain ⟨p, ps, hp⟩ := pcs_cons c r
    rw [hp] at ih
    unfold pcs
    rw [hp]
    by_cases hx : x = c
    · rw [if_pos hx, hx]
      show [] ++ c :: joinS c (p :: ps) = _
      rw [ih]; rfl
    · rw [if_neg hx]
      show joinS c ((x :: p) :: ps) = x :: r
      cases ps with
      | nil => show x :: p = x :: r; rw [← ih]; rfl
      | cons q t =>
        show (x :: p) ++ c :: joinS c (q :: t) = x :: r
        rw [← ih]; rfl
def alw (signs : Tx) (c : UInt8) : Bool := isAn c || c == 37 || signs.contains c
theorem hx_an {a : UInt8} (h : isHx a = true) : isAn a = true := by
  simp only [isHx, isAn, isAl, isNm, Bool.or_eq_true, Bool.and_eq_true, decide_eq_true_eq, UInt8.le_iff_toNat_le] at h ⊢
  have e1 : (48 : UInt8).toNat = 48 := rfl
  have e2 : (57 : UInt8).toNat = 57 := rfl
  have e3 : (97 : UInt8).toNat = 97 := rfl
  have e4 : (102 : UInt8).toNat = 102 := rfl
  have e5 : (65 : UInt8).toNat = 65 := rfl
  have e6 : (70 : UInt8).toNat = 70 := rfl
  have e7 : (122 : UInt8).toNat = 122 := rfl
  have e8 : (90 : UInt8).toNat = 90 := rfl
  omega
theorem alw_an {signs : Tx} {c : UInt8} (h : isAn c = true) : alw signs c = true := by unfold alw; rw [h]; rfl
theorem okOf_alw (signs : Tx) : ∀ (n : Nat) (l : Tx), l.length ≤ n → okOf signs l = true → ∀ c ∈ l, alw signs c = true := by
  intro n
  induction n with
  | zero => intro l hl _ c hc; rw [List.eq_nil_of_length_eq_zero (by omega : l.length = 0)] at hc; cases hc
  | succ n ih =>
    intro l hl h c hc
    cases l with
    | nil => cases hc
    | cons x r =>
      unfold okOf at h
      simp only [List.length_cons] at hl
      by_cases hx : x = 37
      · rw [if_pos hx] at h
        match r, h with
        | [], h => cases h
        | [_], h => cases h
        | a :: b :: r', h =>
          simp only [Bool.and_eq_true] at h
          simp only [List.length_cons] at hl
          simp only [List.mem_cons] at hc
          rcases hc with rfl | rfl | rfl | hc
          · unfold alw; rw [hx]; simp
          · exact alw_an (hx_an h.1.1)
          · exact alw_an (hx_an h.1.2)
          · exact ih r' (by omega) h.2 c hc
      · rw [if_neg hx] at h
        simp only [Bool.and_eq_true] at h
        simp only [List.mem_cons] at hc
        rcases hc with rfl | hc
        · unfold alw
          simp only [Bool.or_eq_true] at h ⊢
          rcases h.1 with h | h
          · exact .inl (.inl h)
          · exact .inr h
        · exact ih r (by omega) h.2 c hc
theorem okOf_all {signs l : Tx} (h : okOf signs l = true) : ∀ c ∈ l, alw signs c = true := okOf_alw signs _ l (Nat.le_refl _) h
theorem ne_alw {signs : Tx} {c d : UInt8} (h : alw signs c = true) (k : alw signs d = false) : c ≠ d := by rintro rfl; rw [h] at k; cases k

theorem ixOf_split {l : Tx} {c : UInt8} (h : ixOf l c < l.length) : l = l.take (ixOf l c) ++ c :: l.drop (ixOf l c + 1) ∧ ∀ x ∈ l.take (ixOf l c), x ≠ c := by
  have h0 : l[ixOf l c] = c := by
    have := List.findIdx_getElem (xs := l) (p := (· == c)) (w := h)
    exact eq_of_beq this
  constructor
  · have e := (List.take_append_drop (ixOf l c) l).symm
    rw [List.drop_eq_getElem_cons h, h0] at e
    exact e
  · intro x hx
    obtain ⟨i, hi, e⟩ := List.mem_take_iff_getElem.1 hx
    have := List.not_of_lt_findIdx (xs := l) (p := (· == c)) (i := i) (by unfold ixOf at hi; omega)
    rw [e] at this
    simpa using this
theorem ixOf_none {l : Tx} {c : UInt8} (h : ¬ ixOf l c < l.length) : ∀ x ∈ l, x ≠ c := by
  have h1 : l.findIdx (· == c) = l.length := by
    have := List.findIdx_le_length (xs := l) (p := (· == c))
    unfold ixOf at h
    omega
  rw [List.findIdx_eq_length] at h1
  intro x hx
  simpa using h1 x hx
theorem ixOf_at {a r : Tx} {c : UInt8} (h : ∀ x ∈ a, x ≠ c) : ixOf (a ++ c :: r) c = a.length := by
  unfold ixOf
  rw [List.findIdx_eq (by simp)]
  refine ⟨by simp, fun j hj => ?_⟩
  rw [List.getElem_append_left hj]
  simpa using h a[j] (List.getElem_mem hj)

theorem kvOk_cases {signs p : Tx} (h : kvOk signs p = true) : ∃ k v, kvOf p = (k, v) ∧ k ≠ [] ∧ (∀ c ∈ k, alw signs c = true) ∧ (∀ c ∈ v, alw signs c = true) ∧ ((v = [] ∧ p = k) ∨ (v ≠ [] ∧ p = k ++ 61 :: v)) := by
  unfold kvOk at h
  simp only [Bool.and_eq_true, Bool.not_eq_true', Bool.and_eq_false_iff, List.isEmpty_eq_false_iff, decide_eq_false_iff_not] at h
  obtain ⟨⟨⟨h1, h2⟩, h3⟩, h4⟩ := h
  refine ⟨(kvOf p).1, (kvOf p).2, rfl, h2, okOf_all h3, okOf_all h4, ?_⟩
  unfold kvOf at h1 h2 ⊢
  by_cases hi : ixOf p 61 < p.length
  · rw [if_pos hi] at h1 ⊢
    rcases h1 with h1 | h1
    · exact absurd hi h1
    · exact .inr ⟨h1, (ixOf_split hi).1⟩
  · rw [if_neg hi]
    exact .inl ⟨rfl, rfl⟩

theorem addKV_none {l : KVs} {k v : Tx} (h : ∀ x ∈ l, x.1 ≠ k) : addKV l k v = l ++ [(k, v)] := by
  induction l with
  | nil => rfl
  | cons x r ih =>
    unfold addKV
    rw [if_neg (h x (by simp)), ih fun y hy => h y (by simp [hy])]
    rfl
theorem sub_mid (a k r : Tx) : sub (a ++ (k ++ r)) a.length (a.length + k.length) = k := by
  unfold sub
  rw [← List.append_assoc, List.take_append_of_le_length (by simp), List.take_of_length_le (by simp), List.drop_left]

/-! ### the reader of parameters -/
theorem um_scan2 {l : Tx} {sp en : UInt8} {m : UM} (hm : m.state = 2) : ∀ (n i j : Nat), j = i + n → j ≤ l.length → (∀ t (ht : t < l.length), i ≤ t → t < j → l[t] ≠ sp ∧ l[t] ≠ en ∧ l[t] ≠ 61) → umR l sp en i m = umR l sp en j m := by
  intro n
  induction n with
  | zero => intro i j e _ _; rw [e]; rfl
  | succ n ih =>
    intro i j e hj h
    have hi : i < l.length := by omega
    obtain ⟨h1, h2, h3⟩ := h i hi (Nat.le_refl _) (by omega)
    rw [umR_step hi h2, umStep_2 hm, if_neg h1, if_neg h3]
    exact ih (i + 1) j (by omega) hj fun t ht a b => h t ht (by omega) b
theorem um_scan3 {l : Tx} {sp en : UInt8} {m : UM} (hm : m.state = 3) : ∀ (n i j : Nat), j = i + n → j ≤ l.length → (∀ t (ht : t < l.length), i ≤ t → t < j → l[t] ≠ sp ∧ l[t] ≠ en ∧ l[t] ≠ 34) → umR l sp en i m = umR l sp en j m := by
  intro n
  induction n with
  | zero => intro i j e _ _; rw [e]; rfl
  | succ n ih =>
    intro i j e hj h
    have hi : i < l.length := by omega
    obtain ⟨h1, h2, h3⟩ := h i hi (Nat.le_refl _) (by omega)
    rw [umR_step hi h2, umStep_3 hm, if_neg h3, if_neg h1]
    exact ih (i + 1) j (by omega) hj fun t ht a b => h t ht (by omega) b
theorem get_mid (a k r : Tx) (t : Nat) (h : t < k.length) (h' : a.length + t < (a ++ (k ++ r)).length) : (a ++ (k ++ r))[a.length + t] = k[t] := by
  rw [List.getElem_append_right (by omega), List.getElem_append_left (by omega)]
  congr 1; omega
theorem mem_mid {a k r : Tx} {P : UInt8 → Prop} (h : ∀ c ∈ k, P c) {t i j : Nat} (ht : t < (a ++ (k ++ r)).length) (h1 : a.length ≤ t) (h2 : t < a.length + k.length) : P ((a ++ (k ++ r))[t]) := by
  have e : t = a.length + (t - a.length) := by omega
  have h3 : t - a.length < k.length := by omega
  have := get_mid a k r (t - a.length) h3 (by omega)
  have h4 : (a ++ (k ++ r))[t] = k[t - a.length] := by rw [← this]; congr 1
  rw [h4]
  exact h _ (List.getElem_mem h3)
theorem um_key {l a k r : Tx} {sp en : UInt8} {signs : Tx} (hsp : alw signs sp = false) (hen : alw signs en = false) (he : alw signs 61 = false)
    (hl : l = a ++ (k ++ r)) (hk : k ≠ []) (ha : ∀ c ∈ k, alw signs c = true) (s0 q0 : Nat) (qt : Int) (acc : KVs) :
    umR l sp en a.length ⟨s0, q0, qt, 1, acc⟩ = umR l sp en (a.length + k.length) ⟨a.length, 0, qt, 2, acc⟩ := by
  subst hl
  have hk0 : 0 < k.length := List.length_pos_iff.2 hk
  have hlt : a.length < (a ++ (k ++ r)).length := by simp only [List.length_append]; omega
  have h0 : (a ++ (k ++ r))[a.length] ≠ en := mem_mid (P := (· ≠ en)) (fun c hc => ne_alw (ha c hc) hen) (i := 0) (j := 0) hlt (Nat.le_refl _) (by omega)
  rw [umR_step hlt h0, umStep_1 rfl]
  refine um_scan2 rfl (k.length - 1) _ _ (by omega) (by simp only [List.length_append]; omega) fun t ht h1 h2 => ?_
  have h := mem_mid (P := (alw signs · = true)) ha (i := 0) (j := 0) ht (by omega) h2
  exact ⟨ne_alw h hsp, ne_alw h hen, ne_alw h he⟩
theorem um_val {l a k v r : Tx} {sp en : UInt8} {signs : Tx} (hsp : alw signs sp = false) (hen : alw signs en = false) (hq : alw signs 34 = false) (h1 : sp ≠ 61) (h2 : en ≠ 61)
    (hl : l = a ++ (k ++ 61 :: (v ++ r))) (ha : ∀ c ∈ v, alw signs c = true) (qt : Int) (acc : KVs) :
    umR l sp en (a.length + k.length) ⟨a.length, 0, qt, 2, acc⟩ = umR l sp en (a.length + k.length + 1 + v.length) ⟨a.length, a.length + k.length, qt, 3, acc⟩ := by
  have hlt : a.length + k.length < l.length := by rw [hl]; simp only [List.length_append, List.length_cons]; omega
  have e : l = (a ++ k ++ [61]) ++ (v ++ r) := by rw [hl]; simp
  have h0 : l[a.length + k.length] = 61 := by
    have e1 : l[a.length + k.length]? = some 61 := by
      rw [hl, ← List.append_assoc, show a.length + k.length = (a ++ k).length from by simp, List.getElem?_append_right (Nat.le_refl _)]
      simp
    rw [List.getElem?_eq_getElem hlt] at e1
    injection e1
  rw [umR_step hlt (by rw [h0]; exact fun h => h2 h.symm), umStep_2 rfl, h0, if_neg (fun h => h1 h.symm), if_pos rfl]
  subst e
  have hal : (a ++ k ++ [61]).length = a.length + k.length + 1 := by simp only [List.length_append, List.length_cons, List.length_nil]
  refine um_scan3 rfl v.length _ _ (by omega) (by simp only [List.length_append, List.length_cons, List.length_nil]; omega) fun t ht h1 h2 => ?_
  have h := mem_mid (P := (alw signs · = true)) ha (i := 0) (j := 0) ht (by omega) (by omega)
  exact ⟨ne_alw h hsp, ne_alw h hen, ne_alw h hq⟩

def ends (en : UInt8) (tl : Tx) : Prop := tl = [] ∨ ∃ t, tl = en :: t
theorem um_stop {l b tl : Tx} {sp en : UInt8} {m : UM} (hl : l = b ++ tl) (h : ends en tl) : umR l sp en b.length m = (b.length, m) := by
  rcases h with rfl | ⟨t, rfl⟩
  · have e : l.length = b.length := by rw [hl]; simp
    rw [umR_end e, e]
  · subst hl
    exact umR_hit (by simp) (by rw [List.getElem_append_right (Nat.le_refl _)]; simp)

theorem um_pieces {l : Tx} {sp en : UInt8} {signs : Tx} (hsp : alw signs sp = false) (hen : alw signs en = false) (hq : alw signs 34 = false) (he : alw signs 61 = false)
    (h1 : sp ≠ 61) (h2 : en ≠ 61) (h3 : sp ≠ 34) (h4 : sp ≠ en) (tl : Tx) (htl : ends en tl) :
    ∀ (ps : List Tx) (p : Tx) (a : Tx) (acc : KVs) (s0 q0 : Nat) (qt : Int), l = a ++ (joinS sp (p :: ps) ++ tl) → (∀ x ∈ p :: ps, kvOk signs x = true) →
      (tl ≠ [] → lastV ((p :: ps).map kvOf) ≠ []) → (acc ++ (p :: ps).map kvOf).Pairwise (fun x y => x.1 ≠ y.1) →
      ∃ m', umR l sp en a.length ⟨s0, q0, qt, 1, acc⟩ = (a.length + (joinS sp (p :: ps)).length, m') ∧ umEnd l (a.length + (joinS sp (p :: ps)).length) m' = acc ++ (p :: ps).map kvOf := by
  intro ps
  induction ps with
  | nil =>
    intro p a acc s0 q0 qt hl hok hlast hpw
    obtain ⟨k, v, hkv, hk, hka, hva, hc⟩ := kvOk_cases (hok p (by simp))
    have hk0 : 0 < k.length := List.length_pos_iff.2 hk
    have hnew : ∀ x ∈ acc, x.1 ≠ k := by
      have := (List.pairwise_append.1 hpw).2.2
      intro x hx
      have h5 := this x hx (kvOf p) (by simp)
      rw [hkv] at h5
      exact h5
    simp only [joinS, List.map_cons, List.map_nil] at hl hlast ⊢
    rw [hkv] at hlast ⊢
    rcases hc with ⟨rfl, rfl⟩ | ⟨hv, rfl⟩
    · have htl0 : tl = [] := by
        by_cases h : tl = []
        · exact h
        · exact absurd rfl (hlast h)
      subst htl0
      refine ⟨⟨a.length, 0, qt, 2, acc⟩, ?_, ?_⟩
      · rw [um_key hsp hen he hl hk hka]
        have := um_stop (l := l) (b := a ++ p) (sp := sp) (m := ⟨a.length, 0, qt, 2, acc⟩) (by rw [hl]; simp) htl
        rw [List.length_append] at this
        exact this
      · rw [umEnd_b rfl (by omega), hl, List.drop_left, List.append_nil, addKV_none hnew]
    · have hl' : l = a ++ (k ++ 61 :: (v ++ tl)) := by rw [hl]; simp
      refine ⟨⟨a.length, a.length + k.length, qt, 3, acc⟩, ?_, ?_⟩
      · rw [um_key hsp hen he hl' hk hka, um_val hsp hen hq h1 h2 hl' hva]
        have := um_stop (l := l) (b := a ++ (k ++ 61 :: v)) (sp := sp) (m := ⟨a.length, a.length + k.length, qt, 3, acc⟩) (by rw [hl']; simp) htl
        have e : (a ++ (k ++ 61 :: v)).length = a.length + k.length + 1 + v.length := by simp only [List.length_append, List.length_cons]; omega
        rw [e] at this
        rw [this]
        congr 1
        simp only [List.length_append, List.length_cons]; omega
      · have e1 : sub l a.length (a.length + k.length) = k := by rw [hl']; exact sub_mid a k _
        have e2 : sub l (a.length + k.length + 1) (a.length + (k ++ 61 :: v).length) = v := by
          have := sub_mid (a ++ (k ++ [61])) v tl
          have e3 : (a ++ (k ++ [61])) ++ (v ++ tl) = l := by rw [hl']; simp
          rw [e3] at this
          have e4 : a.length + k.length + 1 = (a ++ (k ++ [61])).length := by simp only [List.length_append, List.length_cons, List.length_nil]; omega
          have e5 : a.length + (k ++ 61 :: v).length = (a ++ (k ++ [61])).length + v.length := by simp only [List.length_append, List.length_cons, List.length_nil]; omega
          rw [e4, e5]
          exact this
        rw [umEnd_a (by omega) (by omega), e1, e2, addKV_none hnew]
  | cons q r ih =>
    intro p a acc s0 q0 qt hl hok hlast hpw
    obtain ⟨k, v, hkv, hk, hka, hva, hc⟩ := kvOk_cases (hok p (by simp))
    have hk0 : 0 < k.length := List.length_pos_iff.2 hk
    have hnew : ∀ x ∈ acc, x.1 ≠ k := by
      have := (List.pairwise_append.1 hpw).2.2
      intro x hx
      have h5 := this x hx (kvOf p) (by simp)
      rw [hkv] at h5
      exact h5
    have hj : joinS sp (p :: q :: r) = p ++ sp :: joinS sp (q :: r) := rfl
    rw [hj] at hl ⊢
    have hpw2 : ((acc ++ [(k, v)]) ++ (q :: r).map kvOf).Pairwise (fun x y => x.1 ≠ y.1) := by
      rw [List.append_assoc]
      rw [List.map_cons, hkv] at hpw
      exact hpw
    have hlast2 : tl ≠ [] → lastV ((q :: r).map kvOf) ≠ [] := by
      intro h
      have h5 := hlast h
      unfold lastV at h5 ⊢
      simp only [List.map_cons, List.getLast?_cons_cons] at h5 ⊢
      exact h5
    have hal : (a ++ (p ++ [sp])).length = a.length + p.length + 1 := by simp only [List.length_append, List.length_cons, List.length_nil]; omega
    have hla : l = (a ++ (p ++ [sp])) ++ (joinS sp (q :: r) ++ tl) := by rw [hl]; simp
    have hix : a.length + p.length < l.length := by rw [hl]; simp only [List.length_append, List.length_cons]; omega
    have hsep : l[a.length + p.length] = sp := by
      subst hl
      rw [List.getElem_append_right (by omega), List.getElem_append_left (by simp only [List.length_append, List.length_cons]; omega), List.getElem_append_right (by omega)]
      simp
    have hfin : ∀ s0 q0, ∃ m', umR l sp en (a.length + p.length + 1) ⟨s0, q0, qt, 1, acc ++ [(k, v)]⟩ = (a.length + (p ++ sp :: joinS sp (q :: r)).length, m') ∧ umEnd l (a.length + (p ++ sp :: joinS sp (q :: r)).length) m' = acc ++ (p :: q :: r).map kvOf := by
      intro s0 q0
      obtain ⟨m', e1, e2⟩ := ih q (a ++ (p ++ [sp])) (acc ++ [(k, v)]) s0 q0 qt hla (fun x hx => hok x (by simp only [List.mem_cons] at hx ⊢; exact .inr hx)) hlast2 hpw2
      rw [hal] at e1 e2
      have e3 : a.length + (p ++ sp :: joinS sp (q :: r)).length = a.length + p.length + 1 + (joinS sp (q :: r)).length := by simp only [List.length_append, List.length_cons]; omega
      refine ⟨m', by rw [e3]; exact e1, ?_⟩
      rw [e3, e2, List.append_assoc, List.map_cons (a := p), hkv]
      rfl
    rcases hc with ⟨rfl, rfl⟩ | ⟨hv, hp⟩
    · have hl' : l = a ++ (p ++ (sp :: (joinS sp (q :: r) ++ tl))) := by rw [hl]; simp
      rw [um_key hsp hen he hl' hk hka, umR_step hix (by rw [hsep]; exact h4), umStep_2 rfl, hsep, if_pos rfl]
      have e1 : sub l a.length (a.length + p.length) = p := by rw [hl']; exact sub_mid a p _
      dsimp only
      rw [e1, addKV_none hnew]
      exact hfin _ _
    · have hl' : l = a ++ (k ++ 61 :: (v ++ (sp :: (joinS sp (q :: r) ++ tl)))) := by rw [hl, hp]; simp
      have hpl : p.length = k.length + 1 + v.length := by rw [hp]; simp only [List.length_append, List.length_cons]; omega
      have ee : a.length + k.length + 1 + v.length = a.length + p.length := by omega
      rw [um_key hsp hen he hl' hk hka, um_val hsp hen hq h1 h2 hl' hva, ee, umR_step hix (by rw [hsep]; exact h4), umStep_3 rfl, hsep, if_neg h3, if_pos rfl]
      have e1 : sub l a.length (a.length + k.length) = k := by rw [hl']; exact sub_mid a k _
      have e2 : sub l (a.length + k.length + 1) (a.length + p.length) = v := by
        have := sub_mid (a ++ (k ++ [61])) v (sp :: (joinS sp (q :: r) ++ tl))
        have e3 : (a ++ (k ++ [61])) ++ (v ++ (sp :: (joinS sp (q :: r) ++ tl))) = l := by rw [hl']; simp
        rw [e3] at this
        have e4 : (a ++ (k ++ [61])).length = a.length + k.length + 1 := by simp only [List.length_append, List.length_cons, List.length_nil]; omega
        rw [e4, ee] at this
        exact this
      dsimp only
      rw [e1, e2, addKV_none hnew]
      exact hfin _ _

theorem pw_ne {l : KVs} (h : apB l = true) : l.Pairwise (fun x y => x.1 ≠ y.1) := by
  unfold apB at h
  exact (of_decide_eq_true h).imp fun h e => h (by rw [e])
theorem unm_pairs {Q tl : Tx} {sp en : UInt8} {signs : Tx} {kvs : KVs} (hsp : alw signs sp = false) (hen : alw signs en = false) (hq : alw signs 34 = false) (he : alw signs 61 = false)
    (h1 : sp ≠ 61) (h2 : en ≠ 61) (h3 : sp ≠ 34) (h4 : sp ≠ en) (htl : ends en tl) (h : pairsS Q sp signs = some kvs) (hlast : tl ≠ [] → lastV kvs ≠ []) :
    unm (Q ++ tl) sp en [] = (Q.length, kvs) := by
  unfold pairsS at h
  split at h
  · rename_i hc
    injection h with h
    simp only [Bool.and_eq_true] at hc
    obtain ⟨p, ps, hp⟩ := pcs_cons sp Q
    have hj := join_pcs sp Q
    rw [hp] at h hc hj
    obtain ⟨m, e1, e2⟩ := um_pieces (l := Q ++ tl) hsp hen hq he h1 h2 h3 h4 tl htl ps p [] [] 0 0 (-1) (by rw [hj]; rfl) (fun x hx => List.all_eq_true.1 hc.1 x hx) (by rw [h]; exact hlast) (by rw [List.nil_append]; exact pw_ne hc.2)
    rw [hj] at e1 e2
    simp only [List.length_nil, Nat.zero_add, List.nil_append] at e1 e2
    rw [unm_of e1, e2, h]
  · cases h
end Go.Proofs.YtbdeohmdpkkpdaaGreatDoor
