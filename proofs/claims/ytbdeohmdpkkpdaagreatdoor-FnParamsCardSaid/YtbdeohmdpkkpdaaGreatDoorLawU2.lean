/- The plain law: what the package reads of a text of a URI is what the specification tells (the states in a row). -/
import Derived.Test.YtbdeohmdpkkpdaaGreatDoorLawU
set_option linter.unusedVariables false
set_option linter.unusedSimpArgs false
namespace Go.Proofs.YtbdeohmdpkkpdaaGreatDoor
open Go.RowKit

theorem run_stop {l : Tx} {u : PU} {r : Option PU} (h : PRun (some .stop) l u r) : r = some u := by
  cases h with
  | done => rfl
  | fail h => exact False.elim h
  | step h k => exact False.elim h
theorem run_next {o : Option Sq} {l : Tx} {u : PU} {x : Sq × Tx × PU} {r : Option PU} (h : PRun o l u r) (ho : o ≠ some .stop) (hd : ∀ y, NextOk o l u y → y = some x) : PRun (some x.1) x.2.1 x.2.2 r := by
  cases h with
  | done => exact (ho rfl).elim
  | fail h => cases hd _ h
  | step h k =>
    have := hd _ h
    injection this with e
    subst e
    exact k
theorem take_mid (a r : Tx) (x : UInt8) : (a ++ x :: r).take a.length = a := List.take_left
theorem drop_mid (a r : Tx) (x : UInt8) : (a ++ x :: r).drop (a.length + 1) = r := by
  have e : a ++ x :: r = (a ++ [x]) ++ r := by simp
  rw [e, show a.length + 1 = (a ++ [x]).length from by simp, List.drop_left]
theorem at_mid (a r : Tx) (x : UInt8) (h : a.length < (a ++ x :: r).length) : (a ++ x :: r)[a.length] = x := by
  rw [List.getElem_append_right (Nat.le_refl _)]; simp
theorem lt_mid (a r : Tx) (x : UInt8) : a.length < (a ++ x :: r).length := by simp only [List.length_append, List.length_cons]; omega
theorem all_not {p : UInt8 → Bool} {a : Tx} (h : ∀ c ∈ a, p c = false) : a.all (fun c => !p c) = true := List.all_eq_true.2 fun c hc => by rw [h c hc]; rfl

/-! ### texts that are told -/
theorem join_all {sp : UInt8} {P : UInt8 → Prop} (hs : P sp) : ∀ ps : List Tx, (∀ p ∈ ps, ∀ c ∈ p, P c) → ∀ c ∈ joinS sp ps, P c := by
  intro ps
  induction ps with
  | nil => intro _ c hc; cases hc
  | cons p r ih =>
    intro h c hc
    cases r with
    | nil => exact h p (by simp) c hc
    | cons q t =>
      have hc' : c ∈ p ++ sp :: joinS sp (q :: t) := hc
      simp only [List.mem_append, List.mem_cons] at hc'
      rcases hc' with hc' | rfl | hc'
      · exact h p (by simp) c hc'
      · exact hs
      · exact ih (fun p hp => h p (by simp only [List.mem_cons] at hp ⊢; exact .inr hp)) c hc'
theorem pairs_all {Q : Tx} {sp : UInt8} {signs : Tx} {kvs : KVs} (h : pairsS Q sp signs = some kvs) : ∀ c ∈ Q, alw signs c = true ∨ c = sp ∨ c = 61 := by
  unfold pairsS at h
  split at h
  · rename_i hc
    simp only [Bool.and_eq_true] at hc
    rw [← join_pcs sp Q]
    refine join_all (.inr (.inl rfl)) _ fun p hp c hcp => ?_
    obtain ⟨k, v, _, _, hka, hva, he⟩ := kvOk_cases (List.all_eq_true.1 hc.1 p hp)
    rcases he with ⟨_, rfl⟩ | ⟨_, rfl⟩
    · exact .inl (hka c hcp)
    · simp only [List.mem_append, List.mem_cons] at hcp
      rcases hcp with hcp | rfl | hcp
      · exact .inl (hka c hcp)
      · exact .inr (.inr rfl)
      · exact .inl (hva c hcp)
  · cases h
theorem pairs_head {Q : Tx} {sp : UInt8} {signs : Tx} {kvs : KVs} (h : pairsS Q sp signs = some kvs) : kvs ≠ [] ∧ ∃ x r, Q = x :: r ∧ alw signs x = true := by
  unfold pairsS at h
  split at h
  · rename_i hc
    injection h with h
    simp only [Bool.and_eq_true] at hc
    obtain ⟨p, ps, hp⟩ := pcs_cons sp Q
    have hj := join_pcs sp Q
    rw [hp] at hj hc h
    refine ⟨by rw [← h]; simp, ?_⟩
    obtain ⟨k, v, _, hk, hka, hva, he⟩ := kvOk_cases (List.all_eq_true.1 hc.1 p (by simp))
    obtain ⟨x, k', rfl⟩ := List.exists_cons_of_ne_nil hk
    have hx := hka x (by simp)
    obtain ⟨t, ht⟩ : ∃ t, p = x :: t := by
      rcases he with ⟨_, rfl⟩ | ⟨_, rfl⟩ <;> exact ⟨_, rfl⟩
    subst ht
    rw [← hj]
    cases ps with
    | nil => exact ⟨x, t, rfl, hx⟩
    | cons q r => exact ⟨x, t ++ sp :: joinS sp (q :: r), rfl, hx⟩
  · cases h
theorem an_low {x : UInt8} (h : isAn x = true) : x.toNat < 128 ∧ spB x = false := by
  have e1 : (48 : UInt8).toNat = 48 := rfl
  have e2 : (57 : UInt8).toNat = 57 := rfl
  have e3 : (97 : UInt8).toNat = 97 := rfl
  have e5 : (65 : UInt8).toNat = 65 := rfl
  have e7 : (122 : UInt8).toNat = 122 := rfl
  have e8 : (90 : UInt8).toNat = 90 := rfl
  have e9 : (9 : UInt8).toNat = 9 := rfl
  have e10 : (13 : UInt8).toNat = 13 := rfl
  simp only [isAn, isAl, isNm, Bool.or_eq_true, Bool.and_eq_true, decide_eq_true_eq, UInt8.le_iff_toNat_le] at h
  refine ⟨by omega, ?_⟩
  have hx : x ≠ 32 := by rintro rfl; have e11 : (32 : UInt8).toNat = 32 := rfl; omega
  have h2 : (x == 32) = false := by simpa using hx
  simp only [spB, h2, Bool.or_false, Bool.and_eq_false_iff, decide_eq_false_iff_not, UInt8.le_iff_toNat_le]
  omega
theorem alw_low {signs : Tx} (hs : ∀ c ∈ signs, c.toNat < 128 ∧ spB c = false) {x : UInt8} (h : alw signs x = true) : x.toNat < 128 ∧ spB x = false := by
  unfold alw at h
  simp only [Bool.or_eq_true, beq_iff_eq, List.contains_iff_mem] at h
  rcases h with (h | rfl) | h
  · exact an_low h
  · decide
  · exact hs x h
theorem trim_eq {l t x r} {signs : Tx} (hs : ∀ c ∈ signs, c.toNat < 128 ∧ spB c = false) (h : TrimT l t) (e : l = x :: r) (hx : alw signs x = true) : t = l :=
  h.2.1 x r e (alw_low hs hx).1 (alw_low hs hx).2

/-! ### the port -/
theorem foldl_ge : ∀ (l : Tx) (n : Nat), n ≤ l.foldl (fun n c => 10 * n + (c.toNat - 48)) n := by
  intro l
  induction l with
  | nil => intro n; exact Nat.le_refl _
  | cons x r ih => intro n; rw [List.foldl_cons]; exact Nat.le_trans (by omega) (ih _)
theorem nm_range {c : UInt8} (h : isNm c = true) : 48 ≤ c.toNat ∧ c.toNat ≤ 57 := by
  have e1 : (48 : UInt8).toNat = 48 := rfl
  have e2 : (57 : UInt8).toNat = 57 := rfl
  simp only [isNm, Bool.and_eq_true, decide_eq_true_eq, UInt8.le_iff_toNat_le] at h
  omega
theorem parse_dec : ∀ (l : Tx) (n : Nat), (∀ c ∈ l, isNm c = true) → l.foldl (fun n c => 10 * n + (c.toNat - 48)) n ≤ 65535 → Lib.parseUint10 n l = .ok (l.foldl (fun n c => 10 * n + (c.toNat - 48)) n) := by
  intro l
  induction l with
  | nil => intro n _ _; rfl
  | cons x r ih =>
    intro n ha hb
    have hx := nm_range (ha x (by simp))
    rw [List.foldl_cons] at hb ⊢
    have hg := foldl_ge r (10 * n + (x.toNat - 48))
    have he : n * 10 + (x.toNat - 48) = 10 * n + (x.toNat - 48) := by omega
    unfold Lib.parseUint10
    rw [if_pos ⟨hx.1, hx.2⟩, if_neg (by omega), if_neg (by omega), he]
    exact ih _ (fun c hc => ha c (by simp [hc])) hb
theorem port_parts {D : Tx} {n : Nat} (h : portS D = some n) : (∀ c ∈ D, isNm c = true) ∧ D ≠ [] ∧ n = decN D ∧ n ≤ 65535 := by
  unfold portS at h
  split at h
  · rename_i hc
    injection h with h
    simp only [Bool.and_eq_true, Bool.not_eq_true', List.isEmpty_eq_false_iff, decide_eq_true_eq] at hc
    exact ⟨fun c hcD => List.all_eq_true.1 hc.1.1.1 c hcD, hc.1.1.2, h.symm, by omega⟩
  · cases h
theorem atoi_port {D : Tx} {n : Nat} (h : portS D = some n) : Lib.atoiAll D = .ok (n : Int) := by
  obtain ⟨h1, h2, h3, h4⟩ := port_parts h
  obtain ⟨c, r, rfl⟩ := List.exists_cons_of_ne_nil h2
  have hc := nm_range (h1 c (by simp))
  have hp : Lib.parseMag (c :: r) = .ok n := by
    unfold Lib.parseMag
    rw [if_neg (by simp), parse_dec (c :: r) 0 h1 (by unfold decN at h3; omega), h3]
    rfl
  unfold Lib.atoiAll
  dsimp only
  rw [if_neg (by omega), hp]
  dsimp only
  rw [if_neg (by omega), if_neg (by omega), if_neg (by omega)]

/-! ### the states -/
theorem paramL_low : ∀ c ∈ paramL, c.toNat < 128 ∧ spB c = false := by decide
theorem headL_low : ∀ c ∈ headL, c.toNat < 128 ∧ spB c = false := by decide
theorem run_heads {H : Tx} {hs : KVs} (h : pairsS H 38 headL = some hs) {v : PU} {r : Option PU} (hr : PRun (some .heads) H v r) : r = some { v with hs := hs } := by
  obtain ⟨_, x, t, e, hx⟩ := pairs_head h
  have hu : unm H 38 0 [] = (H.length, hs) := by
    have := unm_pairs (Q := H) (tl := []) (sp := 38) (en := 0) (signs := headL) rfl rfl rfl rfl (by decide) (by decide) (by decide) (by decide) (.inl rfl) h (fun h => absurd rfl h)
    rw [List.append_nil] at this
    exact this
  have h1 := run_next (x := (.stop, H, { v with hs := hs })) hr (by simp) (fun y hy => by
    obtain ⟨t', ht', rfl⟩ := hy
    rw [trim_eq headL_low ht' e hx]
    unfold fHeads
    rw [hu])
  exact run_stop h1
theorem run_none {v : PU} {r : Option PU} (hr : PRun (some .params) [] v r) : r = some { v with ps := [], hs := [] } := by
  have h1 := run_next (x := (.stop, [], { v with ps := [], hs := [] })) hr (by simp) (fun y hy => by
    obtain ⟨t', ht', rfl⟩ := hy
    rfl)
  exact run_stop h1
theorem getD_mid (a r : Tx) (x : UInt8) : (a ++ x :: r).getD a.length 0 = x := by
  rw [getD_at (lt_mid a r x), at_mid]
theorem run_params {P : Tx} {ps : KVs} (h : pairsS P 59 paramL = some ps) {v : PU} {r : Option PU} (hv : v.hs = []) (hr : PRun (some .params) P v r) : r = some { v with ps := ps, hs := [] } := by
  obtain ⟨_, x, t, e, hx⟩ := pairs_head h
  have hu : unm P 59 63 [] = (P.length, ps) := by
    have := unm_pairs (Q := P) (tl := []) (sp := 59) (en := 63) (signs := paramL) rfl rfl rfl rfl (by decide) (by decide) (by decide) (by decide) (.inl rfl) h (fun h => absurd rfl h)
    rw [List.append_nil] at this
    exact this
  have hne : P ≠ [] := by rw [e]; simp
  have hpos : P.length - 1 < P.length := by have := List.length_pos_iff.2 hne; omega
  have hlast : P.getD (P.length - 1) 0 ≠ 63 := by
    rw [getD_at hpos]
    rcases pairs_all h _ (List.getElem_mem hpos) with h1 | h1 | h1
    · exact ne_alw h1 (by rfl)
    · rw [h1]; decide
    · rw [h1]; decide
  have h1 := run_next (x := (.stop, P, { v with ps := ps })) hr (by simp) (fun y hy => by
    obtain ⟨t', ht', rfl⟩ := hy
    rw [trim_eq paramL_low ht' e hx]
    unfold fParams
    rw [if_neg hne, hu]
    dsimp only
    rw [if_pos rfl, if_neg hlast])
  rw [run_stop h1]
  cases v
  simp only at hv
  rw [hv]
theorem run_params_heads {P H : Tx} {ps hs : KVs} (h : pairsS P 59 paramL = some ps) (h2 : pairsS H 38 headL = some hs) (hl : lastV ps ≠ []) {v : PU} {r : Option PU} (hr : PRun (some .params) (P ++ 63 :: H) v r) : r = some { v with ps := ps, hs := hs } := by
  obtain ⟨_, x, t, e, hx⟩ := pairs_head h
  have hu : unm (P ++ 63 :: H) 59 63 [] = (P.length, ps) :=
    unm_pairs (Q := P) (tl := 63 :: H) (sp := 59) (en := 63) (signs := paramL) rfl rfl rfl rfl (by decide) (by decide) (by decide) (by decide) (.inr ⟨H, rfl⟩) h (fun _ => hl)
  have hne : P ++ 63 :: H ≠ [] := by simp
  have hlt : ¬ P.length = (P ++ 63 :: H).length := by have := lt_mid P H 63; omega
  have h1 := run_next (x := (.heads, H, { v with ps := ps })) hr (by simp) (fun y hy => by
    obtain ⟨t', ht', rfl⟩ := hy
    rw [trim_eq paramL_low ht' (x := x) (r := t ++ 63 :: H) (by rw [e]; rfl) hx]
    unfold fParams
    rw [if_neg hne, hu]
    dsimp only
    rw [if_neg hlt, getD_mid, if_pos rfl, drop_mid])
  exact run_heads h2 h1

/-- what follows a host and its port -/
def TailOf (T : Tx) (ps hs : KVs) : Prop :=
  (T = [] ∧ ps = [] ∧ hs = []) ∨ (∃ X, T = 59 :: X ∧ ∀ v r, v.hs = [] → PRun (some .params) X v r → r = some { v with ps := ps, hs := hs }) ∨
    (∃ X, T = 63 :: X ∧ ∀ v r, v.ps = [] → PRun (some .heads) X v r → r = some { v with ps := ps, hs := hs })
theorem isHost_ch {h : Tx} (hh : isHostB h = true) : h ≠ [] ∧ h ≠ [42] ∧ ∀ c ∈ h, hoEnd c = false ∧ c ≠ 91 ∧ isNm c = isNm c := by
  unfold isHostB at hh
  simp only [Bool.and_eq_true] at hh
  refine ⟨?_, ?_, fun c hc => ?_⟩
  · rintro rfl; simp at hh
  · rintro rfl; revert hh; decide
  · have h1 := List.all_eq_true.1 hh.1 c hc
    have h2 : alw [45, 46] c = true := by
      unfold alw
      simp only [Bool.or_eq_true, beq_iff_eq, List.contains_iff_mem, List.mem_cons, List.mem_nil_iff, or_false] at h1 ⊢
      rcases h1 with (h1 | h1) | h1
      · exact .inl (.inl h1)
      · exact .inr (.inl h1)
      · exact .inr (.inr h1)
    have n1 := ne_alw h2 (d := 91) (by rfl)
    have n2 := ne_alw h2 (d := 58) (by rfl)
    have n3 := ne_alw h2 (d := 59) (by rfl)
    have n4 := ne_alw h2 (d := 63) (by rfl)
    refine ⟨?_, n1, rfl⟩
    simp [hoEnd, n1, n2, n3, n4]
theorem nm_not {c : UInt8} (h : isNm c = true) : poEnd c = false ∧ c ≠ 91 := by
  have h2 : alw [] c = true := by unfold alw isAn; rw [h]; simp
  have n1 := ne_alw h2 (d := 91) (by rfl)
  have n3 := ne_alw h2 (d := 59) (by rfl)
  have n4 := ne_alw h2 (d := 63) (by rfl)
  exact ⟨by simp [poEnd, n3, n4], n1⟩

theorem run_hostport {s2 h T : Tx} {n : Nat} {ps hs : KVs} (hh : hostPortS s2 = some (h, n)) (hT : TailOf T ps hs) {v : PU} {r : Option PU} (hps : v.ps = []) (hhs : v.hs = []) (hw : v.wild = false) (hpo : v.port = 0)
    (hr : PRun (some .host) (s2 ++ T) v r) : r = some { v with host := h, port := n, ps := ps, hs := hs } := by
  unfold hostPortS at hh
  split at hh
  · rename_i hi
    split at hh
    · rename_i m hm
      split at hh
      · rename_i hb
        injection hh with hh
        injection hh with e1 e2
        obtain ⟨hs1, _⟩ := ixOf_split hi
        generalize s2.drop (ixOf s2 58 + 1) = D at hs1 hm
        rw [e1] at hs1 hb
        subst e2
        clear e1 hi
        subst hs1
        obtain ⟨hne, hstar, hch⟩ := isHost_ch hb
        obtain ⟨hD, _, _, _⟩ := port_parts hm
        have e3 : (h ++ 58 :: D) ++ T = h ++ 58 :: (D ++ T) := by simp
        rw [e3] at hr
        have h1 := run_next (x := (.port, D ++ T, { v with host := h })) hr (by simp) (fun y hy => by
          have hy : y = some (fHost (h ++ 58 :: (D ++ T)) v) := hy
          rw [hy, fHost_at _ v h.length (lt_mid _ _ _) (by rw [take_mid]; exact all_not fun c hc => (hch c hc).1) (by rw [at_mid]; rfl), at_mid, if_neg (by decide), if_pos rfl, take_mid, drop_mid])
        rcases hT with ⟨rfl, rfl, rfl⟩ | ⟨X, rfl, hX⟩ | ⟨X, rfl, hX⟩
        · rw [List.append_nil] at h1
          have h2 := run_next (x := (.params, [], { v with host := h, port := m })) h1 (by simp) (fun y hy => by
            have hy : y = fPortU D { v with host := h } := hy
            rw [hy, fPortU_ok (fPort_end D (all_not fun c hc => (nm_not (hD c hc)).1)) (atoi_port hm)])
          rw [run_none h2]
        · have h2 := run_next (x := (.params, X, { v with host := h, port := m })) h1 (by simp) (fun y hy => by
            have hy : y = fPortU (D ++ 59 :: X) { v with host := h } := hy
            have hf := fPort_at (D ++ 59 :: X) D.length (lt_mid _ _ _) (by rw [take_mid]; exact all_not fun c hc => (nm_not (hD c hc)).1) (by rw [at_mid]; rfl)
            rw [take_mid, drop_mid, at_mid, if_pos rfl] at hf
            rw [hy, fPortU_ok hf (atoi_port hm)])
          exact hX { v with host := h, port := m } _ hhs h2
        · have h2 := run_next (x := (.heads, X, { v with host := h, port := m })) h1 (by simp) (fun y hy => by
            have hy : y = fPortU (D ++ 63 :: X) { v with host := h } := hy
            have hf := fPort_at (D ++ 63 :: X) D.length (lt_mid _ _ _) (by rw [take_mid]; exact all_not fun c hc => (nm_not (hD c hc)).1) (by rw [at_mid]; rfl)
            rw [take_mid, drop_mid, at_mid, if_neg (by decide)] at hf
            rw [hy, fPortU_ok hf (atoi_port hm)])
          exact hX { v with host := h, port := m } _ hps h2
      · cases hh
    · cases hh
  · split at hh
    · rename_i hb
      injection hh with hh
      injection hh with e1 e2
      subst e1
      subst e2
      obtain ⟨hne, hstar, hch⟩ := isHost_ch hb
      rcases hT with ⟨rfl, rfl, rfl⟩ | ⟨X, rfl, hX⟩ | ⟨X, rfl, hX⟩
      · rw [List.append_nil] at hr
        have h2 := run_next (x := (.params, [], { v with host := s2 })) hr (by simp) (fun y hy => by
          have hy : y = some (fHost s2 v) := hy
          rw [hy, fHost_end _ _ (all_not fun c hc => (hch c hc).1)]
          have : decide (s2 = [42]) = v.wild := by rw [hw]; simpa using hstar
          rw [this])
        rw [run_none h2]
        cases v
        simp only at hpo
        subst hpo
        rfl
      · have h2 := run_next (x := (.params, X, { v with host := s2 })) hr (by simp) (fun y hy => by
          have hy : y = some (fHost (s2 ++ 59 :: X) v) := hy
          rw [hy, fHost_at _ v s2.length (lt_mid _ _ _) (by rw [take_mid]; exact all_not fun c hc => (hch c hc).1) (by rw [at_mid]; rfl), at_mid, if_neg (by decide), if_neg (by decide), if_pos rfl, take_mid, drop_mid])
        rw [hX { v with host := s2 } _ hhs h2]
        cases v
        simp only at hpo
        subst hpo
        rfl
      · have h2 := run_next (x := (.heads, X, { v with host := s2 })) hr (by simp) (fun y hy => by
          have hy : y = some (fHost (s2 ++ 63 :: X) v) := hy
          rw [hy, fHost_at _ v s2.length (lt_mid _ _ _) (by rw [take_mid]; exact all_not fun c hc => (hch c hc).1) (by rw [at_mid]; rfl), at_mid, if_neg (by decide), if_neg (by decide), if_neg (by decide), take_mid, drop_mid])
        rw [hX { v with host := s2 } _ hps h2]
        cases v
        simp only at hpo
        subst hpo
        rfl
    · cases hh

theorem heads_cases {s s1 : Tx} {hs : KVs} (h : sHeads s = some (hs, s1)) : (s = s1 ∧ hs = []) ∨ ∃ H, s = s1 ++ 63 :: H ∧ pairsS H 38 headL = some hs ∧ hs ≠ [] := by
  unfold sHeads at h
  split at h
  · rename_i hi
    split at h
    · rename_i hs' hp
      split at h
      · injection h with h
        injection h with e1 e2
        subst e1
        refine .inr ⟨_, ?_, hp, (pairs_head hp).1⟩
        rw [← e2]
        exact (ixOf_split hi).1
      · cases h
    · cases h
  · injection h with h
    injection h with e1 e2
    exact .inl ⟨e2, e1.symm⟩
theorem params_cases {s1 s2 : Tx} {ps hs : KVs} (h : sParams s1 hs = some (ps, s2)) : (s1 = s2 ∧ ps = []) ∨ ∃ P, s1 = s2 ++ 59 :: P ∧ pairsS P 59 paramL = some ps ∧ (hs ≠ [] → lastV ps ≠ []) := by
  unfold sParams at h
  split at h
  · rename_i hi
    split at h
    · rename_i ps' hp
      split at h
      · cases h
      · rename_i hn
        injection h with h
        injection h with e1 e2
        subst e1
        refine .inr ⟨_, ?_, hp, fun h1 h2 => hn ?_⟩
        · rw [← e2]
          exact (ixOf_split hi).1
        · rw [h2]
          cases hs with
          | nil => exact absurd rfl h1
          | cons _ _ => rfl
    · cases h
  · injection h with h
    injection h with e1 e2
    exact .inl ⟨e2, e1.symm⟩
theorem hp_no91 {s2 h : Tx} {n : Nat} (hh : hostPortS s2 = some (h, n)) : ∀ c ∈ s2, c ≠ 91 := by
  unfold hostPortS at hh
  split at hh
  · rename_i hi
    split at hh
    · rename_i m hm
      split at hh
      · rename_i hb
        obtain ⟨hs1, _⟩ := ixOf_split hi
        intro c hc
        rw [hs1] at hc
        simp only [List.mem_append, List.mem_cons] at hc
        rcases hc with hc | rfl | hc
        · exact ((isHost_ch hb).2.2 c hc).2.1
        · decide
        · exact (nm_not ((port_parts hm).1 c hc)).2
      · cases hh
    · cases hh
  · split at hh
    · rename_i hb
      exact fun c hc => ((isHost_ch hb).2.2 c hc).2.1
    · cases hh
theorem tail_of {s s1 s2 : Tx} {ps hs : KVs} (hH : sHeads s = some (hs, s1)) (hP : sParams s1 hs = some (ps, s2)) : ∃ T, s = s2 ++ T ∧ TailOf T ps hs ∧ ∀ c ∈ T, c ≠ 91 := by
  have n59 : ∀ {P : Tx} {ps : KVs}, pairsS P 59 paramL = some ps → ∀ c ∈ P, c ≠ 91 := fun h c hc => by
    rcases pairs_all h c hc with h | rfl | rfl
    · exact ne_alw h (by rfl)
    · decide
    · decide
  have n38 : ∀ {P : Tx} {ps : KVs}, pairsS P 38 headL = some ps → ∀ c ∈ P, c ≠ 91 := fun h c hc => by
    rcases pairs_all h c hc with h | rfl | rfl
    · exact ne_alw h (by rfl)
    · decide
    · decide
  rcases heads_cases hH with ⟨rfl, rfl⟩ | ⟨H, rfl, h1, h2⟩ <;> rcases params_cases hP with ⟨rfl, rfl⟩ | ⟨P, rfl, h3, h4⟩
  · exact ⟨[], by simp, .inl ⟨rfl, rfl, rfl⟩, by simp⟩
  · refine ⟨59 :: P, rfl, .inr (.inl ⟨P, rfl, fun v r hv hr => run_params h3 hv hr⟩), fun c hc => ?_⟩
    simp only [List.mem_cons] at hc
    rcases hc with rfl | hc
    · decide
    · exact n59 h3 c hc
  · refine ⟨63 :: H, rfl, .inr (.inr ⟨H, rfl, fun v r hv hr => ?_⟩), fun c hc => ?_⟩
    · rw [run_heads h1 hr]
      cases v
      simp only at hv
      rw [hv]
    · simp only [List.mem_cons] at hc
      rcases hc with rfl | hc
      · decide
      · exact n38 h1 c hc
  · refine ⟨59 :: P ++ 63 :: H, by simp, .inr (.inl ⟨P ++ 63 :: H, by simp, fun v r hv hr => run_params_heads h3 h1 (h4 h2) hr⟩), fun c hc => ?_⟩
    simp only [List.cons_append, List.mem_cons, List.mem_append] at hc
    rcases hc with rfl | hc | rfl | hc
    · decide
    · exact n59 h3 c hc
    · decide
    · exact n38 h1 c hc

theorem lxI_split {l : Tx} {c : UInt8} (h : 0 ≤ lxI l c) : l = l.take (lxI l c).toNat ++ c :: l.drop ((lxI l c).toNat + 1) := by
  unfold lxI at h ⊢
  by_cases hi : l.reverse.findIdx (· == c) < l.length
  · simp only [if_pos hi, Int.toNat_natCast]
    have hi' : l.reverse.findIdx (· == c) < l.reverse.length := by rw [List.length_reverse]; exact hi
    have h0 := List.findIdx_getElem (xs := l.reverse) (p := (· == c)) (w := hi')
    have h1 : l.reverse[l.reverse.findIdx (· == c)] = c := eq_of_beq h0
    rw [List.getElem_reverse] at h1
    have hk : l.length - 1 - l.reverse.findIdx (· == c) < l.length := by omega
    have key : ∀ (k : Nat) (hk : k < l.length), l[k] = c → l = l.take k ++ c :: l.drop (k + 1) := by
      intro k hk h1
      have e := (List.take_append_drop k l).symm
      rw [List.drop_eq_getElem_cons hk, h1] at e
      exact e
    exact key _ hk h1
  · rw [if_neg hi] at h
    omega
theorem lxI_none {l : Tx} {c : UInt8} (h : ¬ 0 ≤ lxI l c) : ∀ x ∈ l, x ≠ c := by
  unfold lxI at h
  by_cases hi : l.reverse.findIdx (· == c) < l.length
  · rw [if_pos hi] at h
    omega
  · have h1 : l.reverse.findIdx (· == c) = l.reverse.length := by
      have := List.findIdx_le_length (xs := l.reverse) (p := (· == c))
      rw [List.length_reverse] at this ⊢
      omega
    rw [List.findIdx_eq_length] at h1
    intro x hx
    simpa using h1 x (List.mem_reverse.2 hx)
theorem lastC_at {a b : Tx} (h : ∀ c ∈ b, c ≠ 58) : lastC (a ++ 58 :: b) = a.length := by
  have e : (a ++ 58 :: b).reverse = b.reverse ++ 58 :: a.reverse := by simp
  have h1 := ixOf_at (a := b.reverse) (r := a.reverse) (c := 58) (fun x hx => h x (List.mem_reverse.1 hx))
  unfold lastC
  rw [e]
  unfold ixOf at h1
  rw [h1]
  simp only [List.length_append, List.length_cons, List.length_reverse]
  omega
theorem lastC_none {a : Tx} (h : ∀ c ∈ a, c ≠ 58) : lastC a = 0 := by
  unfold lastC
  have h1 : a.reverse.findIdx (· == 58) = a.reverse.length := by
    rw [List.findIdx_eq_length]
    intro x hx
    simpa using h x (List.mem_reverse.1 hx)
  rw [h1, List.length_reverse]
  omega

/-- the user's state on a text that is told -/
theorem user_told {l un pw s : Tx} (h : sUser l = some (un, pw, s)) (h91 : ∀ c ∈ s, c ≠ 91) (v : PU) (hv1 : v.user = []) (hv2 : v.pass = []) : fUser l v = (.host, s, { v with user := un, pass := pw }) := by
  have hus : ∀ {signs : Tx} {x : UInt8}, alw signs x = true → alw signs 91 = false → alw signs 64 = false → usEnd x = false := fun h h1 h2 => by
    simp [usEnd, ne_alw h h1, ne_alw h h2]
  unfold sUser at h
  split at h
  · rename_i h0
    have hl := lxI_split h0
    dsimp only at h
    generalize l.take (lxI l 64).toNat = us at h hl
    generalize l.drop ((lxI l 64).toNat + 1) = rest at h hl
    subst hl
    split at h
    · rename_i hi
      obtain ⟨he, hno⟩ := ixOf_split hi
      split at h
      · rename_i hc
        injection h with h
        injection h with e1 h
        injection h with e2 e3
        rw [e1, e2] at he hc
        subst e3
        subst he
        simp only [Bool.and_eq_true, Bool.not_eq_true', List.isEmpty_eq_false_iff] at hc
        obtain ⟨⟨⟨h1, h2⟩, h3⟩, h4⟩ := hc
        have hp := okOf_all h2
        have hu := okOf_all h4
        have hlc : lastC (un ++ 58 :: pw) = un.length := lastC_at fun c hc => ne_alw (hp c hc) (by rfl)
        have hun : 0 < un.length := List.length_pos_iff.2 h3
        rw [fUser_at _ v (un ++ 58 :: pw).length (lt_mid _ _ _) (by
          rw [take_mid]
          refine all_not fun c hc => ?_
          simp only [List.mem_append, List.mem_cons] at hc
          rcases hc with hc | rfl | hc
          · exact hus (hu c hc) (by rfl) (by rfl)
          · rfl
          · exact hus (hp c hc) (by rfl) (by rfl)) (by rw [at_mid]; rfl), at_mid, if_neg (by decide), take_mid, hlc, if_pos hun, drop_mid, drop_mid]
        have e : ((un ++ 58 :: pw) ++ 64 :: rest).take un.length = un := by
          rw [List.append_assoc]; exact List.take_left
        rw [e]
      · cases h
    · rename_i hi
      have hno := ixOf_none hi
      split at h
      · rename_i hc
        injection h with h
        injection h with e1 h
        injection h with e2 e3
        subst e1
        subst e2
        subst e3
        simp only [Bool.and_eq_true, Bool.not_eq_true', List.isEmpty_eq_false_iff] at hc
        have hu := okOf_all hc.2
        rw [fUser_at _ v us.length (lt_mid _ _ _) (by
          rw [take_mid]
          exact all_not fun c hc => hus (hu c hc) (by rfl) (by rfl)) (by rw [at_mid]; rfl), at_mid, if_neg (by decide), take_mid, lastC_none hno, if_neg (by omega), drop_mid]
        cases v
        simp only at hv2
        subst hv2
        rfl
      · cases h
  · rename_i h0
    injection h with h
    injection h with e1 h
    injection h with e2 e3
    subst e1
    subst e2
    subst e3
    have hno := lxI_none h0
    rw [fUser_end _ _ (all_not fun c hc => by simp [usEnd, hno c hc, h91 c hc])]
    cases v
    simp only at hv1 hv2
    subst hv1
    subst hv2
    rfl

theorem law_sip {sc l : Tx} {u : PU} (h : sSipUri sc l = some u) (hns : [47, 47].isPrefixOf l = false) {r : Option PU} (hr : PRun (some .slashes) l { PU.zero with scheme := sc } r) : r = some u := by
  unfold sSipUri at h
  split at h
  · cases h
  · rename_i un pw s hU
    split at h
    · cases h
    · rename_i hs s1 hH
      split at h
      · cases h
      · rename_i ps s2 hP
        split at h
        · cases h
        · rename_i hst n hHP
          injection h with h
          obtain ⟨T, rfl, hT, hT91⟩ := tail_of hH hP
          have h91 : ∀ c ∈ s2 ++ T, c ≠ 91 := fun c hc => by
            rcases List.mem_append.1 hc with hc | hc
            · exact hp_no91 hHP c hc
            · exact hT91 c hc
          have h1 := run_next (x := (.user, l, { PU.zero with scheme := sc })) hr (by simp) (fun y hy => by
            have hy : y = some (fSlashes l { PU.zero with scheme := sc }) := hy
            rw [hy]
            unfold fSlashes
            rw [hns]
            rfl)
          have h2 := run_next (x := (.host, s2 ++ T, { PU.zero with scheme := sc, user := un, pass := pw })) h1 (by simp) (fun y hy => by
            have hy : y = some (fUser l { PU.zero with scheme := sc }) := hy
            rw [hy, user_told hU h91 _ rfl rfl])
          rw [run_hostport hHP hT rfl rfl rfl rfl h2, ← h]
          rfl

def Told (r : Option PU) : SR → Prop
  | .told => r = none
  | .open_ => True
  | .val u => r = some u
/-- THE PLAIN LAW: what the package reads of a text is what is told. -/
theorem law {l : Tx} {r : Option PU} (hp : PTop l PU.zero r) : Told r (sUri l) := by
  unfold PTop at hp
  unfold sUri
  by_cases h0 : l = []
  · rw [if_pos h0] at hp ⊢
    exact hp
  rw [if_neg h0] at hp ⊢
  by_cases h1 : l = [42]
  · rw [if_pos h1]
    subst h1
    have := run_next (x := (.stop, [], { PU.zero with host := [42], wild := true })) hp (by simp) (fun y hy => hy)
    exact run_stop this
  rw [if_neg h1]
  dsimp only
  split
  · rename_i hc
    simp only [Bool.and_eq_true, decide_eq_true_eq] at hc
    obtain ⟨⟨hk0, hk1⟩, hal⟩ := hc
    obtain ⟨he, hno⟩ := ixOf_split hk1
    have hlen : (l.take (ixOf l 58)).length = ixOf l 58 := by rw [List.length_take]; omega
    generalize hsc : l.take (ixOf l 58) = sc at he hal hlen
    generalize hrest : l.drop (ixOf l 58 + 1) = rest at he
    have hfs : ¬ l.length < 3 → fScheme l PU.zero = if sc.map lowC = sSip ∨ sc.map lowC = sSips then some (.slashes, rest, { PU.zero with scheme := sc.map lowC }) else some (.stop, [], { PU.zero with scheme := sc.map lowC, raw := rest }) := by
      intro h3
      rw [fScheme_colon l PU.zero (ixOf l 58) h3 hk1 (by rw [hsc]; simpa [nAl] using hal) (by
        have := List.findIdx_getElem (xs := l) (p := (· == 58)) (w := hk1)
        exact eq_of_beq this), hsc, hrest]
    split
    · rename_i hn
      split
      · rename_i hc
        simp only [Bool.and_eq_true, Bool.not_eq_true', List.isEmpty_eq_false_iff, decide_eq_true_eq] at hc
        obtain ⟨⟨⟨c1, c2⟩, c3⟩, c4⟩ := hc
        have h3 : ¬ l.length < 3 := by
          have := List.length_pos_iff.2 c1
          rw [he]
          simp only [List.length_append, List.length_cons]
          omega
        have hf := hfs h3
        rw [if_neg (fun h => h.elim hn.1 hn.2), c4] at hf
        have := run_next (x := (.stop, [], { PU.zero with scheme := sc, raw := rest })) hp (by simp) (fun y hy => by
          have hy : y = fScheme l PU.zero := hy
          rw [hy, hf])
        exact run_stop this
      · exact trivial
    · rename_i hn
      split
      · exact trivial
      · rename_i hlow
        have hlow : sc.map lowC = sc := by
          by_cases h : sc.map lowC = sc
          · exact h
          · exact absurd h hlow
        split
        · exact trivial
        · rename_i hns
          have hns : [47, 47].isPrefixOf rest = false := Bool.eq_false_iff.2 hns
          cases hS : sSipUri sc rest with
          | none => exact trivial
          | some u =>
            have hor : sc.map lowC = sSip ∨ sc.map lowC = sSips := by
              by_cases h : sc.map lowC = sSip
              · exact .inl h
              · by_cases h' : sc.map lowC = sSips
                · exact .inr h'
                · exact absurd ⟨h, h'⟩ hn
            have h3 : ¬ l.length < 3 := by
              have : 3 ≤ sc.length := by
                rcases hor with h | h
                · have := congrArg List.length h
                  simp only [List.length_map] at this
                  rw [this]; decide
                · have := congrArg List.length h
                  simp only [List.length_map] at this
                  rw [this]; decide
              rw [he]
              simp only [List.length_append, List.length_cons]
              omega
            have hf := hfs h3
            rw [if_pos hor, hlow] at hf
            have := run_next (x := (.slashes, rest, { PU.zero with scheme := sc })) hp (by simp) (fun y hy => by
              have hy : y = fScheme l PU.zero := hy
              rw [hy, hf])
            exact law_sip hS hns this
  · exact trivial
end Go.Proofs.YtbdeohmdpkkpdaaGreatDoor
