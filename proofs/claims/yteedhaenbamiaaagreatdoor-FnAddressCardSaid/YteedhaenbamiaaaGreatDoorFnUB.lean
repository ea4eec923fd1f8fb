/- The plain law of a text that reads back: parameters, host, port, user. The plain law: a right URI is read back of its text. The plain law: a right URI is read back of its text. Contract: the law FnUriBack. -/
import Derived.Test.YteedhaenbamiaaaGreatDoorLaw
import Derived.Test.YteedhaenbamiaaaGreatDoorText
import Derived.Test.YteedhaenbamiaaaGreatDoorLw
import Derived.Lib.ItoaMem
import Derived.Test.YteedhaenbamiaaaGreatDoorLw6
import Derived.Test.YteedhaenbamiaaaGreatDoorWd
set_option linter.unusedVariables false
set_option linter.unusedSimpArgs false
namespace Go.Proofs.YteedhaenbamiaaaGreatDoor
open Go.RowKit

/-! ### words -/
end Go.Proofs.YteedhaenbamiaaaGreatDoor
set_option linter.unusedVariables false
set_option linter.unusedSimpArgs false
namespace Go.Proofs.YteedhaenbamiaaaGreatDoor
open Go.RowKit

/-! ### numerals -/
theorem isNm_dig {i : Nat} (h : i < 10) : isNm (UInt8.ofNat (48 + i)) = true ∧ (UInt8.ofNat (48 + i)).toNat = 48 + i := by
  have e : (UInt8.ofNat (48 + i)).toNat = 48 + i := by rw [UInt8.toNat_ofNat']; omega
  refine ⟨?_, e⟩
  unfold isNm
  have e1 : (48 : UInt8).toNat = 48 := rfl
  have e2 : (57 : UInt8).toNat = 57 := rfl
  simp only [Bool.and_eq_true, decide_eq_true_eq, UInt8.le_iff_toNat_le]
  omega
theorem decD (u : Nat) : (∀ c ∈ Lib.decDigits u, isNm c = true) ∧ decN (Lib.decDigits u) = u ∧ Lib.decDigits u ≠ [] := by
  induction u using Nat.strongRecOn with
  | _ u ih =>
    by_cases h : u < 10
    · rw [Lib.decDigits_one h]
      obtain ⟨h1, h2⟩ := isNm_dig h
      refine ⟨fun c hc => by rw [List.mem_singleton] at hc; rw [hc]; exact h1, ?_, by simp⟩
      unfold decN
      simp only [List.foldl_cons, List.foldl_nil, h2]
      omega
    · obtain ⟨i1, i2, i3⟩ := ih (u / 10) (by omega)
      obtain ⟨h1, h2⟩ := isNm_dig (i := u % 10) (by omega)
      have e : Lib.decDigits u = Lib.decDigits (u / 10) ++ [UInt8.ofNat (48 + u % 10)] := by
        conv => lhs; unfold Lib.decDigits
        rw [dif_neg h]
      rw [e]
      refine ⟨fun c hc => ?_, ?_, by simp⟩
      · rw [List.mem_append, List.mem_singleton] at hc
        rcases hc with hc | hc
        · exact i1 c hc
        · rw [hc]; exact h1
      · unfold decN at i2 ⊢
        rw [List.foldl_append, i2]
        simp only [List.foldl_cons, List.foldl_nil, h2]
        omega
theorem atoi_dec {D : Tx} (h1 : ∀ c ∈ D, isNm c = true) (h2 : D ≠ []) (h4 : decN D ≤ 65535) : Lib.atoiAll D = .ok (decN D : Int) := by
  obtain ⟨c, r, rfl⟩ := List.exists_cons_of_ne_nil h2
  have hc := nm_range (h1 c (by simp))
  have hp : Lib.parseMag (c :: r) = .ok (decN (c :: r)) := by
    unfold Lib.parseMag
    rw [if_neg (by simp), parse_dec (c :: r) 0 h1 (by unfold decN at h4; omega)]
    rfl
  unfold Lib.atoiAll
  dsimp only
  rw [if_neg (by omega), hp]
  dsimp only
  rw [if_neg (by omega), if_neg (by omega), if_neg (by omega)]
theorem itoa_port {n : Int} (h0 : 0 ≤ n) (h1 : n ≤ 65535) : (∀ c ∈ Lib.itoa n, isNm c = true) ∧ Lib.itoa n ≠ [] ∧ Lib.atoiAll (Lib.itoa n) = .ok n := by
  obtain ⟨m, rfl⟩ := Int.eq_ofNat_of_zero_le h0
  rw [Lib.itoa_nonneg]
  obtain ⟨d1, d2, d3⟩ := decD m
  refine ⟨d1, d3, ?_⟩
  rw [atoi_dec d1 d3 (by omega), d2]

/-! ### host and port -/
theorem hoq_ch {h : Tx} (hh : ∀ c ∈ h, hoq c = true) : h ≠ [42] ∧ ∀ c ∈ h, hoEnd c = false ∧ c ≠ 91 ∧ c ≠ 64 ∧ c ≠ 47 ∧ c ≠ 58 := by
  refine ⟨?_, fun c hc => ?_⟩
  · rintro rfl; have := hh 42 (by simp); revert this; decide
  · have h1 := hh c hc
    have h2 : alw [45, 46] c = true := by
      unfold hoq at h1
      unfold alw isAn
      simp only [Bool.or_eq_true, beq_iff_eq, List.contains_iff_mem, List.mem_cons, List.mem_nil_iff, or_false] at h1 ⊢
      rcases h1 with ((h1 | h1) | h1) | h1
      · exact .inl (.inl (.inl h1))
      · exact .inl (.inl (.inr h1))
      · exact .inr (.inl h1)
      · exact .inr (.inr h1)
    have n1 := ne_alw h2 (d := 91) (by rfl)
    have n2 := ne_alw h2 (d := 58) (by rfl)
    have n3 := ne_alw h2 (d := 59) (by rfl)
    have n4 := ne_alw h2 (d := 63) (by rfl)
    refine ⟨?_, n1, ne_alw h2 (by rfl), ne_alw h2 (by rfl), n2⟩
    simp [hoEnd, n1, n2, n3, n4]
/-- what stands between the host and the tail -/
def PortT (pt : Tx) (n : Int) : Prop := (pt = [] ∧ n = 0) ∨ ∃ D, pt = 58 :: D ∧ (∀ c ∈ D, isNm c = true) ∧ Lib.atoiAll D = .ok n
theorem run_host2 {h pt T : Tx} {n : Int} {ps hs : KVs} (hh : ∀ c ∈ h, hoq c = true) (hp : PortT pt n) (hT : TailOf T ps hs) {v : PU} {r : Option PU} (hps : v.ps = []) (hhs : v.hs = []) (hw : v.wild = false) (hpo : v.port = 0)
    (hr : PRun (some .host) (h ++ (pt ++ T)) v r) : r = some { v with host := h, port := n, ps := ps, hs := hs } := by
  obtain ⟨hstar, hch⟩ := hoq_ch hh
  rcases hp with ⟨rfl, rfl⟩ | ⟨D, rfl, hD, hat⟩
  · rw [List.nil_append] at hr
    rcases hT with ⟨rfl, rfl, rfl⟩ | ⟨X, rfl, hX⟩ | ⟨X, rfl, hX⟩
    · rw [List.append_nil] at hr
      have h2 := run_next (x := (.params, [], { v with host := h })) hr (by simp) (fun y hy => by
        have hy : y = some (fHost h v) := hy
        rw [hy, fHost_end _ _ (all_not fun c hc => (hch c hc).1)]
        have : decide (h = [42]) = v.wild := by rw [hw]; simpa using hstar
        rw [this])
      rw [run_none h2]
      cases v
      simp only at hpo
      subst hpo
      rfl
    · have h2 := run_next (x := (.params, X, { v with host := h })) hr (by simp) (fun y hy => by
        have hy : y = some (fHost (h ++ 59 :: X) v) := hy
        rw [hy, fHost_at _ v h.length (lt_mid _ _ _) (by rw [take_mid]; exact all_not fun c hc => (hch c hc).1) (by rw [at_mid]; rfl), at_mid, if_neg (by decide), if_neg (by decide), if_pos rfl, take_mid, drop_mid])
      rw [hX { v with host := h } _ hhs h2]
      cases v
      simp only at hpo
      subst hpo
      rfl
    · have h2 := run_next (x := (.heads, X, { v with host := h })) hr (by simp) (fun y hy => by
        have hy : y = some (fHost (h ++ 63 :: X) v) := hy
        rw [hy, fHost_at _ v h.length (lt_mid _ _ _) (by rw [take_mid]; exact all_not fun c hc => (hch c hc).1) (by rw [at_mid]; rfl), at_mid, if_neg (by decide), if_neg (by decide), if_neg (by decide), take_mid, drop_mid])
      rw [hX { v with host := h } _ hps h2]
      cases v
      simp only at hpo
      subst hpo
      rfl
  · have e3 : h ++ ((58 :: D) ++ T) = h ++ 58 :: (D ++ T) := by simp
    rw [e3] at hr
    have h1 := run_next (x := (.port, D ++ T, { v with host := h })) hr (by simp) (fun y hy => by
      have hy : y = some (fHost (h ++ 58 :: (D ++ T)) v) := hy
      rw [hy, fHost_at _ v h.length (lt_mid _ _ _) (by rw [take_mid]; exact all_not fun c hc => (hch c hc).1) (by rw [at_mid]; rfl), at_mid, if_neg (by decide), if_pos rfl, take_mid, drop_mid])
    rcases hT with ⟨rfl, rfl, rfl⟩ | ⟨X, rfl, hX⟩ | ⟨X, rfl, hX⟩
    · rw [List.append_nil] at h1
      have h2 := run_next (x := (.params, [], { v with host := h, port := n })) h1 (by simp) (fun y hy => by
        have hy : y = fPortU D { v with host := h } := hy
        rw [hy, fPortU_ok (fPort_end D (all_not fun c hc => (nm_not (hD c hc)).1)) hat])
      rw [run_none h2]
    · have h2 := run_next (x := (.params, X, { v with host := h, port := n })) h1 (by simp) (fun y hy => by
        have hy : y = fPortU (D ++ 59 :: X) { v with host := h } := hy
        have hf := fPort_at (D ++ 59 :: X) D.length (lt_mid _ _ _) (by rw [take_mid]; exact all_not fun c hc => (nm_not (hD c hc)).1) (by rw [at_mid]; rfl)
        rw [take_mid, drop_mid, at_mid, if_pos rfl] at hf
        rw [hy, fPortU_ok hf hat])
      exact hX { v with host := h, port := n } _ hhs h2
    · have h2 := run_next (x := (.heads, X, { v with host := h, port := n })) h1 (by simp) (fun y hy => by
        have hy : y = fPortU (D ++ 63 :: X) { v with host := h } := hy
        have hf := fPort_at (D ++ 63 :: X) D.length (lt_mid _ _ _) (by rw [take_mid]; exact all_not fun c hc => (nm_not (hD c hc)).1) (by rw [at_mid]; rfl)
        rw [take_mid, drop_mid, at_mid, if_neg (by decide)] at hf
        rw [hy, fPortU_ok hf hat])
      exact hX { v with host := h, port := n } _ hps h2

/-! ### the tail -/
theorem tail_word {ps hs : KVs} (hp : ∀ x ∈ ps, WdK x) (hh : ∀ x ∈ hs, WdK x) (ap : apB ps = true) (ah : apB hs = true) (hl : hs = [] ∨ ps = [] ∨ lastV ps ≠ []) :
    TailOf (uPs ps 59 59 ++ uPs hs 63 38) ps hs ∧ ∀ c ∈ uPs ps 59 59 ++ uPs hs 63 38, c ≠ 91 ∧ c ≠ 64 := by
  have hw : ∀ c, wdq c = true ∨ c = 61 ∨ c = 59 ∨ c = 38 ∨ c = 63 → c ≠ 91 ∧ c ≠ 64 := by
    rintro c (h | rfl | rfl | rfl | rfl)
    · have := wdq_not h; exact ⟨this.2.2.2.2.2.1, this.2.2.2.2.2.2.1⟩
    all_goals decide
  constructor
  · unfold uPs
    by_cases h1 : ps = []
    · by_cases h2 : hs = []
      · subst h1; subst h2; exact .inl ⟨rfl, rfl, rfl⟩
      · rw [if_pos h1, if_neg h2, List.nil_append]
        refine .inr (.inr ⟨_, rfl, fun v r hv hr => ?_⟩)
        rw [run_heads (pairs_word (by decide) (by decide) (by decide) h2 hh ah) hr, h1]
        cases v; simp only at hv; subst hv; rfl
    · by_cases h2 : hs = []
      · rw [if_neg h1, if_pos h2, List.append_nil]
        refine .inr (.inl ⟨_, rfl, fun v r hv hr => ?_⟩)
        rw [run_params (pairs_word (by decide) (by decide) (by decide) h1 hp ap) hv hr, h2]
      · rw [if_neg h1, if_neg h2]
        refine .inr (.inl ⟨psText ps 59 ++ 63 :: psText hs 38, rfl, fun v r hv hr => ?_⟩)
        exact run_params_heads (pairs_word (by decide) (by decide) (by decide) h1 hp ap) (pairs_word (by decide) (by decide) (by decide) h2 hh ah) ((hl.resolve_left h2).resolve_left h1) hr
  · intro c hc
    refine hw c ?_
    unfold uPs at hc
    rw [List.mem_append] at hc
    rcases hc with hc | hc
    · split at hc
      · cases hc
      · rw [List.mem_cons] at hc
        rcases hc with hc | hc
        · exact .inr (.inr (.inl hc))
        · rcases psText_mem hp c hc with h | h | h
          · exact .inl h
          · exact .inr (.inl h)
          · exact .inr (.inr (.inl h))
    · split at hc
      · cases hc
      · rw [List.mem_cons] at hc
        rcases hc with hc | hc
        · exact .inr (.inr (.inr (.inr hc)))
        · rcases psText_mem hh c hc with h | h | h
          · exact .inl h
          · exact .inr (.inl h)
          · exact .inr (.inr (.inr (.inl h)))

/-! ### the user -/
theorem usq_ch {c : UInt8} (h : usq c = true) : usEnd c = false ∧ c ≠ 58 ∧ c ≠ 47 := by
  have h2 : alw [45, 95, 46, 33, 126, 42, 39] c = true := by
    unfold usq at h
    unfold alw isAn
    simp only [Bool.or_eq_true, beq_iff_eq, List.contains_iff_mem, List.mem_cons, List.mem_nil_iff, or_false] at h ⊢
    rcases h with (((((((h | h) | h) | h) | h) | h) | h) | h) | h <;> simp [h]
  have n1 := ne_alw h2 (d := 91) (by rfl)
  have n2 := ne_alw h2 (d := 64) (by rfl)
  exact ⟨by simp [usEnd, n1, n2], ne_alw h2 (by rfl), ne_alw h2 (by rfl)⟩
theorem user_word {un pw s : Tx} (hu : un = [] ∨ ∀ c ∈ un, usq c = true) (hp : ∀ c ∈ pw, usq c = true) (hup : un = [] → pw = []) (hs : ∀ c ∈ s, c ≠ 91 ∧ c ≠ 64) (v : PU) (hv1 : v.user = []) (hv2 : v.pass = []) :
    fUser ((if un = [] then [] else un ++ ((if pw = [] then [] else 58 :: pw) ++ [64])) ++ s) v = (.host, s, { v with user := un, pass := pw }) := by
  by_cases h0 : un = []
  · have h1 := hup h0
    subst h0
    subst h1
    rw [if_pos rfl, List.nil_append, fUser_end _ _ (all_not fun c hc => by simp [usEnd, (hs c hc).1, (hs c hc).2])]
    cases v
    simp only at hv1 hv2
    subst hv1
    subst hv2
    rfl
  · have hu := hu.resolve_left h0
    rw [if_neg h0]
    have hun : 0 < un.length := List.length_pos_iff.2 h0
    by_cases h1 : pw = []
    · subst h1
      have e : (un ++ ((if ([] : Tx) = [] then [] else 58 :: []) ++ [64])) ++ s = un ++ 64 :: s := by simp
      rw [e, fUser_at _ v un.length (lt_mid _ _ _) (by
          rw [take_mid]
          exact all_not fun c hc => (usq_ch (hu c hc)).1) (by rw [at_mid]; rfl), at_mid, if_neg (by decide), take_mid, lastC_none (fun c hc => (usq_ch (hu c hc)).2.1), if_neg (by omega), drop_mid]
      cases v
      simp only at hv2
      subst hv2
      rfl
    · have e : (un ++ ((if pw = [] then [] else 58 :: pw) ++ [64])) ++ s = (un ++ 58 :: pw) ++ 64 :: s := by rw [if_neg h1]; simp
      have hlc : lastC (un ++ 58 :: pw) = un.length := lastC_at fun c hc => (usq_ch (hp c hc)).2.1
      rw [e, fUser_at _ v (un ++ 58 :: pw).length (lt_mid _ _ _) (by
          rw [take_mid]
          refine all_not fun c hc => ?_
          simp only [List.mem_append, List.mem_cons] at hc
          rcases hc with hc | rfl | hc
          · exact (usq_ch (hu c hc)).1
          · rfl
          · exact (usq_ch (hp c hc)).1) (by rw [at_mid]; rfl), at_mid, if_neg (by decide), take_mid, hlc, if_pos hun, drop_mid, drop_mid]
      have e : ((un ++ 58 :: pw) ++ 64 :: s).take un.length = un := by
        rw [List.append_assoc]; exact List.take_left
      rw [e]
end Go.Proofs.YteedhaenbamiaaaGreatDoor
set_option linter.unusedVariables false
set_option linter.unusedSimpArgs false
namespace Go.Proofs.YteedhaenbamiaaaGreatDoor
open Go.RowKit

theorem prm_parts {l : KVs} {f : Bool} (h : prmB l f = true) : l.length ≤ 64 ∧ (∀ x ∈ l, WdK x ∧ x.1.length ≤ 8192 ∧ x.2.length ≤ 8192) ∧ apB l = true := by
  unfold prmB at h
  simp only [Bool.and_eq_true, decide_eq_true_eq] at h
  refine ⟨h.1.1, fun x hx => ?_, h.2⟩
  have h1 := List.all_eq_true.1 h.1.2 x hx
  unfold prq wordB at h1
  simp only [Bool.and_eq_true, Bool.or_eq_true, decide_eq_true_eq, Bool.not_eq_true'] at h1
  obtain ⟨⟨⟨a1, a2⟩, a3⟩, hv⟩ := h1
  have a1 := fun c hc => List.all_eq_true.1 a1 c hc
  rcases hv with ⟨⟨b1, b2⟩, b3⟩ | ⟨_, b⟩
  · exact ⟨⟨List.length_pos_iff.1 a2, a1, fun c hc => List.all_eq_true.1 b1 c hc⟩, a3, b3⟩
  · have b := List.eq_nil_of_length_eq_zero b
    exact ⟨⟨List.length_pos_iff.1 a2, a1, by rw [b]; simp⟩, a3, by rw [b]; simp⟩
theorem user_parts {l : Tx} (h : userB l = true) : (∀ c ∈ l, usq c = true) ∧ l ≠ [] ∧ l.length ≤ 8192 := by
  unfold userB at h
  simp only [Bool.and_eq_true, decide_eq_true_eq] at h
  exact ⟨fun c hc => List.all_eq_true.1 h.1.1 c hc, List.length_pos_iff.1 h.1.2, h.2⟩
theorem host_parts {l : Tx} (h : hostB l = true) : (∀ c ∈ l, hoq c = true) ∧ l ≠ [] ∧ l.length ≤ 8192 := by
  unfold hostB at h
  simp only [Bool.and_eq_true, decide_eq_true_eq] at h
  exact ⟨fun c hc => List.all_eq_true.1 h.1.1 c hc, List.length_pos_iff.1 h.1.2, h.2⟩
theorem good_user {u : PU} (h : GoodU u) : (u.user = [] ∨ ∀ c ∈ u.user, usq c = true) ∧ (∀ c ∈ u.pass, usq c = true) ∧ (u.user = [] → u.pass = []) ∧ u.user.length ≤ 8192 ∧ u.pass.length ≤ 8192 := by
  have hu := h.user
  have hp := h.pass
  refine ⟨hu.imp id fun h => (user_parts h).1, ?_, ?_, ?_, ?_⟩
  · rcases hp with hp | ⟨_, hp⟩
    · rw [hp]; simp
    · exact (user_parts hp).1
  · intro e
    rcases hp with hp | ⟨hn, _⟩
    · exact hp
    · exact absurd e hn
  · rcases hu with hu | hu
    · rw [hu]; simp
    · exact (user_parts hu).2.2
  · rcases hp with hp | ⟨_, hp⟩
    · rw [hp]; simp
    · exact (user_parts hp).2.2
theorem good_port {u : PU} (h : GoodU u) : PortT (uPort u) u.port := by
  unfold uPort
  have h0 := h.lo
  have h1 := h.hi
  by_cases hp : 0 < u.port
  · rw [if_pos hp]
    obtain ⟨d1, d2, d3⟩ := itoa_port h0 h1
    exact .inr ⟨_, rfl, d1, d3⟩
  · rw [if_neg hp]
    exact .inl ⟨rfl, by omega⟩
theorem good_scheme {u : PU} (h : GoodU u) : u.scheme ≠ [] ∧ (u.scheme.all (fun c => !nAl c) = true) ∧ u.scheme.map lowC = u.scheme ∧ (u.scheme = sSip ∨ u.scheme = sSips) ∧ 3 ≤ u.scheme.length ∧ u.scheme.length ≤ 4 := by
  rcases h.scheme with e | e <;> rw [e]
  · exact ⟨by decide, by decide, by decide, .inl rfl, by decide, by decide⟩
  · exact ⟨by decide, by decide, by decide, .inr rfl, by decide, by decide⟩
/-- what stands behind the scheme -/
def goodRest (u : PU) : Tx := (if u.user = [] then [] else u.user ++ ((if u.pass = [] then [] else 58 :: u.pass) ++ [64])) ++ (u.host ++ (uPort u ++ (uPs u.ps 59 59 ++ uPs u.hs 63 38)))
theorem uText_good {u : PU} (h : GoodU u) : uText u = u.scheme ++ 58 :: goodRest u := by
  unfold uText uSch uSl goodRest
  rw [if_neg (good_scheme h).1, if_pos h.raw, h.slash]
  rfl
theorem rest_head {u : PU} (h : GoodU u) : [47, 47].isPrefixOf (goodRest u) = false := by
  have key : ∀ (x : UInt8) (t : Tx), x ≠ 47 → ([47, 47] : Tx).isPrefixOf (x :: t) = false := by
    intro x t hx
    have : (47 == x) = false := by simpa using fun e => hx e.symm
    simp [List.isPrefixOf, this]
  unfold goodRest
  by_cases h0 : u.user = []
  · rw [if_pos h0, List.nil_append]
    obtain ⟨hh, hne, _⟩ := host_parts h.host
    obtain ⟨x, t, e⟩ := List.exists_cons_of_ne_nil hne
    rw [e]
    exact key x _ ((hoq_ch hh).2 x (by rw [e]; simp)).2.2.2.1
  · rw [if_neg h0]
    obtain ⟨x, t, e⟩ := List.exists_cons_of_ne_nil h0
    have hu := (good_user h).1.resolve_left h0 x (by rw [e]; simp)
    rw [e]
    exact key x _ (usq_ch hu).2.2
theorem law_back {u : PU} (h : GoodU u) {r : Option PU} (hp : PTop (uText u) PU.zero r) : r = some u := by
  obtain ⟨s1, s2, s3, s4, s5, s6⟩ := good_scheme h
  obtain ⟨p1, p2, p3⟩ := prm_parts h.ps
  obtain ⟨q1, q2, q3⟩ := prm_parts h.hs
  obtain ⟨hT, hT2⟩ := tail_word (fun x hx => (p2 x hx).1) (fun x hx => (q2 x hx).1) p3 q3 h.last
  obtain ⟨hh, hne, _⟩ := host_parts h.host
  obtain ⟨u1, u2, u3, _, _⟩ := good_user h
  rw [uText_good h] at hp
  have hne : u.scheme ++ 58 :: goodRest u ≠ [] := by simp
  unfold PTop at hp
  rw [if_neg hne] at hp
  have hf := fScheme_colon (u.scheme ++ 58 :: goodRest u) PU.zero u.scheme.length (by simp only [List.length_append, List.length_cons]; omega) (lt_mid _ _ _) (by rw [take_mid]; exact s2) (by rw [at_mid])
  rw [take_mid, drop_mid, s3, if_pos s4] at hf
  have h1 := run_next (x := (.slashes, goodRest u, { PU.zero with scheme := u.scheme })) hp (by simp) (fun y hy => by
    have hy : y = fScheme _ PU.zero := hy
    rw [hy, hf])
  have h2 := run_next (x := (.user, goodRest u, { PU.zero with scheme := u.scheme })) h1 (by simp) (fun y hy => by
    have hy : y = some (fSlashes (goodRest u) { PU.zero with scheme := u.scheme }) := hy
    rw [hy]
    unfold fSlashes
    rw [rest_head h]
    rfl)
  have hpt : ∀ c ∈ uPort u, c ≠ 91 ∧ c ≠ 64 := by
    intro c hc
    rcases good_port h with ⟨e, _⟩ | ⟨D, e, hD, _⟩
    · rw [e] at hc; cases hc
    · rw [e, List.mem_cons] at hc
      rcases hc with rfl | hc
      · decide
      · have h9 := nm_range (hD c hc)
        constructor <;> (rintro rfl; revert h9; decide)
  have h3 := run_next (x := (.host, u.host ++ (uPort u ++ (uPs u.ps 59 59 ++ uPs u.hs 63 38)), { PU.zero with scheme := u.scheme, user := u.user, pass := u.pass })) h2 (by simp) (fun y hy => by
    have hy : y = some (fUser (goodRest u) { PU.zero with scheme := u.scheme }) := hy
    rw [hy]
    unfold goodRest
    rw [user_word u1 u2 u3 (fun c hc => by
      rw [List.mem_append, List.mem_append] at hc
      rcases hc with hc | hc | hc
      · exact ⟨((hoq_ch hh).2 c hc).2.1, ((hoq_ch hh).2 c hc).2.2.1⟩
      · exact hpt c hc
      · exact hT2 c hc) _ rfl rfl])
  rw [run_host2 hh (good_port h) hT rfl rfl rfl rfl h3]
  have e1 := h.raw
  have e2 := h.wild
  have e3 := h.slash
  obtain ⟨us, ur, uw, usl, uu, up, uh, upo, ups, uhs⟩ := u
  simp only at e1 e2 e3
  subst e1; subst e2; subst e3
  rfl
end Go.Proofs.YteedhaenbamiaaaGreatDoor
set_option linter.unusedVariables false
set_option linter.unusedSimpArgs false
namespace Go.Proofs.YteedhaenbamiaaaGreatDoor
open Go.RowKit

theorem flat_le (sep : UInt8) : ∀ (l : KVs), (∀ x ∈ l, x.1.length ≤ 8192 ∧ x.2.length ≤ 8192) → (l.flatMap (kvText sep)).length ≤ l.length * 16400 := by
  intro l
  induction l with
  | nil => intro _; simp
  | cons x r ih =>
    intro h
    have h1 := ih (fun y hy => h y (by simp [hy]))
    have h2 := h x (by simp)
    have h3 : (kvText sep x).length ≤ 16400 := by
      unfold kvText
      split
      · simp only [List.length_cons, List.length_append, List.length_nil]; omega
      · split <;> simp only [List.length_cons, List.length_append, List.length_nil] <;> omega
    rw [List.flatMap_cons, List.length_append, List.length_cons]
    omega
theorem good_kvs {l : KVs} {f : Bool} (h : prmB l f = true) (sep : UInt8) : KSm 1099511627775 l ∧ (l.flatMap (kvText sep)).length ≤ 1049600 := by
  obtain ⟨h1, h2, _⟩ := prm_parts h
  refine ⟨⟨by omega, fun x hx => ⟨by have := (h2 x hx).2.1; omega, by have := (h2 x hx).2.2; omega⟩⟩, ?_⟩
  have := flat_le sep l (fun x hx => (h2 x hx).2)
  omega
theorem good_small {u : PU} (h : GoodU u) : u.small := by
  obtain ⟨_, _, _, _, _, s6⟩ := good_scheme h
  obtain ⟨_, _, _, u4, u5⟩ := good_user h
  obtain ⟨_, _, h3⟩ := host_parts h.host
  have hr := h.raw
  have h0 := h.lo
  have h1 := h.hi
  unfold PU.small
  rw [hr]
  simp only [List.length_nil]
  omega
theorem good_len {u : PU} (h : GoodU u) : (uText u).length ≤ 1099511627000 := by
  obtain ⟨_, _, _, _, _, s6⟩ := good_scheme h
  obtain ⟨_, _, _, u4, u5⟩ := good_user h
  obtain ⟨_, _, h3⟩ := host_parts h.host
  have hp := (good_kvs h.ps 59).2
  have hq := (good_kvs h.hs 38).2
  have h6 : (uPort u).length ≤ 22 := by
    unfold uPort
    split
    · have := Lib.itoa_length_le u.port (by have := h.lo; omega) (by have := h.hi; omega)
      simp only [List.length_cons]; omega
    · simp
  have h7 : (uPs u.ps 59 59).length ≤ 1049601 := by
    unfold uPs psText; split
    · simp
    · simp only [List.length_cons, List.length_drop]; omega
  have h8 : (uPs u.hs 63 38).length ≤ 1049601 := by
    unfold uPs psText; split
    · simp
    · simp only [List.length_cons, List.length_drop]; omega
  have h9 : (if u.user = [] then ([] : Tx) else u.user ++ ((if u.pass = [] then [] else 58 :: u.pass) ++ [64])).length ≤ 16390 := by
    split
    · simp
    · split <;> simp only [List.length_cons, List.length_append, List.length_nil] <;> omega
  rw [uText_good h]
  unfold goodRest
  simp only [List.length_append, List.length_cons] at h9 ⊢
  omega
theorem good_host {u : PU} (h : GoodU u) : hostPlain u.host := fun c hc => ((hoq_ch (host_parts h.host).1).2 c hc).2.2.2.2

end Go.Proofs.YteedhaenbamiaaaGreatDoor
