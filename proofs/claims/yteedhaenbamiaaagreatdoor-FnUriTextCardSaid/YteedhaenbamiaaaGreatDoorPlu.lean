/- The plain law of plain URIs: what a URI is whose text, as the specification writes it, is read as itself; the package writes the same text. -/
import Derived.Test.YteedhaenbamiaaaGreatDoorGd
import Derived.Test.YteedhaenbamiaaaGreatDoorLaw
set_option linter.unusedVariables false
set_option linter.unusedSimpArgs false
namespace Go.Proofs.YteedhaenbamiaaaGreatDoor
open Go.RowKit

/-- the text that the specification writes -/
def sxRest (u : PU) : Tx := lwUser u ++ ((u.host ++ uPort u) ++ (lwP u.ps 59 59 ++ lwP u.hs 63 38))
def sxText (u : PU) : Tx := if u.wild = true then [42] else u.scheme ++ 58 :: (if u.raw = [] then sxRest u else u.raw)
/-- a plain URI -/
def Pln (u : PU) : Prop := sUri (sxText u) = .val u ∧ u.wild = false
theorem pairs_alw {Q : Tx} {sp : UInt8} {signs : Tx} {kvs : KVs} (h : pairsS Q sp signs = some kvs) : ∀ x ∈ kvs, ∀ c ∈ x.2, alw signs c = true := by
  unfold pairsS at h
  split at h
  · rename_i hc
    injection h with h
    subst h
    simp only [Bool.and_eq_true] at hc
    intro x hx
    obtain ⟨p, hp, rfl⟩ := List.mem_map.1 hx
    obtain ⟨k, v, e, _, _, hv, _⟩ := kvOk_cases (List.all_eq_true.1 hc.1 p hp)
    rw [e]
    exact hv
  · cases h
theorem alw_bl {signs : Tx} (h32 : alw signs 32 = false) (h9 : alw signs 9 = false) {l : Tx} (h : ∀ c ∈ l, alw signs c = true) : l.any bl2 = false := by
  rw [List.any_eq_false]
  intro c hc
  have n1 := ne_alw (h c hc) h32
  have n2 := ne_alw (h c hc) h9
  simp [bl2, n1, n2]
theorem pt_flat {sep : UInt8} : ∀ {l : KVs}, (∀ x ∈ l, x.2.any bl2 = false) → l.flatMap (kvText sep) = l.flatMap (fun y => sep :: pceT y) := by
  intro l
  induction l with
  | nil => intro _; rfl
  | cons x r ih =>
    intro h
    have e : kvText sep x = sep :: pceT x := by
      unfold kvText pceT
      rw [h x (by simp), if_neg (by simp)]
    rw [List.flatMap_cons, List.flatMap_cons, e, ih (fun y hy => h y (by simp [hy]))]
theorem pt_text {sep : UInt8} {l : KVs} (h : ∀ x ∈ l, x.2.any bl2 = false) : psText l sep = ptT l sep := by
  unfold psText
  rw [pt_flat h]
  cases l with
  | nil => rfl
  | cons x r => rfl
theorem host_no58 {l : Tx} (h : isHostB l = true) : hostPlain l := by
  unfold isHostB at h
  simp only [Bool.and_eq_true] at h
  rintro c hc rfl
  have := List.all_eq_true.1 h.1 58 hc
  revert this; decide
/-- what is known of a URI that is read as a sip or sips one -/
structure SipK (u : PU) : Prop where
  sch : u.scheme = sSip ∨ u.scheme = sSips
  raw : u.raw = []
  wild : u.wild = false
  slash : u.slash = false
  lo : 0 ≤ u.port
  hi : u.port ≤ 65535
  host : hostPlain u.host
  ps : ∀ x ∈ u.ps, x.2.any bl2 = false
  hs : ∀ x ∈ u.hs, x.2.any bl2 = false
theorem hostPort_k {s h : Tx} {n : Nat} (hh : hostPortS s = some (h, n)) : isHostB h = true ∧ n ≤ 65535 := by
  unfold hostPortS at hh
  split at hh
  · split at hh
    · rename_i m hp
      split at hh
      · rename_i hb
        injection hh with hh
        injection hh with h1 h2
        subst h1; subst h2
        exact ⟨hb, (port_parts hp).2.2.2⟩
      · cases hh
    · cases hh
  · split at hh
    · rename_i hb
      injection hh with hh
      injection hh with h1 h2
      subst h1; subst h2
      exact ⟨hb, by omega⟩
    · cases hh
theorem sip_k {sc l : Tx} {u : PU} (hs : sc = sSip ∨ sc = sSips) (h : sSipUri sc l = some u) : SipK u := by
  unfold sSipUri at h
  split at h
  · cases h
  · split at h
    · cases h
    · split at h
      · cases h
      · split at h
        · cases h
        · rename_i hH _ _ _ hP _ _ _ hO
          injection h with h
          subst h
          obtain ⟨o1, o2⟩ := hostPort_k hO
          refine ⟨hs, rfl, rfl, rfl, by simp, by show ((_ : Nat) : Int) ≤ 65535; omega, host_no58 o1, ?_, ?_⟩
          · rcases params_cases hP with ⟨_, e⟩ | ⟨P, _, e, _⟩
            · dsimp only; rw [e]; simp
            · exact fun x hx => alw_bl (by rfl) (by rfl) (pairs_alw e x hx)
          · rcases heads_cases hH with ⟨_, e⟩ | ⟨H, _, e, _⟩
            · dsimp only; rw [e]; simp
            · exact fun x hx => alw_bl (by rfl) (by rfl) (pairs_alw e x hx)
theorem sUri_val {l : Tx} {u : PU} (h : sUri l = .val u) : u.wild = true ∨ (u = { PU.zero with scheme := u.scheme, raw := u.raw } ∧ u.raw ≠ [] ∧ u.scheme ≠ []) ∨ SipK u := by
  unfold sUri at h
  split at h
  · cases h
  · split at h
    · injection h with h; subst h; exact .inl rfl
    · dsimp only at h
      split at h
      · rename_i hk
        split at h
        · split at h
          · rename_i hc
            injection h with h
            subst h
            simp only [Bool.and_eq_true, Bool.not_eq_true', List.isEmpty_eq_false_iff] at hc
            simp only [Bool.and_eq_true, decide_eq_true_eq] at hk
            refine .inr (.inl ⟨rfl, hc.1.1.1, fun e => ?_⟩)
            have := congrArg List.length e
            simp only [List.length_take, List.length_nil] at this
            omega
          · cases h
        · rename_i hlow
          split at h
          · cases h
          · rename_i he
            split at h
            · cases h
            · have hsc : l.take (ixOf l 58) = sSip ∨ l.take (ixOf l 58) = sSips := by
                have he : (l.take (ixOf l 58)).map lowC = l.take (ixOf l 58) := Classical.not_not.1 he
                rw [he] at hlow
                exact Classical.or_iff_not_imp_left.2 fun h1 => Classical.byContradiction fun h2 => hlow ⟨h1, h2⟩
              refine .inr (.inr (sip_k hsc (l := l.drop (ixOf l 58 + 1)) ?_))
              cases hs : sSipUri (l.take (ixOf l 58)) (l.drop (ixOf l 58 + 1)) with
              | none => rw [hs] at h; cases h
              | some v => rw [hs] at h; injection h with h; rw [h]
      · cases h
/-- a plain URI is one of two kinds -/
theorem pln_cases {u : PU} (h : Pln u) : (u = { PU.zero with scheme := u.scheme, raw := u.raw } ∧ u.raw ≠ [] ∧ u.scheme ≠ []) ∨ SipK u := by
  rcases sUri_val h.1 with hw | hr | hs
  · rw [h.2] at hw; cases hw
  · exact .inl hr
  · exact .inr hs
/-- the package writes the same text -/
theorem pln_text {u : PU} (h : SipK u) : uText u = sxText u := by
  have hne : u.scheme ≠ [] := by rcases h.sch with e | e <;> rw [e] <;> decide
  unfold uText uSch uSl sxText sxRest uPs lwP
  rw [if_neg hne, if_pos h.raw, h.slash, h.wild, if_pos h.raw, ptP_all, ptP_all, pt_text h.ps, pt_text h.hs]
  simp only [Bool.false_eq_true, if_false, List.nil_append, List.append_assoc]
  rfl
theorem pln_raw {u : PU} (h : Pln u) (hr : u.raw ≠ []) : ∀ q, PTop (u.scheme ++ 58 :: u.raw) PU.zero q → q = some u := by
  intro q hq
  have hl := law hq
  have hs : sUri (u.scheme ++ 58 :: u.raw) = .val u := by
    have h1 := h.1
    unfold sxText at h1
    rw [h.2, if_neg (by simp), if_neg hr] at h1
    exact h1
  rw [hs] at hl
  exact hl
end Go.Proofs.YteedhaenbamiaaaGreatDoor
