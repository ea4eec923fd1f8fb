/- Plain facts on right URIs: their sizes; the text that the laws write is the one that the package writes. -/
import Derived.Test.YteedhaenbamiaaaGreatDoorWd
import Derived.Test.YteedhaenbamiaaaGreatDoorLw6
import Derived.Test.YteedhaenbamiaaaGreatDoorDec
import Derived.Test.YteedhaenbamiaaaGreatDoorUpts
set_option linter.unusedVariables false
set_option linter.unusedSimpArgs false
namespace Go.Proofs.YteedhaenbamiaaaGreatDoor
open Go.RowKit

structure SzU (u : PU) : Prop where
  scheme : u.scheme.length ≤ 65536
  user : u.user.length ≤ 65536
  pass : u.pass.length ≤ 65536
  host : u.host.length ≤ 65536
  lo : 0 ≤ u.port
  hi : u.port ≤ 65535
  ps : ∀ k ≤ u.ps.length, (ptP u.ps 59 k).length ≤ 1099511627776
  hs : ∀ k ≤ u.hs.length, (ptP u.hs 38 k).length ≤ 1099511627776
  pm : ∀ x ∈ u.ps, x.1.length + x.2.length ≤ 20000
  hm : ∀ x ∈ u.hs, x.1.length + x.2.length ≤ 20000
def lwPass (u : PU) : Tx := if u.pass = [] then [] else 58 :: u.pass
def lwUser (u : PU) : Tx := if u.user = [] then [] else u.user ++ (lwPass u ++ [64])
def lwP (l : KVs) (c sep : UInt8) : Tx := if l = [] then [] else c :: ptP l sep l.length
def lwText (u : PU) : Tx := u.scheme ++ 58 :: (lwUser u ++ (hostT u.host u.port.toNat ++ (lwP u.ps 59 59 ++ lwP u.hs 63 38)))
theorem gHoq {c : UInt8} (h : hoq c = true) : c ≠ 58 := by rintro rfl; revert h; decide
theorem gHost {u : PU} (h : GoodU u) : hostPlain u.host ∧ u.host ≠ [] ∧ u.host.length ≤ 8192 := by
  have h := h.host
  unfold hostB at h
  simp only [Bool.and_eq_true, decide_eq_true_eq] at h
  exact ⟨fun c hc => gHoq (List.all_eq_true.1 h.1.1 c hc), List.length_pos_iff.1 h.1.2, h.2⟩
theorem gUserB {l : Tx} (h : userB l = true) : l.length ≤ 8192 := by
  unfold userB at h
  simp only [Bool.and_eq_true, decide_eq_true_eq] at h
  exact h.2
theorem gUser {u : PU} (h : GoodU u) : u.user.length ≤ 8192 ∧ u.pass.length ≤ 8192 := by
  constructor
  · rcases h.user with e | e
    · rw [e]; simp
    · exact gUserB e
  · rcases h.pass with e | ⟨_, e⟩
    · rw [e]; simp
    · exact gUserB e
theorem gScheme {u : PU} (h : GoodU u) : u.scheme ≠ [] ∧ u.scheme.length ≤ 4 := by
  rcases h.scheme with e | e <;> rw [e] <;> exact ⟨by decide, by decide⟩
theorem gFlat (sep : UInt8) : ∀ (l : KVs), (∀ x ∈ l, x.1.length ≤ 8192 ∧ x.2.length ≤ 8192) → (l.flatMap (kvText sep)).length ≤ l.length * 16400 := by
  intro l
  induction l with
  | nil => intro _; simp
  | cons x r ih =>
    intro h
    have h1 := ih (fun y hy => h y (by simp [hy]))
    have h2 := h x (by simp)
    have h3 : (kvText sep x).length ≤ 16400 := by
      unfold kvText
      split
      · simp only [List.length_cons, List.length_append, List.length_nil]; omega
      · split <;> simp only [List.length_cons, List.length_append, List.length_nil] <;> omega
    rw [List.flatMap_cons, List.length_append, List.length_cons]
    omega
theorem gKvs {l : KVs} {f : Bool} (h : prmB l f = true) (sep : UInt8) : KSm 1099511627775 l ∧ (l.flatMap (kvText sep)).length ≤ 1049600 := by
  have k := prm_k h
  have h1 := k.len
  refine ⟨⟨by omega, fun x hx => ⟨by have := (k.sm x hx).1; omega, by have := (k.sm x hx).2; omega⟩⟩, ?_⟩
  have := gFlat sep l k.sm
  omega
theorem gSmall {u : PU} (h : GoodU u) : u.small := by
  have s := (gScheme h).2
  obtain ⟨u4, u5⟩ := gUser h
  obtain ⟨_, _, h3⟩ := gHost h
  have hr := h.raw
  have h0 := h.lo
  have h1 := h.hi
  unfold PU.small
  rw [hr]
  simp only [List.length_nil]
  omega
theorem gSz {u : PU} (h : GoodU u) : SzU u := by
  have s := (gScheme h).2
  obtain ⟨u4, u5⟩ := gUser h
  obtain ⟨_, _, h3⟩ := gHost h
  exact ⟨by omega, by omega, by omega, by omega, h.lo, h.hi, fun k hk => by have := (prm_k h.ps).ptlen 59 k hk; omega, fun k hk => by have := (prm_k h.hs).ptlen 38 k hk; omega,
    fun x hx => by have := (prm_k h.ps).sm x hx; omega, fun x hx => by have := (prm_k h.hs).sm x hx; omega⟩
theorem gPort (host : Tx) (u : PU) (h0 : 0 ≤ u.port) : host ++ uPort u = hostT host u.port.toNat := by
  unfold uPort hostT
  by_cases hp : 0 < u.port
  · rw [if_pos hp, if_neg (by omega), Int.toNat_of_nonneg h0]
  · rw [if_neg hp, if_pos (by omega), List.append_nil]
theorem gPs {l : KVs} {f : Bool} (h : prmB l f = true) (c sep : UInt8) : uPs l c sep = lwP l c sep := by
  unfold uPs lwP
  rw [ptP_all, psText_pt (prm_k h).wd]
theorem gText {u : PU} (h : GoodU u) : uText u = lwText u := by
  unfold uText uSch uSl lwText
  rw [if_neg (gScheme h).1, if_pos h.raw, h.slash, ← gPort u.host u h.lo, gPs h.ps, gPs h.hs]
  simp only [Bool.false_eq_true, if_false, List.nil_append, List.append_assoc]
  rfl
theorem gEp {u : PU} (h0 : 0 ≤ u.port) : epT u = u.user ++ 64 :: hostT u.host u.port.toNat := by
  unfold epT
  rw [gPort u.host u h0]
theorem gAd {u : PU} (h : GoodU u) (hu : u.user ≠ []) : adT u = u.scheme ++ 58 :: (u.user ++ 64 :: hostT u.host u.port.toNat) := by
  unfold adT arT uSch
  rw [if_neg (gScheme h).1, if_neg hu, ← gPort u.host u h.lo]
  simp
theorem gLwLen {u : PU} (h : GoodU u) : (lwText u).length ≤ 1099511627000 := by
  have s := (gScheme h).2
  obtain ⟨u4, u5⟩ := gUser h
  obtain ⟨_, _, h3⟩ := gHost h
  have hp := (prm_k h.ps).ptlen 59 u.ps.length (Nat.le_refl _)
  have hq := (prm_k h.hs).ptlen 38 u.hs.length (Nat.le_refl _)
  have h5 := itoa_len u.port.toNat (by have := h.hi; omega)
  have a1 : (lwUser u).length ≤ 20000 := by
    unfold lwUser lwPass
    split
    · simp
    · split <;> simp only [List.length_append, List.length_cons, List.length_nil] <;> omega
  have a2 : (hostT u.host u.port.toNat).length ≤ 20000 := by
    unfold hostT
    split
    · omega
    · simp only [List.length_append, List.length_cons]; omega
  have a3 : (lwP u.ps 59 59).length ≤ 2097153 := by unfold lwP; split <;> simp only [List.length_cons, List.length_nil] <;> omega
  have a4 : (lwP u.hs 63 38).length ≤ 2097153 := by unfold lwP; split <;> simp only [List.length_cons, List.length_nil] <;> omega
  unfold lwText
  simp only [List.length_append, List.length_cons]
  omega
end Go.Proofs.YteedhaenbamiaaaGreatDoor
