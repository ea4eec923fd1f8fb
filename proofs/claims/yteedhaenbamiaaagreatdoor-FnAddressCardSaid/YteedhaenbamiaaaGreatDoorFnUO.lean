/- Contract: the law FnUriOther. -/
import Derived.Test.YteedhaenbamiaaaGreatDoorLw
import Derived.Test.YteedhaenbamiaaaGreatDoorRaw
import Derived.Great.BuildSlice
set_option linter.unusedVariables false
set_option linter.unusedSimpArgs false
namespace Go.Proofs.YteedhaenbamiaaaGreatDoor
open Go.RowKit

theorem is_d (w : World) (a : Value) (la lb : Tx) (s : ByteArray) (r : Bool) (ha : Bv w a la) (hs : bs s = lb) (hl : lb.length ≤ 140737488355328) (h : decide (la = lb) = r) :
    Calls Tryz.prog 25 #[a, .string s] w fun e w' => e = .returned (.bool r) ∧ Le w w' := by
  have := is_c w a la s ha (by rw [← bs_len, hs]; exact hl)
  rw [hs, h] at this
  exact this
theorem equal_l (w : World) (x y : Value) (lx ly : Tx) (b : Bool) (h : decide (lx = ly) = b) (hx : Bv w x lx) (hy : Bv w y ly) :
    Calls Tryz.prog 11 #[x, y] w fun e w' => e = .returned (.bool b) ∧ Le w w' :=
  (equal_b w x y lx ly b h hx hy).mono fun e w' ⟨h1, m, h2⟩ => ⟨h1, h2 ▸ (Le.refl w).drewN m⟩
theorem isLine_d (v : Value) (l : Tx) (w : World) (r : Bool) (h : lineB l = r) (hv : Bv w v l) : Calls Tryz.prog 64 #[v] w fun e w' => e = .returned (.bool r) ∧ w = w' := by
  rw [← h]; exact isLine_c v l w hv
/-- what the law speaks of -/
structure GoodUO (sc rest : Tx) : Prop where
  ne : sc ≠ []
  len : sc.length ≤ 8192
  sip : sc ≠ sSip
  sips : sc ≠ sSips
  line : lineB rest = true
theorem lineB_len {l : Tx} (h : lineB l = true) : l ≠ [] ∧ l.length ≤ 8192 := by
  unfold lineB at h
  simp only [Bool.and_eq_true, decide_eq_true_eq] at h
  exact ⟨List.length_pos_iff.1 h.1.1.1.2, h.1.1.2⟩
def lwq (c : UInt8) : Bool := 97 ≤ c && c ≤ 122
theorem lwq_int (c : UInt8) : lwq c = (decide (97 ≤ (c.toNat : Int)) && decide ((c.toNat : Int) ≤ 122)) := by
  have e1 : (97 : UInt8).toNat = 97 := rfl
  have e2 : (122 : UInt8).toNat = 122 := rfl
  have h1 : decide ((97 : UInt8) ≤ c) = decide (97 ≤ (c.toNat : Int)) := by
    rw [Bool.eq_iff_iff]; simp only [decide_eq_true_eq, UInt8.le_iff_toNat_le]; omega
  have h2 : decide (c ≤ (122 : UInt8)) = decide ((c.toNat : Int) ≤ 122) := by
    rw [Bool.eq_iff_iff]; simp only [decide_eq_true_eq, UInt8.le_iff_toNat_le]; omega
  unfold lwq
  rw [h1, h2]
theorem other_small {sc rest : Tx} (h1 : sc.length ≤ 8192) (h2 : rest.length ≤ 8192) : ({ PU.zero with scheme := sc, raw := rest } : PU).small := by
  unfold PU.small PU.zero; simp; omega
end Go.Proofs.YteedhaenbamiaaaGreatDoor
