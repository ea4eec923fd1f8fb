/- Contracts: zzIndexAny, zzContainsAny over a blank and a tab. -/
import Derived.Test.YtbdeohmdpkkpdaaGreatDoorLow
set_option linter.unusedVariables false
set_option linter.unusedSimpArgs false
namespace Go.Proofs.YtbdeohmdpkkpdaaGreatDoor
open Go.RowKit

def bl2 (c : UInt8) : Bool := c == 32 || c == 9
theorem bl2_hi (x : UInt8) (h : 128 ≤ x.toNat) : bl2 x = false := by
  have n3 : x ≠ 32 := by rintro rfl; revert h; decide
  have n4 : x ≠ 9 := by rintro rfl; revert h; decide
  simp [bl2, n3, n4]
theorem next_fix {P : Program} {wr : World} {k : Nat} (q : Nat) (c : Nat) (s : ByteArray) (h : Utf8.decode s q = (c, 1)) (hq : q < s.size) (hk : wr.heap[k]? = some (.stringIter s q)) :
    (∀ ty, (Instr.next (.pointer (some ⟨k, 0, none⟩)) true ty).run P wr = .ok (.tuple #[.bool true, .int .i64 q, .int .i32 c]) (wr.iterAt k s (q + 1))) := fun ty => by
  have := Lib.run_next_any_at (P := P) wr _ s q ty hk hq
  rw [h] at this
  exact this

set_option maxRecDepth 4000 in
set_option maxHeartbeats 2000000 in
theorem idxAny_c (s : ByteArray) (w : World) (hs : s.size ≤ 1099511627776) : Calls Tryz.prog 129 #[.string s, .string ⟨#[32, 9]⟩] w fun e w' =>
    ∃ r : Int, e = .returned (.int .i64 r) ∧ (decide (0 ≤ r)) = (bs s).any bl2 ∧ Le w w' := by
  have HL := Lib.hid (bs_len s)
  go_enter Tryz.func129, Tryz.ntmps129
  go_wp2
  go_loopg [] (s.size) (fun n wr => ∃ p : Nat, n + p = s.size ∧ Le w wr ∧ wr.heap[w.heap.size]? = some (.stringIter s p) ∧ ((bs s).take p).all (fun c => !bl2 c) = true)
  case atStart => exact ⟨0, by omega, (Le.refl w).iter s 0, World.iter_heap _ _ _, rfl⟩
  case round =>
    obtain ⟨p, hn, hle, hit, hq⟩ := hrel
    have HQ := Lib.hid hq
    have HLE := Lib.hid hle
    have HN : gk + p ≤ s.size ∧ s.size ≤ gk + p := by omega
    clear hn hq hle
    by_cases hlt : p < s.size
    · obtain ⟨c, d, W1, hnx, hst, hit1, hW1⟩ := next_step (P := Tryz.prog) hit hlt
      have HLE1 := Lib.hid (hW1 ▸ HLE.out.iterAt (Nat.le_refl _) s (p + d) : Le w W1)
      have HST := Lib.hid hst
      have HS2 : 1 ≤ d ∧ p + d ≤ s.size ∧ 0 ≤ c ∧ c ≤ 1114111 := ⟨hst.1, hst.2.1, hst.2.2.1, hst.2.2.2.1⟩
      have HIT1 := Lib.hid hit1
      clear hW1 hst hit hit1
      go_wp2
      go_loopg [] 2 (fun n wr => ∃ q : Nat, n + q = 2 ∧ Le W1 wr ∧ wr.heap[W1.heap.size]? = some (.stringIter ⟨#[32, 9]⟩ q) ∧ (1 ≤ q → c ≠ 32) ∧ (2 ≤ q → c ≠ 9))
      case atStart => exact ⟨0, by omega, (Le.refl W1).iter _ 0, World.iter_heap _ _ _, by simp, by simp⟩
      case round =>
        obtain ⟨q, hn, hle, hit, hq1, hq2⟩ := hrel
        have HLE2 := Lib.hid hle
        have HQ1 := Lib.hid hq1
        have HQ2 := Lib.hid hq2
        clear hq1 hq2 hle
        rcases (by omega : q = 0 ∨ q = 1 ∨ q = 2) with rfl | rfl | rfl
        · have HG : 2 ≤ gk := by omega
          clear hn
          have hnx := next_fix (P := Tryz.prog) 0 32 ⟨#[32, 9]⟩ (by rfl) (by decide) hit
          have HIT2 := Lib.hid (Lib.iterAt_heap _ _ _ _ (0 + 1) hit)
          have HLE3 : Hid (Le W1 (wr.iterAt W1.heap.size ⟨#[32, 9]⟩ (0 + 1))) := Lib.hid (HLE2.out.iterAt (Nat.le_refl _) _ _)
          generalize wr.iterAt W1.heap.size ⟨#[32, 9]⟩ (0 + 1) = W3 at hnx HIT2 HLE3
          clear hit
          by_cases hc : c = 32
          · subst hc
            obtain ⟨hp, hx⟩ := scan_hit HST.out 32 (by decide) rfl
            go_wp2
            go_ret
            refine ⟨p, rfl, ?_, HLE1.out.trans HLE3.out⟩
            rw [show decide ((0 : Int) ≤ (p : Int)) = true from by simp]
            exact (List.any_eq_true.2 ⟨(bs s)[p], List.getElem_mem hp, by rw [hx]; rfl⟩).symm
          · have ec : (c == 32) = false := by simpa using hc
            have HC := Lib.hid hc
            clear hc
            go_wp2
            go_roundg 1
            case measure => omega
            case rel => exact ⟨0 + 1, by omega, HLE3.out, HIT2.out, fun _ => HC.out, by omega⟩
        · have HG : 1 ≤ gk := by omega
          clear hn
          have hnx := next_fix (P := Tryz.prog) 1 9 ⟨#[32, 9]⟩ (by rfl) (by decide) hit
          have HIT2 := Lib.hid (Lib.iterAt_heap _ _ _ _ (1 + 1) hit)
          have HLE3 : Hid (Le W1 (wr.iterAt W1.heap.size ⟨#[32, 9]⟩ (1 + 1))) := Lib.hid (HLE2.out.iterAt (Nat.le_refl _) _ _)
          generalize wr.iterAt W1.heap.size ⟨#[32, 9]⟩ (1 + 1) = W3 at hnx HIT2 HLE3
          clear hit
          by_cases hc : c = 9
          · subst hc
            obtain ⟨hp, hx⟩ := scan_hit HST.out 9 (by decide) rfl
            go_wp2
            go_ret
            refine ⟨p, rfl, ?_, HLE1.out.trans HLE3.out⟩
            rw [show decide ((0 : Int) ≤ (p : Int)) = true from by simp]
            exact (List.any_eq_true.2 ⟨(bs s)[p], List.getElem_mem hp, by rw [hx]; rfl⟩).symm
          · have ec : (c == 9) = false := by simpa using hc
            have HC := Lib.hid hc
            clear hc
            go_wp2
            go_roundg 0
            case measure => omega
            case rel => exact ⟨1 + 1, by omega, HLE3.out, HIT2.out, fun _ => HQ1.out (by omega), fun _ => HC.out⟩
        · have hnx := fun ty => Lib.run_next_end_at (P := Tryz.prog) wr _ ⟨#[32, 9]⟩ 2 ty hit (by decide)
          have hF : Hid (((bs s).take (p + d)).all (fun c => !bl2 c) = true) := scan_next (q := bl2) bl2_hi HST.out HQ.out (fun x hx => by
            have n1 : x ≠ 32 := by rintro rfl; exact HQ1.out (by omega) hx
            have n2 : x ≠ 9 := by rintro rfl; exact HQ2.out (by omega) hx
            simp [bl2, n1, n2])
          have HIT4 := Lib.hid (HLE2.out.heap HIT1.out)
          have HLE4 := Lib.hid (HLE1.out.trans HLE2.out)
          clear hit hn
          go_wp2
          go_roundg (s.size - (p + d))
          case measure => omega
          case rel => exact ⟨p + d, by omega, HLE4.out, HIT4.out, hF.out⟩
    · have hnx := fun ty => Lib.run_next_end_at (P := Tryz.prog) wr _ s p ty hit hlt
      have hall : Hid ((bs s).all (fun c => !bl2 c) = true) := by
        have h1 := HQ.out
        rw [List.take_of_length_le (by rw [HL.out]; omega)] at h1
        exact h1
      clear hit
      go_wp2
      go_ret
      refine ⟨_, rfl, ?_, HLE.out⟩
      have h1 := hall.out
      cases h2 : (bs s).any bl2 with
      | false => rfl
      | true =>
        obtain ⟨x, hx, hx2⟩ := List.any_eq_true.1 h2
        have := List.all_eq_true.1 h1 x hx
        simp [hx2] at this

theorem contAny_c (s : ByteArray) (w : World) (hs : s.size ≤ 1099511627776) : Calls Tryz.prog 109 #[.string s, .string ⟨#[32, 9]⟩] w fun e w' =>
    e = .returned (.bool ((bs s).any bl2)) ∧ Le w w' := by
  go_enter Tryz.func109, Tryz.ntmps109
  go_wp2_with fail
  refine (idxAny_c s _ hs).mono ?_
  rintro e w' ⟨r, rfl, hr, hle⟩
  have HR := Lib.hid hr
  have HLE := Lib.hid hle
  clear hr hle
  go_wp2
  go_ret
  exact ⟨by rw [← HR.out]; rfl, HLE.out⟩
end Go.Proofs.YtbdeohmdpkkpdaaGreatDoor
