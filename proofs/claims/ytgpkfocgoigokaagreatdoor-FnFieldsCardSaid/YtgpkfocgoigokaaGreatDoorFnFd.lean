/- The walk of the law: FnFields. -/
import Derived.Test.YtgpkfocgoigokaaGreatDoorFdP
import Derived.Test.YtgpkfocgoigokaaGreatDoorFdJ
import Derived.Test.YtgpkfocgoigokaaGreatDoorKnown
import Derived.BigQuiet
set_option linter.unusedVariables false
set_option linter.unusedSimpArgs false
namespace Go.Proofs.YtgpkfocgoigokaaGreatDoor
open Go.RowKit

theorem Sl.leF {w w' : World} {v : Value} {ls : List Tx} (h : Sl w w v ls) (k : Le w w') : Sl w' w' v ls := by
  obtain ⟨A, c, rfl, h1, h2, h3, h4⟩ := h
  refine ⟨A, c, rfl, h1, h2, h3, fun hl => ?_⟩
  obtain ⟨g, o, rfl, hc⟩ := h4 hl
  exact ⟨g, o, rfl, fun j hj => by obtain ⟨x, hx, hb⟩ := hc j hj; exact ⟨x, k.cell hx, hb.le k⟩⟩
theorem prn_lt {c : UInt8} (h : prn c = true) : c.toNat < 128 := by
  unfold prn at h
  rw [Bool.and_eq_true] at h
  have h2 : c ≤ (126 : UInt8) := of_decide_eq_true h.2
  rw [UInt8.le_iff_toNat_le] at h2
  have : (126 : UInt8).toNat = 126 := rfl
  omega
set_option maxRecDepth 8000 in
set_option maxHeartbeats 8000000 in
theorem fnFields_c (w : World) (v : Value) (l : Tx) (hv : Bv w v l) (hL : Laid w) :
    Calls Tryz.prog 3 #[v] w fun e w' => e = .returned (.bool true) ∧ Le w w' := by
  have HV := Lib.hid hv
  have HL := Lib.hid hL
  obtain ⟨A0, c0, rfl, hl0⟩ := bv_slice hv
  clear hv hL
  by_cases h1 : 2147483647 < l.length
  · have h1' : (2147483647 : Int) < l.length := by omega
    go_enter Tryz.func3, Tryz.ntmps3
    go_wp2
    go_ret
    exact ⟨rfl, Le.refl w⟩
  have h1' : (l.length : Int) ≤ 2147483647 := by omega
  by_cases h2 : 8192 < l.length
  · have h2' : (8192 : Int) < l.length := by omega
    go_enter Tryz.func3, Tryz.ntmps3
    go_wp2_with fail
    refine (known_c w HL.out).mono ?_
    rintro e w' ⟨rfl, hle⟩
    have HLE := Lib.hid hle
    clear hle
    go_wp2
    go_ret
    exact ⟨rfl, HLE.out⟩
  have h2' : (l.length : Int) ≤ 8192 := by omega
  go_enter Tryz.func3, Tryz.ntmps3
  go_wp2_with fail
  refine (iFields_c _ l w HV.out (by omega)).mono ?_
  rintro e w1 ⟨x, xs, rfl, hle1, hx, hxl⟩
  have HLE1 := Lib.hid hle1
  have HX1 := Lib.hid hx
  have HXL := Lib.hid hxl
  have HV1 := Lib.hid (HV.out.le hle1)
  clear hle1 hx hxl
  go_wp2_with fail
  refine (sFields_c _ l w1 HV1.out (by omega)).mono ?_
  rintro e w2 ⟨y, kd, ys, rfl, hle2, hy, hk⟩
  have HLE2 := Lib.hid (HLE1.out.trans hle2)
  have HX := Lib.hid (HX1.out.leF hle2)
  have HY := Lib.hid hy
  have HLA := Lib.hid (HL.out.le HLE2.out)
  clear hle2 hy HX1 HV1
  rcases hk with rfl | ⟨rfl, hp, hh, hys⟩
  · go_wp2_with fail
    refine (known_c w2 HLA.out).mono ?_
    rintro e w3 ⟨rfl, hle3⟩
    have HLE3 := Lib.hid (HLE2.out.trans hle3)
    clear hle3
    go_wp2
    go_ret
    exact ⟨rfl, HLE3.out⟩
  obtain rfl : xs = ys := by rw [HXL.out (fun c hc => prn_lt (hp c hc)), hys, fd_law hp hh]
  clear hp hh hys HXL
  obtain ⟨Ax, cx, rfl, hx1, hx2, hx3, _⟩ := id HX.out
  obtain ⟨Ay, cy, rfl, hy1, hy2, hy3, _⟩ := id HY.out
  go_wp2
  go_loopg [6] (xs.length) (fun m iv wr => ∃ k : Nat, m + k = xs.length ∧ iv = .int .i64 k ∧ Dr w2 wr)
  case atStart => exact ⟨0, by omega, rfl, Dr.refl w2⟩
  case round =>
    obtain ⟨k, hm, rfl, hd⟩ := hrel
    have HD := Lib.hid hd
    have HM : gk + k ≤ xs.length ∧ xs.length ≤ gk + k := by omega
    clear hm
    rename World => wr
    by_cases hlt : k < xs.length
    · obtain ⟨b1, o1, rfl, z1, d1, Z1⟩ := (HX.out.leF hd.le).at_ hlt
      obtain ⟨b2, o2, rfl, z2, d2, Z2⟩ := (HY.out.leF hd.le).at_ hlt
      have HQ : ∀ n, Calls Tryz.prog 7 #[z1, z2] (wr.drewN n) fun e w' => e = .returned (.bool true) ∧ ∃ m, w' = (wr.drewN n).drewN m := fun n => equal_b _ _ _ _ _ _ (decide_eq_true rfl) (Z1.out.dn n) (Z2.out.dn n)
      have HE : Hid (decide (xs[k] = xs[k]) = true) := Lib.hid (decide_eq_true rfl)
      clear hd
      go_wp2
      go_quiet ((go_at_call 7; exact Calls.quiet_of (HQ _)))
      go_wp2
      go_roundg (xs.length - (k + 1))
      case measure => omega
      case rel => exact ⟨k + 1, by omega, by go_num, HD.out.step _⟩
    · go_wp2_with fail
      refine (known_c wr (HLA.out.le HD.out.le)).mono ?_
      rintro e w3 ⟨rfl, hle3⟩
      have HLE3 := Lib.hid ((HLE2.out.trans HD.out.le).trans hle3)
      clear hle3
      go_wp2
      go_ret
      exact ⟨rfl, HLE3.out⟩
end Go.Proofs.YtgpkfocgoigokaaGreatDoor
