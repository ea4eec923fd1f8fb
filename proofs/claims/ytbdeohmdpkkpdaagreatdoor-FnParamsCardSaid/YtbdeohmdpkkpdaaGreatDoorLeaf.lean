/- Contracts of small functions. -/
import Derived.Test.YtbdeohmdpkkpdaaGreatDoorBase
import Derived.Test.YtbdeohmdpkkpdaaGreatDoorProg
set_option linter.unusedVariables false
set_option linter.unusedSimpArgs false
namespace Go.Proofs.YtbdeohmdpkkpdaaGreatDoor
open Go.RowKit

theorem eq_take_succ (a b : List UInt8) (k : Nat) (h : a.take k = b.take k) (ha : k < a.length) (hb : k < b.length) (he : a[k] = b[k]) : a.take (k + 1) = b.take (k + 1) := by
  rw [List.take_succ_eq_append_getElem ha, List.take_succ_eq_append_getElem hb, h, he]

set_option maxHeartbeats 400000 in
theorem equal_c (w : World) (a b : Value) (la lb : List UInt8) (ha : Bv w a la) (hb : Bv w b lb) :
    Calls Tryz.prog 19 #[a, b] w fun e w' => e = .returned (.bool (decide (la = lb))) ∧ Dr w w' := by
  obtain ⟨A, c, rfl, h1, h2, h4⟩ := ha
  obtain ⟨B, d, rfl, k1, k2, k4⟩ := hb
  by_cases hl : la.length = lb.length
  · have E1 : ((la.length : Int) != (lb.length : Int)) = false := by simp [hl]
    have E2 : Hid (la.length = lb.length) := hl
    clear hl
    go_enter Tryz.func19, Tryz.ntmps19
    go_wp2
    go_loopg [5] (la.length) (fun n i wr => ∃ k : Nat, n + k = la.length ∧ i = .int .i64 k ∧ Dr w wr ∧ la.take k = lb.take k)
    case atStart => exact ⟨0, by omega, rfl, Dr.refl _, rfl⟩
    case round =>
      obtain ⟨k, hn, rfl, hd, ht⟩ := hrel
      have HT := Lib.hid ht
      have HD := Lib.hid hd
      have HN : gk + k ≤ la.length ∧ la.length ≤ gk + k := by omega
      have R1 := Rb.le h4 hd.le
      have R2 := Rb.le k4 hd.le
      clear ht hn hd h4 k4
      by_cases hlt : k < la.length
      · have hlt2 : k < lb.length := by have := E2.out; omega
        obtain ⟨b1, o1, rfl, c1⟩ := R1.2 (by omega)
        obtain ⟨b2, o2, rfl, c2⟩ := R2.2 (by omega)
        have d1 := c1 k hlt
        have d2 := c2 k hlt2
        clear c1 c2 R1 R2
        by_cases hx : la[k] = lb[k]
        · have HX := Lib.hid hx
          rw [← hx] at d2
          clear hx
          generalize (la[k].toNat : Int) = x at d1 d2
          go_wp2
          go_quiet (fail)
          go_wp2
          go_roundg (gk - 1)
          case measure => omega
          case rel => exact ⟨k + 1, by omega, by go_num, HD.out.step _, eq_take_succ _ _ _ HT.out hlt hlt2 HX.out⟩
        · have hf : decide (la = lb) = false := by
            simp only [decide_eq_false_iff_not]; intro h; subst h; exact hx rfl
          have HF := Lib.hid hf
          have hx' : ((la[k].toNat : Int) != (lb[k].toNat : Int)) = true := by
            simp only [bne_iff_ne, ne_eq]; intro h; exact hx (UInt8.toNat_inj.1 (by omega))
          clear hx hf
          generalize (la[k].toNat : Int) = x at d1 hx'
          generalize (lb[k].toNat : Int) = y at d2 hx'
          go_wp2
          go_quiet (fail)
          go_wp2
          go_ret
          exact ⟨by rw [HF.out]; rfl, HD.out.step _⟩
      · have hf : decide (la = lb) = true := by
          simp only [decide_eq_true_eq]
          have e1 := List.take_of_length_le (i := k) (l := la) (by omega)
          have e2 := List.take_of_length_le (i := k) (l := lb) (by have := E2.out; omega)
          rw [← e1, ← e2, HT.out]
        have HF := Lib.hid hf
        clear hf
        go_wp2
        go_ret
        exact ⟨by rw [HF.out]; rfl, HD.out⟩
  · have E1 : ((la.length : Int) != (lb.length : Int)) = true := by simp; omega
    have E2 : decide (la = lb) = false := by simp; intro h; exact hl (by rw [h])
    rw [E2]
    clear hl E2
    go_enter Tryz.func19, Tryz.ntmps19
    go_wp2
    go_ret
    exact ⟨rfl, Dr.refl _⟩


set_option maxHeartbeats 400000 in
theorem is_c (w : World) (a : Value) (la : List UInt8) (s : ByteArray) (ha : Bv w a la) (hs : s.size ≤ 140737488355328) :
    Calls Tryz.prog 51 #[a, .string s] w fun e w' => e = .returned (.bool (decide (la = bs s))) ∧ Le w w' := by
  have hcv := fun w => conv_sb (P := Tryz.prog) (e := 5) Tryz.underlying9 Tryz.underlying22 Tryz.underlying5 s w
  go_enter Tryz.func51, Tryz.ntmps51
  go_wp2_with fail
  refine (equal_c _ _ _ la (bs s) (ha.le (le_sb w _ s)) (bv_sb w _ s hs (bcap_le w _ s hs))).mono ?_
  rintro e w' ⟨rfl, hd⟩
  have HD := Lib.hid hd
  clear hd hcv
  go_wp2
  go_ret
  exact ⟨rfl, (le_sb w _ s).trans HD.out.le⟩
end Go.Proofs.YtbdeohmdpkkpdaaGreatDoor
