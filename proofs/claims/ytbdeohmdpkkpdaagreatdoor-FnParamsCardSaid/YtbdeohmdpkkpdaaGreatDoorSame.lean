/- Contracts: the specification's SamePairs, SameUri (printed by gen_same.py). -/
import Derived.Test.YtbdeohmdpkkpdaaGreatDoorKnown2
import Derived.Test.YtbdeohmdpkkpdaaGreatDoorSpW2
set_option linter.unusedVariables false
set_option linter.unusedSimpArgs false
namespace Go.Proofs.YtbdeohmdpkkpdaaGreatDoor
open Go.RowKit

theorem isSame_b (w : World) (x y : Value) (lx ly : Tx) (b : Bool) (h : decide (lx = ly) = b) (hx : Bv w x lx) (hy : Bv w y ly) :
    Calls Tryz.prog 55 #[x, y] w fun e w' => e = .returned (.bool b) ∧ ∃ m, w' = w.drewN m := by
  subst h
  exact (isSame_c x y lx ly w hx hy).mono fun e w' ⟨h1, h2⟩ => ⟨h1, 0, by rw [← h2]; cases w; rfl⟩
theorem isSame_d (w : World) (x y : Value) (lx ly : Tx) (b : Bool) (h : decide (lx = ly) = b) (hx : Bv w x lx) (hy : Bv w y ly) :
    Calls Tryz.prog 55 #[x, y] w fun e w' => e = .returned (.bool b) ∧ ∃ m, w' = w.drewN m := isSame_b w x y lx ly b h hx hy
set_option maxRecDepth 4000 in
set_option maxHeartbeats 2000000 in
theorem samePairs_c (φ ψ : Nat → Prop) (w : World) (a b : Value) (la lb : KVs) (ha : Kq φ w a la) (hb : Kq ψ w b lb) :
    Calls Tryz.prog 28 #[a, b] w fun e w' => e = .returned (.bool (decide (la = lb))) ∧ Dr w w' := by
  have ha0 := Lib.hid ha
  have hb0 := Lib.hid hb
  obtain ⟨A, c, rfl, h1, h2, h3, _⟩ := ha
  obtain ⟨B, d, rfl, k1, k2, k3, _⟩ := hb
  by_cases hl : la.length = lb.length
  · have E1 : ((la.length : Int) != (lb.length : Int)) = false := by simp [hl]
    have E2 := Lib.hid hl
    clear hl
    go_enter Tryz.func28, Tryz.ntmps28
    go_wp2
    go_loopg [5] (la.length) (fun n i wr => ∃ k : Nat, n + k = la.length ∧ i = .int .i64 k ∧ Dr w wr ∧ la.take k = lb.take k)
    case atStart => exact ⟨0, by omega, rfl, Dr.refl _, rfl⟩
    case round =>
      obtain ⟨k, hn, rfl, hd, ht⟩ := hrel
      have HT := Lib.hid ht
      have HD := Lib.hid hd
      have HN : gk + k ≤ la.length ∧ la.length ≤ gk + k := by omega
      clear ht hn
      by_cases hlt : k < la.length
      · have hlt2 : k < lb.length := by have := E2.out; omega
        obtain ⟨b1, o1, rfl, x1, x2, d1, d2, X1, X2⟩ := (ha0.out.le hd.le).at_ hlt
        obtain ⟨b2, o2, rfl, y1, y2, e1, e2, Y1, Y2⟩ := (hb0.out.le hd.le).at_ hlt2
        clear hd
        by_cases hk : la[k].1 = lb[k].1
        · have Ht1 := Lib.hid (decide_eq_true hk)
          by_cases hv : la[k].2 = lb[k].2
          · have Ht2 := Lib.hid (decide_eq_true hv)
            have HF : Hid (la.take (k + 1) = lb.take (k + 1)) := Lib.hid (kv_take_succ _ _ _ HT.out hlt hlt2 (Prod.ext hk hv))
            clear hk hv
            go_wp2
            go_quiet ((first | (go_at_call 55; exact Calls.quiet_of (isSame_b _ _ _ _ _ _ Ht1.out (X1.out.dn _) (Y1.out.dn _))) | (go_at_call 55; exact Calls.quiet_of (isSame_b _ _ _ _ _ _ Ht2.out (X2.out.dn _) (Y2.out.dn _)))))
            go_wp2
            go_roundg (gk - 1)
            case measure => omega
            case rel => exact ⟨k + 1, by omega, by go_num, HD.out.step _, HF.out⟩
          · have Hf2 := Lib.hid (decide_eq_false hv)
            have HF : Hid (decide (la = lb) = false) := Lib.hid (decide_eq_false (by rintro rfl; exact hv rfl))
            clear hk hv
            go_wp2
            go_quiet ((first | (go_at_call 55; exact Calls.quiet_of (isSame_b _ _ _ _ _ _ Ht1.out (X1.out.dn _) (Y1.out.dn _))) | (go_at_call 55; exact Calls.quiet_of (isSame_b _ _ _ _ _ _ Hf2.out (X2.out.dn _) (Y2.out.dn _)))))
            go_wp2
            go_ret
            exact ⟨by rw [HF.out]; rfl, HD.out.step _⟩
        · have Hf1 := Lib.hid (decide_eq_false hk)
          have HF : Hid (decide (la = lb) = false) := Lib.hid (decide_eq_false (by rintro rfl; exact hk rfl))
          clear hk
          go_wp2
          go_quiet ((go_at_call 55; exact Calls.quiet_of (isSame_b _ _ _ _ _ _ Hf1.out (X1.out.dn _) (Y1.out.dn _))))
          go_wp2
          go_ret
          exact ⟨by rw [HF.out]; rfl, HD.out.step _⟩
      · have HF : Hid (decide (la = lb) = true) := Lib.hid (decide_eq_true (by
          have e1 := List.take_of_length_le (i := k) (l := la) (by omega)
          have e2 := List.take_of_length_le (i := k) (l := lb) (by have := E2.out; omega)
          rw [← e1, ← e2, HT.out]))
        clear hd
        go_wp2
        go_ret
        exact ⟨by rw [HF.out]; rfl, HD.out⟩
  · have E1 : ((la.length : Int) != (lb.length : Int)) = true := by simp; omega
    have E2 : decide (la = lb) = false := decide_eq_false (by intro h; exact hl (by rw [h]))
    rw [E2]
    clear hl E2
    go_enter Tryz.func28, Tryz.ntmps28
    go_wp2
    go_ret
    exact ⟨rfl, Dr.refl _⟩
theorem samePairs_b (φ ψ : Nat → Prop) (w : World) (a b : Value) (la lb : KVs) (r : Bool) (h : decide (la = lb) = r) (ha : Kq φ w a la) (hb : Kq ψ w b lb) :
    Calls Tryz.prog 28 #[a, b] w fun e w' => e = .returned (.bool r) ∧ ∃ m, w' = w.drewN m := by
  subst h
  exact samePairs_c φ ψ w a b la lb ha hb
end Go.Proofs.YtbdeohmdpkkpdaaGreatDoor
