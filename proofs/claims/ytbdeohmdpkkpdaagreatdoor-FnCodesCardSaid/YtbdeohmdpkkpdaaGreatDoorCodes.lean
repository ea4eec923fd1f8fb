/- Contracts: the specification's Method, the package's NewResponse and what it asks of a response, the thin package's Method; the law FnCodes. -/
import Derived.Test.YtbdeohmdpkkpdaaGreatDoorLow
set_option linter.unusedVariables false
set_option linter.unusedSimpArgs false
namespace Go.Proofs.YtbdeohmdpkkpdaaGreatDoor
open Go.RowKit

def mdB (n i : Int) : Bool := n / 100 == i
set_option maxRecDepth 4000 in
theorem sMethod_c (w : World) (n : Int) (h0 : -9223372036854775808 ≤ n) (h1 : n ≤ 9223372036854775807) :
    Calls Tryz.prog 18 #[.int .i64 n] w fun e w' => w' = w ∧
      ((n < 100 ∨ 700 ≤ n) ∧ e = .returned (.tuple #[.bool false, .bool false, .bool false, .bool false, .bool false, .bool false, .int .i64 (-2)]) ∨
       (100 ≤ n ∧ n < 700) ∧ e = .returned (.tuple #[.bool (mdB n 1), .bool (mdB n 2), .bool (mdB n 3), .bool (mdB n 4), .bool (mdB n 5), .bool (mdB n 6), .int .i64 0])) := by
  by_cases c1 : n < 100
  · go_enter Tryz.func18, Tryz.ntmps18
    go_wp2
    go_returns
    exact ⟨rfl, .inl ⟨.inl c1, rfl⟩⟩
  have c1' : 100 ≤ n := by omega
  by_cases c2 : 700 ≤ n
  · clear c1
    go_enter Tryz.func18, Tryz.ntmps18
    go_wp2
    go_returns
    exact ⟨rfl, .inl ⟨.inr c2, rfl⟩⟩
  have c2' : n < 700 := by omega
  have hq : n.tdiv 100 = n / 100 := Int.tdiv_eq_ediv_of_nonneg (by omega)
  clear c1 c2
  go_enter Tryz.func18, Tryz.ntmps18
  go_wp2
  go_returns
  exact ⟨rfl, .inr ⟨⟨c1', c2'⟩, rfl⟩⟩

theorem hd_info : ((Tryz.prog).info? 133).map (fun i => (i.zero, i.size, i.bytes)) = some (some .nilIface, 1, 16) := by kernel_rfl
set_option maxRecDepth 100000 in
theorem mkHd (W : World) : (Instr.makeSlice 137 (.int .i64 0) (.int .i64 10)).run Tryz.prog W = .ok (.slice (some ⟨W.heap.size, 0, none⟩) 0 10) (W.alloc (.cells (madeCells (Value.nilIface).cells 10) 133)) := by
  obtain ⟨i, hi, hm⟩ := Option.map_eq_some_iff.1 hd_info
  injection hm with h1 h2
  injection h2 with h2 h3
  have := run_makeSlice (P := Tryz.prog) (w := W) 137 133 i _ Tryz.underlying137 hi h1 .i64 .i64 0 10 (by decide) (by decide) (by rw [h2]; decide) (by rw [h3]; decide) (by decide)
  rw [h2] at this
  exact this
set_option maxRecDepth 8000 in
set_option maxHeartbeats 2000000 in
theorem newResp_c (w : World) (n : Int) : Calls Tryz.prog 57 #[.int .i64 n, .string ⟨#[]⟩] w fun e w' => ∃ b, e = .returned (.pointer (some ⟨b, 0, none⟩)) ∧ Le w w' ∧ w'.cell? ⟨b, 19, none⟩ = some (.int .i64 n) := by
  have hmk := mkHd
  go_enter Tryz.func57, Tryz.ntmps57
  go_wp2
  go_ret
  exact ⟨_, rfl, ((Le.refl w).alloc _).alloc _, cell_cells (heap_alloc2_old w _ _) 19⟩
set_option maxRecDepth 4000 in
theorem rsIsProvisional_c (w : World) (b : Nat) (n : Int) (h : w.cell? ⟨b, 19, none⟩ = some (.int .i64 n)) : Calls Tryz.prog 58 #[.pointer (some ⟨b, 0, none⟩)] w fun e w' => e = .returned (.bool (decide (n < 200))) ∧ w = w' := by
  go_enter Tryz.func58, Tryz.ntmps58
  go_wp2
  go_ret
  exact ⟨rfl, rfl⟩
set_option maxRecDepth 4000 in
theorem rsIsSuccess_c (w : World) (b : Nat) (n : Int) (h : w.cell? ⟨b, 19, none⟩ = some (.int .i64 n)) : Calls Tryz.prog 59 #[.pointer (some ⟨b, 0, none⟩)] w fun e w' => e = .returned (.bool (decide (200 ≤ n) && decide (n < 300))) ∧ w = w' := by
  by_cases c : 200 ≤ n
  · rw [decide_eq_true c, Bool.true_and]
    by_cases c2 : n < 300
    · rw [decide_eq_true c2]
      go_enter Tryz.func59, Tryz.ntmps59
      go_wp2
      go_ret
      exact ⟨rfl, rfl⟩
    · rw [decide_eq_false c2]
      have c2 : 300 ≤ n := by omega
      go_enter Tryz.func59, Tryz.ntmps59
      go_wp2
      go_ret
      exact ⟨rfl, rfl⟩
  · rw [decide_eq_false c, Bool.false_and]
    have c : n < 200 := by omega
    go_enter Tryz.func59, Tryz.ntmps59
    go_wp2
    go_ret
    exact ⟨rfl, rfl⟩
set_option maxRecDepth 4000 in
theorem rsIsRedirection_c (w : World) (b : Nat) (n : Int) (h : w.cell? ⟨b, 19, none⟩ = some (.int .i64 n)) : Calls Tryz.prog 60 #[.pointer (some ⟨b, 0, none⟩)] w fun e w' => e = .returned (.bool (decide (300 ≤ n) && decide (n < 400))) ∧ w = w' := by
  by_cases c : 300 ≤ n
  · rw [decide_eq_true c, Bool.true_and]
    by_cases c2 : n < 400
    · rw [decide_eq_true c2]
      go_enter Tryz.func60, Tryz.ntmps60
      go_wp2
      go_ret
      exact ⟨rfl, rfl⟩
    · rw [decide_eq_false c2]
      have c2 : 400 ≤ n := by omega
      go_enter Tryz.func60, Tryz.ntmps60
      go_wp2
      go_ret
      exact ⟨rfl, rfl⟩
  · rw [decide_eq_false c, Bool.false_and]
    have c : n < 300 := by omega
    go_enter Tryz.func60, Tryz.ntmps60
    go_wp2
    go_ret
    exact ⟨rfl, rfl⟩
set_option maxRecDepth 4000 in
theorem rsIsClientError_c (w : World) (b : Nat) (n : Int) (h : w.cell? ⟨b, 19, none⟩ = some (.int .i64 n)) : Calls Tryz.prog 61 #[.pointer (some ⟨b, 0, none⟩)] w fun e w' => e = .returned (.bool (decide (400 ≤ n) && decide (n < 500))) ∧ w = w' := by
  by_cases c : 400 ≤ n
  · rw [decide_eq_true c, Bool.true_and]
    by_cases c2 : n < 500
    · rw [decide_eq_true c2]
      go_enter Tryz.func61, Tryz.ntmps61
      go_wp2
      go_ret
      exact ⟨rfl, rfl⟩
    · rw [decide_eq_false c2]
      have c2 : 500 ≤ n := by omega
      go_enter Tryz.func61, Tryz.ntmps61
      go_wp2
      go_ret
      exact ⟨rfl, rfl⟩
  · rw [decide_eq_false c, Bool.false_and]
    have c : n < 400 := by omega
    go_enter Tryz.func61, Tryz.ntmps61
    go_wp2
    go_ret
    exact ⟨rfl, rfl⟩
set_option maxRecDepth 4000 in
theorem rsIsServerError_c (w : World) (b : Nat) (n : Int) (h : w.cell? ⟨b, 19, none⟩ = some (.int .i64 n)) : Calls Tryz.prog 62 #[.pointer (some ⟨b, 0, none⟩)] w fun e w' => e = .returned (.bool (decide (500 ≤ n) && decide (n < 600))) ∧ w = w' := by
  by_cases c : 500 ≤ n
  · rw [decide_eq_true c, Bool.true_and]
    by_cases c2 : n < 600
    · rw [decide_eq_true c2]
      go_enter Tryz.func62, Tryz.ntmps62
      go_wp2
      go_ret
      exact ⟨rfl, rfl⟩
    · rw [decide_eq_false c2]
      have c2 : 600 ≤ n := by omega
      go_enter Tryz.func62, Tryz.ntmps62
      go_wp2
      go_ret
      exact ⟨rfl, rfl⟩
  · rw [decide_eq_false c, Bool.false_and]
    have c : n < 500 := by omega
    go_enter Tryz.func62, Tryz.ntmps62
    go_wp2
    go_ret
    exact ⟨rfl, rfl⟩
set_option maxRecDepth 4000 in
theorem rsIsGlobalError_c (w : World) (b : Nat) (n : Int) (h : w.cell? ⟨b, 19, none⟩ = some (.int .i64 n)) : Calls Tryz.prog 63 #[.pointer (some ⟨b, 0, none⟩)] w fun e w' => e = .returned (.bool (decide (600 ≤ n))) ∧ w = w' := by
  go_enter Tryz.func63, Tryz.ntmps63
  go_wp2
  go_ret
  exact ⟨rfl, rfl⟩
set_option maxRecDepth 8000 in
set_option maxHeartbeats 2000000 in
theorem iMethod_c (w : World) (n : Int) : Calls Tryz.prog 17 #[.int .i64 n] w fun e w' =>
    e = .returned (.tuple #[.bool (decide (n < 200)), .bool (decide (200 ≤ n) && decide (n < 300)), .bool (decide (300 ≤ n) && decide (n < 400)), .bool (decide (400 ≤ n) && decide (n < 500)), .bool (decide (500 ≤ n) && decide (n < 600)), .bool (decide (600 ≤ n))]) ∧ Le w w' := by
  go_enter Tryz.func17, Tryz.ntmps17
  go_wp2_with fail
  refine (newResp_c w n).mono ?_
  rintro e w1 ⟨b, rfl, hle, hc⟩
  have HLE := Lib.hid hle
  have HC := Lib.hid hc
  clear hle hc
  generalize k1 : decide (n < 200) = b1
  generalize k2 : (decide (200 ≤ n) && decide (n < 300)) = b2
  generalize k3 : (decide (300 ≤ n) && decide (n < 400)) = b3
  generalize k4 : (decide (400 ≤ n) && decide (n < 500)) = b4
  generalize k5 : (decide (500 ≤ n) && decide (n < 600)) = b5
  generalize k6 : decide (600 ≤ n) = b6
  have H1 := Lib.hid (k1 ▸ rsIsProvisional_c w1 b n HC.out)
  have H2 := Lib.hid (k2 ▸ rsIsSuccess_c w1 b n HC.out)
  have H3 := Lib.hid (k3 ▸ rsIsRedirection_c w1 b n HC.out)
  have H4 := Lib.hid (k4 ▸ rsIsClientError_c w1 b n HC.out)
  have H5 := Lib.hid (k5 ▸ rsIsServerError_c w1 b n HC.out)
  have H6 := Lib.hid (k6 ▸ rsIsGlobalError_c w1 b n HC.out)
  have K1 := Lib.hid k1
  have K2 := Lib.hid k2
  have K3 := Lib.hid k3
  have K4 := Lib.hid k4
  have K5 := Lib.hid k5
  have K6 := Lib.hid k6
  clear k1 k2 k3 k4 k5 k6
  go_wp2_with fail
  refine H1.out.mono ?_
  rintro e w' ⟨rfl, rfl⟩
  go_wp2_with fail
  refine H2.out.mono ?_
  rintro e w' ⟨rfl, rfl⟩
  go_wp2_with fail
  refine H3.out.mono ?_
  rintro e w' ⟨rfl, rfl⟩
  go_wp2_with fail
  refine H4.out.mono ?_
  rintro e w' ⟨rfl, rfl⟩
  go_wp2_with fail
  refine H5.out.mono ?_
  rintro e w' ⟨rfl, rfl⟩
  go_wp2_with fail
  refine H6.out.mono ?_
  rintro e w' ⟨rfl, rfl⟩
  go_wp2
  go_returns
  refine ⟨?_, HLE.out⟩
  rw [K1.out, K2.out, K3.out, K4.out, K5.out, K6.out]
theorem md_law {n : Int} (h0 : 100 ≤ n) (h1 : n < 700) : decide (n < 200) = mdB n 1 ∧ (decide (200 ≤ n) && decide (n < 300)) = mdB n 2 ∧ (decide (300 ≤ n) && decide (n < 400)) = mdB n 3 ∧
    (decide (400 ≤ n) && decide (n < 500)) = mdB n 4 ∧ (decide (500 ≤ n) && decide (n < 600)) = mdB n 5 ∧ decide (600 ≤ n) = mdB n 6 := by
  have k : ∀ i : Int, mdB n i = decide (i * 100 ≤ n ∧ n < i * 100 + 100) := by
    intro i
    unfold mdB
    rw [Bool.eq_iff_iff]
    simp only [beq_iff_eq, decide_eq_true_eq]
    omega
  rw [k, k, k, k, k, k]
  refine ⟨?_, ?_, ?_, ?_, ?_, ?_⟩ <;> rw [Bool.eq_iff_iff] <;> simp only [Bool.and_eq_true, decide_eq_true_eq] <;> omega
end Go.Proofs.YtbdeohmdpkkpdaaGreatDoor
