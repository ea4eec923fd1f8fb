/- Contracts: the package's HeaderToLower, the thin package's Lower, Upper, HeaderLower; the law FnLetters (printed by gen_letters.py). -/
import Derived.Test.YtbdeohmdpkkpdaaGreatDoorFnPo
set_option linter.unusedVariables false
set_option linter.unusedSimpArgs false
namespace Go.Proofs.YtbdeohmdpkkpdaaGreatDoor
open Go.RowKit

theorem s_lit {s : ByteArray} {p : Tx} {b : Bool} (h : decide (bs s = p) = b) : (s.toList == p) = b := by rw [toList_beq, h]
set_option maxRecDepth 8000 in
set_option maxHeartbeats 8000000 in
theorem hLow_c (s : ByteArray) (w : World) (hs : s.size ≤ 1099511627776) : Calls Tryz.prog 66 #[.string s] w fun e w' => e = .returned (.string (st ((bs s).map lowC))) ∧ Le w w' := by
  have HC := Lib.hid (aSCIIToLower_c s w hs)
  by_cases c0 : bs s = [86, 105, 97]
  · have k0 : (s.toList == [86, 105, 97]) = true := s_lit (decide_eq_true c0)
    have HP : Hid (st ((bs s).map lowC) = ⟨#[118, 105, 97]⟩) := Lib.hid (by rw [c0]; rfl)
    clear HC c0
    go_enter Tryz.func66, Tryz.ntmps66
    go_wp2
    go_ret
    exact ⟨by rw [HP.out]; rfl, Le.refl w⟩
  have k0 : (s.toList == [86, 105, 97]) = false := s_lit (decide_eq_false c0)
  clear c0
  by_cases c1 : bs s = [118, 105, 97]
  · have k1 : (s.toList == [118, 105, 97]) = true := s_lit (decide_eq_true c1)
    have HP : Hid (st ((bs s).map lowC) = ⟨#[118, 105, 97]⟩) := Lib.hid (by rw [c1]; rfl)
    clear HC c1
    go_enter Tryz.func66, Tryz.ntmps66
    go_wp2
    go_ret
    exact ⟨by rw [HP.out]; rfl, Le.refl w⟩
  have k1 : (s.toList == [118, 105, 97]) = false := s_lit (decide_eq_false c1)
  clear c1
  by_cases c2 : bs s = [70, 114, 111, 109]
  · have k2 : (s.toList == [70, 114, 111, 109]) = true := s_lit (decide_eq_true c2)
    have HP : Hid (st ((bs s).map lowC) = ⟨#[102, 114, 111, 109]⟩) := Lib.hid (by rw [c2]; rfl)
    clear HC c2
    go_enter Tryz.func66, Tryz.ntmps66
    go_wp2
    go_ret
    exact ⟨by rw [HP.out]; rfl, Le.refl w⟩
  have k2 : (s.toList == [70, 114, 111, 109]) = false := s_lit (decide_eq_false c2)
  clear c2
  by_cases c3 : bs s = [102, 114, 111, 109]
  · have k3 : (s.toList == [102, 114, 111, 109]) = true := s_lit (decide_eq_true c3)
    have HP : Hid (st ((bs s).map lowC) = ⟨#[102, 114, 111, 109]⟩) := Lib.hid (by rw [c3]; rfl)
    clear HC c3
    go_enter Tryz.func66, Tryz.ntmps66
    go_wp2
    go_ret
    exact ⟨by rw [HP.out]; rfl, Le.refl w⟩
  have k3 : (s.toList == [102, 114, 111, 109]) = false := s_lit (decide_eq_false c3)
  clear c3
  by_cases c4 : bs s = [84, 111]
  · have k4 : (s.toList == [84, 111]) = true := s_lit (decide_eq_true c4)
    have HP : Hid (st ((bs s).map lowC) = ⟨#[116, 111]⟩) := Lib.hid (by rw [c4]; rfl)
    clear HC c4
    go_enter Tryz.func66, Tryz.ntmps66
    go_wp2
    go_ret
    exact ⟨by rw [HP.out]; rfl, Le.refl w⟩
  have k4 : (s.toList == [84, 111]) = false := s_lit (decide_eq_false c4)
  clear c4
  by_cases c5 : bs s = [116, 111]
  · have k5 : (s.toList == [116, 111]) = true := s_lit (decide_eq_true c5)
    have HP : Hid (st ((bs s).map lowC) = ⟨#[116, 111]⟩) := Lib.hid (by rw [c5]; rfl)
    clear HC c5
    go_enter Tryz.func66, Tryz.ntmps66
    go_wp2
    go_ret
    exact ⟨by rw [HP.out]; rfl, Le.refl w⟩
  have k5 : (s.toList == [116, 111]) = false := s_lit (decide_eq_false c5)
  clear c5
  by_cases c6 : bs s = [67, 97, 108, 108, 45, 73, 68]
  · have k6 : (s.toList == [67, 97, 108, 108, 45, 73, 68]) = true := s_lit (decide_eq_true c6)
    have HP : Hid (st ((bs s).map lowC) = ⟨#[99, 97, 108, 108, 45, 105, 100]⟩) := Lib.hid (by rw [c6]; rfl)
    clear HC c6
    go_enter Tryz.func66, Tryz.ntmps66
    go_wp2
    go_ret
    exact ⟨by rw [HP.out]; rfl, Le.refl w⟩
  have k6 : (s.toList == [67, 97, 108, 108, 45, 73, 68]) = false := s_lit (decide_eq_false c6)
  clear c6
  by_cases c7 : bs s = [99, 97, 108, 108, 45, 105, 100]
  · have k7 : (s.toList == [99, 97, 108, 108, 45, 105, 100]) = true := s_lit (decide_eq_true c7)
    have HP : Hid (st ((bs s).map lowC) = ⟨#[99, 97, 108, 108, 45, 105, 100]⟩) := Lib.hid (by rw [c7]; rfl)
    clear HC c7
    go_enter Tryz.func66, Tryz.ntmps66
    go_wp2
    go_ret
    exact ⟨by rw [HP.out]; rfl, Le.refl w⟩
  have k7 : (s.toList == [99, 97, 108, 108, 45, 105, 100]) = false := s_lit (decide_eq_false c7)
  clear c7
  by_cases c8 : bs s = [67, 111, 110, 116, 97, 99, 116]
  · have k8 : (s.toList == [67, 111, 110, 116, 97, 99, 116]) = true := s_lit (decide_eq_true c8)
    have HP : Hid (st ((bs s).map lowC) = ⟨#[99, 111, 110, 116, 97, 99, 116]⟩) := Lib.hid (by rw [c8]; rfl)
    clear HC c8
    go_enter Tryz.func66, Tryz.ntmps66
    go_wp2
    go_ret
    exact ⟨by rw [HP.out]; rfl, Le.refl w⟩
  have k8 : (s.toList == [67, 111, 110, 116, 97, 99, 116]) = false := s_lit (decide_eq_false c8)
  clear c8
  by_cases c9 : bs s = [99, 111, 110, 116, 97, 99, 116]
  · have k9 : (s.toList == [99, 111, 110, 116, 97, 99, 116]) = true := s_lit (decide_eq_true c9)
    have HP : Hid (st ((bs s).map lowC) = ⟨#[99, 111, 110, 116, 97, 99, 116]⟩) := Lib.hid (by rw [c9]; rfl)
    clear HC c9
    go_enter Tryz.func66, Tryz.ntmps66
    go_wp2
    go_ret
    exact ⟨by rw [HP.out]; rfl, Le.refl w⟩
  have k9 : (s.toList == [99, 111, 110, 116, 97, 99, 116]) = false := s_lit (decide_eq_false c9)
  clear c9
  by_cases c10 : bs s = [67, 83, 101, 113]
  · have k10 : (s.toList == [67, 83, 101, 113]) = true := s_lit (decide_eq_true c10)
    have HP : Hid (st ((bs s).map lowC) = ⟨#[99, 115, 101, 113]⟩) := Lib.hid (by rw [c10]; rfl)
    clear HC c10
    go_enter Tryz.func66, Tryz.ntmps66
    go_wp2
    go_ret
    exact ⟨by rw [HP.out]; rfl, Le.refl w⟩
  have k10 : (s.toList == [67, 83, 101, 113]) = false := s_lit (decide_eq_false c10)
  clear c10
  by_cases c11 : bs s = [67, 83, 69, 81]
  · have k11 : (s.toList == [67, 83, 69, 81]) = true := s_lit (decide_eq_true c11)
    have HP : Hid (st ((bs s).map lowC) = ⟨#[99, 115, 101, 113]⟩) := Lib.hid (by rw [c11]; rfl)
    clear HC c11
    go_enter Tryz.func66, Tryz.ntmps66
    go_wp2
    go_ret
    exact ⟨by rw [HP.out]; rfl, Le.refl w⟩
  have k11 : (s.toList == [67, 83, 69, 81]) = false := s_lit (decide_eq_false c11)
  clear c11
  by_cases c12 : bs s = [99, 115, 101, 113]
  · have k12 : (s.toList == [99, 115, 101, 113]) = true := s_lit (decide_eq_true c12)
    have HP : Hid (st ((bs s).map lowC) = ⟨#[99, 115, 101, 113]⟩) := Lib.hid (by rw [c12]; rfl)
    clear HC c12
    go_enter Tryz.func66, Tryz.ntmps66
    go_wp2
    go_ret
    exact ⟨by rw [HP.out]; rfl, Le.refl w⟩
  have k12 : (s.toList == [99, 115, 101, 113]) = false := s_lit (decide_eq_false c12)
  clear c12
  by_cases c13 : bs s = [67, 111, 110, 116, 101, 110, 116, 45, 84, 121, 112, 101]
  · have k13 : (s.toList == [67, 111, 110, 116, 101, 110, 116, 45, 84, 121, 112, 101]) = true := s_lit (decide_eq_true c13)
    have HP : Hid (st ((bs s).map lowC) = ⟨#[99, 111, 110, 116, 101, 110, 116, 45, 116, 121, 112, 101]⟩) := Lib.hid (by rw [c13]; rfl)
    clear HC c13
    go_enter Tryz.func66, Tryz.ntmps66
    go_wp2
    go_ret
    exact ⟨by rw [HP.out]; rfl, Le.refl w⟩
  have k13 : (s.toList == [67, 111, 110, 116, 101, 110, 116, 45, 84, 121, 112, 101]) = false := s_lit (decide_eq_false c13)
  clear c13
  by_cases c14 : bs s = [99, 111, 110, 116, 101, 110, 116, 45, 116, 121, 112, 101]
  · have k14 : (s.toList == [99, 111, 110, 116, 101, 110, 116, 45, 116, 121, 112, 101]) = true := s_lit (decide_eq_true c14)
    have HP : Hid (st ((bs s).map lowC) = ⟨#[99, 111, 110, 116, 101, 110, 116, 45, 116, 121, 112, 101]⟩) := Lib.hid (by rw [c14]; rfl)
    clear HC c14
    go_enter Tryz.func66, Tryz.ntmps66
    go_wp2
    go_ret
    exact ⟨by rw [HP.out]; rfl, Le.refl w⟩
  have k14 : (s.toList == [99, 111, 110, 116, 101, 110, 116, 45, 116, 121, 112, 101]) = false := s_lit (decide_eq_false c14)
  clear c14
  by_cases c15 : bs s = [67, 111, 110, 116, 101, 110, 116, 45, 76, 101, 110, 103, 116, 104]
  · have k15 : (s.toList == [67, 111, 110, 116, 101, 110, 116, 45, 76, 101, 110, 103, 116, 104]) = true := s_lit (decide_eq_true c15)
    have HP : Hid (st ((bs s).map lowC) = ⟨#[99, 111, 110, 116, 101, 110, 116, 45, 108, 101, 110, 103, 116, 104]⟩) := Lib.hid (by rw [c15]; rfl)
    clear HC c15
    go_enter Tryz.func66, Tryz.ntmps66
    go_wp2
    go_ret
    exact ⟨by rw [HP.out]; rfl, Le.refl w⟩
  have k15 : (s.toList == [67, 111, 110, 116, 101, 110, 116, 45, 76, 101, 110, 103, 116, 104]) = false := s_lit (decide_eq_false c15)
  clear c15
  by_cases c16 : bs s = [99, 111, 110, 116, 101, 110, 116, 45, 108, 101, 110, 103, 116, 104]
  · have k16 : (s.toList == [99, 111, 110, 116, 101, 110, 116, 45, 108, 101, 110, 103, 116, 104]) = true := s_lit (decide_eq_true c16)
    have HP : Hid (st ((bs s).map lowC) = ⟨#[99, 111, 110, 116, 101, 110, 116, 45, 108, 101, 110, 103, 116, 104]⟩) := Lib.hid (by rw [c16]; rfl)
    clear HC c16
    go_enter Tryz.func66, Tryz.ntmps66
    go_wp2
    go_ret
    exact ⟨by rw [HP.out]; rfl, Le.refl w⟩
  have k16 : (s.toList == [99, 111, 110, 116, 101, 110, 116, 45, 108, 101, 110, 103, 116, 104]) = false := s_lit (decide_eq_false c16)
  clear c16
  by_cases c17 : bs s = [82, 111, 117, 116, 101]
  · have k17 : (s.toList == [82, 111, 117, 116, 101]) = true := s_lit (decide_eq_true c17)
    have HP : Hid (st ((bs s).map lowC) = ⟨#[114, 111, 117, 116, 101]⟩) := Lib.hid (by rw [c17]; rfl)
    clear HC c17
    go_enter Tryz.func66, Tryz.ntmps66
    go_wp2
    go_ret
    exact ⟨by rw [HP.out]; rfl, Le.refl w⟩
  have k17 : (s.toList == [82, 111, 117, 116, 101]) = false := s_lit (decide_eq_false c17)
  clear c17
  by_cases c18 : bs s = [114, 111, 117, 116, 101]
  · have k18 : (s.toList == [114, 111, 117, 116, 101]) = true := s_lit (decide_eq_true c18)
    have HP : Hid (st ((bs s).map lowC) = ⟨#[114, 111, 117, 116, 101]⟩) := Lib.hid (by rw [c18]; rfl)
    clear HC c18
    go_enter Tryz.func66, Tryz.ntmps66
    go_wp2
    go_ret
    exact ⟨by rw [HP.out]; rfl, Le.refl w⟩
  have k18 : (s.toList == [114, 111, 117, 116, 101]) = false := s_lit (decide_eq_false c18)
  clear c18
  by_cases c19 : bs s = [82, 101, 99, 111, 114, 100, 45, 82, 111, 117, 116, 101]
  · have k19 : (s.toList == [82, 101, 99, 111, 114, 100, 45, 82, 111, 117, 116, 101]) = true := s_lit (decide_eq_true c19)
    have HP : Hid (st ((bs s).map lowC) = ⟨#[114, 101, 99, 111, 114, 100, 45, 114, 111, 117, 116, 101]⟩) := Lib.hid (by rw [c19]; rfl)
    clear HC c19
    go_enter Tryz.func66, Tryz.ntmps66
    go_wp2
    go_ret
    exact ⟨by rw [HP.out]; rfl, Le.refl w⟩
  have k19 : (s.toList == [82, 101, 99, 111, 114, 100, 45, 82, 111, 117, 116, 101]) = false := s_lit (decide_eq_false c19)
  clear c19
  by_cases c20 : bs s = [114, 101, 99, 111, 114, 100, 45, 114, 111, 117, 116, 101]
  · have k20 : (s.toList == [114, 101, 99, 111, 114, 100, 45, 114, 111, 117, 116, 101]) = true := s_lit (decide_eq_true c20)
    have HP : Hid (st ((bs s).map lowC) = ⟨#[114, 101, 99, 111, 114, 100, 45, 114, 111, 117, 116, 101]⟩) := Lib.hid (by rw [c20]; rfl)
    clear HC c20
    go_enter Tryz.func66, Tryz.ntmps66
    go_wp2
    go_ret
    exact ⟨by rw [HP.out]; rfl, Le.refl w⟩
  have k20 : (s.toList == [114, 101, 99, 111, 114, 100, 45, 114, 111, 117, 116, 101]) = false := s_lit (decide_eq_false c20)
  clear c20
  by_cases c21 : bs s = [77, 97, 120, 45, 70, 111, 114, 119, 97, 114, 100, 115]
  · have k21 : (s.toList == [77, 97, 120, 45, 70, 111, 114, 119, 97, 114, 100, 115]) = true := s_lit (decide_eq_true c21)
    have HP : Hid (st ((bs s).map lowC) = ⟨#[109, 97, 120, 45, 102, 111, 114, 119, 97, 114, 100, 115]⟩) := Lib.hid (by rw [c21]; rfl)
    clear HC c21
    go_enter Tryz.func66, Tryz.ntmps66
    go_wp2
    go_ret
    exact ⟨by rw [HP.out]; rfl, Le.refl w⟩
  have k21 : (s.toList == [77, 97, 120, 45, 70, 111, 114, 119, 97, 114, 100, 115]) = false := s_lit (decide_eq_false c21)
  clear c21
  by_cases c22 : bs s = [84, 105, 109, 101, 115, 116, 97, 109, 112]
  · have k22 : (s.toList == [84, 105, 109, 101, 115, 116, 97, 109, 112]) = true := s_lit (decide_eq_true c22)
    have HP : Hid (st ((bs s).map lowC) = ⟨#[116, 105, 109, 101, 115, 116, 97, 109, 112]⟩) := Lib.hid (by rw [c22]; rfl)
    clear HC c22
    go_enter Tryz.func66, Tryz.ntmps66
    go_wp2
    go_ret
    exact ⟨by rw [HP.out]; rfl, Le.refl w⟩
  have k22 : (s.toList == [84, 105, 109, 101, 115, 116, 97, 109, 112]) = false := s_lit (decide_eq_false c22)
  clear c22
  by_cases c23 : bs s = [116, 105, 109, 101, 115, 116, 97, 109, 112]
  · have k23 : (s.toList == [116, 105, 109, 101, 115, 116, 97, 109, 112]) = true := s_lit (decide_eq_true c23)
    have HP : Hid (st ((bs s).map lowC) = ⟨#[116, 105, 109, 101, 115, 116, 97, 109, 112]⟩) := Lib.hid (by rw [c23]; rfl)
    clear HC c23
    go_enter Tryz.func66, Tryz.ntmps66
    go_wp2
    go_ret
    exact ⟨by rw [HP.out]; rfl, Le.refl w⟩
  have k23 : (s.toList == [116, 105, 109, 101, 115, 116, 97, 109, 112]) = false := s_lit (decide_eq_false c23)
  clear c23
  go_enter Tryz.func66, Tryz.ntmps66
  go_wp2_with fail
  refine HC.out.mono ?_
  rintro e w' ⟨rfl, hle⟩
  have HLE := Lib.hid hle
  clear hle HC
  go_wp2
  go_ret
  exact ⟨rfl, HLE.out⟩
set_option maxRecDepth 4000 in
theorem iLower_c (v : Value) (l : Tx) (w : World) (hv : Bv w v l) (hl : l.length ≤ 1099511627776) : Calls Tryz.prog 20 #[v] w fun e w' => ∃ v', e = .returned v' ∧ Bv w' v' (l.map lowC) ∧ Le w w' := by
  have q1 := conv_bs (P := Tryz.prog) Tryz.underlying22 Tryz.underlying5 Tryz.underlying9 hv
  have hc := aSCIIToLower_c (st l) w (by rw [st_size]; exact hl)
  rw [bs_st] at hc
  have HC := Lib.hid hc
  have HL : Hid ((l.map lowC).length ≤ 1099511627776) := Lib.hid (by rw [List.length_map]; exact hl)
  clear hv hl hc
  go_enter Tryz.func20, Tryz.ntmps20
  go_wp2_with fail
  refine HC.out.mono ?_
  rintro e w3 ⟨rfl, hle⟩
  have HLE3 := Lib.hid hle
  clear hle HC
  obtain ⟨B, c, W, q, le1, bt⟩ := conv_mk (base := w.heap.size) w3 (st (l.map lowC)) HLE3.out.size (by rw [st_size]; have := HL.out; omega)
  rw [bs_st] at bt
  have HB := Lib.hid bt
  have HLE4 : Hid (Le w W) := Lib.hid (Le.trans HLE3.out le1)
  clear bt le1
  go_wp2
  go_ret
  exact ⟨_, rfl, HB.out.1, HLE4.out⟩
set_option maxRecDepth 4000 in
theorem iUpper_c (v : Value) (l : Tx) (w : World) (hv : Bv w v l) (hl : l.length ≤ 1099511627776) : Calls Tryz.prog 22 #[v] w fun e w' => ∃ v', e = .returned v' ∧ Bv w' v' (l.map upC) ∧ Le w w' := by
  have q1 := conv_bs (P := Tryz.prog) Tryz.underlying22 Tryz.underlying5 Tryz.underlying9 hv
  have hc := aSCIIToUpper_c (st l) w (by rw [st_size]; exact hl)
  rw [bs_st] at hc
  have HC := Lib.hid hc
  have HL : Hid ((l.map upC).length ≤ 1099511627776) := Lib.hid (by rw [List.length_map]; exact hl)
  clear hv hl hc
  go_enter Tryz.func22, Tryz.ntmps22
  go_wp2_with fail
  refine HC.out.mono ?_
  rintro e w3 ⟨rfl, hle⟩
  have HLE3 := Lib.hid hle
  clear hle HC
  obtain ⟨B, c, W, q, le1, bt⟩ := conv_mk (base := w.heap.size) w3 (st (l.map upC)) HLE3.out.size (by rw [st_size]; have := HL.out; omega)
  rw [bs_st] at bt
  have HB := Lib.hid bt
  have HLE4 : Hid (Le w W) := Lib.hid (Le.trans HLE3.out le1)
  clear bt le1
  go_wp2
  go_ret
  exact ⟨_, rfl, HB.out.1, HLE4.out⟩
set_option maxRecDepth 4000 in
theorem iHeaderLower_c (v : Value) (l : Tx) (w : World) (hv : Bv w v l) (hl : l.length ≤ 1099511627776) : Calls Tryz.prog 24 #[v] w fun e w' => ∃ v', e = .returned v' ∧ Bv w' v' (l.map lowC) ∧ Le w w' := by
  have q1 := conv_bs (P := Tryz.prog) Tryz.underlying22 Tryz.underlying5 Tryz.underlying9 hv
  have hc := hLow_c (st l) w (by rw [st_size]; exact hl)
  rw [bs_st] at hc
  have HC := Lib.hid hc
  have HL : Hid ((l.map lowC).length ≤ 1099511627776) := Lib.hid (by rw [List.length_map]; exact hl)
  clear hv hl hc
  go_enter Tryz.func24, Tryz.ntmps24
  go_wp2_with fail
  refine HC.out.mono ?_
  rintro e w3 ⟨rfl, hle⟩
  have HLE3 := Lib.hid hle
  clear hle HC
  obtain ⟨B, c, W, q, le1, bt⟩ := conv_mk (base := w.heap.size) w3 (st (l.map lowC)) HLE3.out.size (by rw [st_size]; have := HL.out; omega)
  rw [bs_st] at bt
  have HB := Lib.hid bt
  have HLE4 : Hid (Le w W) := Lib.hid (Le.trans HLE3.out le1)
  clear bt le1
  go_wp2
  go_ret
  exact ⟨_, rfl, HB.out.1, HLE4.out⟩
theorem sLower_c (v : Value) (l : Tx) (w : World) (hv : Bv w v l) : Calls Tryz.prog 21 #[v] w (LowPost l w) := by
  have HC := Lib.hid (lowered_c v l w hv)
  clear hv
  go_enter Tryz.func21, Tryz.ntmps21
  go_wp2_with fail
  refine HC.out.mono ?_
  rintro e w' ⟨v', rfl, hown, hle⟩
  have HO := Lib.hid hown
  have HLE := Lib.hid hle
  clear hown hle HC
  go_wp2
  go_ret
  exact ⟨_, rfl, HO.out, HLE.out⟩
theorem sHeaderLower_c (v : Value) (l : Tx) (w : World) (hv : Bv w v l) : Calls Tryz.prog 25 #[v] w (LowPost l w) := by
  have HC := Lib.hid (lowered_c v l w hv)
  clear hv
  go_enter Tryz.func25, Tryz.ntmps25
  go_wp2_with fail
  refine HC.out.mono ?_
  rintro e w' ⟨v', rfl, hown, hle⟩
  have HO := Lib.hid hown
  have HLE := Lib.hid hle
  clear hown hle HC
  go_wp2
  go_ret
  exact ⟨_, rfl, HO.out, HLE.out⟩
theorem equal_t (w : World) (x y : Value) (l : Tx) (hx : Bv w x l) (hy : Bv w y l) :
    Calls Tryz.prog 19 #[x, y] w fun e w' => e = .returned (.bool true) ∧ Le w w' :=
  (equal_b w x y l l true (decide_eq_true rfl) hx hy).mono fun e w' ⟨h1, m, h2⟩ => ⟨h1, h2 ▸ (Le.refl w).drewN m⟩
set_option maxRecDepth 8000 in
set_option maxHeartbeats 8000000 in
theorem fnLetters_c (w : World) (v : Value) (l : Tx) (hv : Bv w v l) (hL : Laid w) :
    Calls Tryz.prog 5 #[v] w fun e w' => e = .returned (.bool true) ∧ Le w w' := by
  have HV := Lib.hid hv
  have HL := Lib.hid hL
  obtain ⟨A0, c0, rfl, hl0⟩ := bv_slice hv
  clear hv hL
  by_cases h1 : 2147483647 < l.length
  · have h1' : (2147483647 : Int) < l.length := by omega
    go_enter Tryz.func5, Tryz.ntmps5
    go_wp2
    go_ret
    exact ⟨rfl, Le.refl w⟩
  have h1' : (l.length : Int) ≤ 2147483647 := by omega
  by_cases h2 : 8192 < l.length
  · have h2' : (8192 : Int) < l.length := by omega
    go_enter Tryz.func5, Tryz.ntmps5
    go_wp2_with fail
    refine (known_c w HL.out).mono ?_
    rintro e w' ⟨rfl, hle⟩
    have HLE := Lib.hid hle
    clear hle
    go_wp2
    go_ret
    exact ⟨rfl, HLE.out⟩
  have h2' : (l.length : Int) ≤ 8192 := by omega
  have HN : Hid (l.length ≤ 1099511627776) := Lib.hid (by omega)
  go_enter Tryz.func5, Tryz.ntmps5
  have HLE0 : Hid (Le w w) := Lib.hid (Le.refl w)
  go_wp2_with fail
  refine (iLower_c _ l w (HV.out.le HLE0.out) HN.out).mono ?_
  rintro e w1 ⟨a1, rfl, hb, hle⟩
  have HA1 := Lib.hid hb
  have HLE1 := Lib.hid (HLE0.out.trans hle)
  clear hb hle
  go_wp2_with fail
  refine (sLower_c _ l w1 (HV.out.le HLE1.out)).mono ?_
  rintro e w2 ⟨a2, rfl, hb, hle⟩
  have HA2 := Lib.hid (hb.bv (by rw [List.length_map]; exact hl0))
  have HAp2 := Lib.hid (HA1.out.le hle)
  have HLE2 := Lib.hid (HLE1.out.trans hle)
  clear hb hle
  go_wp2_with fail
  refine (equal_t w2 _ _ _ HAp2.out HA2.out).mono ?_
  rintro e w3 ⟨rfl, hle⟩
  have HLE3 := Lib.hid (HLE2.out.trans hle)
  clear hle
  go_wp2_with fail
  refine (iUpper_c _ l w3 (HV.out.le HLE3.out) HN.out).mono ?_
  rintro e w4 ⟨a4, rfl, hb, hle⟩
  have HA4 := Lib.hid hb
  have HLE4 := Lib.hid (HLE3.out.trans hle)
  clear hb hle
  go_wp2_with fail
  refine (sUpper_c _ l w4 (HV.out.le HLE4.out)).mono ?_
  rintro e w5 ⟨a5, rfl, hb, hle⟩
  have HA5 := Lib.hid (hb.bv (by rw [List.length_map]; exact hl0))
  have HAp5 := Lib.hid (HA4.out.le hle)
  have HLE5 := Lib.hid (HLE4.out.trans hle)
  clear hb hle
  go_wp2_with fail
  refine (equal_t w5 _ _ _ HAp5.out HA5.out).mono ?_
  rintro e w6 ⟨rfl, hle⟩
  have HLE6 := Lib.hid (HLE5.out.trans hle)
  clear hle
  go_wp2_with fail
  refine (iHeaderLower_c _ l w6 (HV.out.le HLE6.out) HN.out).mono ?_
  rintro e w7 ⟨a7, rfl, hb, hle⟩
  have HA7 := Lib.hid hb
  have HLE7 := Lib.hid (HLE6.out.trans hle)
  clear hb hle
  go_wp2_with fail
  refine (sHeaderLower_c _ l w7 (HV.out.le HLE7.out)).mono ?_
  rintro e w8 ⟨a8, rfl, hb, hle⟩
  have HA8 := Lib.hid (hb.bv (by rw [List.length_map]; exact hl0))
  have HAp8 := Lib.hid (HA7.out.le hle)
  have HLE8 := Lib.hid (HLE7.out.trans hle)
  clear hb hle
  go_wp2_with fail
  refine (equal_t w8 _ _ _ HAp8.out HA8.out).mono ?_
  rintro e w9 ⟨rfl, hle⟩
  have HLE9 := Lib.hid (HLE8.out.trans hle)
  clear hle
  go_wp2_with fail
  refine (known_c w9 (HL.out.le HLE9.out)).mono ?_
  rintro e w10 ⟨rfl, hle⟩
  have HLE10 := Lib.hid (HLE9.out.trans hle)
  clear hle
  go_wp2
  go_ret
  exact ⟨rfl, HLE10.out⟩
end Go.Proofs.YtbdeohmdpkkpdaaGreatDoor
