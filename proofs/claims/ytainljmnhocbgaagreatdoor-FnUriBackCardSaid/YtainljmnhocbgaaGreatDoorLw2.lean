/- Contracts: the laws' isLine, spaces, joined. -/
import Derived.Test.YtainljmnhocbgaaGreatDoorLw1
import Derived.Test.YtainljmnhocbgaaGreatDoorSpW5
import Derived.Test.YtainljmnhocbgaaGreatDoorKnown3
set_option linter.unusedVariables false
set_option linter.unusedSimpArgs false
namespace Go.Proofs.YtainljmnhocbgaaGreatDoor
open Go.RowKit

/-! ### isLine -/
def lnq (c : UInt8) : Bool := decide (32 ≤ (c.toNat : Int)) && decide ((c.toNat : Int) ≤ 126)
def lineB (l : Tx) : Bool := l.all lnq && decide (0 < l.length) && decide (l.length ≤ 8192) && !decide (l.getD 0 0 = 32) && !decide (l.getD (l.length - 1) 0 = 32)
set_option maxRecDepth 4000 in
set_option maxHeartbeats 4000000 in
theorem isLine_c (v : Value) (l : Tx) (w : World) (hv : Bv w v l) : Calls Tryz.prog 19 #[v] w fun e w' => e = .returned (.bool (lineB l)) ∧ w = w' := by
  obtain ⟨A, cc, rfl, h1, h2, h4⟩ := hv
  have h3 := h4.1
  have HR := Lib.hid h4
  clear h4
  go_enter Tryz.func19, Tryz.ntmps19
  go_wp2
  go_loop [3] (fun i => ∃ k : Nat, k ≤ l.length ∧ i = .int .i64 k ∧ (l.take k).all lnq = true) (fun i => l.length - (intOf i).toNat)
  case atStart => exact ⟨0, Nat.zero_le _, rfl, rfl⟩
  case round =>
    obtain ⟨k, hk, rfl, hq⟩ := hrel
    have HQ := Lib.hid hq
    clear hq
    by_cases hlt : k < l.length
    · obtain ⟨b, o, rfl, d1⟩ := HR.out.at_ hlt
      by_cases n1 : 32 ≤ (l[k].toNat : Int)
      · by_cases n2 : (l[k].toNat : Int) ≤ 126
        · have hp : lnq l[k] = true := by unfold lnq; rw [decide_eq_true n1, decide_eq_true n2]; rfl
          have HX : Hid ((l.take (k + 1)).all lnq = true) := Lib.hid (by rw [List.take_succ_eq_append_getElem hlt, List.all_append, HQ.out]; simpa using hp)
          clear hp
          generalize (l[k].toNat : Int) = x at d1 n1 n2
          go_wp2
          go_round
          case rel => exact ⟨k + 1, by omega, by go_num, HX.out⟩
          case measure => simp [intOf]; omega
        · have hp : lnq l[k] = false := by unfold lnq; rw [decide_eq_false n2]; simp
          have HX : Hid (lineB l = false) := Lib.hid (by unfold lineB; rw [List.all_eq_false.2 ⟨l[k], List.getElem_mem hlt, by rw [hp]; simp⟩]; rfl)
          have n3 : 126 < (l[k].toNat : Int) := by omega
          clear hp n2
          generalize (l[k].toNat : Int) = x at d1 n1 n3
          go_wp2
          go_ret
          exact ⟨by rw [HX.out]; rfl, rfl⟩
      · have hp : lnq l[k] = false := by unfold lnq; rw [decide_eq_false n1]; rfl
        have HX : Hid (lineB l = false) := Lib.hid (by unfold lineB; rw [List.all_eq_false.2 ⟨l[k], List.getElem_mem hlt, by rw [hp]; simp⟩]; rfl)
        have n3 : (l[k].toNat : Int) < 32 := by omega
        clear hp n1
        generalize (l[k].toNat : Int) = x at d1 n3
        go_wp2
        go_ret
        exact ⟨by rw [HX.out]; rfl, rfl⟩
    · have HA : Hid (l.all lnq = true) := Lib.hid (by have := HQ.out; rw [List.take_of_length_le (by omega)] at this; exact this)
      by_cases h0 : 0 < l.length
      · by_cases hm : l.length ≤ 8192
        · obtain ⟨b, o, rfl, d1⟩ := HR.out.at_ h0
          obtain ⟨b', o', e', d2⟩ := HR.out.at_ (k := l.length - 1) (by omega)
          obtain ⟨rfl, rfl⟩ : b = b' ∧ o = o' := by injection e' with e'; injection e' with e1 e2; exact ⟨e1, e2⟩
          clear e'
          have g0 : l.getD 0 0 = l[0] := by rw [List.getD_eq_getElem?_getD, List.getElem?_eq_getElem h0]; rfl
          have g1 : l.getD (l.length - 1) 0 = l[l.length - 1]'(by omega) := by rw [List.getD_eq_getElem?_getD, List.getElem?_eq_getElem (by omega)]; rfl
          have HE : Hid (lineB l = (!decide (l[0] = 32) && !decide (l[l.length - 1]'(by omega) = 32))) := Lib.hid (by unfold lineB; rw [HA.out, decide_eq_true h0, decide_eq_true hm, g0, g1]; rfl)
          have h0' : (0 : Int) < l.length := by omega
          have hm' : decide ((l.length : Int) ≤ 8192) = true := by simp; omega
          rw [Nat.add_zero] at d1
          have HN : Hid (((l.length : Int) - 1).toNat = l.length - 1) := Lib.hid (by omega)
          by_cases c1 : l[0] = 32
          · have f1 : ((l[0].toNat : Int) != 32) = false := ne_f (n := 32) (by omega) c1
            have HX : Hid (lineB l = false) := Lib.hid (by rw [HE.out, decide_eq_true c1]; rfl)
            clear c1 g0 g1
            generalize (l[0].toNat : Int) = x at d1 f1
            go_wp2
            go_ret
            exact ⟨by rw [HX.out]; rfl, rfl⟩
          · have f1 : ((l[0].toNat : Int) != 32) = true := ne_t (n := 32) (by omega) c1
            by_cases c2 : (l[l.length - 1]'(by omega)) = 32
            · have f2 : (((l[l.length - 1]'(by omega)).toNat : Int) != 32) = false := ne_f (n := 32) (by omega) c2
              have HX : Hid (lineB l = false) := Lib.hid (by rw [HE.out, decide_eq_true c2]; simp)
              clear c1 c2 g0 g1
              generalize (l[0].toNat : Int) = x at d1 f1
              generalize ((l[l.length - 1]'(by omega)).toNat : Int) = y at d2 f2
              go_wp2
              go_ret
              exact ⟨by rw [HX.out]; rfl, rfl⟩
            · have f2 : (((l[l.length - 1]'(by omega)).toNat : Int) != 32) = true := ne_t (n := 32) (by omega) c2
              have HX : Hid (lineB l = true) := Lib.hid (by rw [HE.out, decide_eq_false c1, decide_eq_false c2]; rfl)
              clear c1 c2 g0 g1
              generalize (l[0].toNat : Int) = x at d1 f1
              generalize ((l[l.length - 1]'(by omega)).toNat : Int) = y at d2 f2
              go_wp2
              go_ret
              exact ⟨by rw [HX.out]; rfl, rfl⟩
        · have HX : Hid (lineB l = false) := Lib.hid (by unfold lineB; rw [decide_eq_false hm]; simp)
          have hm' : decide ((l.length : Int) ≤ 8192) = false := by simp; omega
          have h0' : (0 : Int) < l.length := by omega
          go_wp2
          go_ret
          exact ⟨by rw [HX.out]; rfl, rfl⟩
      · obtain rfl : l = [] := List.eq_nil_of_length_eq_zero (by omega)
        go_wp2
        go_ret
        exact ⟨rfl, rfl⟩

/-! ### joined -/
theorem flat_take {ls : List Tx} {k : Nat} (h : k < ls.length) : (ls.take (k + 1)).flatten = (ls.take k).flatten ++ ls[k] := by
  rw [List.take_succ_eq_append_getElem h, List.flatten_append]; simp
theorem flat_len {ls : List Tx} {k : Nat} (h : k < ls.length) : (ls.take k).flatten.length + ls[k].length ≤ ls.flatten.length := by
  have e : ls.flatten = (ls.take (k + 1)).flatten ++ (ls.drop (k + 1)).flatten := by rw [← List.flatten_append, List.take_append_drop]
  rw [e, flat_take h, List.length_append, List.length_append]
  omega
set_option maxRecDepth 4000 in
set_option maxHeartbeats 2000000 in
theorem joined_c (v : Value) (ls : List Tx) (w : World) (hv : Sl w w v ls) (hl : ls.flatten.length ≤ 140737488355328) : Calls Tryz.prog 21 #[v] w fun e w' => ∃ v', e = .returned v' ∧ OwnB w.heap.size w' v' ls.flatten ∧ Le w w' := by
  obtain ⟨A, c, rfl, h1, h2, h3, h4⟩ := hv
  have HV : Hid (Sl w w (.slice A ls.length c) ls) := Lib.hid ⟨A, c, rfl, h1, h2, h3, h4⟩
  clear h4
  go_enter Tryz.func21, Tryz.ntmps21
  go_wp2
  go_loopg [3, 4] (ls.length) (fun n sv i wr => ∃ k : Nat, n + k = ls.length ∧ i = .int .i64 k ∧ Le w wr ∧ OwnB w.heap.size wr sv (ls.take k).flatten)
  case atStart => exact ⟨0, by omega, rfl, Le.refl w, OwnB.nil _ _⟩
  case round =>
    obtain ⟨k, hn, rfl, hle, hown⟩ := hrel
    have HO := Lib.hid hown
    have HL := Lib.hid hle
    have HN : gk + k ≤ ls.length ∧ ls.length ≤ gk + k := by omega
    have hsz := hle.size
    by_cases hlt : k < ls.length
    · obtain ⟨g, o, rfl, x, hx, hb⟩ := HV.out.at_ hlt
      have d1 := hle.cell hx
      have hfl := flat_len hlt
      have hbw := hb.out.le hle
      have HB := Lib.hid hbw
      have HF : Hid ((ls.take (k + 1)).flatten = (ls.take k).flatten ++ ls[k]) := Lib.hid (flat_take hlt)
      have HFL : Hid ((ls.take k).flatten.length + ls[k].length ≤ 140737488355328) := Lib.hid (by omega)
      clear hn hle hown hx hfl hbw
      go_wp2_with (at_builtin; refine wpList_append_bv rfl (.tmp 11) (.tmp 15) rfl (base := w.heap.size) rfl rfl HO.out HB.out HFL.out ?_ ?_)
      · omega
      intro v' w' hown' hgrow'
      have HLE' : Hid (Le w w') := Lib.hid (Below.grown' HL.out hgrow' (Nat.le_refl _) (fun g hg => (own_row' HO.out g hg).1))
      have HO' : Hid (OwnB w.heap.size w' v' (ls.take (k + 1)).flatten) := Lib.hid (by rw [HF.out]; exact hown')
      clear hown' hgrow'
      go_wp2
      go_roundg (gk - 1)
      case measure => omega
      case rel => exact ⟨k + 1, by omega, by go_num, HLE'.out, HO'.out⟩
    · have HX : Hid (OwnB w.heap.size wr u3 ls.flatten) := Lib.hid (by have := HO.out; rw [List.take_of_length_le (by omega)] at this; exact this)
      clear hn hle hown
      go_wp2
      go_ret
      exact ⟨_, rfl, HX.out, HL.out⟩

/-! ### spaces -/
def blq (c : UInt8) : Bool := decide (c = 32)
set_option maxRecDepth 4000 in
set_option maxHeartbeats 2000000 in
theorem spaces_c (v : Value) (l : Tx) (w : World) (hv : Bv w v l) : Calls Tryz.prog 20 #[v] w fun e w' => ∃ v', e = .returned v' ∧ OwnB w.heap.size w' v' (l.filter blq) ∧ Le w w' := by
  obtain ⟨A, cc, rfl, h1, h2, h4⟩ := hv
  have h3 := h4.1
  have HR := Lib.hid h4
  clear h4
  go_enter Tryz.func20, Tryz.ntmps20
  go_wp2
  go_loopg [3, 4] (l.length) (fun n sv i wr => ∃ k : Nat, n + k = l.length ∧ i = .int .i64 k ∧ Le w wr ∧ OwnB w.heap.size wr sv ((l.take k).filter blq))
  case atStart => exact ⟨0, by omega, rfl, Le.refl w, OwnB.nil _ _⟩
  case round =>
    obtain ⟨k, hn, rfl, hle, hown⟩ := hrel
    have HO := Lib.hid hown
    have HL := Lib.hid hle
    have HN : gk + k ≤ l.length ∧ l.length ≤ gk + k := by omega
    have hsz := hle.size
    by_cases hlt : k < l.length
    · obtain ⟨b, o, rfl, d0⟩ := HR.out.at_ hlt
      have d1 := hle.cell d0
      have hfl : ((l.take k).filter blq).length ≤ k := Nat.le_trans (List.length_filter_le _ _) (List.length_take_le _ _)
      by_cases hc : l[k] = 32
      · have f1 : ((l[k].toNat : Int) == 32) = true := eq_t (n := 32) (by omega) hc
        have HF : Hid ((l.take (k + 1)).filter blq = (l.take k).filter blq ++ [32]) := Lib.hid (by
          rw [List.take_succ_eq_append_getElem hlt, List.filter_append, hc]; rfl)
        have hbl : Bv (wr.alloc (Obj.cells #[.int .u8 32] 5)) (.slice (some ⟨wr.heap.size, 0, none⟩) 1 1) [32] := bv_lit wr [32] (by decide) (0, 0)
        have HB := Lib.hid hbl
        have HOA : Hid (OwnB w.heap.size (wr.alloc (Obj.cells #[.int .u8 32] 5)) u3 ((l.take k).filter blq)) := Lib.hid (HO.out.le ((Le.refl wr).alloc _))
        clear hn hle hown d0 hc hbl
        generalize (l[k].toNat : Int) = x at d1 f1
        go_wp2_with (at_builtin; refine wpList_append_bv rfl (.tmp 16) (.tmp 17) rfl (base := w.heap.size) rfl rfl HOA.out HB.out ?_ ?_ ?_)
        · simp only [List.length_cons, List.length_nil]; omega
        · simp; omega
        intro v' w' hown' hgrow'
        have HLE' : Hid (Le w w') := Lib.hid (Below.grown' (HL.out.alloc _) hgrow' (Nat.le_refl _) (fun g hg => (own_row' HO.out g hg).1))
        have HO' : Hid (OwnB w.heap.size w' v' ((l.take (k + 1)).filter blq)) := Lib.hid (by rw [HF.out]; exact hown')
        clear hown' hgrow'
        go_wp2
        go_roundg (gk - 1)
        case measure => omega
        case rel => exact ⟨k + 1, by omega, by go_num, HLE'.out, HO'.out⟩
      · have f1 : ((l[k].toNat : Int) == 32) = false := eq_f (n := 32) (by omega) hc
        have HF : Hid ((l.take (k + 1)).filter blq = (l.take k).filter blq) := Lib.hid (by
          rw [List.take_succ_eq_append_getElem hlt, List.filter_append]
          have : [l[k]].filter blq = [] := by simp [blq, hc]
          rw [this, List.append_nil])
        have HO' : Hid (OwnB w.heap.size wr u3 ((l.take (k + 1)).filter blq)) := Lib.hid (by rw [HF.out]; exact HO.out)
        clear hn hle hown d0 hc
        generalize (l[k].toNat : Int) = x at d1 f1
        go_wp2
        go_roundg (gk - 1)
        case measure => omega
        case rel => exact ⟨k + 1, by omega, by go_num, HL.out, HO'.out⟩
    · have HX : Hid (OwnB w.heap.size wr u3 (l.filter blq)) := Lib.hid (by have := HO.out; rw [List.take_of_length_le (by omega)] at this; exact this)
      clear hn hle hown
      go_wp2
      go_ret
      exact ⟨_, rfl, HX.out, HL.out⟩
end Go.Proofs.YtainljmnhocbgaaGreatDoor
