/- Contracts: the specification's small functions on bytes and texts. Contracts: the specification's functions that read a text: indexOf, lastOf, isSame, isOf, isHost, portOf, isPrinted. -/
import Derived.Test.YteedhaenbamiaaaGreatDoorBase
import Derived.Test.YteedhaenbamiaaaGreatDoorPar
set_option linter.unusedVariables false
set_option linter.unusedSimpArgs false
namespace Go.Proofs.YteedhaenbamiaaaGreatDoor
open Go.RowKit

theorem ret_bool {a b : Bool} (h : a = b) : Ending.returned (.bool a) = .returned (.bool b) := by rw [h]
def nmB (c : Int) : Bool := decide (48 ≤ c ∧ c ≤ 57)
def hxB (c : Int) : Bool := decide ((48 ≤ c ∧ c ≤ 57) ∨ (97 ≤ c ∧ c ≤ 102) ∨ (65 ≤ c ∧ c ≤ 70))
theorem nmB_byte (x : UInt8) : nmB (x.toNat : Int) = isNm x := by
  rw [Bool.eq_iff_iff]
  simp only [nmB, isNm, decide_eq_true_eq, Bool.or_eq_true, Bool.and_eq_true, UInt8.le_iff_toNat_le]
  have e1 : (48 : UInt8).toNat = 48 := rfl
  have e2 : (57 : UInt8).toNat = 57 := rfl
  omega
theorem hxB_byte (x : UInt8) : hxB (x.toNat : Int) = isHx x := by
  rw [Bool.eq_iff_iff]
  simp only [hxB, isHx, isNm, decide_eq_true_eq, Bool.or_eq_true, Bool.and_eq_true, UInt8.le_iff_toNat_le]
  have e1 : (48 : UInt8).toNat = 48 := rfl
  have e2 : (57 : UInt8).toNat = 57 := rfl
  have e3 : (97 : UInt8).toNat = 97 := rfl
  have e4 : (102 : UInt8).toNat = 102 := rfl
  have e5 : (65 : UInt8).toNat = 65 := rfl
  have e6 : (70 : UInt8).toNat = 70 := rfl
  omega
set_option maxHeartbeats 400000 in
theorem isLetterI (c : Int) (w : World) : Calls Tryz.prog 78 #[.int .u8 c] w fun e w' => e = .returned (.bool (alB c)) ∧ w = w' := by
  go_enter Tryz.func78, Tryz.ntmps78
  go_wp2
  all_goals (go_ret; refine ⟨ret_bool (Bool.eq_iff_iff.2 ?_), rfl⟩; simp only [alB, Bool.or_eq_true, Bool.and_eq_true, decide_eq_true_eq, true_iff, true_or, or_true, Bool.false_eq_true, false_iff]; omega)
set_option maxHeartbeats 400000 in
theorem isNumberI (c : Int) (w : World) : Calls Tryz.prog 79 #[.int .u8 c] w fun e w' => e = .returned (.bool (nmB c)) ∧ w = w' := by
  go_enter Tryz.func79, Tryz.ntmps79
  go_wp2
  all_goals (go_ret; refine ⟨ret_bool (Bool.eq_iff_iff.2 ?_), rfl⟩; simp only [nmB, Bool.or_eq_true, Bool.and_eq_true, decide_eq_true_eq, true_iff, true_or, or_true, Bool.false_eq_true, false_iff]; omega)
set_option maxHeartbeats 400000 in
theorem isAlnumI (c : Int) (w : World) : Calls Tryz.prog 44 #[.int .u8 c] w fun e w' => e = .returned (.bool (alB c || nmB c)) ∧ w = w' := by
  by_cases h : alB c = true
  · go_enter Tryz.func44, Tryz.ntmps44
    go_wp2_with (first | (go_at_call 78; refine (isLetterI _ _).mono ?_; rintro e w' ⟨rfl, rfl⟩) | (go_at_call 79; refine (isNumberI _ _).mono ?_; rintro e w' ⟨rfl, rfl⟩))
    all_goals (go_ret; refine ⟨ret_bool ?_, rfl⟩; simp [h])
  · have h2 : alB c = false := by simpa using h
    clear h
    go_enter Tryz.func44, Tryz.ntmps44
    go_wp2_with (first | (go_at_call 78; refine (isLetterI _ _).mono ?_; rintro e w' ⟨rfl, rfl⟩) | (go_at_call 79; refine (isNumberI _ _).mono ?_; rintro e w' ⟨rfl, rfl⟩))
    all_goals (go_ret; refine ⟨ret_bool ?_, rfl⟩; simp [h2])
set_option maxHeartbeats 400000 in
theorem isHexI (c : Int) (w : World) : Calls Tryz.prog 80 #[.int .u8 c] w fun e w' => e = .returned (.bool (hxB c)) ∧ w = w' := by
  by_cases h : nmB c = true
  · have hh : Hid (hxB c = true) := by simp only [hxB, nmB, decide_eq_true_eq] at h ⊢; exact Lib.hid (by omega)
    go_enter Tryz.func80, Tryz.ntmps80
    go_wp2_with (go_at_call 79; refine (isNumberI _ _).mono ?_; rintro e w' ⟨rfl, rfl⟩)
    all_goals (go_ret; exact ⟨by rw [hh.out]; rfl, rfl⟩)
  · have h2 : nmB c = false := by simpa using h
    have hh : Hid (hxB c = decide ((97 ≤ c ∧ c ≤ 102) ∨ (65 ≤ c ∧ c ≤ 70))) := Lib.hid (by
      simp only [nmB, decide_eq_false_iff_not] at h2
      rw [Bool.eq_iff_iff]
      simp only [hxB, decide_eq_true_eq]
      omega)
    clear h
    go_enter Tryz.func80, Tryz.ntmps80
    go_wp2_with (go_at_call 79; refine (isNumberI _ _).mono ?_; rintro e w' ⟨rfl, rfl⟩)
    all_goals (go_ret; refine ⟨ret_bool ?_, rfl⟩; rw [hh.out]; refine (Bool.eq_iff_iff.2 ?_); simp only [Bool.or_eq_true, Bool.and_eq_true, decide_eq_true_eq, true_iff, true_or, or_true, Bool.false_eq_true, false_iff]; omega)
theorem isLetter_c (c : UInt8) (w : World) : Calls Tryz.prog 78 #[.int .u8 (c.toNat : Int)] w fun e w' => e = .returned (.bool (isAl c)) ∧ w = w' := by
  rw [← alB_byte]; exact isLetterI _ _
theorem isNumber_c (c : UInt8) (w : World) : Calls Tryz.prog 79 #[.int .u8 (c.toNat : Int)] w fun e w' => e = .returned (.bool (isNm c)) ∧ w = w' := by
  rw [← nmB_byte]; exact isNumberI _ _
theorem isAlnum_c (c : UInt8) (w : World) : Calls Tryz.prog 44 #[.int .u8 (c.toNat : Int)] w fun e w' => e = .returned (.bool (isAn c)) ∧ w = w' := by
  unfold isAn; rw [← nmB_byte, ← alB_byte]; exact isAlnumI _ _
theorem isHex_c (c : UInt8) (w : World) : Calls Tryz.prog 80 #[.int .u8 (c.toNat : Int)] w fun e w' => e = .returned (.bool (isHx c)) ∧ w = w' := by
  rw [← hxB_byte]; exact isHexI _ _

/-! ### isIn -/
theorem byte_eq (x y : UInt8) : ((x.toNat : Int) == (y.toNat : Int)) = decide (x = y) := by
  by_cases h : x = y
  · subst h; simp
  · have : ¬ (x.toNat : Int) = (y.toNat : Int) := fun e => h (UInt8.toNat_inj.1 (by omega))
    rw [decide_eq_false h]; simpa using this
theorem byte_eq_f {x y : UInt8} (h : x ≠ y) : ((x.toNat : Int) == (y.toNat : Int)) = false := by rw [byte_eq]; simpa using h
theorem byte_eq_t {x y : UInt8} (h : x = y) : ((x.toNat : Int) == (y.toNat : Int)) = true := by rw [byte_eq]; simpa using h
def hasB (l : Tx) (c : UInt8) : Bool := l.contains c
theorem contains_of {l : Tx} {c : UInt8} {k : Nat} (h : k < l.length) (e : l[k] = c) : l.contains c = true := List.contains_iff_mem.2 (e ▸ List.getElem_mem h)
set_option maxHeartbeats 400000 in
theorem isIn_c (c : UInt8) (s : ByteArray) (w : World) (hs : s.size ≤ 1099511627776) : Calls Tryz.prog 95 #[.int .u8 (c.toNat : Int), .string s] w fun e w' => e = .returned (.bool (hasB (bs s) c)) ∧ w = w' := by
  have HL := Lib.hid (bs_len s)
  go_enter Tryz.func95, Tryz.ntmps95
  go_wp2
  go_loop [5] (fun i => ∃ k : Nat, k ≤ s.size ∧ i = .int .i64 k ∧ ((bs s).take k).contains c = false) (fun i => s.size - (intOf i).toNat)
  case atStart => exact ⟨0, Nat.zero_le _, rfl, rfl⟩
  case round =>
    obtain ⟨k, hk, rfl, hq⟩ := hrel
    have HQ := Lib.hid hq
    clear hq
    by_cases hlt : k < s.size
    · have hlt2 : k < (bs s).length := by rw [HL.out]; exact hlt
      by_cases hx : (bs s)[k] = c
      · have e1 : ((s[k].toNat : Int) == (c.toNat : Int)) = true := byte_eq_t hx
        have HX : Hid (hasB (bs s) c = true) := Lib.hid (contains_of hlt2 hx)
        clear hx
        go_wp2
        go_ret
        exact ⟨by rw [HX.out]; rfl, rfl⟩
      · have e1 : ((s[k].toNat : Int) == (c.toNat : Int)) = false := byte_eq_f hx
        have HX : Hid (((bs s).take (k + 1)).contains c = false) := Lib.hid (by
          rw [List.take_succ_eq_append_getElem hlt2, List.contains_eq_any_beq, List.any_append, ← List.contains_eq_any_beq, HQ.out]
          simpa using fun e => hx e.symm)
        clear hx
        go_wp2
        go_round
        case rel => exact ⟨k + 1, by omega, by go_num, HX.out⟩
        case measure => simp [intOf]; omega
    · have HX : Hid (hasB (bs s) c = false) := Lib.hid (by have := HQ.out; rw [List.take_of_length_le (by rw [HL.out]; omega)] at this; exact this)
      go_wp2
      go_ret
      exact ⟨by rw [HX.out]; rfl, rfl⟩
end Go.Proofs.YteedhaenbamiaaaGreatDoor
set_option linter.unusedVariables false
set_option linter.unusedSimpArgs false
namespace Go.Proofs.YteedhaenbamiaaaGreatDoor
open Go.RowKit

/-- the cell at a place of a slice of bytes that reads -/
theorem Rb.at_ {w : World} {A : Option Addr} {l : Tx} (h : Rb w A l) {k : Nat} (hk : k < l.length) : ∃ b o, A = some ⟨b, o, none⟩ ∧ w.cell? ⟨b, o + k, none⟩ = some (.int .u8 (l[k].toNat : Int)) := by
  obtain ⟨b, o, e, hc⟩ := h.2 (by omega)
  exact ⟨b, o, e, hc k hk⟩
theorem ixI_at {l : Tx} {c : UInt8} {k : Nat} (h : k < l.length) (e : l[k] = c) (hn : (l.take k).all (fun x => !(x == c)) = true) : ixI l c = k := by
  have h1 : ixOf l c = k := scan_at (p := (· == c)) h (by rw [e]; exact beq_self_eq_true c) hn
  unfold ixI
  rw [h1, if_pos h]
theorem ixI_no {l : Tx} {c : UInt8} (hn : l.all (fun x => !(x == c)) = true) : ixI l c = -1 := by
  have h1 : ixOf l c = l.length := scan_end (p := (· == c)) hn
  unfold ixI
  rw [h1, if_neg (Nat.lt_irrefl _)]
theorem lxI_at {l : Tx} {c : UInt8} {k : Nat} (h : k < l.length) (e : l[k] = c) (hn : ∀ t (ht : t < l.length), k < t → l[t] ≠ c) : lxI l c = k := by
  have h1 : l.reverse.findIdx (· == c) = l.length - 1 - k := by
    rw [List.findIdx_eq (by rw [List.length_reverse]; omega)]
    refine ⟨?_, fun j hj => ?_⟩
    · rw [List.getElem_reverse]
      have e2 : l.length - 1 - (l.length - 1 - k) = k := by omega
      have : l[l.length - 1 - (l.length - 1 - k)]'(by omega) = l[k] := by congr 1
      rw [this, e]
      exact beq_self_eq_true c
    · rw [List.getElem_reverse]
      simpa using hn (l.length - 1 - j) (by omega) (by omega)
  unfold lxI
  rw [h1, if_pos (by omega)]
  congr 1
  omega
theorem lxI_no {l : Tx} {c : UInt8} (hn : ∀ t (ht : t < l.length), l[t] ≠ c) : lxI l c = -1 := by
  have h1 : l.reverse.findIdx (· == c) = l.reverse.length := by
    rw [List.findIdx_eq_length]
    intro x hx
    obtain ⟨t, ht, e⟩ := List.getElem_of_mem (List.mem_reverse.1 hx)
    subst e
    simpa using hn t ht
  unfold lxI
  rw [h1, if_neg (by rw [List.length_reverse]; omega)]

set_option maxHeartbeats 400000 in
theorem indexOf_c (v : Value) (l : Tx) (c : UInt8) (w : World) (hv : Bv w v l) : Calls Tryz.prog 43 #[v, .int .u8 (c.toNat : Int)] w fun e w' => e = .returned (.int .i64 (ixI l c)) ∧ w = w' := by
  obtain ⟨A, cc, rfl, h1, h2, h4⟩ := hv
  have h3 := h4.1
  have HR := Lib.hid h4
  clear h4
  go_enter Tryz.func43, Tryz.ntmps43
  go_wp2
  go_loop [5] (fun i => ∃ k : Nat, k ≤ l.length ∧ i = .int .i64 k ∧ (l.take k).all (fun x => !(x == c)) = true) (fun i => l.length - (intOf i).toNat)
  case atStart => exact ⟨0, Nat.zero_le _, rfl, rfl⟩
  case round =>
    obtain ⟨k, hk, rfl, hq⟩ := hrel
    have HQ := Lib.hid hq
    clear hq
    by_cases hlt : k < l.length
    · obtain ⟨b, o, rfl, d1⟩ := HR.out.at_ hlt
      by_cases hx : l[k] = c
      · have e1 : ((l[k].toNat : Int) == (c.toNat : Int)) = true := byte_eq_t hx
        have HX : Hid (ixI l c = k) := Lib.hid (ixI_at hlt hx HQ.out)
        clear hx
        generalize (l[k].toNat : Int) = x at d1 e1
        go_wp2
        go_ret
        exact ⟨by rw [HX.out]; rfl, rfl⟩
      · have e1 : ((l[k].toNat : Int) == (c.toNat : Int)) = false := byte_eq_f hx
        have HX : Hid ((l.take (k + 1)).all (fun x => !(x == c)) = true) := Lib.hid (by
          rw [List.take_succ_eq_append_getElem hlt, List.all_append, HQ.out]
          simpa using hx)
        clear hx
        generalize (l[k].toNat : Int) = x at d1 e1
        go_wp2
        go_round
        case rel => exact ⟨k + 1, by omega, by go_num, HX.out⟩
        case measure => simp [intOf]; omega
    · have HX : Hid (ixI l c = -1) := Lib.hid (ixI_no (by have := HQ.out; rw [List.take_of_length_le (by omega)] at this; exact this))
      go_wp2
      go_ret
      exact ⟨by rw [HX.out]; rfl, rfl⟩

set_option maxHeartbeats 400000 in
theorem lastOf_c (v : Value) (l : Tx) (c : UInt8) (w : World) (hv : Bv w v l) : Calls Tryz.prog 105 #[v, .int .u8 (c.toNat : Int)] w fun e w' => e = .returned (.int .i64 (lxI l c)) ∧ w = w' := by
  obtain ⟨A, cc, rfl, h1, h2, h4⟩ := hv
  have h3 := h4.1
  have HR := Lib.hid h4
  clear h4
  go_enter Tryz.func105, Tryz.ntmps105
  go_wp2
  go_loop [5] (fun i => ∃ x : Int, -1 ≤ x ∧ x < l.length ∧ i = .int .i64 x ∧ Hid (∀ t (ht : t < l.length), x < t → l[t] ≠ c)) (fun i => (intOf i + 1).toNat)
  case atStart => exact ⟨(l.length : Int) - 1, by omega, by omega, rfl, Lib.hid fun t ht h => by omega⟩
  case round =>
    obtain ⟨x, hx1, hx2, rfl, HQ⟩ := hrel
    by_cases hlt : 0 ≤ x
    · obtain ⟨k, rfl⟩ : ∃ k : Nat, x = k := ⟨x.toNat, by omega⟩
      have hlt2 : k < l.length := by omega
      obtain ⟨b, o, rfl, d1⟩ := HR.out.at_ hlt2
      by_cases hx : l[k] = c
      · have e1 : ((l[k].toNat : Int) == (c.toNat : Int)) = true := byte_eq_t hx
        have HX : Hid (lxI l c = k) := Lib.hid (lxI_at hlt2 hx fun t ht h => HQ.out t ht (by omega))
        clear hx
        generalize (l[k].toNat : Int) = x at d1 e1
        go_wp2
        go_ret
        exact ⟨by rw [HX.out]; rfl, rfl⟩
      · have e1 : ((l[k].toNat : Int) == (c.toNat : Int)) = false := byte_eq_f hx
        have HX : Hid (∀ t (ht : t < l.length), (k : Int) - 1 < t → l[t] ≠ c) := Lib.hid fun t ht h => by
          rcases Nat.lt_or_ge k t with h' | h'
          · exact HQ.out t ht (by omega)
          · obtain rfl : t = k := by omega
            exact hx
        clear hx
        generalize (l[k].toNat : Int) = x at d1 e1
        go_wp2
        go_round
        case rel => exact ⟨(k : Int) - 1, by omega, by omega, by go_num, HX⟩
        case measure => simp [intOf]
    · have HX : Hid (lxI l c = -1) := Lib.hid (lxI_no fun t ht => HQ.out t ht (by omega))
      go_wp2
      go_ret
      exact ⟨by rw [HX.out]; rfl, rfl⟩

/-! ### isSame -/
set_option maxHeartbeats 400000 in
theorem isSame_c (u v : Value) (a b : Tx) (w : World) (hu : Bv w u a) (hv : Bv w v b) : Calls Tryz.prog 57 #[u, v] w fun e w' => e = .returned (.bool (decide (a = b))) ∧ w = w' := by
  have q1 := conv_bs (P := Tryz.prog) Tryz.underlying22 Tryz.underlying5 Tryz.underlying9 hu
  have q2 := conv_bs (P := Tryz.prog) Tryz.underlying22 Tryz.underlying5 Tryz.underlying9 hv
  have HB := Lib.hid (st_beq2 a b)
  clear hu hv
  go_enter Tryz.func57, Tryz.ntmps57
  go_wp2
  go_ret
  exact ⟨ret_bool HB.out, rfl⟩

/-! ### isOf -/
theorem okOf_cons (signs : Tx) (c : UInt8) (r : Tx) : okOf signs (c :: r) = if c = 37 then (match r with | a :: b :: r' => isHx a && isHx b && okOf signs r' | _ => false) else (isAn c || signs.contains c) && okOf signs r := by
  rw [okOf.eq_def]; rfl
theorem okOf_at {signs l : Tx} {k : Nat} (h : k < l.length) : okOf signs (l.drop k) = if l[k] = 37 then (if h2 : k + 2 < l.length then (isHx l[k+1] && isHx l[k+2] && okOf signs (l.drop (k+3))) else false) else ((isAn l[k] || hasB signs l[k]) && okOf signs (l.drop (k+1))) := by
  rw [List.drop_eq_getElem_cons h, okOf_cons]
  by_cases e : l[k] = 37
  · rw [if_pos e, if_pos e]
    by_cases h2 : k + 2 < l.length
    · rw [dif_pos h2, List.drop_eq_getElem_cons (by omega : k + 1 < l.length), List.drop_eq_getElem_cons h2]
    · rw [dif_neg h2]
      have hl : (l.drop (k + 1)).length ≤ 1 := by rw [List.length_drop]; omega
      generalize l.drop (k + 1) = r at hl
      match r, hl with
      | [], _ => rfl
      | [_], _ => rfl
      | _ :: _ :: _, hl => simp at hl
  · rw [if_neg e, if_neg e]
    rfl
theorem bool_call {f : FuncId} {args : Array Value} {w : World} {b c : Bool} (h : Calls Tryz.prog f args w fun e w' => e = .returned (.bool b) ∧ w = w') (e : b = c) : Calls Tryz.prog f args w fun e w' => e = .returned (.bool c) ∧ w = w' := e ▸ h
set_option maxRecDepth 4000 in
set_option maxHeartbeats 2000000 in
theorem isOf_c (v : Value) (l : Tx) (s : ByteArray) (w : World) (hv : Bv w v l) (hs : s.size ≤ 1099511627776) : Calls Tryz.prog 106 #[v, .string s] w fun e w' => e = .returned (.bool (okOf (bs s) l)) ∧ w = w' := by
  obtain ⟨A, cc, rfl, h1, h2, h4⟩ := hv
  have h3 := h4.1
  have HR := Lib.hid h4
  clear h4
  go_enter Tryz.func106, Tryz.ntmps106
  go_wp2
  go_loop [5] (fun i => ∃ k : Nat, k ≤ l.length ∧ i = .int .i64 k ∧ okOf (bs s) (l.drop k) = okOf (bs s) l) (fun i => l.length - (intOf i).toNat)
  case atStart => exact ⟨0, Nat.zero_le _, rfl, rfl⟩
  case round =>
    obtain ⟨k, hk, rfl, hq⟩ := hrel
    have HQ := Lib.hid hq
    clear hq
    by_cases hlt : k < l.length
    · obtain ⟨b, o, rfl, d1⟩ := HR.out.at_ hlt
      have HK := Lib.hid (okOf_at (signs := bs s) hlt)
      by_cases hx : l[k] = 37
      · have e1 : ((l[k].toNat : Int) == 37) = true := byte_eq_t (y := 37) hx
        have HX := Lib.hid hx
        clear hx
        generalize (l[k].toNat : Int) = x at d1 e1
        by_cases hlt2 : k + 2 < l.length
        · have hlt2' : (k : Int) + 2 < l.length := by omega
          obtain ⟨b', o', e', d2⟩ := HR.out.at_ (k := k + 1) (by omega)
          obtain ⟨rfl, rfl⟩ : b = b' ∧ o = o' := by injection e' with e'; injection e' with e1 e2; exact ⟨e1, e2⟩
          clear e'
          obtain ⟨b', o', e', d3⟩ := HR.out.at_ (k := k + 2) (by omega)
          obtain ⟨rfl, rfl⟩ : b = b' ∧ o = o' := by injection e' with e'; injection e' with e1 e2; exact ⟨e1, e2⟩
          clear e'
          by_cases hx1 : isHx (l[k + 1]'(by omega)) = true
          · by_cases hx2 : isHx (l[k + 2]'(by omega)) = true
            · have HE : Hid (okOf (bs s) (l.drop (k + 3)) = okOf (bs s) l) := Lib.hid (by
                have := HK.out
                rw [if_pos HX.out, dif_pos hlt2, hx1, hx2, HQ.out] at this
                simpa using this.symm)
              have c1' : hxB ((l[k + 1]'(by omega)).toNat : Int) = true := (hxB_byte _).trans hx1
              have c2' : hxB ((l[k + 2]'(by omega)).toNat : Int) = true := (hxB_byte _).trans hx2
              clear hx1 hx2
              generalize ((l[k + 1]'(by omega)).toNat : Int) = y at d2 c1'
              generalize ((l[k + 2]'(by omega)).toNat : Int) = z at d3 c2'
              go_wp2_with (go_at_call 80; refine (isHexI _ _).mono ?_; rintro e w' ⟨rfl, rfl⟩)
              go_round
              case rel => exact ⟨k + 3, by omega, by go_num, HE.out⟩
              case measure => simp [intOf]; omega
            · have hx2' : isHx (l[k + 2]'(by omega)) = false := by simpa using hx2
              have HE : Hid (okOf (bs s) l = false) := Lib.hid (by
                have := HK.out
                rw [if_pos HX.out, dif_pos hlt2, hx1, hx2', HQ.out] at this
                simpa using this)
              have c1' : hxB ((l[k + 1]'(by omega)).toNat : Int) = true := (hxB_byte _).trans hx1
              have c2' : hxB ((l[k + 2]'(by omega)).toNat : Int) = false := (hxB_byte _).trans hx2'
              clear hx1 hx2 hx2'
              generalize ((l[k + 1]'(by omega)).toNat : Int) = y at d2 c1'
              generalize ((l[k + 2]'(by omega)).toNat : Int) = z at d3 c2'
              go_wp2_with (go_at_call 80; refine (isHexI _ _).mono ?_; rintro e w' ⟨rfl, rfl⟩)
              go_ret
              exact ⟨by rw [HE.out]; rfl, rfl⟩
          · have hx1' : isHx (l[k + 1]'(by omega)) = false := by simpa using hx1
            have HE : Hid (okOf (bs s) l = false) := Lib.hid (by
              have := HK.out
              rw [if_pos HX.out, dif_pos hlt2, hx1', HQ.out] at this
              simpa using this)
            have c1' : hxB ((l[k + 1]'(by omega)).toNat : Int) = false := (hxB_byte _).trans hx1'
            clear hx1 hx1'
            generalize ((l[k + 1]'(by omega)).toNat : Int) = y at d2 c1'
            go_wp2_with (go_at_call 80; refine (isHexI _ _).mono ?_; rintro e w' ⟨rfl, rfl⟩)
            go_ret
            exact ⟨by rw [HE.out]; rfl, rfl⟩
        · have hlt2' : (l.length : Int) ≤ (k : Int) + 2 := by omega
          have HE : Hid (okOf (bs s) l = false) := Lib.hid (by
            have := HK.out
            rw [if_pos HX.out, dif_neg hlt2, HQ.out] at this
            exact this)
          go_wp2
          go_ret
          exact ⟨by rw [HE.out]; rfl, rfl⟩
      · have e1 : ((l[k].toNat : Int) == 37) = false := byte_eq_f (y := 37) hx
        have c1 := isAlnum_c l[k] w
        have c2 := isIn_c l[k] s w hs
        by_cases ha : isAn l[k] = true
        · have HE : Hid (okOf (bs s) (l.drop (k + 1)) = okOf (bs s) l) := Lib.hid (by
            have := HK.out
            rw [if_neg hx, ha, HQ.out] at this
            simpa using this.symm)
          have c1' := Lib.hid (bool_call c1 ha)
          clear c1 c2 ha hx
          generalize (l[k].toNat : Int) = x at d1 e1 c1'
          go_wp2_with (go_at_call 44; refine c1'.out.mono ?_; rintro e w' ⟨rfl, rfl⟩)
          go_round
          case rel => exact ⟨k + 1, by omega, by go_num, HE.out⟩
          case measure => simp [intOf]; omega
        · have ha' : isAn l[k] = false := by simpa using ha
          have c1' := Lib.hid (bool_call c1 ha')
          by_cases hi : hasB (bs s) l[k] = true
          · have HE : Hid (okOf (bs s) (l.drop (k + 1)) = okOf (bs s) l) := Lib.hid (by
              have := HK.out
              rw [if_neg hx, ha', hi, HQ.out] at this
              simpa using this.symm)
            have c2' := Lib.hid (bool_call c2 hi)
            clear c1 c2 ha hx ha' hi
            generalize (l[k].toNat : Int) = x at d1 e1 c1' c2'
            go_wp2_with (first | (go_at_call 44; refine c1'.out.mono ?_; rintro e w' ⟨rfl, rfl⟩) | (go_at_call 95; refine c2'.out.mono ?_; rintro e w' ⟨rfl, rfl⟩))
            go_round
            case rel => exact ⟨k + 1, by omega, by go_num, HE.out⟩
            case measure => simp [intOf]; omega
          · have hi' : hasB (bs s) l[k] = false := by simpa using hi
            have HE : Hid (okOf (bs s) l = false) := Lib.hid (by
              have := HK.out
              rw [if_neg hx, ha', hi', HQ.out] at this
              simpa using this)
            have c2' := Lib.hid (bool_call c2 hi')
            clear c1 c2 ha hx ha' hi hi'
            generalize (l[k].toNat : Int) = x at d1 e1 c1' c2'
            go_wp2_with (first | (go_at_call 44; refine c1'.out.mono ?_; rintro e w' ⟨rfl, rfl⟩) | (go_at_call 95; refine c2'.out.mono ?_; rintro e w' ⟨rfl, rfl⟩))
            go_ret
            exact ⟨by rw [HE.out]; rfl, rfl⟩
    · have HE : Hid (okOf (bs s) l = true) := Lib.hid (by have := HQ.out; rw [List.drop_eq_nil_of_le (by omega)] at this; exact this.symm)
      go_wp2
      go_ret
      exact ⟨by rw [HE.out]; rfl, rfl⟩
end Go.Proofs.YteedhaenbamiaaaGreatDoor
