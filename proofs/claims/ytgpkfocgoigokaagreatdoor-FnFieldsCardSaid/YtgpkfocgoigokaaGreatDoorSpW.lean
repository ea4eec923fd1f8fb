/- Contracts: the specification's small functions on bytes and texts. Contracts: the specification's functions that read a text: indexOf, lastOf, isSame, isOf, isHost, portOf, isPrinted. -/
import Derived.Test.YtgpkfocgoigokaaGreatDoorBase
import Derived.Test.YtgpkfocgoigokaaGreatDoorPar
set_option linter.unusedVariables false
set_option linter.unusedSimpArgs false
namespace Go.Proofs.YtgpkfocgoigokaaGreatDoor
open Go.RowKit

theorem ret_bool {a b : Bool} (h : a = b) : Ending.returned (.bool a) = .returned (.bool b) := by rw [h]
def nmB (c : Int) : Bool := decide (48 ≤ c ∧ c ≤ 57)
def hxB (c : Int) : Bool := decide ((48 ≤ c ∧ c ≤ 57) ∨ (97 ≤ c ∧ c ≤ 102) ∨ (65 ≤ c ∧ c ≤ 70))
theorem nmB_byte (x : UInt8) : nmB (x.toNat : Int) = isNm x := by
  rw [Bool.eq_iff_iff]
  simp only [nmB, isNm, decide_eq_true_eq, Bool.or_eq_true, Bool.and_eq_true, UInt8.le_iff_toNat_le]
  have e1 : (48 : UInt8).toNat = 48 := rfl
  have e2 : (57 : UInt8).toNat = 57 := rfl
  omega
theorem hxB_byte (x : UInt8) : hxB (x.toNat : Int) = isHx x := by
  rw [Bool.eq_iff_iff]
  simp only [hxB, isHx, isNm, decide_eq_true_eq, Bool.or_eq_true, Bool.and_eq_true, UInt8.le_iff_toNat_le]
  have e1 : (48 : UInt8).toNat = 48 := rfl
  have e2 : (57 : UInt8).toNat = 57 := rfl
  have e3 : (97 : UInt8).toNat = 97 := rfl
  have e4 : (102 : UInt8).toNat = 102 := rfl
  have e5 : (65 : UInt8).toNat = 65 := rfl
  have e6 : (70 : UInt8).toNat = 70 := rfl
  omega
/-! ### isIn -/
theorem byte_eq (x y : UInt8) : ((x.toNat : Int) == (y.toNat : Int)) = decide (x = y) := by
  by_cases h : x = y
  · subst h; simp
  · have : ¬ (x.toNat : Int) = (y.toNat : Int) := fun e => h (UInt8.toNat_inj.1 (by omega))
    rw [decide_eq_false h]; simpa using this
theorem byte_eq_f {x y : UInt8} (h : x ≠ y) : ((x.toNat : Int) == (y.toNat : Int)) = false := by rw [byte_eq]; simpa using h
theorem byte_eq_t {x y : UInt8} (h : x = y) : ((x.toNat : Int) == (y.toNat : Int)) = true := by rw [byte_eq]; simpa using h
def hasB (l : Tx) (c : UInt8) : Bool := l.contains c
theorem contains_of {l : Tx} {c : UInt8} {k : Nat} (h : k < l.length) (e : l[k] = c) : l.contains c = true := List.contains_iff_mem.2 (e ▸ List.getElem_mem h)
end Go.Proofs.YtgpkfocgoigokaaGreatDoor
set_option linter.unusedVariables false
set_option linter.unusedSimpArgs false
namespace Go.Proofs.YtgpkfocgoigokaaGreatDoor
open Go.RowKit

/-- the cell at a place of a slice of bytes that reads -/
theorem Rb.at_ {w : World} {A : Option Addr} {l : Tx} (h : Rb w A l) {k : Nat} (hk : k < l.length) : ∃ b o, A = some ⟨b, o, none⟩ ∧ w.cell? ⟨b, o + k, none⟩ = some (.int .u8 (l[k].toNat : Int)) := by
  obtain ⟨b, o, e, hc⟩ := h.2 (by omega)
  exact ⟨b, o, e, hc k hk⟩
theorem ixI_at {l : Tx} {c : UInt8} {k : Nat} (h : k < l.length) (e : l[k] = c) (hn : (l.take k).all (fun x => !(x == c)) = true) : ixI l c = k := by
  have h1 : ixOf l c = k := scan_at (p := (· == c)) h (by rw [e]; exact beq_self_eq_true c) hn
  unfold ixI
  rw [h1, if_pos h]
theorem ixI_no {l : Tx} {c : UInt8} (hn : l.all (fun x => !(x == c)) = true) : ixI l c = -1 := by
  have h1 : ixOf l c = l.length := scan_end (p := (· == c)) hn
  unfold ixI
  rw [h1, if_neg (Nat.lt_irrefl _)]
theorem lxI_at {l : Tx} {c : UInt8} {k : Nat} (h : k < l.length) (e : l[k] = c) (hn : ∀ t (ht : t < l.length), k < t → l[t] ≠ c) : lxI l c = k := by
  have h1 : l.reverse.findIdx (· == c) = l.length - 1 - k := by
    rw [List.findIdx_eq (by rw [List.length_reverse]; omega)]
    refine ⟨?_, fun j hj => ?_⟩
    · rw [List.getElem_reverse]
      have e2 : l.length - 1 - (l.length - 1 - k) = k := by omega
      have : l[l.length - 1 - (l.length - 1 - k)]'(by omega) = l[k] := by congr 1
      rw [this, e]
      exact beq_self_eq_true c
    · rw [List.getElem_reverse]
      simpa using hn (l.length - 1 - j) (by omega) (by omega)
  unfold lxI
  rw [h1, if_pos (by omega)]
  congr 1
  omega
theorem lxI_no {l : Tx} {c : UInt8} (hn : ∀ t (ht : t < l.length), l[t] ≠ c) : lxI l c = -1 := by
  have h1 : l.reverse.findIdx (· == c) = l.reverse.length := by
    rw [List.findIdx_eq_length]
    intro x hx
    obtain ⟨t, ht, e⟩ := List.getElem_of_mem (List.mem_reverse.1 hx)
    subst e
    simpa using hn t ht
  unfold lxI
  rw [h1, if_neg (by rw [List.length_reverse]; omega)]

/-! ### isSame -/
/-! ### isOf -/
theorem okOf_cons (signs : Tx) (c : UInt8) (r : Tx) : okOf signs (c :: r) = if c = 37 then (match r with | a :: b :: r' => isHx a && isHx b && okOf signs r' | _ => false) else (isAn c || signs.contains c) && okOf signs r := by
  rw [okOf.eq_def]; rfl
theorem okOf_at {signs l : Tx} {k : Nat} (h : k < l.length) : okOf signs (l.drop k) = if l[k] = 37 then (if h2 : k + 2 < l.length then (isHx l[k+1] && isHx l[k+2] && okOf signs (l.drop (k+3))) else false) else ((isAn l[k] || hasB signs l[k]) && okOf signs (l.drop (k+1))) := by
  rw [List.drop_eq_getElem_cons h, okOf_cons]
  by_cases e : l[k] = 37
  · rw [if_pos e, if_pos e]
    by_cases h2 : k + 2 < l.length
    · rw [dif_pos h2, List.drop_eq_getElem_cons (by omega : k + 1 < l.length), List.drop_eq_getElem_cons h2]
    · rw [dif_neg h2]
      have hl : (l.drop (k + 1)).length ≤ 1 := by rw [List.length_drop]; omega
      generalize l.drop (k + 1) = r at hl
      match r, hl with
      | [], _ => rfl
      | [_], _ => rfl
      | _ :: _ :: _, hl => simp at hl
  · rw [if_neg e, if_neg e]
    rfl
theorem bool_call {f : FuncId} {args : Array Value} {w : World} {b c : Bool} (h : Calls Tryz.prog f args w fun e w' => e = .returned (.bool b) ∧ w = w') (e : b = c) : Calls Tryz.prog f args w fun e w' => e = .returned (.bool c) ∧ w = w' := e ▸ h
end Go.Proofs.YtgpkfocgoigokaaGreatDoor
