/- Contracts: the specification's isHost, portOf, hostPort, isPrinted, allValued. -/
import Derived.Test.YtbdeohmdpkkpdaaGreatDoorSpW2
import Derived.Test.YtbdeohmdpkkpdaaGreatDoorKnown2
set_option linter.unusedVariables false
set_option linter.unusedSimpArgs false
namespace Go.Proofs.YtbdeohmdpkkpdaaGreatDoor
open Go.RowKit

def anB (c : Int) : Bool := alB c || nmB c
theorem anB_byte (x : UInt8) : anB (x.toNat : Int) = isAn x := by unfold anB isAn; rw [← nmB_byte, ← alB_byte]
theorem isAlnumA (c : Int) (w : World) : Calls Tryz.prog 70 #[.int .u8 c] w fun e w' => e = .returned (.bool (anB c)) ∧ w = w' := isAlnumI c w
theorem byte_ne (x : UInt8) (n : Nat) (hn : n < 256) : ((x.toNat : Int) != (n : Int)) = !decide (x = UInt8.ofNat n) := by
  have e : (UInt8.ofNat n).toNat = n := by rw [UInt8.toNat_ofNat', Nat.mod_eq_of_lt hn]
  have h := byte_eq x (UInt8.ofNat n)
  rw [e] at h
  rw [bne, h]
theorem byte_eqn (x : UInt8) (n : Nat) (hn : n < 256) : ((x.toNat : Int) == (n : Int)) = decide (x = UInt8.ofNat n) := by
  have e : (UInt8.ofNat n).toNat = n := by rw [UInt8.toNat_ofNat', Nat.mod_eq_of_lt hn]
  have h := byte_eq x (UInt8.ofNat n)
  rw [e] at h
  exact h

/-! ### isHost -/
def hch (c : UInt8) : Bool := isAn c || c == 45 || c == 46
theorem isHostB_eq {l : Tx} (h : 0 < l.length) : isHostB l = (l.all hch && (isAn l[0] && isAn (l[l.length - 1]'(by omega)))) := by
  unfold isHostB
  cases l with
  | nil => simp at h
  | cons x r =>
    rw [List.head?_cons, List.getLast?_eq_getElem?, List.getElem?_eq_getElem (by omega)]
    rfl
/-! ### cuts -/
theorem add_adr (b o k : Nat) : (⟨b, o, none⟩ : Addr).add k = ⟨b, o + k, none⟩ := by cases k <;> simp [Addr.add]
theorem head_beq {l : Tx} (h : 0 < l.length) (n : UInt8) : (l.head? == some n) = decide (l[0] = n) := by
  cases l with
  | nil => simp at h
  | cons x r =>
    show (some x == some n) = decide (x = n)
    by_cases e : x = n
    · subst e; simp
    · rw [decide_eq_false e]; simpa using e
theorem bv_from {w : World} {A : Option Addr} {c : Nat} {l : Tx} (h : Bv w (.slice A l.length c) l) {k : Nat} (hk : k ≤ l.length) :
    Bv w (.slice (if c = k then A else A.map (·.add (k * 1))) (l.length - k) (c - k)) (l.drop k) := by
  obtain ⟨A', c', e, h1, h2, h3, h4⟩ := h
  injection e with e1 e2 e3
  subst e1
  subst e3
  refine ⟨_, _, by rw [List.length_drop], by rw [List.length_drop]; omega, by omega, by rw [List.length_drop]; omega, fun hn => ?_⟩
  rw [List.length_drop] at hn
  obtain ⟨b, o, rfl, hc⟩ := h4 (by omega)
  refine ⟨b, o + k, ?_, fun j hj => ?_⟩
  · rw [if_neg (by omega)]
    simp [add_adr]
  · rw [List.length_drop] at hj
    have e := hc (k + j) (by omega)
    rw [List.getElem_drop, ← e]
    congr 2
    omega
/-- 's[k:]' -/
theorem cut_from {w : World} {A : Option Addr} {n c : Nat} {l : Tx} (h : Bv w (.slice A n c) l) {k : Nat} (hk : k ≤ l.length) {z : Int} (hz : z = k) :
    ∃ v, Bv w v (l.drop k) ∧ (∀ W, (Instr.slice 22 (.slice A n c) (some (.int .i64 z)) none none).run Tryz.prog W = .ok v W) ∧
      (∀ W, (Instr.sliceAt 22 (.slice A n c) (some (.int .i64 z)) none none).run Tryz.prog W = .ok v W) := by
  obtain rfl : n = l.length := by obtain ⟨A', c', e, _⟩ := h; injection e
  subst hz
  have q : ∀ W, (Instr.slice 22 (.slice A l.length c) (some (.int .i64 (k : Int))) none none).run Tryz.prog W = .ok (.slice (if c = k then A else A.map (·.add (k * 1))) (l.length - k) (c - k)) W := fun W => by go_simp
  exact ⟨_, bv_from h hk, q, fun W => by go_simp⟩
/-- 's[:k:m]' -/
theorem cut_to {w : World} {A : Option Addr} {n c : Nat} {l : Tx} (h : Bv w (.slice A n c) l) {k : Nat} (hk : k ≤ l.length) {m : Nat} (hm : k ≤ m) (hm2 : m ≤ c) :
    Bv w (.slice A k m) (l.take k) := by
  obtain ⟨A', c', e, h1, h2, h3, h4⟩ := h
  injection e with e1 e2 e3
  subst e1
  subst e3
  have hl : (l.take k).length = k := by rw [List.length_take]; omega
  refine ⟨_, _, by rw [hl], by rw [hl]; exact hm, by omega, by omega, fun hn => ?_⟩
  rw [hl] at hn
  obtain ⟨b, o, rfl, hc⟩ := h4 (by omega)
  refine ⟨b, o, rfl, fun j hj => ?_⟩
  rw [hl] at hj
  rw [List.getElem_take]
  exact hc j (by omega)

/-! ### portOf -/
theorem decN_snoc (l : Tx) (x : UInt8) : decN (l ++ [x]) = 10 * decN l + (x.toNat - 48) := by unfold decN; rw [List.foldl_append]; rfl
theorem decN_mono (l r : Tx) : decN l ≤ decN (l ++ r) := by
  unfold decN
  rw [List.foldl_append]
  generalize List.foldl _ 0 l = n
  induction r generalizing n with
  | nil => exact Nat.le_refl _
  | cons x r ih => rw [List.foldl_cons]; exact Nat.le_trans (by omega) (ih _)
def PortPost (l : Tx) (w : World) (e : Ending) (w' : World) : Prop :=
  ∃ (n : Nat) (ok : Bool), e = .returned (.tuple #[.int .i64 n, .bool ok]) ∧ n ≤ 655359 ∧ portS l = (if ok then some n else none) ∧ w = w'
theorem nm_int {c : UInt8} : isNm c = true → 48 ≤ (c.toNat : Int) ∧ (c.toNat : Int) ≤ 57 := by
  intro h
  have e1 : (48 : UInt8).toNat = 48 := rfl
  have e2 : (57 : UInt8).toNat = 57 := rfl
  simp only [isNm, Bool.and_eq_true, decide_eq_true_eq, UInt8.le_iff_toNat_le] at h
  omega
/-! ### hostPort -/
def HPPost (w0 : World) (l : Tx) (w : World) (e : Ending) (w' : World) : Prop :=
  ∃ (v : Value) (n : Nat) (ok : Bool), e = .returned (.tuple #[v, .int .i64 n, .bool ok]) ∧ Dr w w' ∧ (∃ A m c, v = .slice A m c) ∧ n ≤ 655359 ∧ if ok = true then ∃ h, hostPortS l = some (h, n) ∧ Bv w0 v h else hostPortS l = none
theorem ixI_cases (l : Tx) (c : UInt8) : (∃ i : Nat, ixI l c = i ∧ i < l.length ∧ ixOf l c = i) ∨ (ixI l c = -1 ∧ ¬ ixOf l c < l.length) := by
  unfold ixI
  by_cases h : ixOf l c < l.length
  · exact .inl ⟨ixOf l c, by rw [if_pos h], h, rfl⟩
  · exact .inr ⟨by rw [if_neg h], h⟩
end Go.Proofs.YtbdeohmdpkkpdaaGreatDoor
