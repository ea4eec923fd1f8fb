/- Plain: the same pairs in any order; a list turned. -/
import Derived.Test.YtgelnjcjpkklbaaGreatDoorSEq
set_option linter.unusedVariables false
set_option linter.unusedSimpArgs false
namespace Go.Proofs.YtgelnjcjpkklbaaGreatDoor
open Go.RowKit

def inB (b : KVs) (x : Tx × Tx) : Bool := b.any (fun y => decide (x.1 = y.1) && decide (x.2 = y.2))
theorem inB_iff {b : KVs} {x : Tx × Tx} : inB b x = true ↔ x ∈ b := by
  unfold inB
  rw [List.any_eq_true]
  constructor
  · rintro ⟨y, hy, h⟩
    rw [Bool.and_eq_true] at h
    have h1 := of_decide_eq_true h.1
    have h2 := of_decide_eq_true h.2
    obtain ⟨a, b⟩ := x
    obtain ⟨c, d⟩ := y
    dsimp only at h1 h2
    rw [h1, h2]
    exact hy
  · intro h
    exact ⟨x, h, by simp⟩
def smK (a b : KVs) (i : Nat) : Bool := decide (a.length = b.length) && (a.take i).all (inB b)
def smB (a b : KVs) : Bool := decide (a.length = b.length) && a.all (inB b)
theorem smK_succ {a b : KVs} {i : Nat} (h : i < a.length) : smK a b (i + 1) = (smK a b i && inB b a[i]) := by
  unfold smK
  rw [List.take_succ_eq_append_getElem h, List.all_append, Bool.and_assoc]
  simp
theorem smK_all (a b : KVs) : smK a b a.length = smB a b := by unfold smK smB; rw [List.take_length]
theorem smK_false {a b : KVs} {i : Nat} (h : smK a b i = false) : smB a b = false := by
  unfold smK at h
  unfold smB
  rw [Bool.and_eq_false_iff] at h ⊢
  refine h.imp id fun h => ?_
  rw [← Bool.not_eq_true, List.all_eq_true] at h ⊢
  exact fun hh => h fun x hx => hh x (List.mem_of_mem_take hx)
theorem eq_smB {a b : KVs} (ha : DK a) (hb : DK b) : EqR a b (smB a b) := by
  unfold EqR smB
  rw [Bool.and_eq_true, decide_eq_true_eq, List.all_eq_true]
  refine and_congr_right fun _ => ⟨fun h k v hk => ?_, fun h x hx => ?_⟩
  · have := inB_iff.1 (h (k, v) (fnd_mem hk))
    exact fnd_of_mem hb this
  · exact inB_iff.2 (fnd_mem (h x.1 x.2 (fnd_of_mem ha hx)))
theorem sub_back {α : Type} : ∀ {a b : List α}, a.Pairwise (· ≠ ·) → (∀ x ∈ a, x ∈ b) → b.length ≤ a.length → ∀ x ∈ b, x ∈ a
  | [], b, _, _, hl => by
    obtain rfl : b = [] := List.eq_nil_of_length_eq_zero (by simpa using hl)
    intro x hx; cases hx
  | y :: r, b, hn, hs, hl => by
    obtain ⟨h1, h2⟩ := List.pairwise_cons.1 hn
    obtain ⟨b1, b2, rfl⟩ := List.append_of_mem (hs y (by simp))
    have ih := sub_back (a := r) (b := b1 ++ b2) h2 (fun x hx => by
      have := hs x (by simp [hx])
      simp only [List.mem_append, List.mem_cons] at this ⊢
      rcases this with h | h | h
      · exact .inl h
      · exact absurd h.symm (h1 x hx)
      · exact .inr h) (by simp only [List.length_append, List.length_cons] at hl ⊢; omega)
    intro x hx
    simp only [List.mem_append, List.mem_cons] at hx ⊢
    rcases hx with h | h | h
    · exact .inr (ih x (by simp [h]))
    · exact .inl h
    · exact .inr (ih x (by simp [h]))
theorem smB_sym1 {a b : KVs} (ha : DK a) (h : smB a b = true) : smB b a = true := by
  unfold smB at h ⊢
  rw [Bool.and_eq_true, decide_eq_true_eq, List.all_eq_true] at h ⊢
  refine ⟨h.1.symm, fun x hx => inB_iff.2 (sub_back (ha.imp fun hne e => hne (by rw [e])) (fun y hy => inB_iff.1 (h.2 y hy)) (by omega) x hx)⟩
theorem smB_sym {a b : KVs} (ha : DK a) (hb : DK b) : smB b a = smB a b := by
  rw [Bool.eq_iff_iff]
  exact ⟨smB_sym1 hb, smB_sym1 ha⟩
/-- a list turned -/
def rotK (a : KVs) (c : Nat) : KVs := a.drop c ++ a.take c
theorem rotK_len (a : KVs) (c : Nat) : (rotK a c).length = a.length := by unfold rotK; rw [List.length_append, List.length_drop, List.length_take]; omega
theorem rotK_get? {a : KVs} {c i : Nat} (hc : c < a.length) (hi : i < a.length) : (rotK a c)[i]? = a[(c + i) % a.length]? := by
  unfold rotK
  by_cases h : i < a.length - c
  · rw [List.getElem?_append_left (by rw [List.length_drop]; exact h), List.getElem?_drop, Nat.mod_eq_of_lt (by omega)]
  · rw [List.getElem?_append_right (by rw [List.length_drop]; omega), List.length_drop, List.getElem?_take_of_lt (by omega), Nat.mod_eq_sub_mod (by omega), Nat.mod_eq_of_lt (by omega)]
    congr 1
    omega
theorem rotK_get {a : KVs} {c i : Nat} (hc : c < a.length) (hi : i < a.length) (h1 : i < (rotK a c).length) (h2 : (c + i) % a.length < a.length) : (rotK a c)[i] = a[(c + i) % a.length] := by
  have h := rotK_get? hc hi
  rw [List.getElem?_eq_getElem h1, List.getElem?_eq_getElem h2] at h
  exact Option.some.inj h
theorem rotK_mem {a : KVs} {c : Nat} {x : Tx × Tx} (h : x ∈ a) : x ∈ rotK a c := by
  unfold rotK
  rw [List.mem_append]
  have h' : x ∈ a.take c ++ a.drop c := by rw [List.take_append_drop]; exact h
  exact (List.mem_append.1 h').symm
theorem dk_rot {a : KVs} (h : DK a) (c : Nat) : DK (rotK a c) := by
  have h' : DK (a.take c ++ a.drop c) := by rw [List.take_append_drop]; exact h
  unfold DK at h'
  rw [List.pairwise_append] at h'
  unfold rotK DK
  rw [List.pairwise_append]
  exact ⟨h'.2.1, h'.1, fun x hx y hy e => h'.2.2 y hy x hx e.symm⟩
theorem eq_rot {a : KVs} (h : DK a) (c : Nat) : EqR a (rotK a c) true :=
  ⟨fun _ => ⟨(rotK_len a c).symm, fun k v hk => fnd_of_mem (dk_rot h c) (rotK_mem (fnd_mem hk))⟩, fun _ => rfl⟩
theorem EqR.one {a b : KVs} {r s : Bool} (h : EqR a b r) (k : EqR a b s) : r = s := by
  unfold EqR at h k
  rw [Bool.eq_iff_iff]
  exact h.trans k.symm
end Go.Proofs.YtgelnjcjpkklbaaGreatDoor
