/- The words of a text: what the package's splitter computes, what the specification tells. No program stands here. -/
import Derived.Test.YtgpkfocgoigokaaGreatDoorBase
set_option linter.unusedVariables false
set_option linter.unusedSimpArgs false
namespace Go.Proofs.YtgpkfocgoigokaaGreatDoor
open Go.RowKit

def blk (c : UInt8) : Bool := c == 32 || c == 9
/-- the package's splitter: what is gathered, whether a word is open, the words so far -/
def fdP : Tx → Tx → Bool → List Tx → List Tx
  | [], cur, _, res => if cur = [] then res else res ++ [cur]
  | c :: r, cur, ins, res => if blk c = true then fdP r (if ins = true then [] else cur) false (if ins = true then res ++ [cur] else res) else fdP r (cur ++ [c]) true res
/-- the specification's words -/
def fdS : Tx → Tx → List Tx → List Tx
  | [], word, out => if word = [] then out else out ++ [word]
  | c :: r, word, out => if c = 32 then fdS r [] (if word = [] then out else out ++ [word]) else fdS r (word ++ [c]) out
def prn (c : UInt8) : Bool := 32 ≤ c && c ≤ 126
theorem prn_no9 {c : UInt8} (h : prn c = true) : c ≠ 9 := by rintro rfl; revert h; decide
theorem fd_same : ∀ (l cur : Tx) (ins : Bool) (res : List Tx), (∀ c ∈ l, prn c = true) → (ins = true → cur ≠ []) → (ins = false → cur = []) → fdP l cur ins res = fdS l cur res := by
  intro l
  induction l with
  | nil => intro cur ins res _ _ _; rfl
  | cons c r ih =>
    intro cur ins res h h1 h2
    have hr : ∀ c ∈ r, prn c = true := fun x hx => h x (by simp [hx])
    have h9 := prn_no9 (h c (by simp))
    unfold fdP fdS
    by_cases h32 : c = 32
    · rw [if_pos (by simp [blk, h32]), if_pos h32]
      cases ins
      · have e := h2 rfl
        subst e
        rw [if_neg (by simp), if_neg (by simp), if_pos rfl]
        exact ih [] false res hr (by simp) (fun _ => rfl)
      · have e := h1 rfl
        rw [if_pos rfl, if_pos rfl, if_neg e]
        exact ih [] false (res ++ [cur]) hr (by simp) (fun _ => rfl)
    · rw [if_neg (by simp [blk, h32, h9]), if_neg h32]
      exact ih (cur ++ [c]) true res hr (by simp) (by simp)
/-- THE PLAIN LAW -/
theorem fd_law {l : Tx} (h : ∀ c ∈ l, prn c = true) (h0 : l.head? ≠ some 32) : fdP l [] true [] = fdS l [] [] := by
  cases l with
  | nil => rfl
  | cons c r =>
    have h32 : c ≠ 32 := by simpa using h0
    have h9 := prn_no9 (h c (by simp))
    unfold fdP fdS
    rw [if_neg (by simp [blk, h32, h9]), if_neg h32]
    exact fd_same r [c] true [] (fun x hx => h x (by simp [hx])) (by simp) (by simp)
theorem fdS_app : ∀ (l r word : Tx) (out : List Tx), ∃ word' out', (∀ s, fdS (l ++ s) word out = fdS s word' out') := by
  intro l
  induction l with
  | nil => intro r word out; exact ⟨word, out, fun _ => rfl⟩
  | cons c l ih =>
    intro r word out
    by_cases h : c = 32
    · obtain ⟨a, b, e⟩ := ih r [] (if word = [] then out else out ++ [word])
      exact ⟨a, b, fun s => by rw [List.cons_append]; conv => lhs; unfold fdS
                               rw [if_pos h]; exact e s⟩
    · obtain ⟨a, b, e⟩ := ih r (word ++ [c]) out
      exact ⟨a, b, fun s => by rw [List.cons_append]; conv => lhs; unfold fdS
                               rw [if_neg h]; exact e s⟩
end Go.Proofs.YtgpkfocgoigokaaGreatDoor
