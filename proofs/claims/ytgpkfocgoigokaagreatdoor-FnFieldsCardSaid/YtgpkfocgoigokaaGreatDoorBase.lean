/- Plain lemmas on texts, on what reads as bytes or as pairs in memory, and on worlds that only grow: no statement of the program stands here. What the package's functions on URIs compute, as plain functions on lists of bytes. No program stands here. What the specification computes of the text of a URI, in plain Lean. No program stands here. How the package's URIs and parameters lie in memory. Contracts of small functions. -/
import Derived.WalkKit
import Derived.WalkSpells
import Derived.WalkLawsBesides
import Derived.Handy
import Derived.Deep.QuietTactic
import Derived.BigQuiet
import Derived.Deep.LoopGhost
import Derived.Deep.RegionHeld3
import Derived.Deep.AppendLies
import Derived.Maps.AppendAt
import Derived.Lib.OthersKept
import Derived.Lib.ConvBytes
import Derived.Lib.Hide
import Derived.Lib.AtoiAll
import Derived.Test.YtgpkfocgoigokaaGreatDoorProg
set_option linter.unusedVariables false
set_option linter.unusedSimpArgs false
namespace Go.Proofs.YtgpkfocgoigokaaGreatDoor
open Go.RowKit

/-! ### texts -/
/-- the bytes of a text -/
def bs (s : ByteArray) : List UInt8 := s.data.toList
/-- the text of bytes -/
def st (l : List UInt8) : ByteArray := ⟨l.toArray⟩
theorem bs_st (l : List UInt8) : bs (st l) = l := by simp [bs, st]
theorem st_bs (s : ByteArray) : st (bs s) = s := by cases s; simp [bs, st]
theorem bs_len (s : ByteArray) : (bs s).length = s.size := by simp [bs]
theorem st_size (l : List UInt8) : (st l).size = l.length := by simp [st, ByteArray.size]
theorem bs_inj {s t : ByteArray} (h : bs s = bs t) : s = t := by rw [← st_bs s, ← st_bs t, h]
theorem bs_extract (s : ByteArray) (a b : Nat) : bs (s.extract a b) = ((bs s).take b).drop a := by
  simp [bs, ByteArray.data_extract, Array.toList_extract, List.extract]
  rw [List.drop_take]
theorem ext_st (s : ByteArray) (a b : Nat) : s.extract a b = st (((bs s).take b).drop a) := by rw [← bs_extract, st_bs]
theorem get_bs (s : ByteArray) (k : Nat) (h : k < s.size) : s.get! k = (bs s)[k]'(by rw [bs_len]; exact h) := by
  rw [show s.get! k = s.get! (k + 0) from rfl, get_at s k h]; rfl
theorem at_bs (s : ByteArray) (k : Nat) (h : k < s.size) : s[k]'h = (bs s)[k]'(by rw [bs_len]; exact h) := rfl

/-- what one step of a range over a text takes -/
theorem decode_cases (s : ByteArray) (p : Nat) (h : p < s.size) :
    (∃ h' : p < (bs s).length, (bs s)[p].toNat < 128 ∧ Utf8.decode s p = ((bs s)[p].toNat, 1)) ∨
    (128 ≤ (Utf8.decode s p).1 ∧ (Utf8.decode s p).1 ≤ 1114111 ∧ 1 ≤ (Utf8.decode s p).2 ∧ p + (Utf8.decode s p).2 ≤ (bs s).length ∧
      ∀ j (hj : j < (bs s).length), p ≤ j → j < p + (Utf8.decode s p).2 → 128 ≤ (bs s)[j].toNat) := by
  have hl := bs_len s
  have h' : p < (bs s).length := by omega
  have g0 : s.get! (p + 0) = (bs s)[p] := get_bs s p h
  by_cases ha : (bs s)[p].toNat < 128
  · left
    refine ⟨h', ha, ?_⟩
    simp only [Utf8.decode, g0, ha, if_true]
  · right
    have hc : ∀ k, (p + k < s.size && (s.get! (p + k)).toNat / 64 == 2) = true → ∃ hk : p + k < (bs s).length, s.get! (p + k) = (bs s)[p + k] ∧ 128 ≤ ((bs s)[p + k]).toNat ∧ ((bs s)[p + k]).toNat < 192 := by
      intro k hk
      simp only [Bool.and_eq_true, decide_eq_true_eq, beq_iff_eq] at hk
      have hk' : p + k < (bs s).length := by omega
      have e := get_bs s (p + k) hk.1
      refine ⟨hk', e, ?_⟩
      have := hk.2
      rw [e] at this
      omega
    have b0 : (bs s)[p].toNat < 256 := (bs s)[p].toNat_lt
    have one : ∀ j (hj : j < (bs s).length), p ≤ j → j < p + 1 → 128 ≤ (bs s)[j].toNat := by
      intro j hj h1 h2
      obtain rfl : j = p := by omega
      omega
    simp only [Utf8.decode, g0, ha, if_false]
    have v2 : Utf8.runeError = 65533 := rfl
    split
    · rename_i hx
      simp only [Bool.and_eq_true] at hx
      obtain ⟨k1, e1, a1, z1⟩ := hc 1 (by simpa using hx.2)
      rw [e1]
      split
      · refine ⟨by omega, by omega, by omega, by omega, ?_⟩
        intro j hj h1 h2
        rcases (by omega : j = p ∨ j = p + 1) with rfl | rfl
        · omega
        · exact a1
      · exact ⟨by simp [v2], by simp [v2], by omega, by omega, one⟩
    · split
      · rename_i hx
        simp only [Bool.and_eq_true] at hx
        obtain ⟨k1, e1, a1, z1⟩ := hc 1 (by simpa using hx.1.2)
        obtain ⟨k2, e2, a2, z2⟩ := hc 2 (by simpa using hx.2)
        rw [e1, e2]
        split
        · refine ⟨by rename_i h3; simp only [Bool.and_eq_true, decide_eq_true_eq] at h3; omega, by omega, by omega, by omega, ?_⟩
          intro j hj h1 h2
          rcases (by omega : j = p ∨ j = p + 1 ∨ j = p + 2) with rfl | rfl | rfl
          · omega
          · exact a1
          · exact a2
        · exact ⟨by simp [v2], by simp [v2], by omega, by omega, one⟩
      · split
        · rename_i hx
          simp only [Bool.and_eq_true] at hx
          obtain ⟨k1, e1, a1, z1⟩ := hc 1 (by simpa using hx.1.1.2)
          obtain ⟨k2, e2, a2, z2⟩ := hc 2 (by simpa using hx.1.2)
          obtain ⟨k3, e3, a3, z3⟩ := hc 3 (by simpa using hx.2)
          rw [e1, e2, e3]
          split
          · rename_i h3
            simp only [Bool.and_eq_true, decide_eq_true_eq, Utf8.valid, Bool.or_eq_true] at h3
            refine ⟨by omega, by omega, by omega, by omega, ?_⟩
            intro j hj h1 h2
            rcases (by omega : j = p ∨ j = p + 1 ∨ j = p + 2 ∨ j = p + 3) with rfl | rfl | rfl | rfl
            · omega
            · exact a1
            · exact a2
            · exact a3
          · exact ⟨by simp [v2], by simp [v2], by omega, by omega, one⟩
        · exact ⟨by simp [v2], by simp [v2], by omega, by omega, one⟩

/-- A fact on prefixes that bytes beyond ASCII leave alone stands behind a rune beyond ASCII. -/
theorem skip_take {α : Type} (F : List UInt8 → α) (hF : ∀ l x, 128 ≤ x.toNat → F (l ++ [x]) = F l) (l : List UInt8) (p k : Nat) (hk : p + k ≤ l.length)
    (h : ∀ j (hj : j < l.length), p ≤ j → j < p + k → 128 ≤ l[j].toNat) : F (l.take (p + k)) = F (l.take p) := by
  induction k with
  | zero => rfl
  | succ k ih =>
    have hj : p + k < l.length := by omega
    rw [show p + (k + 1) = (p + k) + 1 from rfl, List.take_succ_eq_append_getElem hj, hF _ _ (h _ hj (by omega) (by omega))]
    exact ih (by omega) fun j hj' h1 h2 => h j hj' h1 (by omega)

/-- One step of a range over a text, in whatever world: c is the rune, d its width. -/
def StepIs (s : ByteArray) (p : Nat) (c : Int) (d : Nat) : Prop :=
  1 ≤ d ∧ p + d ≤ s.size ∧ 0 ≤ c ∧ c ≤ 1114111 ∧
  ((∃ h : p < (bs s).length, c = ((bs s)[p].toNat : Int) ∧ d = 1 ∧ c < 128) ∨
   (128 ≤ c ∧ ∀ j (hj : j < (bs s).length), p ≤ j → j < p + d → 128 ≤ (bs s)[j].toNat))
theorem step_is (s : ByteArray) (p : Nat) (h : p < s.size) : StepIs s p ((Utf8.decode s p).1 : Nat) (Utf8.decode s p).2 := by
  have hl := bs_len s
  rcases decode_cases s p h with ⟨h', h1, h2⟩ | ⟨h1, h2, h3, h4, h5⟩
  · rw [h2]
    exact ⟨Nat.le_refl 1, by dsimp only; omega, by dsimp only; omega, by dsimp only; omega, .inl ⟨h', rfl, rfl, by dsimp only; omega⟩⟩
  · exact ⟨h3, by omega, by omega, by omega, .inr ⟨by omega, h5⟩⟩
theorem next_step {P : Program} {wr : World} {k : Nat} {s : ByteArray} {p : Nat} (hk : wr.heap[k]? = some (.stringIter s p)) (h : p < s.size) :
    ∃ (c : Int) (d : Nat) (W1 : World), (∀ ty, (Instr.next (.pointer (some ⟨k, 0, none⟩)) true ty).run P wr = .ok (.tuple #[.bool true, .int .i64 p, .int .i32 c]) W1) ∧
      StepIs s p c d ∧ W1.heap[k]? = some (.stringIter s (p + d)) ∧ W1 = wr.iterAt k s (p + d) :=
  ⟨_, _, _, fun ty => Lib.run_next_any_at wr _ s p ty hk h, step_is s p h, Lib.iterAt_heap _ _ _ _ _ hk, rfl⟩

/-- What a step of a range does to a fact on prefixes that bytes beyond ASCII leave alone. -/
theorem StepIs.take {α : Type} {s : ByteArray} {p : Nat} {c : Int} {d : Nat} (h : StepIs s p c d) (F : List UInt8 → α) (hF : ∀ l x, 128 ≤ x.toNat → F (l ++ [x]) = F l) :
    (∃ h : p < (bs s).length, c = ((bs s)[p].toNat : Int) ∧ d = 1 ∧ F ((bs s).take (p + d)) = F ((bs s).take p ++ [(bs s)[p]])) ∨ (128 ≤ c ∧ F ((bs s).take (p + d)) = F ((bs s).take p)) := by
  obtain ⟨h1, h2, h3, h4, h5⟩ := h
  rcases h5 with ⟨h', e1, rfl, e3⟩ | ⟨e1, e2⟩
  · exact .inl ⟨h', e1, rfl, by rw [List.take_succ_eq_append_getElem h']⟩
  · exact .inr ⟨e1, skip_take F hF _ _ _ (by rw [bs_len]; exact h2) e2⟩

/-! ### worlds -/
/-- nothing that lies in w has turned in w' -/
abbrev Le (w w' : World) : Prop := Below w.heap.size w w'
theorem Le.refl (w : World) : Le w w := Below.refl _ _
theorem Le.trans {a b c : World} (h : Le a b) (k : Le b c) : Le a c := Below.trans h (k.mono h.size)
theorem Le.alloc {a w : World} (h : Le a w) (o : Obj) : Le a (w.alloc o) := Below.alloc h h.size o
theorem Le.iter {a w : World} (h : Le a w) (s : ByteArray) (p : Nat) : Le a (w.iter s p) := Below.alloc h h.size _
theorem Le.drew {a w : World} (h : Le a w) : Le a w.drew := Below.drew h
theorem below_dn {B : Nat} {a w : World} (h : Below B a w) (n : Nat) : Below B a (w.drewN n) := ⟨h.os, h.tape, h.output, h.size, h.block⟩
theorem Le.drewN {a w : World} (h : Le a w) (n : Nat) : Le a (w.drewN n) := below_dn h n
theorem Le.iterAt {a w : World} (h : Le a w) {k : Nat} (hk : a.heap.size ≤ k) (s : ByteArray) (p : Nat) : Le a (w.iterAt k s p) := Lib.below_iterAt h hk s p
theorem Le.setCell {a w : World} (h : Le a w) {p : Addr} (hp : a.heap.size ≤ p.block) (u : Value) : Le a (w.setCell p u) := Below.setCell h hp u
theorem lt_of_cell {w : World} {a : Addr} {v : Value} (h : w.cell? a = some v) : a.block < w.heap.size := World.block_lt_of_cell? w a h
theorem Le.cell {w w' : World} (h : Le w w') {a : Addr} {v : Value} (hc : w.cell? a = some v) : w'.cell? a = some v := (Below.cell h (lt_of_cell hc)).trans hc
theorem lt_of_heap {w : World} {k : Nat} {o : Obj} (h : w.heap[k]? = some o) : k < w.heap.size := (Array.getElem?_eq_some_iff.1 h).1
theorem Le.heap {w w' : World} (h : Le w w') {k : Nat} {o : Obj} (hk : w.heap[k]? = some o) : w'.heap[k]? = some o := (h.block k (lt_of_heap hk)).trans hk
theorem Le.frozen {w w' : World} (h : Le w w') {a : Addr} (ha : a.block < w.heap.size) {b : Bool} (hc : w.frozen? a = b) : w'.frozen? a = b := (Below.frozen h ha).trans hc
/-- a world that was only moved on by draws -/
def Dr (w w' : World) : Prop := ∃ n, w' = w.drewN n
theorem Dr.le {w w' : World} (h : Dr w w') : Le w w' := by obtain ⟨n, rfl⟩ := h; exact (Le.refl w).drewN n
theorem Dr.refl (w : World) : Dr w w := ⟨0, by cases w; rfl⟩
theorem Dr.step {w w' : World} (h : Dr w w') (n : Nat) : Dr w (w'.drewN n) := by obtain ⟨m, rfl⟩ := h; exact ⟨m + n, World.drewN_drewN ..⟩
theorem Dr.trans {a b c : World} (h : Dr a b) (k : Dr b c) : Dr a c := by obtain ⟨n, rfl⟩ := k; exact h.step n
theorem Dr.eq {w w' : World} (h : w = w') : Dr w w' := h ▸ Dr.refl w

/-! ### what lies in memory -/
/-- A reads as the bytes l -/
def Rb (w : World) (A : Option Addr) (l : List UInt8) : Prop :=
  l.length ≤ 140737488355328 ∧ (0 < l.length → ∃ b o, A = some ⟨b, o, none⟩ ∧ ∀ j (h : j < l.length), w.cell? ⟨b, o + j, none⟩ = some (.int .u8 (l[j].toNat : Int)))
theorem Rb.le {w w' : World} {A : Option Addr} {l : List UInt8} (h : Rb w A l) (hw : Le w w') : Rb w' A l :=
  ⟨h.1, fun hn => by obtain ⟨b, o, e, hc⟩ := h.2 hn; exact ⟨b, o, e, fun j hj => hw.cell (hc j hj)⟩⟩
/-- v is a slice of bytes that reads as l -/
def Bv (w : World) (v : Value) (l : List UInt8) : Prop := ∃ A c, v = .slice A l.length c ∧ l.length ≤ c ∧ c ≤ 9223372036854775807 ∧ Rb w A l
theorem Bv.le {w w' : World} {v : Value} {l : List UInt8} (h : Bv w v l) (hw : Le w w') : Bv w' v l := by
  obtain ⟨A, c, e, h1, h2, h3⟩ := h; exact ⟨A, c, e, h1, h2, h3.le hw⟩
theorem Bv.nil (w : World) : Bv w (.slice none 0 0) [] := ⟨none, 0, rfl, by simp, by simp, by simp, fun h => by simp at h⟩

/-! ### '[]byte(s)' and 'string(b)' -/
/-- the capacity that '[]byte(s)' draws -/
def bcap (w : World) (e : TypeId) (s : ByteArray) : Nat := grownCap w s.size 0 e
theorem conv_sb {P : Program} {src dst e : TypeId} (hs : P.underlying src = some .string) (hd : P.underlying dst = some (.slice e)) (he : P.underlying e = some (.int .u8)) (s : ByteArray) (w : World) :
    (convert src dst (.string s)).run P w = .ok (.slice (some ⟨w.heap.size, 0, none⟩) s.size (bcap w e s)) (Lib.bytesWorld w e s) := Lib.run_convert_string_bytes w src dst e s hs hd he
theorem le_sb (w : World) (e : TypeId) (s : ByteArray) : Le w (Lib.bytesWorld w e s) := by
  refine ⟨?_, ?_, ?_, by rw [Lib.bytesWorld_size]; omega, fun k hk => Lib.bytesWorld_at_old w e s k hk⟩ <;>
  · simp only [Lib.bytesWorld, World.freeze]; split <;> rfl
theorem Le.sb {a w : World} (h : Le a w) (e : TypeId) (s : ByteArray) : Le a (Lib.bytesWorld w e s) := h.trans (le_sb w e s)
theorem bv_sb (w : World) (e : TypeId) (s : ByteArray) (hs : s.size ≤ 140737488355328) (hm : bcap w e s ≤ 9223372036854775807) : Bv (Lib.bytesWorld w e s) (.slice (some ⟨w.heap.size, 0, none⟩) s.size (bcap w e s)) (bs s) := by
  refine ⟨_, _, by rw [bs_len], by rw [bs_len]; exact grownCap_ge w s.size 0 e, hm, by rw [bs_len]; exact hs, fun _ => ⟨_, _, rfl, fun j hj => ?_⟩⟩
  have hj' : j < s.size := by rw [← bs_len]; exact hj
  have hj2 : j < s.data.toList.length := hj
  have h := Lib.bytesWorld_cell w e s j hj'
  have hg : s.data.toList.getD j 0 = (bs s)[j] := by rw [List.getD_eq_getElem?_getD, List.getElem?_eq_getElem hj2]; rfl
  rw [hg] at h
  rw [Nat.zero_add]
  exact h
theorem bcap_le (w : World) (e : TypeId) (s : ByteArray) (hs : s.size ≤ 140737488355328) : bcap w e s ≤ 9223372036854775807 := by
  have := grownCap_le_maxLen w s.size 0 e (by unfold maxLen; omega)
  unfold maxLen at this
  exact this
/-- 'string(b)' of bytes that are read -/
theorem conv_bs {P : Program} {src dst e : TypeId} (hs : P.underlying src = some (.slice e)) (he : P.underlying e = some (.int .u8)) (hd : P.underlying dst = some .string) {w : World} {v : Value} {l : List UInt8} (h : Bv w v l) :
    (convert src dst v).run P w = .ok (.string (st l)) w := by
  obtain ⟨A, c, rfl, h1, h2, h3, h4⟩ := h
  rcases Nat.eq_zero_or_pos l.length with h0 | h0
  · obtain rfl : l = [] := List.eq_nil_of_length_eq_zero h0
    have e := run_convert_bytes_string w src dst e A 0 c hs he hd
    refine e.trans ?_
    cases A with
    | none => rfl
    | some a => rw [run_bytesToString w a 0 c [] (by simp [go_sem])]; rfl
  · obtain ⟨b, o, rfl, hc⟩ := h4 h0
    refine run_convert_bytes_back w src dst e _ c l hs he hd (fun j hj => ?_)
    have ha : (⟨b, o, none⟩ : Addr).add j = ⟨b, o + j, none⟩ := by unfold Addr.add; split <;> simp_all
    rw [ha]
    exact hc j hj
end Go.Proofs.YtgpkfocgoigokaaGreatDoor
set_option linter.unusedVariables false
set_option linter.unusedSimpArgs false
namespace Go.Proofs.YtgpkfocgoigokaaGreatDoor
open Go.RowKit

abbrev Tx := List UInt8
abbrev KVs := List (Tx × Tx)
/-- a URI of the package -/
structure PU where
  scheme : Tx
  raw : Tx
  wild : Bool
  slash : Bool
  user : Tx
  pass : Tx
  host : Tx
  port : Int
  ps : KVs
  hs : KVs
def PU.zero : PU := ⟨[], [], false, false, [], [], [], 0, [], []⟩
/-- the states behind the first one -/
inductive Sq | slashes | user | host | ip | port | params | heads | stop
def isAl (c : UInt8) : Bool := (97 ≤ c && c ≤ 122) || (65 ≤ c && c ≤ 90)
def lowC (c : UInt8) : UInt8 := if 65 ≤ c && c ≤ 90 then c + 32 else c
def upC (c : UInt8) : UInt8 := if 97 ≤ c && c ≤ 122 then c - 32 else c
/-- the place of the last colon; 0 if there is none -/
def lastC (l : Tx) : Nat := l.length - 1 - l.reverse.findIdx (· == 58)
theorem lastC_snoc (l : Tx) (x : UInt8) : lastC (l ++ [x]) = if x = 58 then l.length else lastC l := by
  simp only [lastC, List.reverse_append, List.reverse_cons, List.reverse_nil, List.nil_append, List.singleton_append, List.length_append, List.length_cons, List.length_nil, List.findIdx_cons]
  by_cases h : x = 58
  · simp [h]
  · have : (x == 58) = false := by simp [h]
    rw [this, if_neg h]
    simp only [cond_false]
    omega
def sSip : Tx := [115, 105, 112]
def sSips : Tx := [115, 105, 112, 115]

def fScheme (l : Tx) (u : PU) : Option (Sq × Tx × PU) :=
  if l.length < 3 then (if l = [42] then some (.stop, [], { u with host := [42], wild := true }) else none)
  else
    let i := l.findIdx (fun c => !isAl c)
    if i < l.length then
      if l.getD i 0 = 58 then
        let sc := (l.take i).map lowC
        if sc = sSip ∨ sc = sSips then some (.slashes, l.drop (i + 1), { u with scheme := sc }) else some (.stop, [], { u with scheme := sc, raw := l.drop (i + 1) })
      else none
    else none
def fSlashes (l : Tx) (u : PU) : Sq × Tx × PU :=
  if [47, 47].isPrefixOf l then (.user, l.drop 2, { u with slash := true }) else (.user, l, { u with slash := false })
def usEnd (c : UInt8) : Bool := c == 91 || c == 64
def fUser (l : Tx) (u : PU) : Sq × Tx × PU :=
  let i := l.findIdx usEnd
  if i < l.length then
    if l.getD i 0 = 91 then (.host, l.drop i, u)
    else
      let e := lastC (l.take i)
      if 0 < e then (.host, l.drop (i + 1), { u with user := l.take e, pass := (l.take i).drop (e + 1) }) else (.host, l.drop (i + 1), { u with user := l.take i })
  else (.host, l, u)
def hoEnd (c : UInt8) : Bool := c == 91 || c == 58 || c == 59 || c == 63
def fHost (l : Tx) (u : PU) : Sq × Tx × PU :=
  let i := l.findIdx hoEnd
  if i < l.length then
    if l.getD i 0 = 91 then (.ip, l.drop i, u)
    else if l.getD i 0 = 58 then (.port, l.drop (i + 1), { u with host := l.take i })
    else if l.getD i 0 = 59 then (.params, l.drop (i + 1), { u with host := l.take i })
    else (.heads, l.drop (i + 1), { u with host := l.take i })
  else (.params, [], { u with host := l, wild := decide (l = [42]) })
/-- behind a bracket (k: the place of the closing one) -/
def fIp (l : Tx) (k : Nat) (u : PU) : Sq × Tx × PU :=
  let v := { u with host := l.take (k + 1) }
  match l.drop (k + 1) with
  | [] => (.params, [], v)
  | c :: t => if c = 58 then (.port, t, v) else if c = 59 then (.params, t, v) else if c = 63 then (.heads, t, v) else (.params, [], v)
def poEnd (c : UInt8) : Bool := c == 59 || c == 63
/-- the digits and what follows them -/
def fPort (l : Tx) : Tx × Sq × Tx :=
  let i := l.findIdx poEnd
  if i < l.length then (l.take i, if l.getD i 0 = 59 then .params else .heads, l.drop (i + 1)) else (l, .params, [])

/-! ### parameters -/
/-- adding a parameter: a key that is there gets the value -/
def addKV : KVs → Tx → Tx → KVs
  | [], k, v => [(k, v)]
  | x :: r, k, v => if x.1 = k then (k, v) :: r else x :: addKV r k v
structure UM where
  start : Nat
  sep : Nat
  quote : Int
  state : Nat
  acc : KVs
def sub (l : Tx) (a b : Nat) : Tx := (l.take b).drop a
def umStep (l : Tx) (sp : UInt8) (i : Nat) (c : UInt8) (m : UM) : UM :=
  match m.state with
  | 1 => { m with sep := 0, start := i, state := 2 }
  | 2 => if c = sp then { m with acc := addKV m.acc (sub l m.start i) [], state := 1 } else if c = 61 then { m with sep := i, state := 3 } else m
  | 3 => if c = 34 then { m with state := 4, quote := i } else if c = sp then { m with acc := addKV m.acc (sub l m.start m.sep) (sub l (m.sep + 1) i), start := m.sep + 1, state := 1 } else m
  | _ => if c = 34 then { m with acc := addKV m.acc (l.drop m.start) (sub l (m.quote.toNat + 1) i), state := 1 } else m
def umGo (l : Tx) (sp en : UInt8) : Nat → Nat → UM → Nat × UM
  | 0, i, m => (i, m)
  | f + 1, i, m => if h : i < l.length then (if l[i] = en then (i, m) else umGo l sp en f (i + 1) (umStep l sp i l[i] m)) else (l.length, m)
def umEnd (l : Tx) (n : Nat) (m : UM) : KVs :=
  let a := if 0 < m.sep ∧ m.start < m.sep then addKV m.acc (sub l m.start m.sep) (sub l (m.sep + 1) n) else m.acc
  if m.sep = 0 ∧ m.start < n then addKV a (l.drop m.start) [] else a
/-- what is read of a text without blanks ahead, behind the list p -/
def unm (l : Tx) (sp en : UInt8) (p : KVs) : Nat × KVs :=
  let r := umGo l sp en (l.length + 1) 0 ⟨0, 0, -1, 1, p⟩
  (r.1, umEnd l r.1 r.2)
end Go.Proofs.YtgpkfocgoigokaaGreatDoor
set_option linter.unusedVariables false
set_option linter.unusedSimpArgs false
namespace Go.Proofs.YtgpkfocgoigokaaGreatDoor
open Go.RowKit

def isNm (c : UInt8) : Bool := 48 ≤ c && c ≤ 57
def isAn (c : UInt8) : Bool := isAl c || isNm c
def isHx (c : UInt8) : Bool := isNm c || (97 ≤ c && c ≤ 102) || (65 ≤ c && c ≤ 70)
def userL : Tx := [45, 95, 46, 33, 126, 42, 39, 40, 41, 38, 61, 43, 36, 44, 59, 63, 47]
def passL : Tx := [45, 95, 46, 33, 126, 42, 39, 40, 41, 38, 61, 43, 36, 44]
def paramL : Tx := [45, 95, 46, 33, 126, 42, 39, 40, 41, 47, 58, 38, 43, 36]
def headL : Tx := [45, 95, 46, 33, 126, 42, 39, 40, 41, 47, 63, 58, 43, 36]
def tokenL : Tx := [45, 46, 33, 37, 42, 95, 43, 96, 39, 126]
/-- a text of letters, digits, some signs and whole escapes -/
def okOf (signs : Tx) : Tx → Bool
  | [] => true
  | c :: r => if c = 37 then (match r with | a :: b :: r' => isHx a && isHx b && okOf signs r' | _ => false) else (isAn c || signs.contains c) && okOf signs r
def isTok (l : Tx) : Bool := l.all (fun c => isAn c || tokenL.contains c) && !l.isEmpty
/-- the place of a byte -/
def ixOf (l : Tx) (c : UInt8) : Nat := l.findIdx (· == c)
def ixI (l : Tx) (c : UInt8) : Int := if ixOf l c < l.length then (ixOf l c : Int) else -1
/-- the last place of a byte; the length if there is none -/
def lxI (l : Tx) (c : UInt8) : Int := if l.reverse.findIdx (· == c) < l.length then ((l.length - 1 - l.reverse.findIdx (· == c) : Nat) : Int) else -1
/-- the pieces of a text between the places of a byte -/
def pcs (c : UInt8) : Tx → List Tx
  | [] => [[]]
  | x :: r => if x = c then [] :: pcs c r else (match pcs c r with | [] => [[x]] | p :: ps => (x :: p) :: ps)
def kvOf (p : Tx) : Tx × Tx := if ixOf p 61 < p.length then (p.take (ixOf p 61), p.drop (ixOf p 61 + 1)) else (p, [])
def kvOk (signs p : Tx) : Bool := !(decide (ixOf p 61 < p.length) && (kvOf p).2.isEmpty) && !(kvOf p).1.isEmpty && okOf signs (kvOf p).1 && okOf signs (kvOf p).2
/-- no two keys are one but for the size of letters -/
def apB (l : KVs) : Bool := decide (l.Pairwise (fun x y => x.1.map lowC ≠ y.1.map lowC))
def pairsS (l : Tx) (sep : UInt8) (signs : Tx) : Option KVs :=
  if (pcs sep l).all (kvOk signs) && apB ((pcs sep l).map kvOf) then some ((pcs sep l).map kvOf) else none
def isHostB (l : Tx) : Bool := l.all (fun c => isAn c || c == 45 || c == 46) && (match l.head?, l.getLast? with | some a, some b => isAn a && isAn b | _, _ => false)
def decN (l : Tx) : Nat := l.foldl (fun n c => 10 * n + (c.toNat - 48)) 0
def portS (l : Tx) : Option Nat := if l.all isNm && !l.isEmpty && !(l.head? == some 48) && decide (decN l ≤ 65535) then some (decN l) else none
def hostPortS (l : Tx) : Option (Tx × Nat) :=
  if ixOf l 58 < l.length then (match portS (l.drop (ixOf l 58 + 1)) with | some n => if isHostB (l.take (ixOf l 58)) then some (l.take (ixOf l 58), n) else none | none => none)
  else if isHostB l then some (l, 0) else none
def valuedB (l : KVs) : Bool := l.all (fun x => !x.2.isEmpty)
/-- the user, the password, what follows -/
def sUser (l : Tx) : Option (Tx × Tx × Tx) :=
  if 0 ≤ lxI l 64 then
    let k := (lxI l 64).toNat
    let us := l.take k
    if ixOf us 58 < us.length then
      (if !(us.drop (ixOf us 58 + 1)).isEmpty && okOf passL (us.drop (ixOf us 58 + 1)) && !(us.take (ixOf us 58)).isEmpty && okOf userL (us.take (ixOf us 58)) then some (us.take (ixOf us 58), us.drop (ixOf us 58 + 1), l.drop (k + 1)) else none)
    else (if !us.isEmpty && okOf userL us then some (us, [], l.drop (k + 1)) else none)
  else some ([], [], l)
/-- the headers, what stands ahead of them -/
def sHeads (l : Tx) : Option (KVs × Tx) :=
  if ixOf l 63 < l.length then (match pairsS (l.drop (ixOf l 63 + 1)) 38 headL with | some hs => if valuedB hs then some (hs, l.take (ixOf l 63)) else none | none => none)
  else some ([], l)
def lastV (l : KVs) : Tx := (l.getLast?.getD ([], [])).2
/-- the parameters, what stands ahead of them -/
def sParams (l : Tx) (hs : KVs) : Option (KVs × Tx) :=
  if ixOf l 59 < l.length then (match pairsS (l.drop (ixOf l 59 + 1)) 59 paramL with | some ps => if !hs.isEmpty && (lastV ps).isEmpty then none else some (ps, l.take (ixOf l 59)) | none => none)
  else some ([], l)
def sSipUri (sc l : Tx) : Option PU :=
  match sUser l with
  | none => none
  | some (un, pw, s) =>
    match sHeads s with
    | none => none
    | some (hs, s1) =>
      match sParams s1 hs with
      | none => none
      | some (ps, s2) =>
        match hostPortS s2 with
        | none => none
        | some (h, n) => some ⟨sc, [], false, false, un, pw, h, n, ps, hs⟩
def prB (l : Tx) : Bool := l.all (fun c => 33 ≤ c && c ≤ 126 && c != 60 && c != 62 && c != 34 && c != 44)
/-- what is told of a text -/
inductive SR | told | open_ | val (u : PU)
def SR.of : Option PU → SR | none => .open_ | some u => .val u
def sUri (l : Tx) : SR :=
  if l = [] then .told
  else if l = [42] then .val { PU.zero with host := [42], wild := true }
  else
    let k := ixOf l 58
    if 0 < k && decide (k < l.length) && (l.take k).all isAl then
      let sc := l.take k
      let rest := l.drop (k + 1)
      let low := sc.map lowC
      if low ≠ sSip ∧ low ≠ sSips then
        (if !rest.isEmpty && prB rest && !(rest.head? == some 47) && decide (low = sc) then .val { PU.zero with scheme := sc, raw := rest } else .open_)
      else if low ≠ sc then .open_
      else if [47, 47].isPrefixOf rest then .open_
      else SR.of (sSipUri sc rest)
    else .open_
end Go.Proofs.YtgpkfocgoigokaaGreatDoor
set_option linter.unusedVariables false
set_option linter.unusedSimpArgs false
namespace Go.Proofs.YtgpkfocgoigokaaGreatDoor
open Go.RowKit

/-- the cells of parameters -/
def kvCells : KVs → List Value
  | [] => []
  | x :: r => .string (st x.1) :: .string (st x.2) :: kvCells r
theorem kvCells_length (l : KVs) : (kvCells l).length = l.length * 2 := by
  induction l with
  | nil => rfl
  | cons x r ih => simp only [kvCells, List.length_cons, ih]; omega
theorem kvCells_append (a b : KVs) : kvCells (a ++ b) = kvCells a ++ kvCells b := by
  induction a with
  | nil => rfl
  | cons x r ih => simp [kvCells, ih]
theorem kvCells_at (l : KVs) (j : Nat) (h : j < l.length) : (kvCells l)[2 * j]? = some (.string (st l[j].1)) ∧ (kvCells l)[2 * j + 1]? = some (.string (st l[j].2)) := by
  induction l generalizing j with
  | nil => simp at h
  | cons x r ih =>
    cases j with
    | zero => exact ⟨rfl, rfl⟩
    | succ j =>
      have := ih j (by simpa using h)
      rw [show 2 * (j + 1) = 2 * j + 1 + 1 from by omega]
      simpa [kvCells] using this

/-- v is a list of parameters of the package that reads as l; its row is of type 102 -/
def Hp (w : World) (v : Value) (l : KVs) : Prop :=
  ∃ A c, v = .slice A l.length c ∧ l.length ≤ c ∧ c ≤ 9223372036854775807 ∧ l.length ≤ 1099511627776 ∧
    (∀ x ∈ l, x.1.length ≤ 1099511627776 ∧ x.2.length ≤ 1099511627776) ∧
    (0 < l.length → ∃ g o, A = some ⟨g, o, none⟩ ∧ (∃ cur fz, w.heap[g]? = some (.cells cur 102 fz)) ∧
      ∀ j (h : j < l.length), w.cell? ⟨g, o + j * 2, none⟩ = some (.string (st l[j].1)) ∧ w.cell? ⟨g, o + j * 2 + 1, none⟩ = some (.string (st l[j].2)))
theorem Hp.nil (w : World) : Hp w (.slice none 0 0) [] := ⟨none, 0, rfl, by simp, by simp, by simp, by simp, fun h => by simp at h⟩

/-- nothing but block b has turned (and what is new) -/
abbrev Kp (b : Nat) (w w' : World) : Prop := w.grownBy w' (some b)
theorem Kp.refl (b : Nat) (w : World) : Kp b w w := ⟨rfl, rfl, rfl, Nat.le_refl _, fun _ _ _ => rfl⟩
theorem Kp.trans {b : Nat} {u v w : World} (h : Kp b u v) (k : Kp b v w) : Kp b u w :=
  ⟨k.os.trans h.os, k.tape.trans h.tape, k.output.trans h.output, Nat.le_trans h.size k.size, fun i hi hb => (k.block i (Nat.lt_of_lt_of_le hi h.size) hb).trans (h.block i hi hb)⟩
theorem Kp.le {b : Nat} {u v w : World} (h : Kp b u v) (k : Le v w) : Kp b u w :=
  ⟨k.os.trans h.os, k.tape.trans h.tape, k.output.trans h.output, Nat.le_trans h.size k.size, fun i hi hb => (k.block i (Nat.lt_of_lt_of_le hi h.size)).trans (h.block i hi hb)⟩
theorem Le.kp {v w : World} (k : Le v w) (b : Nat) : Kp b v w := (Kp.refl b v).le k
theorem Kp.set {b : Nat} {u v : World} (h : Kp b u v) (o : Nat) (x : Value) : Kp b u (v.setCell ⟨b, o, none⟩ x) :=
  h.trans ⟨rfl, rfl, rfl, by simp [World.setCell], fun k _ hb => Below.heap_setCell _ _ _ _ (fun e => hb (by rw [e]))⟩
/-- .. and what lies below a place that b is not below -/
theorem Kp.below {b B : Nat} {u v : World} (h : Kp b u v) (hb : B ≤ b) (hB : B ≤ u.heap.size) : Below B u v :=
  ⟨h.os, h.tape, h.output, h.size, fun k hk => h.block k (by omega) (fun e => by injection e; omega)⟩
theorem Kp.heap {b : Nat} {w w' : World} (h : Kp b w w') {k : Nat} (hb : k ≠ b) {o : Obj} (hk : w.heap[k]? = some o) : w'.heap[k]? = some o :=
  (h.block k (lt_of_heap hk) (fun e => hb (by injection e))).trans hk

theorem Hp.of_blocks {w w' : World} {v : Value} {l : KVs} (h : Hp w v l) (hk : ∀ (g : Nat) (cur : Array Value) (fz : Nat × Nat), w.heap[g]? = some (.cells cur 102 fz) → w'.heap[g]? = w.heap[g]?) : Hp w' v l := by
  obtain ⟨A, c, e, h1, h2, h3, h4, h5⟩ := h
  refine ⟨A, c, e, h1, h2, h3, h4, fun hn => ?_⟩
  obtain ⟨g, o, e, ⟨cur, fz, hg⟩, hc⟩ := h5 hn
  have e1 := hk g cur fz hg
  exact ⟨g, o, e, ⟨cur, fz, e1.trans hg⟩, fun j hj => ⟨(World.cell?_of_block (a := ⟨g, o + j * 2, none⟩) e1).trans (hc j hj).1, (World.cell?_of_block (a := ⟨g, o + j * 2 + 1, none⟩) e1).trans (hc j hj).2⟩⟩
theorem Hp.le {w w' : World} {v : Value} {l : KVs} (h : Hp w v l) (hw : Le w w') : Hp w' v l := h.of_blocks fun g _ _ hg => hw.block g (lt_of_heap hg)
theorem Hp.kp {w w' : World} {v : Value} {l : KVs} {b : Nat} (h : Hp w v l) (hw : Kp b w w') {cs : Array Value} {T : TypeId} {fz : Nat × Nat} (hb : w.heap[b]? = some (.cells cs T fz)) (hT : T ≠ 102) : Hp w' v l :=
  h.of_blocks fun g cur fz' hg => hw.block g (lt_of_heap hg) (fun e => by
    injection e with e; subst e; rw [hb] at hg; injection hg with hg; injection hg with _ h2; exact hT h2)
/-- a row of the call's own reads -/
theorem Hp.of_own {w : World} {base : Nat} {v : Value} {l : KVs} (h : w.ownsRow base 102 2 v l.length (kvCells l)) (h3 : l.length ≤ 1099511627776) (h4 : ∀ x ∈ l, x.1.length ≤ 1099511627776 ∧ x.2.length ≤ 1099511627776) : Hp w v l := by
  have h0 := h
  obtain ⟨_, h2⟩ := h
  rcases h2 with ⟨rfl, hn⟩ | ⟨g, cap, cur, rfl, hg, hh, hle, hm, hs, ht⟩
  · obtain rfl : l = [] := List.eq_nil_of_length_eq_zero hn
    exact Hp.nil w
  · unfold maxLen at hm
    refine ⟨_, _, rfl, hle, hm, h3, h4, fun _ => ⟨g, 0, rfl, ⟨cur, _, hh⟩, fun j hj => ?_⟩⟩
    have k := kvCells_at l j hj
    have a1 := h0.cells (g := g) rfl (2 * j) _ k.1
    have a2 := h0.cells (g := g) rfl (2 * j + 1) _ k.2
    have e1 : ∀ i, (⟨g, 0, none⟩ : Addr).add i = ⟨g, 0 + i, none⟩ := fun i => by unfold Addr.add; split <;> simp_all
    rw [e1, Nat.mul_comm 2 j] at a1 a2
    exact ⟨a1, a2⟩

/-- the values of a URI's cells -/
def PU.cells (u : PU) (pv hv : Value) : Array Value :=
  #[.string (st u.scheme), .string (st u.raw), .bool u.wild, .bool u.slash, .string (st u.user), .string (st u.pass), .string (st u.host), .int .i64 u.port, pv, hv]
/-- no part of it is too large -/
def PU.small (u : PU) : Prop :=
  u.scheme.length ≤ 1099511627776 ∧ u.raw.length ≤ 1099511627776 ∧ u.user.length ≤ 1099511627776 ∧ u.pass.length ≤ 1099511627776 ∧ u.host.length ≤ 1099511627776 ∧
  -9223372036854775808 ≤ u.port ∧ u.port ≤ 9223372036854775807
/-- block b is the URI u -/
def UAt (w : World) (b : Nat) (u : PU) : Prop :=
  ∃ pv hv, w.heap[b]? = some (.cells (u.cells pv hv) 49 (0, 0)) ∧ Hp w pv u.ps ∧ Hp w hv u.hs ∧ u.small
theorem UAt.le {w w' : World} {b : Nat} {u : PU} (h : UAt w b u) (hw : Le w w') : UAt w' b u := by
  obtain ⟨pv, hv, h1, h2, h3, h4⟩ := h; exact ⟨pv, hv, hw.heap h1, h2.le hw, h3.le hw, h4⟩
theorem UAt.lt {w : World} {b : Nat} {u : PU} (h : UAt w b u) : b < w.heap.size := by obtain ⟨pv, hv, h1, _⟩ := h; exact lt_of_heap h1
theorem UAt.sm {w : World} {b : Nat} {u : PU} (h : UAt w b u) : u.small := by obtain ⟨pv, hv, _, _, _, h4⟩ := h; exact h4
theorem frozen_cells {w : World} {b : Nat} {cs : Array Value} {T : TypeId} (h : w.heap[b]? = some (.cells cs T (0, 0))) (j : Nat) : w.frozen? ⟨b, j, none⟩ = false := by simp [World.frozen?, h]
theorem cell_cells {w : World} {b : Nat} {cs : Array Value} {T : TypeId} {fz : Nat × Nat} (h : w.heap[b]? = some (.cells cs T fz)) (j : Nat) : w.cell? ⟨b, j, none⟩ = cs[j]? := by simp [World.cell?, h]
theorem heap_set {w : World} {b : Nat} {cs : Array Value} {T : TypeId} {fz : Nat × Nat} (h : w.heap[b]? = some (.cells cs T fz)) (j : Nat) (x : Value) : (w.setCell ⟨b, j, none⟩ x).heap[b]? = some (.cells (cs.setIfInBounds j x) T fz) := by
  simp [World.setCell, Array.getElem?_modify, h]
theorem kp_set (w : World) (b o : Nat) (x : Value) : Kp b w (w.setCell ⟨b, o, none⟩ x) := (Kp.refl b w).set o x

section
variable {w : World} {b : Nat} {u : PU}
theorem UAt.put (h : UAt w b u) (j : Nat) (x : Value) (u' : PU) (hc : ∀ pv hv, (u.cells pv hv).setIfInBounds j x = u'.cells pv hv) (hp : u'.ps = u.ps) (hh : u'.hs = u.hs) (hs : u'.small) : UAt (w.setCell ⟨b, j, none⟩ x) b u' := by
  obtain ⟨pv, hv, h1, h2, h3, h4⟩ := h
  refine ⟨pv, hv, by rw [heap_set h1, hc], ?_, ?_, hs⟩
  · rw [hp]; exact h2.kp (kp_set w b j x) h1 (by decide)
  · rw [hh]; exact h3.kp (kp_set w b j x) h1 (by decide)
theorem UAt.frozen (h : UAt w b u) (j : Nat) : w.frozen? ⟨b, j, none⟩ = false := by obtain ⟨pv, hv, h1, _⟩ := h; exact frozen_cells h1 j
theorem UAt.c0 (h : UAt w b u) : w.cell? ⟨b, 0, none⟩ = some (.string (st u.scheme)) := by obtain ⟨pv, hv, h1, _⟩ := h; exact cell_cells h1 0
theorem UAt.c1 (h : UAt w b u) : w.cell? ⟨b, 1, none⟩ = some (.string (st u.raw)) := by obtain ⟨pv, hv, h1, _⟩ := h; exact cell_cells h1 1
theorem UAt.c2 (h : UAt w b u) : w.cell? ⟨b, 2, none⟩ = some (.bool u.wild) := by obtain ⟨pv, hv, h1, _⟩ := h; exact cell_cells h1 2
theorem UAt.c3 (h : UAt w b u) : w.cell? ⟨b, 3, none⟩ = some (.bool u.slash) := by obtain ⟨pv, hv, h1, _⟩ := h; exact cell_cells h1 3
theorem UAt.c4 (h : UAt w b u) : w.cell? ⟨b, 4, none⟩ = some (.string (st u.user)) := by obtain ⟨pv, hv, h1, _⟩ := h; exact cell_cells h1 4
theorem UAt.c5 (h : UAt w b u) : w.cell? ⟨b, 5, none⟩ = some (.string (st u.pass)) := by obtain ⟨pv, hv, h1, _⟩ := h; exact cell_cells h1 5
theorem UAt.c6 (h : UAt w b u) : w.cell? ⟨b, 6, none⟩ = some (.string (st u.host)) := by obtain ⟨pv, hv, h1, _⟩ := h; exact cell_cells h1 6
theorem UAt.c7 (h : UAt w b u) : w.cell? ⟨b, 7, none⟩ = some (.int .i64 u.port) := by obtain ⟨pv, hv, h1, _⟩ := h; exact cell_cells h1 7
end

theorem toList_beq (s : ByteArray) (l : Tx) : (s.toList == l) = decide (bs s = l) := by
  rw [ByteArray.toList_eq s]
  show (bs s == l) = _
  by_cases h : bs s = l
  · rw [h]; simp
  · have h1 : (bs s == l) = false := by simpa using h
    rw [h1]; simp [h]

/-! ### scans -/
theorem ret3 {a b c a' b' c' : Value} (h1 : a = a') (h2 : b = b') (h3 : c = c') : Ending.returned (.tuple #[a, b, c]) = .returned (.tuple #[a', b', c']) := by rw [h1, h2, h3]
theorem str_eq {s t : ByteArray} (h : s = t) : Value.string s = .string t := by rw [h]
theorem ext_drop (s : ByteArray) (p : Nat) : s.extract p s.size = st ((bs s).drop p) := by
  rw [ext_st, List.take_of_length_le (by rw [bs_len]; exact Nat.le_refl _)]
theorem ext_take (s : ByteArray) (p : Nat) : s.extract 0 p = st ((bs s).take p) := by rw [ext_st]; rfl
/-- a scan that has come to its sign -/
theorem scan_at {p : UInt8 → Bool} {l : Tx} {i : Nat} (hi : i < l.length) (hp : p l[i] = true) (hn : (l.take i).all (fun c => !p c) = true) : l.findIdx p = i := by
  rw [List.findIdx_eq hi]
  refine ⟨hp, fun j hj => ?_⟩
  have := List.all_eq_true.1 hn l[j] (by rw [List.mem_take_iff_getElem]; exact ⟨j, by omega, rfl⟩)
  simpa using this
theorem scan_end {p : UInt8 → Bool} {l : Tx} (hn : l.all (fun c => !p c) = true) : l.findIdx p = l.length := by
  rw [List.findIdx_eq_length]
  intro x hx
  have := List.all_eq_true.1 hn x hx
  simpa using this
theorem all_snoc (p : UInt8 → Bool) (l : Tx) (x : UInt8) : (l ++ [x]).all p = (l.all p && p x) := by simp
theorem getD_at {l : Tx} {i : Nat} (h : i < l.length) : l.getD i 0 = l[i] := by simp [List.getD_eq_getElem?_getD, List.getElem?_eq_getElem h]
theorem u8_of {x : UInt8} {n : Nat} (h : (x.toNat : Int) = n) (hn : n < 256) : x = UInt8.ofNat n := by
  apply UInt8.toNat_inj.1
  rw [UInt8.toNat_ofNat', Nat.mod_eq_of_lt hn]
  omega

theorem scan_hit {s : ByteArray} {p d : Nat} {c : Int} (h : StepIs s p c d) (n : Nat) (hn : n < 128) (hc : c = n) : ∃ hp : p < (bs s).length, (bs s)[p] = UInt8.ofNat n := by
  obtain ⟨_, _, _, _, h5⟩ := h
  rcases h5 with ⟨hp, e, _⟩ | ⟨e, _⟩
  · exact ⟨hp, u8_of (by omega) (by omega)⟩
  · omega
theorem scan_next {q : UInt8 → Bool} (hq : ∀ x : UInt8, 128 ≤ x.toNat → q x = false) {s : ByteArray} {p d : Nat} {c : Int} (h : StepIs s p c d) (ha : ((bs s).take p).all (fun c => !q c) = true) (hc : ∀ x : UInt8, c = (x.toNat : Int) → q x = false) :
    ((bs s).take (p + d)).all (fun c => !q c) = true := by
  rcases h.take (fun l => l.all (fun c => !q c)) (fun l x hx => by rw [all_snoc, hq x hx]; simp) with ⟨hp, e, _, hF⟩ | ⟨_, hF⟩
  · rw [hF, all_snoc, ha, hc _ e]; rfl
  · rw [hF, ha]

end Go.Proofs.YtgpkfocgoigokaaGreatDoor
set_option linter.unusedVariables false
set_option linter.unusedSimpArgs false
namespace Go.Proofs.YtgpkfocgoigokaaGreatDoor
open Go.RowKit

theorem eq_take_succ (a b : List UInt8) (k : Nat) (h : a.take k = b.take k) (ha : k < a.length) (hb : k < b.length) (he : a[k] = b[k]) : a.take (k + 1) = b.take (k + 1) := by
  rw [List.take_succ_eq_append_getElem ha, List.take_succ_eq_append_getElem hb, h, he]

set_option maxHeartbeats 400000 in
theorem equal_c (w : World) (a b : Value) (la lb : List UInt8) (ha : Bv w a la) (hb : Bv w b lb) :
    Calls Tryz.prog 7 #[a, b] w fun e w' => e = .returned (.bool (decide (la = lb))) ∧ Dr w w' := by
  obtain ⟨A, c, rfl, h1, h2, h4⟩ := ha
  obtain ⟨B, d, rfl, k1, k2, k4⟩ := hb
  by_cases hl : la.length = lb.length
  · have E1 : ((la.length : Int) != (lb.length : Int)) = false := by simp [hl]
    have E2 : Hid (la.length = lb.length) := hl
    clear hl
    go_enter Tryz.func7, Tryz.ntmps7
    go_wp2
    go_loopg [5] (la.length) (fun n i wr => ∃ k : Nat, n + k = la.length ∧ i = .int .i64 k ∧ Dr w wr ∧ la.take k = lb.take k)
    case atStart => exact ⟨0, by omega, rfl, Dr.refl _, rfl⟩
    case round =>
      obtain ⟨k, hn, rfl, hd, ht⟩ := hrel
      have HT := Lib.hid ht
      have HD := Lib.hid hd
      have HN : gk + k ≤ la.length ∧ la.length ≤ gk + k := by omega
      have R1 := Rb.le h4 hd.le
      have R2 := Rb.le k4 hd.le
      clear ht hn hd h4 k4
      by_cases hlt : k < la.length
      · have hlt2 : k < lb.length := by have := E2.out; omega
        obtain ⟨b1, o1, rfl, c1⟩ := R1.2 (by omega)
        obtain ⟨b2, o2, rfl, c2⟩ := R2.2 (by omega)
        have d1 := c1 k hlt
        have d2 := c2 k hlt2
        clear c1 c2 R1 R2
        by_cases hx : la[k] = lb[k]
        · have HX := Lib.hid hx
          rw [← hx] at d2
          clear hx
          generalize (la[k].toNat : Int) = x at d1 d2
          go_wp2
          go_quiet (fail)
          go_wp2
          go_roundg (gk - 1)
          case measure => omega
          case rel => exact ⟨k + 1, by omega, by go_num, HD.out.step _, eq_take_succ _ _ _ HT.out hlt hlt2 HX.out⟩
        · have hf : decide (la = lb) = false := by
            simp only [decide_eq_false_iff_not]; intro h; subst h; exact hx rfl
          have HF := Lib.hid hf
          have hx' : ((la[k].toNat : Int) != (lb[k].toNat : Int)) = true := by
            simp only [bne_iff_ne, ne_eq]; intro h; exact hx (UInt8.toNat_inj.1 (by omega))
          clear hx hf
          generalize (la[k].toNat : Int) = x at d1 hx'
          generalize (lb[k].toNat : Int) = y at d2 hx'
          go_wp2
          go_quiet (fail)
          go_wp2
          go_ret
          exact ⟨by rw [HF.out]; rfl, HD.out.step _⟩
      · have hf : decide (la = lb) = true := by
          simp only [decide_eq_true_eq]
          have e1 := List.take_of_length_le (i := k) (l := la) (by omega)
          have e2 := List.take_of_length_le (i := k) (l := lb) (by have := E2.out; omega)
          rw [← e1, ← e2, HT.out]
        have HF := Lib.hid hf
        clear hf
        go_wp2
        go_ret
        exact ⟨by rw [HF.out]; rfl, HD.out⟩
  · have E1 : ((la.length : Int) != (lb.length : Int)) = true := by simp; omega
    have E2 : decide (la = lb) = false := by simp; intro h; exact hl (by rw [h])
    rw [E2]
    clear hl E2
    go_enter Tryz.func7, Tryz.ntmps7
    go_wp2
    go_ret
    exact ⟨rfl, Dr.refl _⟩


set_option maxHeartbeats 400000 in
theorem is_c (w : World) (a : Value) (la : List UInt8) (s : ByteArray) (ha : Bv w a la) (hs : s.size ≤ 140737488355328) :
    Calls Tryz.prog 11 #[a, .string s] w fun e w' => e = .returned (.bool (decide (la = bs s))) ∧ Le w w' := by
  have hcv := fun w => conv_sb (P := Tryz.prog) (e := 5) Tryz.underlying9 Tryz.underlying22 Tryz.underlying5 s w
  go_enter Tryz.func11, Tryz.ntmps11
  go_wp2_with fail
  refine (equal_c _ _ _ la (bs s) (ha.le (le_sb w _ s)) (bv_sb w _ s hs (bcap_le w _ s hs))).mono ?_
  rintro e w' ⟨rfl, hd⟩
  have HD := Lib.hid hd
  clear hd hcv
  go_wp2
  go_ret
  exact ⟨rfl, (le_sb w _ s).trans HD.out.le⟩
end Go.Proofs.YtgpkfocgoigokaaGreatDoor
