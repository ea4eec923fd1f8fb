/- Plain lemmas on texts, on what reads as bytes or as pairs in memory, and on worlds that only grow: no statement of the program stands here. -/
import Derived.WalkKit
import Derived.WalkSpells
import Derived.WalkLawsBesides
import Derived.Handy
import Derived.Deep.QuietTactic
import Derived.BigQuiet
import Derived.Deep.LoopGhost
import Derived.Deep.RegionHeld3
import Derived.Deep.AppendLies
import Derived.Maps.AppendAt
import Derived.Lib.OthersKept
import Derived.Lib.ConvBytes
import Derived.Lib.Hide
set_option linter.unusedVariables false
set_option linter.unusedSimpArgs false
namespace Go.Proofs.YtbdeohmdpkkpdaaGreatDoor
open Go.RowKit

/-! ### texts -/
/-- the bytes of a text -/
def bs (s : ByteArray) : List UInt8 := s.data.toList
/-- the text of bytes -/
def st (l : List UInt8) : ByteArray := ⟨l.toArray⟩
theorem bs_st (l : List UInt8) : bs (st l) = l := by simp [bs, st]
theorem st_bs (s : ByteArray) : st (bs s) = s := by cases s; simp [bs, st]
theorem bs_len (s : ByteArray) : (bs s).length = s.size := by simp [bs]
theorem st_size (l : List UInt8) : (st l).size = l.length := by simp [st, ByteArray.size]
theorem bs_inj {s t : ByteArray} (h : bs s = bs t) : s = t := by rw [← st_bs s, ← st_bs t, h]
theorem bs_extract (s : ByteArray) (a b : Nat) : bs (s.extract a b) = ((bs s).take b).drop a := by
  simp [bs, ByteArray.data_extract, Array.toList_extract, List.extract]
  rw [List.drop_take]
theorem ext_st (s : ByteArray) (a b : Nat) : s.extract a b = st (((bs s).take b).drop a) := by rw [← bs_extract, st_bs]
theorem get_bs (s : ByteArray) (k : Nat) (h : k < s.size) : s.get! k = (bs s)[k]'(by rw [bs_len]; exact h) := by
  rw [show s.get! k = s.get! (k + 0) from rfl, get_at s k h]; rfl
theorem at_bs (s : ByteArray) (k : Nat) (h : k < s.size) : s[k]'h = (bs s)[k]'(by rw [bs_len]; exact h) := rfl

/-- what one step of a range over a text takes -/
theorem decode_cases (s : ByteArray) (p : Nat) (h : p < s.size) :
    (∃ h' : p < (bs s).length, (bs s)[p].toNat < 128 ∧ Utf8.decode s p = ((bs s)[p].toNat, 1)) ∨
    (128 ≤ (Utf8.decode s p).1 ∧ (Utf8.decode s p).1 ≤ 1114111 ∧ 1 ≤ (Utf8.decode s p).2 ∧ p + (Utf8.decode s p).2 ≤ (bs s).length ∧
      ∀ j (hj : j < (bs s).length), p ≤ j → j < p + (Utf8.decode s p).2 → 128 ≤ (bs s)[j].toNat) := by
  have hl := bs_len s
  have h' : p < (bs s).length := by omega
  have g0 : s.get! (p + 0) = (bs s)[p] := get_bs s p h
  by_cases ha : (bs s)[p].toNat < 128
  · left
    refine ⟨h', ha, ?_⟩
    simp only [Utf8.decode, g0, ha, if_true]
  · right
    have hc : ∀ k, (p + k < s.size && (s.get! (p + k)).toNat / 64 == 2) = true → ∃ hk : p + k < (bs s).length, s.get! (p + k) = (bs s)[p + k] ∧ 128 ≤ ((bs s)[p + k]).toNat ∧ ((bs s)[p + k]).toNat < 192 := by
      intro k hk
      simp only [Bool.and_eq_true, decide_eq_true_eq, beq_iff_eq] at hk
      have hk' : p + k < (bs s).length := by omega
      have e := get_bs s (p + k) hk.1
      refine ⟨hk', e, ?_⟩
      have := hk.2
      rw [e] at this
      omega
    have b0 : (bs s)[p].toNat < 256 := (bs s)[p].toNat_lt
    have one : ∀ j (hj : j < (bs s).length), p ≤ j → j < p + 1 → 128 ≤ (bs s)[j].toNat := by
      intro j hj h1 h2
      obtain rfl : j = p := by omega
      omega
    simp only [Utf8.decode, g0, ha, if_false]
    have v2 : Utf8.runeError = 65533 := rfl
    split
    · rename_i hx
      simp only [Bool.and_eq_true] at hx
      obtain ⟨k1, e1, a1, z1⟩ := hc 1 (by simpa using hx.2)
      rw [e1]
      split
      · refine ⟨by omega, by omega, by omega, by omega, ?_⟩
        intro j hj h1 h2
        rcases (by omega : j = p ∨ j = p + 1) with rfl | rfl
        · omega
        · exact a1
      · exact ⟨by simp [v2], by simp [v2], by omega, by omega, one⟩
    · split
      · rename_i hx
        simp only [Bool.and_eq_true] at hx
        obtain ⟨k1, e1, a1, z1⟩ := hc 1 (by simpa using hx.1.2)
        obtain ⟨k2, e2, a2, z2⟩ := hc 2 (by simpa using hx.2)
        rw [e1, e2]
        split
        · refine ⟨by rename_i h3; simp only [Bool.and_eq_true, decide_eq_true_eq] at h3; omega, by omega, by omega, by omega, ?_⟩
          intro j hj h1 h2
          rcases (by omega : j = p ∨ j = p + 1 ∨ j = p + 2) with rfl | rfl | rfl
          · omega
          · exact a1
          · exact a2
        · exact ⟨by simp [v2], by simp [v2], by omega, by omega, one⟩
      · split
        · rename_i hx
          simp only [Bool.and_eq_true] at hx
          obtain ⟨k1, e1, a1, z1⟩ := hc 1 (by simpa using hx.1.1.2)
          obtain ⟨k2, e2, a2, z2⟩ := hc 2 (by simpa using hx.1.2)
          obtain ⟨k3, e3, a3, z3⟩ := hc 3 (by simpa using hx.2)
          rw [e1, e2, e3]
          split
          · rename_i h3
            simp only [Bool.and_eq_true, decide_eq_true_eq, Utf8.valid, Bool.or_eq_true] at h3
            refine ⟨by omega, by omega, by omega, by omega, ?_⟩
            intro j hj h1 h2
            rcases (by omega : j = p ∨ j = p + 1 ∨ j = p + 2 ∨ j = p + 3) with rfl | rfl | rfl | rfl
            · omega
            · exact a1
            · exact a2
            · exact a3
          · exact ⟨by simp [v2], by simp [v2], by omega, by omega, one⟩
        · exact ⟨by simp [v2], by simp [v2], by omega, by omega, one⟩

/-- A fact on prefixes that bytes beyond ASCII leave alone stands behind a rune beyond ASCII. -/
theorem skip_take {α : Type} (F : List UInt8 → α) (hF : ∀ l x, 128 ≤ x.toNat → F (l ++ [x]) = F l) (l : List UInt8) (p k : Nat) (hk : p + k ≤ l.length)
    (h : ∀ j (hj : j < l.length), p ≤ j → j < p + k → 128 ≤ l[j].toNat) : F (l.take (p + k)) = F (l.take p) := by
  induction k with
  | zero => rfl
  | succ k ih =>
    have hj : p + k < l.length := by omega
    rw [show p + (k + 1) = (p + k) + 1 from rfl, List.take_succ_eq_append_getElem hj, hF _ _ (h _ hj (by omega) (by omega))]
    exact ih (by omega) fun j hj' h1 h2 => h j hj' h1 (by omega)

/-- One step of a range over a text, in whatever world: c is the rune, d its width. -/
def StepIs (s : ByteArray) (p : Nat) (c : Int) (d : Nat) : Prop :=
  1 ≤ d ∧ p + d ≤ s.size ∧ 0 ≤ c ∧ c ≤ 1114111 ∧
  ((∃ h : p < (bs s).length, c = ((bs s)[p].toNat : Int) ∧ d = 1 ∧ c < 128) ∨
   (128 ≤ c ∧ ∀ j (hj : j < (bs s).length), p ≤ j → j < p + d → 128 ≤ (bs s)[j].toNat))
theorem step_is (s : ByteArray) (p : Nat) (h : p < s.size) : StepIs s p ((Utf8.decode s p).1 : Nat) (Utf8.decode s p).2 := by
  have hl := bs_len s
  rcases decode_cases s p h with ⟨h', h1, h2⟩ | ⟨h1, h2, h3, h4, h5⟩
  · rw [h2]
    exact ⟨Nat.le_refl 1, by dsimp only; omega, by dsimp only; omega, by dsimp only; omega, .inl ⟨h', rfl, rfl, by dsimp only; omega⟩⟩
  · exact ⟨h3, by omega, by omega, by omega, .inr ⟨by omega, h5⟩⟩
theorem next_step {P : Program} {wr : World} {k : Nat} {s : ByteArray} {p : Nat} (hk : wr.heap[k]? = some (.stringIter s p)) (h : p < s.size) :
    ∃ (c : Int) (d : Nat) (W1 : World), (∀ ty, (Instr.next (.pointer (some ⟨k, 0, none⟩)) true ty).run P wr = .ok (.tuple #[.bool true, .int .i64 p, .int .i32 c]) W1) ∧
      StepIs s p c d ∧ W1.heap[k]? = some (.stringIter s (p + d)) ∧ W1 = wr.iterAt k s (p + d) :=
  ⟨_, _, _, fun ty => Lib.run_next_any_at wr _ s p ty hk h, step_is s p h, Lib.iterAt_heap _ _ _ _ _ hk, rfl⟩

/-- What a step of a range does to a fact on prefixes that bytes beyond ASCII leave alone. -/
theorem StepIs.take {α : Type} {s : ByteArray} {p : Nat} {c : Int} {d : Nat} (h : StepIs s p c d) (F : List UInt8 → α) (hF : ∀ l x, 128 ≤ x.toNat → F (l ++ [x]) = F l) :
    (∃ h : p < (bs s).length, c = ((bs s)[p].toNat : Int) ∧ d = 1 ∧ F ((bs s).take (p + d)) = F ((bs s).take p ++ [(bs s)[p]])) ∨ (128 ≤ c ∧ F ((bs s).take (p + d)) = F ((bs s).take p)) := by
  obtain ⟨h1, h2, h3, h4, h5⟩ := h
  rcases h5 with ⟨h', e1, rfl, e3⟩ | ⟨e1, e2⟩
  · exact .inl ⟨h', e1, rfl, by rw [List.take_succ_eq_append_getElem h']⟩
  · exact .inr ⟨e1, skip_take F hF _ _ _ (by rw [bs_len]; exact h2) e2⟩

/-! ### worlds -/
/-- nothing that lies in w has turned in w' -/
abbrev Le (w w' : World) : Prop := Below w.heap.size w w'
theorem Le.refl (w : World) : Le w w := Below.refl _ _
theorem Le.trans {a b c : World} (h : Le a b) (k : Le b c) : Le a c := Below.trans h (k.mono h.size)
theorem Le.alloc {a w : World} (h : Le a w) (o : Obj) : Le a (w.alloc o) := Below.alloc h h.size o
theorem Le.iter {a w : World} (h : Le a w) (s : ByteArray) (p : Nat) : Le a (w.iter s p) := Below.alloc h h.size _
theorem Le.drew {a w : World} (h : Le a w) : Le a w.drew := Below.drew h
theorem below_dn {B : Nat} {a w : World} (h : Below B a w) (n : Nat) : Below B a (w.drewN n) := ⟨h.os, h.tape, h.output, h.size, h.block⟩
theorem Le.drewN {a w : World} (h : Le a w) (n : Nat) : Le a (w.drewN n) := below_dn h n
theorem Le.iterAt {a w : World} (h : Le a w) {k : Nat} (hk : a.heap.size ≤ k) (s : ByteArray) (p : Nat) : Le a (w.iterAt k s p) := Lib.below_iterAt h hk s p
theorem Le.setCell {a w : World} (h : Le a w) {p : Addr} (hp : a.heap.size ≤ p.block) (u : Value) : Le a (w.setCell p u) := Below.setCell h hp u
theorem lt_of_cell {w : World} {a : Addr} {v : Value} (h : w.cell? a = some v) : a.block < w.heap.size := World.block_lt_of_cell? w a h
theorem Le.cell {w w' : World} (h : Le w w') {a : Addr} {v : Value} (hc : w.cell? a = some v) : w'.cell? a = some v := (Below.cell h (lt_of_cell hc)).trans hc
theorem lt_of_heap {w : World} {k : Nat} {o : Obj} (h : w.heap[k]? = some o) : k < w.heap.size := (Array.getElem?_eq_some_iff.1 h).1
theorem Le.heap {w w' : World} (h : Le w w') {k : Nat} {o : Obj} (hk : w.heap[k]? = some o) : w'.heap[k]? = some o := (h.block k (lt_of_heap hk)).trans hk
theorem Le.frozen {w w' : World} (h : Le w w') {a : Addr} (ha : a.block < w.heap.size) {b : Bool} (hc : w.frozen? a = b) : w'.frozen? a = b := (Below.frozen h ha).trans hc
/-- a world that was only moved on by draws -/
def Dr (w w' : World) : Prop := ∃ n, w' = w.drewN n
theorem Dr.le {w w' : World} (h : Dr w w') : Le w w' := by obtain ⟨n, rfl⟩ := h; exact (Le.refl w).drewN n
theorem Dr.refl (w : World) : Dr w w := ⟨0, by cases w; rfl⟩
theorem Dr.step {w w' : World} (h : Dr w w') (n : Nat) : Dr w (w'.drewN n) := by obtain ⟨m, rfl⟩ := h; exact ⟨m + n, World.drewN_drewN ..⟩
theorem Dr.trans {a b c : World} (h : Dr a b) (k : Dr b c) : Dr a c := by obtain ⟨n, rfl⟩ := k; exact h.step n
theorem Dr.eq {w w' : World} (h : w = w') : Dr w w' := h ▸ Dr.refl w

/-! ### what lies in memory -/
/-- A reads as the bytes l -/
def Rb (w : World) (A : Option Addr) (l : List UInt8) : Prop :=
  l.length ≤ 140737488355328 ∧ (0 < l.length → ∃ b o, A = some ⟨b, o, none⟩ ∧ ∀ j (h : j < l.length), w.cell? ⟨b, o + j, none⟩ = some (.int .u8 (l[j].toNat : Int)))
theorem Rb.le {w w' : World} {A : Option Addr} {l : List UInt8} (h : Rb w A l) (hw : Le w w') : Rb w' A l :=
  ⟨h.1, fun hn => by obtain ⟨b, o, e, hc⟩ := h.2 hn; exact ⟨b, o, e, fun j hj => hw.cell (hc j hj)⟩⟩
/-- v is a slice of bytes that reads as l -/
def Bv (w : World) (v : Value) (l : List UInt8) : Prop := ∃ A c, v = .slice A l.length c ∧ l.length ≤ c ∧ c ≤ 9223372036854775807 ∧ Rb w A l
theorem Bv.le {w w' : World} {v : Value} {l : List UInt8} (h : Bv w v l) (hw : Le w w') : Bv w' v l := by
  obtain ⟨A, c, e, h1, h2, h3⟩ := h; exact ⟨A, c, e, h1, h2, h3.le hw⟩
theorem Bv.nil (w : World) : Bv w (.slice none 0 0) [] := ⟨none, 0, rfl, by simp, by simp, by simp, fun h => by simp at h⟩

/-! ### '[]byte(s)' and 'string(b)' -/
/-- the capacity that '[]byte(s)' draws -/
def bcap (w : World) (e : TypeId) (s : ByteArray) : Nat := grownCap w s.size 0 e
theorem conv_sb {P : Program} {src dst e : TypeId} (hs : P.underlying src = some .string) (hd : P.underlying dst = some (.slice e)) (he : P.underlying e = some (.int .u8)) (s : ByteArray) (w : World) :
    (convert src dst (.string s)).run P w = .ok (.slice (some ⟨w.heap.size, 0, none⟩) s.size (bcap w e s)) (Lib.bytesWorld w e s) := Lib.run_convert_string_bytes w src dst e s hs hd he
theorem le_sb (w : World) (e : TypeId) (s : ByteArray) : Le w (Lib.bytesWorld w e s) := by
  refine ⟨?_, ?_, ?_, by rw [Lib.bytesWorld_size]; omega, fun k hk => Lib.bytesWorld_at_old w e s k hk⟩ <;>
  · simp only [Lib.bytesWorld, World.freeze]; split <;> rfl
theorem Le.sb {a w : World} (h : Le a w) (e : TypeId) (s : ByteArray) : Le a (Lib.bytesWorld w e s) := h.trans (le_sb w e s)
theorem bv_sb (w : World) (e : TypeId) (s : ByteArray) (hs : s.size ≤ 140737488355328) (hm : bcap w e s ≤ 9223372036854775807) : Bv (Lib.bytesWorld w e s) (.slice (some ⟨w.heap.size, 0, none⟩) s.size (bcap w e s)) (bs s) := by
  refine ⟨_, _, by rw [bs_len], by rw [bs_len]; exact grownCap_ge w s.size 0 e, hm, by rw [bs_len]; exact hs, fun _ => ⟨_, _, rfl, fun j hj => ?_⟩⟩
  have hj' : j < s.size := by rw [← bs_len]; exact hj
  have hj2 : j < s.data.toList.length := hj
  have h := Lib.bytesWorld_cell w e s j hj'
  have hg : s.data.toList.getD j 0 = (bs s)[j] := by rw [List.getD_eq_getElem?_getD, List.getElem?_eq_getElem hj2]; rfl
  rw [hg] at h
  rw [Nat.zero_add]
  exact h
theorem bcap_le (w : World) (e : TypeId) (s : ByteArray) (hs : s.size ≤ 140737488355328) : bcap w e s ≤ 9223372036854775807 := by
  have := grownCap_le_maxLen w s.size 0 e (by unfold maxLen; omega)
  unfold maxLen at this
  exact this
/-- 'string(b)' of bytes that are read -/
theorem conv_bs {P : Program} {src dst e : TypeId} (hs : P.underlying src = some (.slice e)) (he : P.underlying e = some (.int .u8)) (hd : P.underlying dst = some .string) {w : World} {v : Value} {l : List UInt8} (h : Bv w v l) :
    (convert src dst v).run P w = .ok (.string (st l)) w := by
  obtain ⟨A, c, rfl, h1, h2, h3, h4⟩ := h
  rcases Nat.eq_zero_or_pos l.length with h0 | h0
  · obtain rfl : l = [] := List.eq_nil_of_length_eq_zero h0
    have e := run_convert_bytes_string w src dst e A 0 c hs he hd
    refine e.trans ?_
    cases A with
    | none => rfl
    | some a => rw [run_bytesToString w a 0 c [] (by simp [go_sem])]; rfl
  · obtain ⟨b, o, rfl, hc⟩ := h4 h0
    refine run_convert_bytes_back w src dst e _ c l hs he hd (fun j hj => ?_)
    have ha : (⟨b, o, none⟩ : Addr).add j = ⟨b, o + j, none⟩ := by unfold Addr.add; split <;> simp_all
    rw [ha]
    exact hc j hj
end Go.Proofs.YtbdeohmdpkkpdaaGreatDoor
