/- What the listed package-level variables hold, and the library's functions that are taken by contract. -/
import Derived.Test.YtgpkfocgoigokaaGreatDoorBase
import Derived.Test.YtgpkfocgoigokaaGreatDoorShelf
set_option linter.unusedVariables false
set_option linter.unusedSimpArgs false
namespace Go.Proofs.YtgpkfocgoigokaaGreatDoor
open Go.RowKit

/-- the package-level variables that the roads read, as the rows list them -/
structure Laid (w : World) : Prop where
  pow : Lib.TabIs Tryz.prog w "internal/strconv.uint64pow10" .u64 Lib.pow10Tab
  syn : ∃ tp p, w.var? Tryz.prog "strconv.ErrSyntax" = some #[.iface tp p]
  rng : ∃ tp p, w.var? Tryz.prog "strconv.ErrRange" = some #[.iface tp p]
  white : Lib.WhiteTab 4 w
  z0 : w.cell? ⟨3, 0, none⟩ = some (.pointer none)
  z4 : ∃ b o, w.cell? ⟨9, 0, none⟩ = some (.pointer (some ⟨b, o, none⟩)) ∧ w.cell? ⟨b, o, none⟩ = some (.bool false) ∧ w.cell? ⟨b, o + 1, none⟩ = some (.string (st []))
  z6 : ∃ b o, w.cell? ⟨10, 0, none⟩ = some (.pointer (some ⟨b, o, none⟩)) ∧ w.cell? ⟨b, o, none⟩ = some (.bool true) ∧ w.cell? ⟨b, o + 1, none⟩ = some (.string (st []))
theorem var_le {w w' : World} (h : Le w w') {n : String} {cs : Array Value} (hv : w.var? Tryz.prog n = some cs) : w'.var? Tryz.prog n = some cs := by
  unfold World.var? at hv ⊢
  cases hg : (Tryz.prog).globalNamed n with
  | none => simp [hg] at hv
  | some g =>
    simp only [hg, Option.bind_some] at hv ⊢
    have hlt : g < w.heap.size := by
      rcases Nat.lt_or_ge g w.heap.size with h' | h'
      · exact h'
      · simp [Array.getElem?_eq_none h'] at hv
    rw [h.block g hlt]
    exact hv
theorem Laid.le {w w' : World} (h : Laid w) (k : Le w w') : Laid w' where
  pow := var_le k h.pow
  syn := by obtain ⟨tp, p, e⟩ := h.syn; exact ⟨tp, p, var_le k e⟩
  rng := by obtain ⟨tp, p, e⟩ := h.rng; exact ⟨tp, p, var_le k e⟩
  white := WhiteTab_below h.white k
  z0 := k.cell h.z0
  z4 := by obtain ⟨b, o, e1, e2, e3⟩ := h.z4; exact ⟨b, o, k.cell e1, k.cell e2, k.cell e3⟩
  z6 := by obtain ⟨b, o, e1, e2, e3⟩ := h.z6; exact ⟨b, o, k.cell e1, k.cell e2, k.cell e3⟩

/-- what strconv.Atoi leaves -/
def AtoiPost (l : Tx) (w : World) (e : Ending) (w' : World) : Prop :=
  Le w w' ∧ ((∃ v, Lib.atoiAll l = .ok v ∧ e = .returned (.tuple #[.int .i64 v, .nilIface])) ∨
    ((∀ v, Lib.atoiAll l ≠ .ok v) ∧ ∃ n a, -9223372036854775808 ≤ n ∧ n ≤ 9223372036854775807 ∧ e = .returned (.tuple #[.int .i64 n, .iface 189 (.pointer (some a))])))
theorem atoi_c (s : ByteArray) (w : World) (hs : s.size ≤ 1099511627776) (hL : Laid w) : Calls Tryz.prog 77 #[.string s] w (AtoiPost (bs s) w) := by
  have hb : bs s = s.data.toList := rfl
  rcases h : Lib.atoiAll (bs s) with v | _ | _
  · refine (Tryz.strconv_Atoi_ok s (by omega) v h w).mono fun e w' ⟨he, hw⟩ => ⟨?_, .inl ⟨v, h, he⟩⟩
    rcases hw with rfl | ⟨t, rfl⟩
    · exact Le.refl _
    · exact le_sb w _ t
  · obtain ⟨tp, p, hv⟩ := hL.syn
    refine (Tryz.strconv_Atoi_syntax_var s (by omega) h tp p w hv).mono fun e w' ⟨N, he, _, _, hb⟩ => ⟨hb, .inr ⟨fun v hv => (by rw [h] at hv; cases hv), 0, _, by omega, by omega, he⟩⟩
  · obtain ⟨tp, p, hv⟩ := hL.rng
    have := Lib.atoiSat_bounds s.data.toList
    refine (Tryz.strconv_Atoi_range_var s (by omega) h tp p w hv).mono fun e w' ⟨N, he, _, _, hb⟩ => ⟨hb, .inr ⟨fun v hv => (by rw [h] at hv; cases hv), _, _, this.1, this.2, he⟩⟩

theorem le_grow (w : World) (n : Nat) (os : Array Obj) : Le w (Sort.grow (w.drewN n) os) :=
  (Le.refl w).drewN n |>.trans ⟨rfl, rfl, rfl, by simp [Sort.grow], fun k hk => by
    show ((w.drewN n).heap ++ os)[k]? = (w.drewN n).heap[k]?
    rw [Array.getElem?_append_left hk]⟩
theorem itoa_c (n : Int) (w : World) (h0 : -9223372036854775808 ≤ n) (h1 : n ≤ 9223372036854775807) (hL : Laid w) :
    Calls Tryz.prog 40 #[.int .i64 n] w fun e w' => e = .returned (.string (st (Lib.itoa n))) ∧ Le w w' :=
  (Tryz.strconv_Itoa n h0 h1 w hL.pow).mono fun e w' ⟨he, k, os, hw⟩ => ⟨he, hw ▸ le_grow w k os⟩

theorem cut_c (s p : ByteArray) (w : World) : Calls Tryz.prog 49 #[.string s, .string p] w fun e w' =>
    e = .returned (.tuple #[.string (st (Lib.trimPrefix (bs s) (bs p))), .bool (Lib.hasPrefix (bs s) (bs p))]) ∧ w = w' :=
  (Tryz.strings_CutPrefix s p w).mono fun e w' ⟨he, hw⟩ => ⟨he, hw.symm⟩

/-! ### blanks ahead -/
def spB (c : UInt8) : Bool := (9 ≤ c && c ≤ 13) || c == 32
theorem space_pred (w : World) (hL : Laid w) : PredGrows Tryz.prog 91 #[] Lib.isSpaceR w := fun W x hx hb => by
  refine (Tryz.unicode_IsSpace_any (x : Int) W (by omega) (by omega) (hL.le hb).white).mono fun e w' ⟨he, hw⟩ => ⟨?_, hw⟩
  rw [he, Lib.isSpaceZ_nat]
/-- the text without blanks ahead: an end of it; the text itself where it begins with no blank -/
def TrimmedOf (s t : ByteArray) : Prop := (∃ k, k ≤ s.size ∧ bs t = (bs s).drop k) ∧ (∀ x r, bs s = x :: r → x.toNat < 128 → spB x = false → t = s) ∧ (bs s = [] → t = s)
theorem trimmed (s : ByteArray) : TrimmedOf s (Lib.trimLeftF Lib.isSpaceR s) := by
  have hl := bs_len s
  refine ⟨?_, ?_, ?_⟩
  · unfold Lib.trimLeftF
    rcases Lib.idxFunc_range Lib.isSpaceR false s with h | ⟨h1, h2⟩
    · rw [if_pos h]; exact ⟨s.size, Nat.le_refl _, by rw [List.drop_of_length_le (by omega)]; rfl⟩
    · rw [if_neg (by omega)]
      refine ⟨(Lib.idxFunc Lib.isSpaceR false s).toNat, by omega, ?_⟩
      rw [bs_extract, List.take_of_length_le (by omega)]
  · intro x r hx ha hsp
    have hpos : 0 < s.size := by rw [← hl, hx]; simp
    obtain ⟨n, hn⟩ : ∃ n, s.size = n + 1 := ⟨s.size - 1, by omega⟩
    have hd : Utf8.decode s 0 = (x.toNat, 1) := by
      rcases decode_cases s 0 hpos with ⟨h', h1, h2⟩ | ⟨h1, h2, h3, h4, h5⟩
      · rw [h2]; simp [hx]
      · have h6 := h5 0 (by omega) (by omega) (by omega)
        simp only [hx, List.getElem_cons_zero] at h6
        omega
    have hz : Lib.isSpaceR x.toNat = false := by
      unfold spB at hsp
      simp only [Bool.or_eq_false_iff, Bool.and_eq_false_iff, decide_eq_false_iff_not, UInt8.le_iff_toNat_le, beq_eq_false_iff_ne, ne_eq] at hsp
      have e32 : ¬ x.toNat = 32 := fun e => hsp.2 (UInt8.toNat_inj.1 (by rw [e]; rfl))
      have e9 : (9 : UInt8).toNat = 9 := rfl
      have e13 : (13 : UInt8).toNat = 13 := rfl
      rw [e9, e13] at hsp
      unfold Lib.isSpaceR
      simp only [Bool.or_eq_false_iff, Bool.and_eq_false_iff, decide_eq_false_iff_not, beq_eq_false_iff_ne, ne_eq]
      omega
    have hi : Lib.idxFunc Lib.isSpaceR false s = 0 := by
      unfold Lib.idxFunc
      rw [show Lib.idxFuncFrom Lib.isSpaceR false s s.size 0 = Lib.idxFuncFrom Lib.isSpaceR false s (n + 1) 0 from by rw [hn]]
      simp only [Lib.idxFuncFrom, if_pos hpos, hd, hz, if_true]
      rfl
    unfold Lib.trimLeftF
    rw [hi, if_neg (by omega)]
    rw [show (0 : Int).toNat = 0 from rfl, ext_st, List.take_of_length_le (by omega)]
    exact st_bs s
  · intro h0
    have hz : s.size = 0 := by rw [← hl, h0]; rfl
    have hi : Lib.idxFunc Lib.isSpaceR false s = -1 := by
      unfold Lib.idxFunc
      exact Lib.idxFuncFrom_end _ _ _ _ _ (by omega)
    unfold Lib.trimLeftF
    rw [hi, if_pos rfl]
    exact bs_inj (by rw [h0]; rfl)
theorem trim_c (s : ByteArray) (w : World) (hL : Laid w) : Calls Tryz.prog 90 #[.string s, .func (.func 91) #[] #[]] w fun e w' => ∃ t, TrimmedOf s t ∧ e = .returned (.string t) ∧ Le w w' :=
  (Tryz.strings_TrimLeftFunc_grows 91 #[] (fun args w => by kernel_rfl) Lib.isSpaceR s w (space_pred w hL)).mono fun e w' ⟨he, hw⟩ => ⟨_, trimmed s, he, hw⟩
end Go.Proofs.YtgpkfocgoigokaaGreatDoor
