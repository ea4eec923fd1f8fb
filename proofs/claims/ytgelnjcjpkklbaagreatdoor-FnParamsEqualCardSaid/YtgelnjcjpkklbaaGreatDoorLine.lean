/- Contracts: the collecting line, ToStringWrite, the thin package's ParamsText. -/
import Derived.Test.YtgelnjcjpkklbaaGreatDoorText
import Derived.Test.YtgelnjcjpkklbaaGreatDoorSpWb
import Derived.Lib.AppendStr
set_option linter.unusedVariables false
set_option linter.unusedSimpArgs false
namespace Go.Proofs.YtgelnjcjpkklbaaGreatDoor
open Go.RowKit

/-- block b is a line that has collected q -/
def Ln (base b : Nat) (w : World) (q : Tx) : Prop := ∃ v, w.heap[b]? = some (.cells #[v] 108 (0, 0)) ∧ OwnB base w v q
theorem Ln.le {base b : Nat} {w w' : World} {q : Tx} (h : Ln base b w q) (k : Le w w') : Ln base b w' q := by
  obtain ⟨v, h1, h2⟩ := h; exact ⟨v, k.heap h1, h2.le k⟩
theorem Ln.lt {base b : Nat} {w : World} {q : Tx} (h : Ln base b w q) : b < w.heap.size := by obtain ⟨v, h1, _⟩ := h; exact lt_of_heap h1
theorem own_apart {base : Nat} {w : World} {v : Value} {l : Tx} (h : OwnB base w v l) {b : Nat} {cs : Array Value} {T : TypeId} {fz : Nat × Nat} (hb : w.heap[b]? = some (.cells cs T fz)) (hT : T ≠ 5) : v.ownBlock ≠ some b := by
  intro e
  obtain ⟨_, c, fz', hc⟩ := own_row' h b e
  rw [hb] at hc
  injection hc with hc
  injection hc with _ h2
  exact hT h2
set_option maxRecDepth 4000 in
set_option maxHeartbeats 1000000 in
theorem lineW_c (base b : Nat) (w : World) (s : ByteArray) (q : Tx) (h : Ln base b w q) (hb : base ≤ b) (hB : base ≤ w.heap.size) (hl : q.length + s.size ≤ 140737488355328) :
    Calls Tryz.prog 216 #[.pointer (some ⟨b, 0, none⟩), .string s] w fun e w' => e = .returned (.tuple #[.int .i64 s.size, .nilIface]) ∧ Ln base b w' (q ++ bs s) ∧ BFr base b w w' := by
  obtain ⟨v, hb0, hown⟩ := h
  obtain ⟨i0, hi0, hz0, hz1, hz2⟩ := info_parts u8_info
  have c0 : w.cell? ⟨b, 0, none⟩ = some v := cell_cells hb0 0
  have HB0 := Lib.hid hb0
  have HOWN := Lib.hid hown
  clear hb0 hown
  go_enter Tryz.func216, Tryz.ntmps216
  go_wp2_with (at_builtin; refine Lib.wpList_append_own_string w rfl (.tmp 10) (.tmp 11) 22 9 rfl base 5 i0 Tryz.underlying22 Tryz.underlying9 hi0 hz0 hz1 hz2 v q.length (u8s q) rfl HOWN.out s rfl ?_ ?_ ?_ ?_)
  · unfold maxLen; omega
  · omega
  · exact hB
  intro v' w1 hown1 hgrow1 hz
  clear hz
  have hna := own_apart HOWN.out HB0.out (by decide)
  have hb1 : w1.heap[b]? = some (.cells #[v] 108 (0, 0)) := (hgrow1.block b (lt_of_heap HB0.out) (fun e => hna e.symm)).trans HB0.out
  have hown2 : OwnB base w1 v' (q ++ bs s) := by
    have e : (q ++ bs s).length = q.length + s.size := by rw [List.length_append, bs_len]
    have e2 : u8s (q ++ bs s) = u8s q ++ Lib.strCells s := by unfold u8s bs Lib.strCells; rw [List.map_append]
    unfold OwnB
    rw [e, e2]
    exact hown1
  have hbe : Below base w w1 := Below.grown' (Below.refl _ _) hgrow1 hB (fun g hg => (own_row' HOWN.out g hg).1)
  have hot : Lib.OthersKept 5 (some b) w w1 := (Lib.OthersKept.refl _ _ _).grown hgrow1 (fun g hg => (own_row' HOWN.out g hg).2)
  have c1 : w1.cell? ⟨b, 0, none⟩ = some v := cell_cells hb1 0
  have f1 : w1.frozen? ⟨b, 0, none⟩ = false := frozen_cells hb1 0
  have HB1 := Lib.hid hb1
  have HO2 := Lib.hid hown2
  obtain ⟨n', A', c', rfl⟩ : ∃ n A c, v' = .slice A n c := by obtain ⟨A, c, e, _⟩ := bv_slice (hown2.bv (by rw [List.length_append, bs_len]; exact hl)); exact ⟨_, A, c, e⟩
  have HBE := Lib.hid hbe
  have HOT := Lib.hid hot
  clear hna hb1 hown2 hown1 hbe hot hgrow1 c0
  go_wp2
  go_returns
  refine ⟨rfl, ⟨.slice A' n' c', ?_, ?_⟩, ?_, ?_⟩
  · rw [heap_set HB1.out]; rfl
  · exact HO2.out.kept (kp_set w1 b 0 _) (.inr (own_apart HO2.out HB1.out (by decide)))
  · exact Below.setCell HBE.out hb _
  · exact HOT.out.setCell ⟨b, 0, none⟩ rfl _

/-! ### ToStringWrite -/
def kvR (x : Tx × Tx) : Tx := x.1 ++ (if x.2.any bl2 = true then 61 :: 34 :: (x.2 ++ [34]) else if x.2 = [] then [] else 61 :: x.2)
def psP (l : KVs) (sep : UInt8) (k : Nat) : Tx := ((l.take k).flatMap (kvText sep)).drop 1
theorem psP_all (l : KVs) (sep : UInt8) : psP l sep l.length = psText l sep := by unfold psP psText; rw [List.take_length]
theorem psP_succ {l : KVs} {sep : UInt8} {k : Nat} (h : k < l.length) : psP l sep (k + 1) = psP l sep k ++ ((if 0 < k then [sep] else []) ++ kvR l[k]) := by
  unfold psP
  rw [flat_snoc l sep k h]
  cases k with
  | zero => simp [kvText, kvR]
  | succ k =>
    rw [List.drop_append_of_le_length, if_pos (by omega)]
    · rfl
    · cases l with
      | nil => simp at h
      | cons x r => simp only [List.take_succ_cons, List.flatMap_cons, kvText, List.length_append, List.length_cons]; omega
theorem psP_le {l : KVs} {sep : UInt8} {k : Nat} (h : k < l.length) : (psP l sep k).length + ((if 0 < k then [sep] else []) ++ kvR l[k]).length ≤ (l.flatMap (kvText sep)).length := by
  have h1 := flat_take_le l sep k h
  have h2 := psP_succ (sep := sep) h
  have h3 : (psP l sep (k + 1)).length ≤ (l.flatMap (kvText sep)).length := by
    unfold psP
    rw [List.length_drop, flat_snoc l sep k h, List.length_append]
    omega
  rw [h2, List.length_append] at h3
  exact h3
theorem enc_one (c : UInt8) (h : c.toNat < 128) : Utf8.encode (c.toNat : Int) = st [c] := by
  have hv : Utf8.valid (c.toNat : Int) = true := by
    simp only [Utf8.valid, Bool.or_eq_true, Bool.and_eq_true, decide_eq_true_eq]; omega
  unfold Utf8.encode
  rw [if_pos hv]
  simp only [Int.toNat_natCast, h, if_true]
  show ByteArray.mk #[UInt8.ofNat c.toNat] = _
  rw [UInt8.ofNat_toNat]
  rfl
set_option maxRecDepth 8000 in
set_option maxHeartbeats 4000000 in
theorem toStrW_c (base b : Nat) (w : World) (v : Value) (l : KVs) (sep : UInt8) (hsep : sep.toNat < 128) (hv : Hp w v l) (hw : Ln base b w []) (hb : base ≤ b) (hB : base ≤ w.heap.size) (hlen : (l.flatMap (kvText sep)).length ≤ 1099511627776) :
    Calls Tryz.prog 69 #[v, .int .u8 sep.toNat, .iface 106 (.pointer (some ⟨b, 0, none⟩))] w fun e w' => e = .returned (.tuple #[]) ∧ Ln base b w' (psText l sep) ∧ BFr base b w w' := by
  obtain ⟨A, c, rfl, hc1, hc2, hl, hm, hr⟩ := hv
  have HM := Lib.hid hm
  have HLEN := Lib.hid hlen
  have HW := Lib.hid hw
  have hnil : ∀ (W : World) (A : Option Addr) (n c : Nat), (binOp .eql 91 (.slice A n c) (.slice none 0 0)).run Tryz.prog W = .ok (.bool A.isNone) W := fun W A n c => Lib.run_eql_slice_nil W _ 142 A n c 0 0 Tryz.underlying91
  clear hm hlen hw
  by_cases h0 : l.length = 0
  · have hb0 : ((l.length : Int) == 0) = true := by simp [h0]
    obtain rfl : l = [] := List.eq_nil_of_length_eq_zero h0
    clear hr
    cases A with
    | none =>
      go_enter Tryz.func69, Tryz.ntmps69
      go_wp2
      (try simp only [Exit.inBlock, Exit.then])
      refine bodyPost_ret (results_none rfl _ _ _) rfl ?_
      exact ⟨rfl, HW.out, BFr.refl _ _ _⟩
    | some a =>
      go_enter Tryz.func69, Tryz.ntmps69
      go_wp2
      (try simp only [Exit.inBlock, Exit.then])
      refine bodyPost_ret (results_none rfl _ _ _) rfl ?_
      exact ⟨rfl, HW.out, BFr.refl _ _ _⟩
  have hb0 : ((l.length : Int) == 0) = false := beq_eq_false_iff_ne.2 (by omega)
  obtain ⟨g, o, rfl, ⟨cur, fz, hg⟩, hcells⟩ := hr (by omega)
  have hgb : g ≠ b := by
    rintro rfl
    obtain ⟨v, h1, _⟩ := HW.out
    rw [hg] at h1
    injection h1 with h1
    injection h1 with _ h2
    exact absurd h2 (by decide)
  have HG := Lib.hid hg
  have HCL := Lib.hid hcells
  have henc := enc_one sep hsep
  have hna : ∀ (n : Nat) (w : World), (nilAhead (n + 1) 106 (.pointer (some ⟨b, 0, none⟩)) "WriteString").run Tryz.prog w = .ok (some false) w := fun n w => by kernel_rfl
  clear hg hcells hsep
  go_enter Tryz.func69, Tryz.ntmps69
  go_wp2
  clear henc
  go_loopg [7, 21] (l.length) (fun n i j wr => ∃ k : Nat, n + k = l.length ∧ i = .int .i64 k ∧ j = .int .i64 k ∧ Ln base b wr (psP l sep k) ∧ BFr base b w wr)
  case atStart => exact ⟨0, by omega, rfl, rfl, HW.out, BFr.refl _ _ _⟩
  case round =>
    obtain ⟨k, hn, rfl, rfl, hln, hfr⟩ := hrel
    have HLN := Lib.hid hln
    have HFR := Lib.hid hfr
    have HN : gk + k ≤ l.length ∧ l.length ≤ gk + k := by omega
    have hsz := Nat.le_trans hB hfr.1.size
    clear hn hln
    by_cases hlt : k < l.length
    · have hcell : ∀ j x, w.cell? ⟨g, j, none⟩ = some x → wr.cell? ⟨g, j, none⟩ = some x := fun j x hx => (World.cell?_of_block (a := ⟨g, j, none⟩) ((hfr.heap HG.out (by decide) hgb).trans HG.out.symm)).trans hx
      have d1 := hcell _ _ (HCL.out k hlt).1
      have d2 := hcell _ _ (HCL.out k hlt).2
      have HTL := Lib.hid (Nat.le_trans (psP_le (sep := sep) hlt) HLEN.out)
      have HSN := Lib.hid (psP_succ (sep := sep) hlt)
      clear hcell hfr
      obtain ⟨key, val, hx⟩ : ∃ key val, l[k] = (key, val) := ⟨_, _, rfl⟩
      rw [hx] at d1 d2 HTL HSN
      have hkv := HM.out l[k] (List.getElem_mem hlt)
      rw [hx] at hkv
      have HKV := Lib.hid hkv
      clear hkv
      have hbl := HLN.out.lt
      generalize psP l sep k = acc at HLN HTL HSN
      clear hx
      have HH0 : Hid ((wr.alloc (Obj.cells #[.string (st key), .string (st val)] 142)).heap[wr.heap.size]? = some (Obj.cells #[.string (st key), .string (st val)] 142)) := Lib.hid (heap_alloc_new wr _)
      have HF0 : Hid (BFr base b w (wr.alloc (Obj.cells #[.string (st key), .string (st val)] 142))) := Lib.hid (HFR.out.le ((Le.refl wr).alloc _) hB)
      have HB0 : Hid (Ln base b (wr.alloc (Obj.cells #[.string (st key), .string (st val)] 142)) acc) := Lib.hid (HLN.out.le ((Le.refl wr).alloc _))
      have hne : wr.heap.size ≠ b := by omega
      go_upto_if 26 with fail
      generalize hbk : decide (0 < k) = bk
      have HBK := Lib.hid hbk
      clear hbk
      go_cut [] from 27 to 29 (fun wc => Ln base b wc (acc ++ (if 0 < k then [sep] else [])) ∧ BFr base b w wc ∧ wc.heap[wr.heap.size]? = some (Obj.cells #[.string (st key), .string (st val)] 142))
      case first =>
        cases bk
        case true =>
          have HK0 : Hid (0 < k) := Lib.hid (of_decide_eq_true HBK.out)
          go_wp2_with fail
          refine (lineW_c base b _ (st [sep]) acc HB0.out hb (Nat.le_trans hB HF0.out.1.size) (by have := HTL.out; simp only [List.length_append, st_size, List.length_cons, List.length_nil] at this ⊢; omega)).mono ?_
          rintro e w1 ⟨rfl, hb1, hf1⟩
          have HB1 := Lib.hid hb1
          have HF1 := Lib.hid (HF0.out.trans hf1)
          have HH1 := Lib.hid (hf1.heap HH0.out (by decide) hne)
          clear hb1 hf1
          go_wp2
          go_meet
          case rel => exact ⟨by rw [if_pos HK0.out]; have := HB1.out; rw [bs_st] at this; exact this, HF1.out, HH1.out⟩
        case false =>
          have HK0 : Hid (¬ 0 < k) := Lib.hid (of_decide_eq_false HBK.out)
          go_wp2
          go_meet
          case rel => exact ⟨by rw [if_neg HK0.out, List.append_nil]; exact HB0.out, HF0.out, HH0.out⟩
      rename World => wq
      obtain ⟨hb2, hf2, hh2⟩ := hcut
      rw [← List.append_assoc] at HSN
      have htl : (acc ++ (if 0 < k then [sep] else [])).length + (kvR (key, val)).length ≤ 1099511627776 := by have := HTL.out; simp only [List.length_append] at this ⊢; omega
      generalize acc ++ (if 0 < k then [sep] else []) = q at hb2 HSN htl
      have HB2 := Lib.hid hb2
      have HF2 := Lib.hid hf2
      have HH2 := Lib.hid hh2
      have HQ := Lib.hid htl
      clear hb2 hf2 htl HB0 HF0 HH0 HLN HFR HBK HTL
      have c0 : wq.cell? ⟨wr.heap.size, 0, none⟩ = some (.string (st key)) := cell_cells hh2 0
      have c1 : wq.cell? ⟨wr.heap.size, 1, none⟩ = some (.string (st val)) := cell_cells hh2 1
      clear hh2 d1 d2
      by_cases hv0 : val = []
      · subst hv0
        have HT : Hid (kvR (key, []) = key) := Lib.hid (by unfold kvR; simp)
        have hv1 : ((st []).toList == ([] : List UInt8)) = true := by rw [toList_beq, bs_st]; rfl
        have hv2 : (st []).toList = [] := by rw [st_toList]
        go_wp2_with fail
        refine (lineW_c base b _ (st key) (q) HB2.out hb (Nat.le_trans hB HF2.out.1.size) (by have hz := HQ.out; have hk := HT.out; rw [hk] at hz; simp only [List.length_append, List.length_cons, List.length_nil, st_size, bs_st] at hz ⊢; (try simp only [bs, ByteArray.size, List.size_toArray, List.length_cons, List.length_nil]); (try simp); omega)).mono ?_
        rintro e w3 ⟨rfl, hb3, hf3⟩
        have HB3 := Lib.hid hb3
        have HF3 := Lib.hid (HF2.out.trans hf3)
        have hh3 := hf3.heap HH2.out (by decide) hne
        have HH3 := Lib.hid hh3
        have c0 : w3.cell? ⟨wr.heap.size, 0, none⟩ = some (.string (st key)) := cell_cells hh3 0
        have c1 : w3.cell? ⟨wr.heap.size, 1, none⟩ = some (.string (st [])) := cell_cells hh3 1
        clear hb3 hf3 hh3
        go_wp2
        go_roundg (gk - 1)
        case measure => omega
        case rel => exact ⟨k + 1, by omega, by go_num, by go_num, by rw [HSN.out, HT.out]; have := HB3.out; rw [bs_st] at this; exact this, HF3.out⟩
      have hv1 : ((st val).toList == ([] : List UInt8)) = false := by rw [toList_beq, bs_st]; simpa using hv0
      have hv2 : ((st val).toList.isEmpty) = false := by rw [st_isEmpty]; simpa using hv0
      by_cases hany : val.any bl2 = true
      · have HT : Hid (kvR (key, val) = key ++ 61 :: 34 :: (val ++ [34])) := Lib.hid (by unfold kvR; rw [if_pos hany])
        go_wp2_with fail
        refine (lineW_c base b _ (st key) (q) HB2.out hb (Nat.le_trans hB HF2.out.1.size) (by have hz := HQ.out; have hk := HT.out; rw [hk] at hz; simp only [List.length_append, List.length_cons, List.length_nil, st_size, bs_st] at hz ⊢; (try simp only [bs, ByteArray.size, List.size_toArray, List.length_cons, List.length_nil]); (try simp); omega)).mono ?_
        rintro e w3 ⟨rfl, hb3, hf3⟩
        have HB3 := Lib.hid hb3
        have HF3 := Lib.hid (HF2.out.trans hf3)
        have hh3 := hf3.heap HH2.out (by decide) hne
        have HH3 := Lib.hid hh3
        have c0 : w3.cell? ⟨wr.heap.size, 0, none⟩ = some (.string (st key)) := cell_cells hh3 0
        have c1 : w3.cell? ⟨wr.heap.size, 1, none⟩ = some (.string (st val)) := cell_cells hh3 1
        clear hb3 hf3 hh3
        go_wp2_with fail
        refine (contAny_c (st val) _ (by rw [st_size]; exact HKV.out.2)).mono ?_
        rw [bs_st, hany]
        rintro e w4 ⟨rfl, hle4⟩
        have HB4 := Lib.hid (HB3.out.le hle4)
        have HF4 := Lib.hid (HF3.out.le hle4 hB)
        have hh4 := hle4.heap HH3.out
        have HH4 := Lib.hid hh4
        have c0 : w4.cell? ⟨wr.heap.size, 0, none⟩ = some (.string (st key)) := cell_cells hh4 0
        have c1 : w4.cell? ⟨wr.heap.size, 1, none⟩ = some (.string (st val)) := cell_cells hh4 1
        clear hle4 hh4 hany
        go_wp2_with fail
        refine (lineW_c base b _ ⟨#[61, 34]⟩ (q ++ bs (st key)) HB4.out hb (Nat.le_trans hB HF4.out.1.size) (by have hz := HQ.out; have hk := HT.out; rw [hk] at hz; simp only [List.length_append, List.length_cons, List.length_nil, st_size, bs_st] at hz ⊢; (try simp only [bs, ByteArray.size, List.size_toArray, List.length_cons, List.length_nil]); (try simp); omega)).mono ?_
        rintro e w5 ⟨rfl, hb5, hf5⟩
        have HB5 := Lib.hid hb5
        have HF5 := Lib.hid (HF4.out.trans hf5)
        have hh5 := hf5.heap HH4.out (by decide) hne
        have HH5 := Lib.hid hh5
        have c0 : w5.cell? ⟨wr.heap.size, 0, none⟩ = some (.string (st key)) := cell_cells hh5 0
        have c1 : w5.cell? ⟨wr.heap.size, 1, none⟩ = some (.string (st val)) := cell_cells hh5 1
        clear hb5 hf5 hh5
        go_wp2_with fail
        refine (lineW_c base b _ (st val) (q ++ bs (st key) ++ bs ⟨#[61, 34]⟩) HB5.out hb (Nat.le_trans hB HF5.out.1.size) (by have hz := HQ.out; have hk := HT.out; rw [hk] at hz; simp only [List.length_append, List.length_cons, List.length_nil, st_size, bs_st] at hz ⊢; (try simp only [bs, ByteArray.size, List.size_toArray, List.length_cons, List.length_nil]); (try simp); omega)).mono ?_
        rintro e w6 ⟨rfl, hb6, hf6⟩
        have HB6 := Lib.hid hb6
        have HF6 := Lib.hid (HF5.out.trans hf6)
        have hh6 := hf6.heap HH5.out (by decide) hne
        have HH6 := Lib.hid hh6
        have c0 : w6.cell? ⟨wr.heap.size, 0, none⟩ = some (.string (st key)) := cell_cells hh6 0
        have c1 : w6.cell? ⟨wr.heap.size, 1, none⟩ = some (.string (st val)) := cell_cells hh6 1
        clear hb6 hf6 hh6
        go_wp2_with fail
        refine (lineW_c base b _ ⟨#[34]⟩ (q ++ bs (st key) ++ bs ⟨#[61, 34]⟩ ++ bs (st val)) HB6.out hb (Nat.le_trans hB HF6.out.1.size) (by have hz := HQ.out; have hk := HT.out; rw [hk] at hz; simp only [List.length_append, List.length_cons, List.length_nil, st_size, bs_st] at hz ⊢; (try simp only [bs, ByteArray.size, List.size_toArray, List.length_cons, List.length_nil]); (try simp); omega)).mono ?_
        rintro e w7 ⟨rfl, hb7, hf7⟩
        have HB7 := Lib.hid hb7
        have HF7 := Lib.hid (HF6.out.trans hf7)
        have hh7 := hf7.heap HH6.out (by decide) hne
        have HH7 := Lib.hid hh7
        have c0 : w7.cell? ⟨wr.heap.size, 0, none⟩ = some (.string (st key)) := cell_cells hh7 0
        have c1 : w7.cell? ⟨wr.heap.size, 1, none⟩ = some (.string (st val)) := cell_cells hh7 1
        clear hb7 hf7 hh7
        go_wp2
        go_roundg (gk - 1)
        case measure => omega
        case rel => exact ⟨k + 1, by omega, by go_num, by go_num, by rw [HSN.out, HT.out]; exact (show q ++ bs (st key) ++ bs ⟨#[61, 34]⟩ ++ bs (st val) ++ bs ⟨#[34]⟩ = q ++ (key ++ 61 :: 34 :: (val ++ [34])) from by rw [bs_st, bs_st]; simp [bs]) ▸ HB7.out, HF7.out⟩
      · have hany : val.any bl2 = false := by simpa using hany
        have HT : Hid (kvR (key, val) = key ++ 61 :: val) := Lib.hid (by unfold kvR; rw [hany, if_neg (by simp), if_neg hv0])
        go_wp2_with fail
        refine (lineW_c base b _ (st key) (q) HB2.out hb (Nat.le_trans hB HF2.out.1.size) (by have hz := HQ.out; have hk := HT.out; rw [hk] at hz; simp only [List.length_append, List.length_cons, List.length_nil, st_size, bs_st] at hz ⊢; (try simp only [bs, ByteArray.size, List.size_toArray, List.length_cons, List.length_nil]); (try simp); omega)).mono ?_
        rintro e w3 ⟨rfl, hb3, hf3⟩
        have HB3 := Lib.hid hb3
        have HF3 := Lib.hid (HF2.out.trans hf3)
        have hh3 := hf3.heap HH2.out (by decide) hne
        have HH3 := Lib.hid hh3
        have c0 : w3.cell? ⟨wr.heap.size, 0, none⟩ = some (.string (st key)) := cell_cells hh3 0
        have c1 : w3.cell? ⟨wr.heap.size, 1, none⟩ = some (.string (st val)) := cell_cells hh3 1
        clear hb3 hf3 hh3
        go_wp2_with fail
        refine (contAny_c (st val) _ (by rw [st_size]; exact HKV.out.2)).mono ?_
        rw [bs_st, hany]
        rintro e w4 ⟨rfl, hle4⟩
        have HB4 := Lib.hid (HB3.out.le hle4)
        have HF4 := Lib.hid (HF3.out.le hle4 hB)
        have hh4 := hle4.heap HH3.out
        have HH4 := Lib.hid hh4
        have c0 : w4.cell? ⟨wr.heap.size, 0, none⟩ = some (.string (st key)) := cell_cells hh4 0
        have c1 : w4.cell? ⟨wr.heap.size, 1, none⟩ = some (.string (st val)) := cell_cells hh4 1
        clear hle4 hh4 hany
        go_wp2_with fail
        refine (lineW_c base b _ ⟨#[61]⟩ (q ++ bs (st key)) HB4.out hb (Nat.le_trans hB HF4.out.1.size) (by have hz := HQ.out; have hk := HT.out; rw [hk] at hz; simp only [List.length_append, List.length_cons, List.length_nil, st_size, bs_st] at hz ⊢; (try simp only [bs, ByteArray.size, List.size_toArray, List.length_cons, List.length_nil]); (try simp); omega)).mono ?_
        rintro e w5 ⟨rfl, hb5, hf5⟩
        have HB5 := Lib.hid hb5
        have HF5 := Lib.hid (HF4.out.trans hf5)
        have hh5 := hf5.heap HH4.out (by decide) hne
        have HH5 := Lib.hid hh5
        have c0 : w5.cell? ⟨wr.heap.size, 0, none⟩ = some (.string (st key)) := cell_cells hh5 0
        have c1 : w5.cell? ⟨wr.heap.size, 1, none⟩ = some (.string (st val)) := cell_cells hh5 1
        clear hb5 hf5 hh5
        go_wp2_with fail
        refine (lineW_c base b _ (st val) (q ++ bs (st key) ++ bs ⟨#[61]⟩) HB5.out hb (Nat.le_trans hB HF5.out.1.size) (by have hz := HQ.out; have hk := HT.out; rw [hk] at hz; simp only [List.length_append, List.length_cons, List.length_nil, st_size, bs_st] at hz ⊢; (try simp only [bs, ByteArray.size, List.size_toArray, List.length_cons, List.length_nil]); (try simp); omega)).mono ?_
        rintro e w6 ⟨rfl, hb6, hf6⟩
        have HB6 := Lib.hid hb6
        have HF6 := Lib.hid (HF5.out.trans hf6)
        have hh6 := hf6.heap HH5.out (by decide) hne
        have HH6 := Lib.hid hh6
        have c0 : w6.cell? ⟨wr.heap.size, 0, none⟩ = some (.string (st key)) := cell_cells hh6 0
        have c1 : w6.cell? ⟨wr.heap.size, 1, none⟩ = some (.string (st val)) := cell_cells hh6 1
        clear hb6 hf6 hh6
        go_wp2
        go_roundg (gk - 1)
        case measure => omega
        case rel => exact ⟨k + 1, by omega, by go_num, by go_num, by rw [HSN.out, HT.out]; exact (show q ++ bs (st key) ++ bs ⟨#[61]⟩ ++ bs (st val) = q ++ (key ++ 61 :: val) from by rw [bs_st, bs_st]; simp [bs]) ▸ HB6.out, HF6.out⟩
    · have e : k = l.length := by omega
      have HX : Hid (Ln base b wr (psText l sep)) := Lib.hid (by have := HLN.out; rw [e, psP_all] at this; exact this)
      clear e
      go_wp2
      go_end0
      exact ⟨rfl, HX.out, HFR.out⟩
end Go.Proofs.YtgelnjcjpkklbaaGreatDoor
