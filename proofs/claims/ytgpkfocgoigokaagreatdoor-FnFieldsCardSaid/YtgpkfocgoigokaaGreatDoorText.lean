/- Contracts: zzIndexAny, zzContainsAny over a blank and a tab. Contracts: the text of parameters. -/
import Derived.Test.YtgpkfocgoigokaaGreatDoorLow
import Derived.Test.YtgpkfocgoigokaaGreatDoorPar
set_option linter.unusedVariables false
set_option linter.unusedSimpArgs false
namespace Go.Proofs.YtgpkfocgoigokaaGreatDoor
open Go.RowKit

def bl2 (c : UInt8) : Bool := c == 32 || c == 9
theorem bl2_hi (x : UInt8) (h : 128 ≤ x.toNat) : bl2 x = false := by
  have n3 : x ≠ 32 := by rintro rfl; revert h; decide
  have n4 : x ≠ 9 := by rintro rfl; revert h; decide
  simp [bl2, n3, n4]
theorem next_fix {P : Program} {wr : World} {k : Nat} (q : Nat) (c : Nat) (s : ByteArray) (h : Utf8.decode s q = (c, 1)) (hq : q < s.size) (hk : wr.heap[k]? = some (.stringIter s q)) :
    (∀ ty, (Instr.next (.pointer (some ⟨k, 0, none⟩)) true ty).run P wr = .ok (.tuple #[.bool true, .int .i64 q, .int .i32 c]) (wr.iterAt k s (q + 1))) := fun ty => by
  have := Lib.run_next_any_at (P := P) wr _ s q ty hk hq
  rw [h] at this
  exact this

set_option maxRecDepth 4000 in
set_option maxHeartbeats 2000000 in
theorem idxAny_c (s : ByteArray) (w : World) (hs : s.size ≤ 1099511627776) : Calls Tryz.prog 62 #[.string s, .string ⟨#[32, 9]⟩] w fun e w' =>
    ∃ r : Int, e = .returned (.int .i64 r) ∧ (decide (0 ≤ r)) = (bs s).any bl2 ∧ Le w w' := by
  have HL := Lib.hid (bs_len s)
  go_enter Tryz.func62, Tryz.ntmps62
  go_wp2
  go_loopg [] (s.size) (fun n wr => ∃ p : Nat, n + p = s.size ∧ Le w wr ∧ wr.heap[w.heap.size]? = some (.stringIter s p) ∧ ((bs s).take p).all (fun c => !bl2 c) = true)
  case atStart => exact ⟨0, by omega, (Le.refl w).iter s 0, World.iter_heap _ _ _, rfl⟩
  case round =>
    obtain ⟨p, hn, hle, hit, hq⟩ := hrel
    have HQ := Lib.hid hq
    have HLE := Lib.hid hle
    have HN : gk + p ≤ s.size ∧ s.size ≤ gk + p := by omega
    clear hn hq hle
    by_cases hlt : p < s.size
    · obtain ⟨c, d, W1, hnx, hst, hit1, hW1⟩ := next_step (P := Tryz.prog) hit hlt
      have HLE1 := Lib.hid (hW1 ▸ HLE.out.iterAt (Nat.le_refl _) s (p + d) : Le w W1)
      have HST := Lib.hid hst
      have HS2 : 1 ≤ d ∧ p + d ≤ s.size ∧ 0 ≤ c ∧ c ≤ 1114111 := ⟨hst.1, hst.2.1, hst.2.2.1, hst.2.2.2.1⟩
      have HIT1 := Lib.hid hit1
      clear hW1 hst hit hit1
      go_wp2
      go_loopg [] 2 (fun n wr => ∃ q : Nat, n + q = 2 ∧ Le W1 wr ∧ wr.heap[W1.heap.size]? = some (.stringIter ⟨#[32, 9]⟩ q) ∧ (1 ≤ q → c ≠ 32) ∧ (2 ≤ q → c ≠ 9))
      case atStart => exact ⟨0, by omega, (Le.refl W1).iter _ 0, World.iter_heap _ _ _, by simp, by simp⟩
      case round =>
        obtain ⟨q, hn, hle, hit, hq1, hq2⟩ := hrel
        have HLE2 := Lib.hid hle
        have HQ1 := Lib.hid hq1
        have HQ2 := Lib.hid hq2
        clear hq1 hq2 hle
        rcases (by omega : q = 0 ∨ q = 1 ∨ q = 2) with rfl | rfl | rfl
        · have HG : 2 ≤ gk := by omega
          clear hn
          have hnx := next_fix (P := Tryz.prog) 0 32 ⟨#[32, 9]⟩ (by rfl) (by decide) hit
          have HIT2 := Lib.hid (Lib.iterAt_heap _ _ _ _ (0 + 1) hit)
          have HLE3 : Hid (Le W1 (wr.iterAt W1.heap.size ⟨#[32, 9]⟩ (0 + 1))) := Lib.hid (HLE2.out.iterAt (Nat.le_refl _) _ _)
          generalize wr.iterAt W1.heap.size ⟨#[32, 9]⟩ (0 + 1) = W3 at hnx HIT2 HLE3
          clear hit
          by_cases hc : c = 32
          · subst hc
            obtain ⟨hp, hx⟩ := scan_hit HST.out 32 (by decide) rfl
            go_wp2
            go_ret
            refine ⟨p, rfl, ?_, HLE1.out.trans HLE3.out⟩
            rw [show decide ((0 : Int) ≤ (p : Int)) = true from by simp]
            exact (List.any_eq_true.2 ⟨(bs s)[p], List.getElem_mem hp, by rw [hx]; rfl⟩).symm
          · have ec : (c == 32) = false := by simpa using hc
            have HC := Lib.hid hc
            clear hc
            go_wp2
            go_roundg 1
            case measure => omega
            case rel => exact ⟨0 + 1, by omega, HLE3.out, HIT2.out, fun _ => HC.out, by omega⟩
        · have HG : 1 ≤ gk := by omega
          clear hn
          have hnx := next_fix (P := Tryz.prog) 1 9 ⟨#[32, 9]⟩ (by rfl) (by decide) hit
          have HIT2 := Lib.hid (Lib.iterAt_heap _ _ _ _ (1 + 1) hit)
          have HLE3 : Hid (Le W1 (wr.iterAt W1.heap.size ⟨#[32, 9]⟩ (1 + 1))) := Lib.hid (HLE2.out.iterAt (Nat.le_refl _) _ _)
          generalize wr.iterAt W1.heap.size ⟨#[32, 9]⟩ (1 + 1) = W3 at hnx HIT2 HLE3
          clear hit
          by_cases hc : c = 9
          · subst hc
            obtain ⟨hp, hx⟩ := scan_hit HST.out 9 (by decide) rfl
            go_wp2
            go_ret
            refine ⟨p, rfl, ?_, HLE1.out.trans HLE3.out⟩
            rw [show decide ((0 : Int) ≤ (p : Int)) = true from by simp]
            exact (List.any_eq_true.2 ⟨(bs s)[p], List.getElem_mem hp, by rw [hx]; rfl⟩).symm
          · have ec : (c == 9) = false := by simpa using hc
            have HC := Lib.hid hc
            clear hc
            go_wp2
            go_roundg 0
            case measure => omega
            case rel => exact ⟨1 + 1, by omega, HLE3.out, HIT2.out, fun _ => HQ1.out (by omega), fun _ => HC.out⟩
        · have hnx := fun ty => Lib.run_next_end_at (P := Tryz.prog) wr _ ⟨#[32, 9]⟩ 2 ty hit (by decide)
          have hF : Hid (((bs s).take (p + d)).all (fun c => !bl2 c) = true) := scan_next (q := bl2) bl2_hi HST.out HQ.out (fun x hx => by
            have n1 : x ≠ 32 := by rintro rfl; exact HQ1.out (by omega) hx
            have n2 : x ≠ 9 := by rintro rfl; exact HQ2.out (by omega) hx
            simp [bl2, n1, n2])
          have HIT4 := Lib.hid (HLE2.out.heap HIT1.out)
          have HLE4 := Lib.hid (HLE1.out.trans HLE2.out)
          clear hit hn
          go_wp2
          go_roundg (s.size - (p + d))
          case measure => omega
          case rel => exact ⟨p + d, by omega, HLE4.out, HIT4.out, hF.out⟩
    · have hnx := fun ty => Lib.run_next_end_at (P := Tryz.prog) wr _ s p ty hit hlt
      have hall : Hid ((bs s).all (fun c => !bl2 c) = true) := by
        have h1 := HQ.out
        rw [List.take_of_length_le (by rw [HL.out]; omega)] at h1
        exact h1
      clear hit
      go_wp2
      go_ret
      refine ⟨_, rfl, ?_, HLE.out⟩
      have h1 := hall.out
      cases h2 : (bs s).any bl2 with
      | false => rfl
      | true =>
        obtain ⟨x, hx, hx2⟩ := List.any_eq_true.1 h2
        have := List.all_eq_true.1 h1 x hx
        simp [hx2] at this

theorem contAny_c (s : ByteArray) (w : World) (hs : s.size ≤ 1099511627776) : Calls Tryz.prog 53 #[.string s, .string ⟨#[32, 9]⟩] w fun e w' =>
    e = .returned (.bool ((bs s).any bl2)) ∧ Le w w' := by
  go_enter Tryz.func53, Tryz.ntmps53
  go_wp2_with fail
  refine (idxAny_c s _ hs).mono ?_
  rintro e w' ⟨r, rfl, hr, hle⟩
  have HR := Lib.hid hr
  have HLE := Lib.hid hle
  clear hr hle
  go_wp2
  go_ret
  exact ⟨by rw [← HR.out]; rfl, HLE.out⟩
end Go.Proofs.YtgpkfocgoigokaaGreatDoor
set_option linter.unusedVariables false
set_option linter.unusedSimpArgs false
namespace Go.Proofs.YtgpkfocgoigokaaGreatDoor
open Go.RowKit

/-- one parameter as it is written, the sign ahead -/
def kvText (sep : UInt8) (x : Tx × Tx) : Tx := sep :: (x.1 ++ (if x.2.any bl2 = true then 61 :: 34 :: (x.2 ++ [34]) else if x.2 = [] then [] else 61 :: x.2))
def psText (l : KVs) (sep : UInt8) : Tx := (l.flatMap (kvText sep)).drop 1
theorem flat_take_le (l : KVs) (sep : UInt8) (k : Nat) (h : k < l.length) : ((l.take k).flatMap (kvText sep)).length + (kvText sep l[k]).length ≤ (l.flatMap (kvText sep)).length := by
  induction l generalizing k with
  | nil => simp at h
  | cons x r ih =>
    cases k with
    | zero => simp
    | succ k =>
      have := ih k (by simpa using h)
      simp only [List.take_succ_cons, List.flatMap_cons, List.length_append, List.getElem_cons_succ]
      omega
theorem flat_snoc (l : KVs) (sep : UInt8) (k : Nat) (h : k < l.length) : (l.take (k + 1)).flatMap (kvText sep) = (l.take k).flatMap (kvText sep) ++ kvText sep l[k] := by
  rw [List.take_succ_eq_append_getElem h, List.flatMap_append]; simp
theorem BFr.le {B b : Nat} {u v w : World} (h : BFr B b u v) (k : Le v w) (hB : B ≤ u.heap.size) : BFr B b u w :=
  ⟨Below.trans h.1 (k.mono (Nat.le_trans hB h.1.size)), h.2.trans (k.oth _ _)⟩
theorem BFr.refl (B b : Nat) (w : World) : BFr B b w w := ⟨Below.refl _ _, Lib.OthersKept.refl _ _ _⟩
theorem BFr.trans {B b : Nat} {u v w : World} (h : BFr B b u v) (k : BFr B b v w) : BFr B b u w := ⟨Below.trans h.1 k.1, h.2.trans k.2⟩
/-- a block of cells of another type stands -/
theorem BFr.heap {B b : Nat} {v w : World} (h : BFr B b v w) {k : Nat} {cs : Array Value} {T : TypeId} {fz : Nat × Nat} (hk : v.heap[k]? = some (.cells cs T fz)) (hT : T ≠ 5) (hb : k ≠ b) : w.heap[k]? = some (.cells cs T fz) :=
  h.2 k _ hk (fun e => hb (by injection e)) (fun c f e => by injection e with _ e; exact hT e)

set_option maxRecDepth 4000 in
set_option maxHeartbeats 4000000 in
theorem toString_c (w : World) (v : Value) (l : KVs) (sep : UInt8) (hv : Hp w v l) (hlen : (l.flatMap (kvText sep)).length ≤ 1099511627776) :
    Calls Tryz.prog 42 #[v, .int .u8 sep.toNat] w fun e w' => e = .returned (.string (st (psText l sep))) ∧ Le w w' := by
  obtain ⟨A, c, rfl, hc1, hc2, hl, hm, hr⟩ := hv
  have HM := Lib.hid hm
  have HLEN := Lib.hid hlen
  clear hm hlen
  by_cases h0 : l.length = 0
  · have hb0 : ((l.length : Int) == 0) = true := by simp [h0]
    obtain rfl : l = [] := List.eq_nil_of_length_eq_zero h0
    clear hr
    go_enter Tryz.func42, Tryz.ntmps42
    go_wp2
    go_ret
    exact ⟨rfl, Le.refl w⟩
  have hb0 : ((l.length : Int) == 0) = false := beq_eq_false_iff_ne.2 (by omega)
  go_enter Tryz.func42, Tryz.ntmps42
  go_wp2
  go_loopg [13] (l.length) (fun n i wr => ∃ k : Nat, n + k = l.length ∧ i = .int .i64 k ∧ Le w wr ∧ Bld w.heap.size w.heap.size ((l.take k).flatMap (kvText sep)) wr)
  case atStart => exact ⟨0, by omega, rfl, (Le.refl w).alloc _, by simpa using bld_new w⟩
  case round =>
    obtain ⟨k, hn, rfl, hle, hbd⟩ := hrel
    have HLE := Lib.hid hle
    have HBD := Lib.hid hbd
    have HN : gk + k ≤ l.length ∧ l.length ≤ gk + k := by omega
    clear hn hbd
    by_cases hlt : k < l.length
    · obtain ⟨g, o, rfl, hg, hcells⟩ := hr (by omega)
      have d1 := Le.cell hle (hcells k hlt).1
      have d2 := Le.cell hle (hcells k hlt).2
      have HTL := Lib.hid (Nat.le_trans (flat_take_le l sep k hlt) HLEN.out)
      have HSN := Lib.hid (flat_snoc l sep k hlt)
      clear hcells hg hr hle
      obtain ⟨key, val, hx⟩ : ∃ key val, l[k] = (key, val) := ⟨_, _, rfl⟩
      rw [hx] at d1 d2 HTL HSN
      have hkv := HM.out l[k] (List.getElem_mem hlt)
      rw [hx] at hkv
      have HKV := Lib.hid hkv
      clear hkv
      have hwl := HBD.out.lt
      generalize hacc : (l.take k).flatMap (kvText sep) = acc at HBD HTL HSN
      clear hacc hx
      have hh0 : (wr.alloc (Obj.cells #[.string (st key), .string (st val)] 102)).heap[wr.heap.size]? = some (Obj.cells #[.string (st key), .string (st val)] 102) := heap_alloc_new wr _
      have HL0 : Hid (Le w (wr.alloc (Obj.cells #[.string (st key), .string (st val)] 102))) := Lib.hid (HLE.out.alloc _)
      have HB0 : Hid (Bld w.heap.size w.heap.size acc (wr.alloc (Obj.cells #[.string (st key), .string (st val)] 102))) := Lib.hid (HBD.out.le ((Le.refl wr).alloc _))
      have HH0 := Lib.hid hh0
      clear hh0
      have hh0 := HH0.out
      go_wp2_with fail
      refine (wb_c _ _ acc _ sep _ HB0.out rfl (by have := HTL.out; simp only [kvText, List.length_append, List.length_cons, List.length_nil, bs_st] at this ⊢; omega)).mono ?_
      rintro e w1 ⟨rfl, hb1, hf1⟩
      have hh1 := hf1.heap hh0 (by decide) (by omega)
      have HB1 := Lib.hid hb1
      have HL1 : Hid (Le w w1) := Lib.hid (Below.trans HL0.out hf1.1)
      have c0 : w1.cell? ⟨wr.heap.size, 0, none⟩ = some (.string (st key)) := cell_cells hh1 0
      have c1 : w1.cell? ⟨wr.heap.size, 1, none⟩ = some (.string (st val)) := cell_cells hh1 1
      have HH1 := Lib.hid hh1
      clear hb1 hf1 hh1
      clear HH0
      have hh1 := HH1.out
      go_wp2_with fail
      refine (ws_c _ _ (acc ++ [sep]) (st key) _ HB1.out (by have := HTL.out; simp only [kvText, List.length_append, List.length_cons, List.length_nil, st_size, bs_st] at this ⊢; omega)).mono ?_
      rintro e w2 ⟨rfl, hb2, hf2⟩
      have hh2 := hf2.heap hh1 (by decide) (by omega)
      have HB2 := Lib.hid hb2
      have HL2 : Hid (Le w w2) := Lib.hid (Below.trans HL1.out hf2.1)
      have c0 : w2.cell? ⟨wr.heap.size, 0, none⟩ = some (.string (st key)) := cell_cells hh2 0
      have c1 : w2.cell? ⟨wr.heap.size, 1, none⟩ = some (.string (st val)) := cell_cells hh2 1
      have HH2 := Lib.hid hh2
      clear hb2 hf2 hh2
      have hh2 := HH2.out
      go_wp2_with fail
      refine (contAny_c (st val) _ (by rw [st_size]; exact HKV.out.2)).mono ?_
      rw [bs_st]
      rintro e w3 ⟨rfl, hle3⟩
      have HL3 : Hid (Le w w3) := Lib.hid (HL2.out.trans hle3)
      have HB3 := Lib.hid (HB2.out.le hle3)
      have hh3 := hle3.heap hh2
      have c0 : w3.cell? ⟨wr.heap.size, 0, none⟩ = some (.string (st key)) := cell_cells hh3 0
      have c1 : w3.cell? ⟨wr.heap.size, 1, none⟩ = some (.string (st val)) := cell_cells hh3 1
      have HH3 := Lib.hid hh3
      clear hle3 hh3 hh2
      by_cases hany : val.any bl2 = true
      · rw [hany]
        have HTL0 := HTL
        have hT : Hid (kvText sep (key, val) = sep :: (key ++ 61 :: 34 :: (val ++ [34]))) := Lib.hid (by unfold kvText; rw [if_pos hany])
        rw [hT.out] at HTL HSN
        clear hany HTL0
        have hh3 := HH3.out
        go_wp2_with fail
        refine (ws_c _ _ (acc ++ [sep] ++ bs (st key)) ⟨#[61, 34]⟩ _ HB3.out (by have := HTL.out; simp only [kvText, List.length_append, List.length_cons, List.length_nil, st_size, bs_st] at this ⊢; simp only [ByteArray.size]; simp; omega)).mono ?_
        rintro e w4 ⟨rfl, hb4, hf4⟩
        have hh4 := hf4.heap hh3 (by decide) (by omega)
        have HB4 := Lib.hid hb4
        have HL4 : Hid (Le w w4) := Lib.hid (Below.trans HL3.out hf4.1)
        have c0 : w4.cell? ⟨wr.heap.size, 0, none⟩ = some (.string (st key)) := cell_cells hh4 0
        have c1 : w4.cell? ⟨wr.heap.size, 1, none⟩ = some (.string (st val)) := cell_cells hh4 1
        have HH4 := Lib.hid hh4
        clear hb4 hf4 hh4
        have hh4 := HH4.out
        go_wp2_with fail
        refine (ws_c _ _ (acc ++ [sep] ++ bs (st key) ++ bs ⟨#[61, 34]⟩) (st val) _ HB4.out (by have := HTL.out; simp only [kvText, List.length_append, List.length_cons, List.length_nil, st_size, bs_st] at this ⊢; simp only [bs]; simp; omega)).mono ?_
        rintro e w5 ⟨rfl, hb5, hf5⟩
        have hh5 := hf5.heap hh4 (by decide) (by omega)
        have HB5 := Lib.hid hb5
        have HL5 : Hid (Le w w5) := Lib.hid (Below.trans HL4.out hf5.1)
        have c0 : w5.cell? ⟨wr.heap.size, 0, none⟩ = some (.string (st key)) := cell_cells hh5 0
        have c1 : w5.cell? ⟨wr.heap.size, 1, none⟩ = some (.string (st val)) := cell_cells hh5 1
        have HH5 := Lib.hid hh5
        clear hb5 hf5 hh5
        have hh5 := HH5.out
        go_wp2_with fail
        refine (wb_c _ _ (acc ++ [sep] ++ bs (st key) ++ bs ⟨#[61, 34]⟩ ++ bs (st val)) _ 34 _ HB5.out rfl (by have := HTL.out; simp only [kvText, List.length_append, List.length_cons, List.length_nil, bs_st] at this ⊢; simp only [bs]; simp; omega)).mono ?_
        rintro e w6 ⟨rfl, hb6, hf6⟩
        have hh6 := hf6.heap hh5 (by decide) (by omega)
        have HB6 := Lib.hid hb6
        have HL6 : Hid (Le w w6) := Lib.hid (Below.trans HL5.out hf6.1)
        have c0 : w6.cell? ⟨wr.heap.size, 0, none⟩ = some (.string (st key)) := cell_cells hh6 0
        have c1 : w6.cell? ⟨wr.heap.size, 1, none⟩ = some (.string (st val)) := cell_cells hh6 1
        have HH6 := Lib.hid hh6
        clear hb6 hf6 hh6
        clear HH5
        go_wp2
        go_roundg (gk - 1)
        case measure => omega
        case rel => exact ⟨k + 1, by omega, by go_num, HL6.out, by rw [HSN.out]; exact (show acc ++ [sep] ++ bs (st key) ++ bs ⟨#[61, 34]⟩ ++ bs (st val) ++ [34] = acc ++ sep :: (key ++ 61 :: 34 :: (val ++ [34])) from by rw [bs_st, bs_st]; simp [bs]) ▸ HB6.out⟩
      · rw [show val.any bl2 = false from by simpa using hany]
        by_cases hv0 : val = []
        · subst hv0
          have hT : Hid (kvText sep (key, []) = sep :: key) := Lib.hid (by unfold kvText; simp)
          have hv1 : ((st []).toList == ([] : List UInt8)) = true := by rw [toList_beq, bs_st]; rfl
          have hv2 : (st []).toList = [] := by rw [st_toList]
          rw [hT.out] at HTL HSN
          clear hany
          go_wp2
          go_roundg (gk - 1)
          case measure => omega
          case rel => exact ⟨k + 1, by omega, by go_num, HL3.out, by rw [HSN.out]; exact (show acc ++ [sep] ++ bs (st key) = acc ++ sep :: key from by rw [bs_st]; simp) ▸ HB3.out⟩
        · have hT : Hid (kvText sep (key, val) = sep :: (key ++ 61 :: val)) := Lib.hid (by unfold kvText; rw [if_neg hany, if_neg hv0])
          have hv1 : ((st val).toList == ([] : List UInt8)) = false := by rw [toList_beq, bs_st]; simpa using hv0
          rw [hT.out] at HTL HSN
          clear hany hv0
          have hh3 := HH3.out
          go_wp2_with fail
          refine (wb_c _ _ (acc ++ [sep] ++ bs (st key)) _ 61 _ HB3.out rfl (by have := HTL.out; simp only [kvText, List.length_append, List.length_cons, List.length_nil, bs_st] at this ⊢; omega)).mono ?_
          rintro e w4 ⟨rfl, hb4, hf4⟩
          have hh4 := hf4.heap hh3 (by decide) (by omega)
          have HB4 := Lib.hid hb4
          have HL4 : Hid (Le w w4) := Lib.hid (Below.trans HL3.out hf4.1)
          have c0 : w4.cell? ⟨wr.heap.size, 0, none⟩ = some (.string (st key)) := cell_cells hh4 0
          have c1 : w4.cell? ⟨wr.heap.size, 1, none⟩ = some (.string (st val)) := cell_cells hh4 1
          have HH4 := Lib.hid hh4
          clear hb4 hf4 hh4
          clear HH3
          have hh4 := HH4.out
          go_wp2_with fail
          refine (ws_c _ _ (acc ++ [sep] ++ bs (st key) ++ [61]) (st val) _ HB4.out (by have := HTL.out; simp only [kvText, List.length_append, List.length_cons, List.length_nil, st_size, bs_st] at this ⊢; omega)).mono ?_
          rintro e w5 ⟨rfl, hb5, hf5⟩
          have hh5 := hf5.heap hh4 (by decide) (by omega)
          have HB5 := Lib.hid hb5
          have HL5 : Hid (Le w w5) := Lib.hid (Below.trans HL4.out hf5.1)
          have c0 : w5.cell? ⟨wr.heap.size, 0, none⟩ = some (.string (st key)) := cell_cells hh5 0
          have c1 : w5.cell? ⟨wr.heap.size, 1, none⟩ = some (.string (st val)) := cell_cells hh5 1
          have HH5 := Lib.hid hh5
          clear hb5 hf5 hh5
          go_wp2
          go_roundg (gk - 1)
          case measure => omega
          case rel => exact ⟨k + 1, by omega, by go_num, HL5.out, by rw [HSN.out]; exact (show acc ++ [sep] ++ bs (st key) ++ [61] ++ bs (st val) = acc ++ sep :: (key ++ 61 :: val) from by rw [bs_st, bs_st]; simp) ▸ HB5.out⟩
    · have HT : Hid (l.take k = l) := Lib.hid (List.take_of_length_le (by omega))
      clear hr hle
      have HLN : Hid (1 ≤ (l.flatMap (kvText sep)).length) := by
        cases l with
        | nil => exact absurd rfl h0
        | cons x r => exact Lib.hid (by simp only [List.flatMap_cons, List.length_append, kvText, List.length_cons]; omega)
      go_wp2_with fail
      refine (bstr_c _ _ _ _ HBD.out).mono ?_
      rintro e w2 ⟨rfl, hb2, hf2⟩
      have HLE2 : Hid (Le w w2) := Lib.hid (Below.trans HLE.out hf2.1)
      clear hb2 hf2
      rw [HT.out]
      have hps : Hid (psText l sep = (l.flatMap (kvText sep)).drop 1) := Lib.hid rfl
      generalize l.flatMap (kvText sep) = T at HLN hps ⊢
      have h1 : (1 : Int) ≤ ((st T).size : Int) := by have := HLN.out; rw [st_size]; omega
      go_wp2
      go_ret
      refine ⟨?_, HLE2.out⟩
      rw [hps.out]
      exact congrArg (fun x => Ending.returned (.string x)) ((ext_drop (st T) 1).trans (by rw [bs_st]))
end Go.Proofs.YtgpkfocgoigokaaGreatDoor
