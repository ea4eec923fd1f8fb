/- Contracts: a CSeq header's text and value (printed by gen_cseq.py). -/
import Derived.Test.YtbdeohmdpkkpdaaGreatDoorUStr
set_option linter.unusedVariables false
set_option linter.unusedSimpArgs false
namespace Go.Proofs.YtbdeohmdpkkpdaaGreatDoor
open Go.RowKit

theorem csName_c (w : World) (v : Value) : Calls Tryz.prog 249 #[v] w fun e w' => e = .returned (.string ⟨#[67, 83, 101, 113]⟩) ∧ w' = w := by
  go_enter Tryz.func249, Tryz.ntmps249
  go_wp2
  go_ret
  exact ⟨rfl, rfl⟩
/-- block b is the CSeq header of n and m -/
def CsAt (w : World) (b : Nat) (n : Nat) (m : Tx) : Prop := w.heap[b]? = some (.cells #[.int .u32 n, .string (st m)] 183 (0, 0))
def csVal (n : Nat) (m : Tx) : Tx := Lib.itoa n ++ (32 :: m)
def csText (n : Nat) (m : Tx) : Tx := [67, 83, 101, 113, 58, 32] ++ csVal n m
def csS (b bb : Nat) (n : Nat) (m : Tx) : Nat → Value → World → Prop
  | 0, v, _ => v = (Value.pointer (some ⟨b, 0, none⟩))
  | 1, v, _ => v = (Value.iface 155 (.pointer (some ⟨bb, 0, none⟩)))
  | 4, v, _ => v = (Value.iface 155 (.pointer (some ⟨bb, 0, none⟩)))
  | 5, v, _ => v = (Value.pointer (some ⟨b, 0, none⟩))
  | 6, v, _ => v = (Value.pointer (some ⟨b, 0, none⟩))
  | 7, v, _ => v = (Value.pointer (some ⟨b, 0, none⟩))
  | 8, v, _ => v = (Value.int .u32 n)
  | 9, v, _ => v = (Value.int .i64 n)
  | 10, v, _ => v = (Value.string (st (Lib.itoa n)))
  | 11, v, _ => v = (Value.func (Fn.method "WriteString") #[(Value.iface 155 (.pointer (some ⟨bb, 0, none⟩)))] #[])
  | 12, v, _ => v = (Value.func (Fn.method "WriteString") #[(Value.iface 155 (.pointer (some ⟨bb, 0, none⟩)))] #[])
  | 13, v, _ => v = (Value.iface 155 (.pointer (some ⟨bb, 0, none⟩)))
  | _, _, _ => True
def cvS (b bb : Nat) (n : Nat) (m : Tx) : Nat → Value → World → Prop
  | 0, v, _ => v = (Value.pointer (some ⟨b, 0, none⟩))
  | 3, v, _ => v = (Value.pointer (some ⟨b, 0, none⟩))
  | 4, v, _ => v = (Value.pointer (some ⟨b, 0, none⟩))
  | 5, v, _ => v = (Value.pointer (some ⟨b, 0, none⟩))
  | 6, v, _ => v = (Value.int .u32 n)
  | 7, v, _ => v = (Value.int .i64 n)
  | 8, v, _ => v = (Value.string (st (Lib.itoa n)))
  | 9, v, _ => v = (Value.string (st (Lib.itoa n ++ [32])))
  | 10, v, _ => v = (Value.pointer (some ⟨b, 0, none⟩))
  | 11, v, _ => v = (Value.pointer (some ⟨b, 0, none⟩))
  | 12, v, _ => v = (Value.pointer (some ⟨b, 1, none⟩))
  | 13, v, _ => v = (Value.string (st m))
  | 14, v, _ => v = (Value.string (st (csVal n m)))
  | 2, v, _ => v = (Value.string (st (csVal n m)))
  | _, _, _ => True
theorem csS_le (b bb : Nat) (n : Nat) (m : Tx) (t : Nat) (v : Value) (w w' : World) (h : csS b bb n m t v w) : csS b bb n m t v w' := by unfold csS at h ⊢; split at h <;> exact h
theorem cvS_le (b bb : Nat) (n : Nat) (m : Tx) (t : Nat) (v : Value) (w w' : World) (h : cvS b bb n m t v w) : cvS b bb n m t v w' := by unfold cvS at h ⊢; split at h <;> exact h

set_option maxRecDepth 4000 in
set_option maxHeartbeats 4000000 in
theorem csWrite_c (w0 w : World) (b bb : Nat) (n : Nat) (m t0 : Tx) (hb : CsAt w0 b n m) (hw : UW w0 bb t0 w) (hL : Laid w0) (hn : n < 4294967296) (hm0 : m.length ≤ 1099511627776) (ht0 : t0.length ≤ 1000) :
    Calls Tryz.prog 254 #[.pointer (some ⟨b, 0, none⟩), .iface 155 (.pointer (some ⟨bb, 0, none⟩))] w fun e w' => e = .returned (.tuple #[]) ∧ UW w0 bb (t0 ++ csVal n m) w' := by
  have HB := Lib.hid hb
  have HW0 := Lib.hid hw
  have HLAID := Lib.hid hL
  have HIT := Lib.hid (Lib.itoa_length_le n (by omega) (by omega))
  have hna : ∀ (n : Nat) (w : World), (nilAhead (n + 1) 155 (.pointer (some ⟨bb, 0, none⟩)) "WriteString").run Tryz.prog w = .ok (some false) w := fun n w => by kernel_rfl
  clear hb hw hL
  go_enter Tryz.func254, Tryz.ntmps254
  go_wp2
  have hm : (Tryz.prog).follows .mixedOrders = true := by kernel_rfl
  refine wp_region_grow_tail (csS b bb n m) (UW w0 bb t0) 26 10 [4, 5, 6, 7, 8, 9, 10, 11, 12, 13] hm (by kernel_rfl) rfl rfl (HW0.out.grow (Le.refl _).drew) ?hold ?hs ?hend
  case hold =>
    intro t ht
    simp only [List.mem_cons, List.mem_nil_iff, or_false, not_or] at ht
    unfold csS
    split <;> first | rfl | trivial | (exfalso; simp at ht)
  case hs =>
    simp only [List.take_succ_cons, List.take_zero]
    refine ⟨?_, ?_, ?_, ?_, ?_, ?_, ?_, ?_, ?_, ?_, trivial⟩
    · refine GrowStep.det ?_
      intro a W hg hop
      have h1 : a.eval (.tmp 1) = (Value.iface 155 (.pointer (some ⟨bb, 0, none⟩))) := (hop 1 (by simp [Op.operands, Call.operands]))
      refine ⟨(Value.iface 155 (.pointer (some ⟨bb, 0, none⟩))), ?_, rfl⟩
      simp only [execOp, h1]
      go_simp
    · refine GrowStep.det ?_
      intro a W hg hop
      have h1 : a.eval (.tmp 0) = (Value.pointer (some ⟨b, 0, none⟩)) := (hop 0 (by simp [Op.operands, Call.operands]))
      refine ⟨(Value.pointer (some ⟨b, 0, none⟩)), ?_, rfl⟩
      simp only [execOp, h1]
      go_simp
    · refine GrowStep.det ?_
      intro a W hg hop
      have h1 : a.eval (.tmp 5) = (Value.pointer (some ⟨b, 0, none⟩)) := (hop 5 (by simp [Op.operands, Call.operands]))
      refine ⟨(Value.pointer (some ⟨b, 0, none⟩)), ?_, rfl⟩
      simp only [execOp, h1]
      go_simp
    · refine GrowStep.det ?_
      intro a W hg hop
      have h1 : a.eval (.tmp 6) = (Value.pointer (some ⟨b, 0, none⟩)) := (hop 6 (by simp [Op.operands, Call.operands]))
      refine ⟨(Value.pointer (some ⟨b, 0, none⟩)), ?_, rfl⟩
      simp only [execOp, h1]
      go_simp
    · refine GrowStep.det ?_
      intro a W hg hop
      have h1 : a.eval (.tmp 7) = .pointer (some ⟨b, 0, none⟩) := (hop 7 (by simp [Op.operands, Call.operands]))
      have h2 : W.cell? ⟨b, 0, none⟩ = some (Value.int .u32 n) := cell_cells (hg.le.heap HB.out) 0
      refine ⟨(Value.int .u32 n), ?_, rfl⟩
      simp only [execOp, h1]
      go_simp
    · refine GrowStep.det ?_
      intro a W hg hop
      have h1 : a.eval (.tmp 8) = (Value.int .u32 n) := (hop 8 (by simp [Op.operands, Call.operands]))
      refine ⟨(Value.int .i64 n), ?_, rfl⟩
      simp only [execOp, h1]
      go_simp
      exact IntWalk.i64_in _ (by omega)
    · refine GrowStep.call ?_ ?_ ?_ ?_
      · exact fun t u w w' _ h => csS_le _ _ _ _ _ _ _ _ h
      · exact fun _ _ _ _ h => h
      · exact fun w w' k h => h.grow k
      intro a W hg hop
      have h1 : a.eval (.tmp 9) = (Value.int .i64 n) := (hop 9 (by simp [Op.operands, Call.operands]))
      have h1' : a.tmps[9]?.getD undef = (Value.int .i64 n) := by simpa [Act.eval] using h1
      refine ⟨134, #[(Value.int .i64 n)], ?_, (itoa_c n W (by omega) (by omega) (HLAID.out.le hg.le)).mono ?_⟩
      · simp only [execOp, h1]
        go_simp
      · rintro e w' ⟨rfl, hle⟩
        exact ⟨_, rfl, hle, rfl⟩
    · refine GrowStep.det ?_
      intro a W hg hop
      have h1 : a.eval (.tmp 4) = (Value.iface 155 (.pointer (some ⟨bb, 0, none⟩))) := (hop 4 (by simp [Op.operands, Call.operands]))
      have h1' : a.tmps[4]?.getD undef = (Value.iface 155 (.pointer (some ⟨bb, 0, none⟩))) := by simpa [Act.eval] using h1
      refine ⟨(Value.func (Fn.method "WriteString") #[(Value.iface 155 (.pointer (some ⟨bb, 0, none⟩)))] #[]), ?_, rfl⟩
      simp only [execOp]
      go_simp
    · refine GrowStep.det ?_
      intro a W hg hop
      have h1 : a.eval (.tmp 11) = (Value.func (Fn.method "WriteString") #[(Value.iface 155 (.pointer (some ⟨bb, 0, none⟩)))] #[]) := (hop 11 (by simp [Op.operands, Call.operands]))
      refine ⟨(Value.func (Fn.method "WriteString") #[(Value.iface 155 (.pointer (some ⟨bb, 0, none⟩)))] #[]), ?_, rfl⟩
      simp only [execOp, h1]
      go_simp
    · refine GrowStep.det ?_
      intro a W hg hop
      have h1 : a.eval (.tmp 4) = (Value.iface 155 (.pointer (some ⟨bb, 0, none⟩))) := (hop 4 (by simp [Op.operands, Call.operands]))
      refine ⟨(Value.iface 155 (.pointer (some ⟨bb, 0, none⟩))), ?_, rfl⟩
      simp only [execOp, h1]
      go_simp
  case hend =>
    intro v wt hG hS
    have HWt := Lib.hid hG
    have v4 : v 4 = (Value.iface 155 (.pointer (some ⟨bb, 0, none⟩))) := hS 4 (by simp)
    have v5 : v 5 = (Value.pointer (some ⟨b, 0, none⟩)) := hS 5 (by simp)
    have v6 : v 6 = (Value.pointer (some ⟨b, 0, none⟩)) := hS 6 (by simp)
    have v7 : v 7 = (Value.pointer (some ⟨b, 0, none⟩)) := hS 7 (by simp)
    have v8 : v 8 = (Value.int .u32 n) := hS 8 (by simp)
    have v9 : v 9 = (Value.int .i64 n) := hS 9 (by simp)
    have v10 : v 10 = (Value.string (st (Lib.itoa n))) := hS 10 (by simp)
    have v11 : v 11 = (Value.func (Fn.method "WriteString") #[(Value.iface 155 (.pointer (some ⟨bb, 0, none⟩)))] #[]) := hS 11 (by simp)
    have v12 : v 12 = (Value.func (Fn.method "WriteString") #[(Value.iface 155 (.pointer (some ⟨bb, 0, none⟩)))] #[]) := hS 12 (by simp)
    have v13 : v 13 = (Value.iface 155 (.pointer (some ⟨bb, 0, none⟩))) := hS 13 (by simp)
    clear hS hG
    simp only [putsL, v4, v5, v6, v7, v8, v9, v10, v11, v12, v13, Act.put, List.setIfInBounds_toArray, List.set_cons_zero, List.set_cons_succ, List.drop_succ_cons, List.drop_zero]
    clear v4 v5 v6 v7 v8 v9 v10 v11 v12 v13
    go_wp2_with fail
    refine (HWt.out.ws (st (Lib.itoa n)) (by have hz := HIT.out; simp only [List.length_append, List.length_cons, List.length_nil, st_size]; (try simp only [ByteArray.size, List.size_toArray, List.length_cons, List.length_nil]); omega)).mono ?_
    rintro e w1 ⟨rfl, hw1⟩
    have HW1 : Hid (UW w0 bb (t0 ++ Lib.itoa n) w1) := Lib.hid hw1
    clear hw1
    go_wp2_with fail
    refine (HW1.out.ws ⟨#[32]⟩ (by have hz := HIT.out; simp only [List.length_append, List.length_cons, List.length_nil, st_size]; (try simp only [ByteArray.size, List.size_toArray, List.length_cons, List.length_nil]); omega)).mono ?_
    rintro e w2 ⟨rfl, hw2⟩
    have HW2 : Hid (UW w0 bb (t0 ++ Lib.itoa n ++ [32]) w2) := Lib.hid hw2
    have g1 : w2.cell? ⟨b, 1, none⟩ = some (.string (st m)) := cell_cells (hw2.le.heap HB.out) 1
    clear hw2
    go_wp2
    go_still_tail 8, (by kernel_rfl)
    change wpList _ _ _ _ _ (World.drew _)
    have HWd := Lib.hid (HW2.out.grow (Le.refl _).drew)
    generalize World.drew _ = wd at HWd ⊢
    go_wp2_with fail
    refine (HWd.out.ws (st m) (by have hz := HIT.out; simp only [List.length_append, List.length_cons, List.length_nil, st_size]; (try simp only [ByteArray.size, List.size_toArray, List.length_cons, List.length_nil]); omega)).mono ?_
    rintro e w3 ⟨rfl, hw3⟩
    have HW3 : Hid (UW w0 bb (t0 ++ Lib.itoa n ++ [32] ++ m) w3) := Lib.hid hw3
    clear hw3
    go_wp2
    go_returns
    refine ⟨rfl, ?_⟩
    have h := HW3.out
    unfold csVal
    simp only [List.append_assoc, List.cons_append, List.nil_append] at h ⊢
    exact h

set_option maxRecDepth 4000 in
set_option maxHeartbeats 4000000 in
theorem csSW_c (w0 w : World) (b bb : Nat) (n : Nat) (m : Tx) (hb : CsAt w0 b n m) (hw : UW w0 bb [] w) (hL : Laid w0) (hn : n < 4294967296) (hm0 : m.length ≤ 1099511627776) :
    Calls Tryz.prog 251 #[.pointer (some ⟨b, 0, none⟩), .iface 155 (.pointer (some ⟨bb, 0, none⟩))] w fun e w' => e = .returned (.tuple #[]) ∧ UW w0 bb (csText n m) w' := by
  have HB := Lib.hid hb
  have HW0 := Lib.hid hw
  have HLAID := Lib.hid hL
  have hna : ∀ (n : Nat) (w : World), (nilAhead (n + 1) 155 (.pointer (some ⟨bb, 0, none⟩)) "WriteString").run Tryz.prog w = .ok (some false) w := fun n w => by kernel_rfl
  clear hb hw hL
  go_enter Tryz.func251, Tryz.ntmps251
  go_wp2
  go_still_tail 6, (by kernel_rfl)
  still_call (csName_c _ _)
  repeat still_step
  refine wpStill_nil ?_
  change wpList _ _ _ _ _ (World.drew _)
  have HWd := Lib.hid (HW0.out.grow (Le.refl _).drew)
  generalize World.drew _ = wd at HWd ⊢
  go_wp2_with fail
  refine (HWd.out.ws ⟨#[67, 83, 101, 113]⟩ (by decide)).mono ?_
  rintro e w1 ⟨rfl, hw1⟩
  have HW1 : Hid (UW w0 bb [67, 83, 101, 113] w1) := Lib.hid hw1
  clear hw1
  go_wp2_with fail
  refine (HW1.out.ws ⟨#[58, 32]⟩ (by decide)).mono ?_
  rintro e w2 ⟨rfl, hw2⟩
  have HW2 : Hid (UW w0 bb [67, 83, 101, 113, 58, 32] w2) := Lib.hid hw2
  clear hw2
  go_wp2_with fail
  refine (csWrite_c w0 _ b bb n m _ HB.out HW2.out HLAID.out hn hm0 (by decide)).mono ?_
  rintro e w3 ⟨rfl, hw3⟩
  have HW3 : Hid (UW w0 bb (csText n m) w3) := Lib.hid hw3
  clear hw3
  go_wp2
  go_returns
  exact ⟨rfl, HW3.out⟩

set_option maxRecDepth 4000 in
set_option maxHeartbeats 2000000 in
theorem csString_c (w : World) (b : Nat) (n : Nat) (m : Tx) (hb : CsAt w b n m) (hL : Laid w) (hn : n < 4294967296) (hm0 : m.length ≤ 1099511627776) :
    Calls Tryz.prog 250 #[.pointer (some ⟨b, 0, none⟩)] w fun e w' => e = .returned (.string (st (csText n m))) ∧ Le w w' := by
  have HB := Lib.hid hb
  have HL := Lib.hid hL
  clear hb hL
  go_enter Tryz.func250, Tryz.ntmps250
  go_wp2_with fail
  refine (csSW_c w _ b w.heap.size n m HB.out ⟨(Le.refl w).alloc _, bld_new w⟩ HL.out hn hm0).mono ?_
  rintro e w2 ⟨rfl, hw2⟩
  have HW2 := Lib.hid hw2
  clear hw2
  go_wp2_with fail
  refine (bstr_c _ _ _ _ HW2.out.bld).mono ?_
  rintro e w3 ⟨rfl, _, hf3⟩
  have HL3 : Hid (Le w w3) := Lib.hid (Below.trans HW2.out.le hf3.1)
  clear hf3
  go_wp2
  go_ret
  exact ⟨rfl, HL3.out⟩

theorem st_app (a b : Tx) : st a ++ st b = st (a ++ b) := by
  apply bs_inj
  rw [bs_st]
  show (st a ++ st b).data.toList = _
  rw [ByteArray.data_append]
  simp [st]

set_option maxRecDepth 4000 in
set_option maxHeartbeats 4000000 in
theorem csValue_c (w : World) (b : Nat) (n : Nat) (m : Tx) (hb : CsAt w b n m) (hL : Laid w) (hn : n < 4294967296) (hm0 : m.length ≤ 1099511627776) :
    Calls Tryz.prog 252 #[.pointer (some ⟨b, 0, none⟩)] w fun e w' => e = .returned (.string (st (csVal n m))) ∧ Le w w' := by
  have HB := Lib.hid hb
  have HL := Lib.hid hL
  have HIT := Lib.hid (Lib.itoa_length_le n (by omega) (by omega))
  clear hb hL
  go_enter Tryz.func252, Tryz.ntmps252
  go_wp2
  have hm : (Tryz.prog).follows .mixedOrders = true := by kernel_rfl
  refine wp_region_grow (cvS b 0 n m) (fun _ _ => True) (Le w) 15 hm (by kernel_rfl) rfl rfl ((Le.refl w).drew) [0, 1] (by kernel_rfl) ?hold ?hs ?hend
  case hold =>
    intro t ht
    simp only [List.mem_cons, List.mem_nil_iff, or_false] at ht
    rcases ht with rfl | rfl <;> first | exact trivial | rfl
  case hs =>
    refine ⟨?_, ?_, ?_, ?_, ?_, ?_, ?_, ?_, ?_, ?_, ?_, ?_, ?_, trivial⟩
    · refine GrowStep.det ?_
      intro a W hg hop
      have h1 : a.eval (.tmp 0) = (Value.pointer (some ⟨b, 0, none⟩)) := (hop 0 (by simp [Op.operands, Call.operands]))
      refine ⟨(Value.pointer (some ⟨b, 0, none⟩)), ?_, rfl⟩
      simp only [execOp, h1]
      go_simp
    · refine GrowStep.det ?_
      intro a W hg hop
      have h1 : a.eval (.tmp 3) = (Value.pointer (some ⟨b, 0, none⟩)) := (hop 3 (by simp [Op.operands, Call.operands]))
      refine ⟨(Value.pointer (some ⟨b, 0, none⟩)), ?_, rfl⟩
      simp only [execOp, h1]
      go_simp
    · refine GrowStep.det ?_
      intro a W hg hop
      have h1 : a.eval (.tmp 4) = (Value.pointer (some ⟨b, 0, none⟩)) := (hop 4 (by simp [Op.operands, Call.operands]))
      refine ⟨(Value.pointer (some ⟨b, 0, none⟩)), ?_, rfl⟩
      simp only [execOp, h1]
      go_simp
    · refine GrowStep.det ?_
      intro a W hg hop
      have h1 : a.eval (.tmp 5) = .pointer (some ⟨b, 0, none⟩) := (hop 5 (by simp [Op.operands, Call.operands]))
      have h2 : W.cell? ⟨b, 0, none⟩ = some (Value.int .u32 n) := cell_cells (hg.heap HB.out) 0
      refine ⟨(Value.int .u32 n), ?_, rfl⟩
      simp only [execOp, h1]
      go_simp
    · refine GrowStep.det ?_
      intro a W hg hop
      have h1 : a.eval (.tmp 6) = (Value.int .u32 n) := (hop 6 (by simp [Op.operands, Call.operands]))
      refine ⟨(Value.int .i64 n), ?_, rfl⟩
      simp only [execOp, h1]
      go_simp
      exact IntWalk.i64_in _ (by omega)
    · refine GrowStep.call ?_ ?_ ?_ ?_
      · exact fun t u w w' _ h => cvS_le _ _ _ _ _ _ _ _ h
      · exact fun _ _ _ _ h => h
      · exact fun w1 w2 k h => Le.trans h k
      intro a W hg hop
      have h1 : a.eval (.tmp 7) = (Value.int .i64 n) := (hop 7 (by simp [Op.operands, Call.operands]))
      have h1' : a.tmps[7]?.getD undef = (Value.int .i64 n) := by simpa [Act.eval] using h1
      refine ⟨134, #[(Value.int .i64 n)], ?_, (itoa_c n W (by omega) (by omega) (HL.out.le hg)).mono ?_⟩
      · simp only [execOp, h1]
        go_simp
      · rintro e w' ⟨rfl, hle⟩
        exact ⟨_, rfl, hle, rfl⟩
    · refine GrowStep.det ?_
      intro a W hg hop
      have h1 : a.eval (.tmp 8) = (Value.string (st (Lib.itoa n))) := (hop 8 (by simp [Op.operands, Call.operands]))
      have h3 := h1
      refine ⟨(.string (st (Lib.itoa n) ++ ⟨#[32]⟩)), ?_, congrArg Value.string (st_app _ [32])⟩
      simp only [execOp, h1, h3]
      go_simp
      have hz := HIT.out
      simp only [st_size, List.length_append, List.length_cons, List.length_nil]
      omega
    · refine GrowStep.det ?_
      intro a W hg hop
      have h1 : a.eval (.tmp 0) = (Value.pointer (some ⟨b, 0, none⟩)) := (hop 0 (by simp [Op.operands, Call.operands]))
      refine ⟨(Value.pointer (some ⟨b, 0, none⟩)), ?_, rfl⟩
      simp only [execOp, h1]
      go_simp
    · refine GrowStep.det ?_
      intro a W hg hop
      have h1 : a.eval (.tmp 10) = (Value.pointer (some ⟨b, 0, none⟩)) := (hop 10 (by simp [Op.operands, Call.operands]))
      refine ⟨(Value.pointer (some ⟨b, 0, none⟩)), ?_, rfl⟩
      simp only [execOp, h1]
      go_simp
    · refine GrowStep.det ?_
      intro a W hg hop
      have h1 : a.eval (.tmp 11) = (Value.pointer (some ⟨b, 0, none⟩)) := (hop 11 (by simp [Op.operands, Call.operands]))
      refine ⟨(Value.pointer (some ⟨b, 1, none⟩)), ?_, rfl⟩
      simp only [execOp, h1]
      go_simp
    · refine GrowStep.det ?_
      intro a W hg hop
      have h1 : a.eval (.tmp 12) = .pointer (some ⟨b, 1, none⟩) := (hop 12 (by simp [Op.operands, Call.operands]))
      have h2 : W.cell? ⟨b, 1, none⟩ = some (Value.string (st m)) := cell_cells (hg.heap HB.out) 1
      refine ⟨(Value.string (st m)), ?_, rfl⟩
      simp only [execOp, h1]
      go_simp
    · refine GrowStep.det ?_
      intro a W hg hop
      have h1 : a.eval (.tmp 9) = (Value.string (st (Lib.itoa n ++ [32]))) := (hop 9 (by simp [Op.operands, Call.operands]))
      have h3 : a.eval (.tmp 13) = (Value.string (st m)) := (hop 13 (by simp [Op.operands, Call.operands]))
      refine ⟨(.string (st (Lib.itoa n ++ [32]) ++ st m)), ?_, congrArg Value.string ((st_app _ _).trans (by unfold csVal; rw [List.append_assoc]; rfl))⟩
      simp only [execOp, h1, h3]
      go_simp
      have hz := HIT.out
      simp only [st_size, List.length_append, List.length_cons, List.length_nil]
      omega
    · refine GrowStep.det ?_
      intro a W hg hop
      have h1 : a.eval (.tmp 14) = (Value.string (st (csVal n m))) := (hop 14 (by simp [Op.operands, Call.operands]))
      refine ⟨(Value.string (st (csVal n m))), ?_, rfl⟩
      simp only [execOp, h1]
      go_simp
  case hend =>
    intro a' w' hg hd hn' hS _
    have h2 : a'.eval (.tmp 2) = .string (st (csVal n m)) := hS 2 (by decide)
    clear hS
    go_wp2
    (try simp only [Exit.inBlock, Exit.then])
    refine bodyPost_ret (results_tmp rfl _ _ _) hd ?_
    exact ⟨congrArg Ending.returned h2, hg⟩
end Go.Proofs.YtbdeohmdpkkpdaaGreatDoor
