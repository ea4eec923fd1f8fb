/- Contract: the thin package's ParamsText. -/
import Derived.Test.YtgelnjcjpkklbaaGreatDoorLine
import Derived.Test.YtgelnjcjpkklbaaGreatDoorHead
set_option linter.unusedVariables false
set_option linter.unusedSimpArgs false
namespace Go.Proofs.YtgelnjcjpkklbaaGreatDoor
open Go.RowKit

def pmS (b : Nat) (sv : Int) (sep : UInt8) (pv lv : Value) (l : KVs) : Nat → Value → World → Prop
  | 1, v, _ => v = .int .u8 sv
  | 6, v, _ => v = pv
  | 7, v, _ => v = .pointer (some ⟨b, 0, none⟩)
  | 17, v, _ => v = pv
  | 18, v, _ => v = .int .u8 sv
  | 19, v, _ => v = .string (st (psText l sep))
  | 20, v, w => Bv w v (psText l sep)
  | 21, v, _ => v = .pointer (some ⟨b, 0, none⟩)
  | 22, v, _ => v = .pointer (some ⟨b, 0, none⟩)
  | 23, v, _ => v = .pointer (some ⟨b, 0, none⟩)
  | 24, v, _ => v = lv
  | 4, v, w => Bv w v (psText l sep)
  | 5, v, _ => v = lv
  | _, _, _ => True
theorem pmS_le (b : Nat) (sv : Int) (sep : UInt8) (pv lv : Value) (l : KVs) (t : Nat) (v : Value) (w w' : World) (k : Le w w') (hh : pmS b sv sep pv lv l t v w) : pmS b sv sep pv lv l t v w' := by
  unfold pmS at hh ⊢
  split at hh <;> first | exact hh | exact hh.le k
def pmG (w3 : World) (b : Nat) (lv : Value) (W : World) : Prop := Le w3 W ∧ W.heap[b]? = some (.cells #[lv] 108 (0, 0))
def PmtPost (l : KVs) (sep : UInt8) (w : World) (e : Ending) (w' : World) : Prop := ∃ v1 v2, e = .returned (.tuple #[v1, v2]) ∧ Bv w' v1 (psText l sep) ∧ Bv w' v2 (psText l sep) ∧ Le w w'
set_option maxRecDepth 8000 in
set_option maxHeartbeats 4000000 in
theorem iPmt_c (φ : Nat → Prop) (w : World) (v : Value) (l : KVs) (sep : UInt8) (sv : Int) (hsv : sv = (sep.toNat : Int)) (hsep : sep.toNat < 128) (hv : Kq φ w v l) (hk : KSm 1099511627775 l) (hlen : (l.flatMap (kvText sep)).length ≤ 1099511627776) :
    Calls Tryz.prog 31 #[v, .int .u8 sv] w (PmtPost l sep w) := by
  have HSV := Lib.hid hsv
  have HLEN := Lib.hid hlen
  have HSEP := Lib.hid hsep
  clear hsv hlen hsep
  go_enter Tryz.func31, Tryz.ntmps31
  go_wp2_with fail
  refine (ikv_c φ w _ l hv hk.2 hk.1).mono ?_
  rintro e w1 ⟨pv, rfl, hp1, _, hle1⟩
  have HP1 := Lib.hid hp1
  have HLE1 := Lib.hid hle1
  clear hp1 hle1
  have hle2 : Le w1 (w1.alloc (Obj.cells #[.slice none 0 0] 108)) := (Le.refl w1).alloc _
  have hln : Ln w1.heap.size w1.heap.size (w1.alloc (Obj.cells #[.slice none 0 0] 108)) [] := ⟨_, heap_alloc_new w1 _, OwnB.nil _ _⟩
  have HLN := Lib.hid hln
  have HP2 := Lib.hid (HP1.out.le hle2)
  have HL2 := Lib.hid hle2
  clear hle2 hln
  go_wp2_with fail
  have hpl : (psText l sep).length ≤ 1099511627776 := by have := HLEN.out; unfold psText; rw [List.length_drop]; omega
  have HPL := Lib.hid hpl
  clear hpl
  rw [HSV.out]
  refine (toStrW_c w1.heap.size w1.heap.size _ pv l sep HSEP.out HP2.out HLN.out (Nat.le_refl _) HL2.out.size HLEN.out).mono ?_
  rintro e w3 ⟨rfl, ⟨lv, hb3, hown3⟩, hf3⟩
  have HLE3 : Hid (Le w1 w3) := Lib.hid (Below.trans HL2.out hf3.1)
  have HP3 := Lib.hid (HP1.out.le HLE3.out)
  have HB3 := Lib.hid hb3
  have HBV := Lib.hid (hown3.bv (by have := HPL.out; omega))
  clear hb3 hown3 hf3
  go_wp2
  have hm : (Tryz.prog).follows .mixedOrders = true := by kernel_rfl
  have hGl : ∀ W1 W2, Le W1 W2 → pmG w3 w1.heap.size lv W1 → pmG w3 w1.heap.size lv W2 := fun W1 W2 k hh => ⟨Le.trans hh.1 k, k.heap hh.2⟩
  refine wp_region_grow_put (pmS w1.heap.size (sep.toNat : Int) sep pv lv l) (fun _ _ => True) (pmG w3 w1.heap.size lv) 25 [17, 18, 19, 20, 21, 22, 23, 24, 4, 5] hm (by kernel_rfl) rfl rfl ?hG ?hold ?hs ?hend
  case hG => exact ⟨(Le.refl w3).drew, HB3.out⟩
  case hold =>
    intro t ht
    simp only [List.mem_cons, List.mem_nil_iff, or_false, not_or] at ht
    unfold pmS
    split <;> first | rfl | trivial | (exfalso; simp at ht)
  case hs =>
    refine ⟨?_, ?_, ?_, ?_, ?_, ?_, ?_, ?_, ?_, ?_, trivial⟩
    · refine GrowStep.det ?_
      intro a W hg hop
      have h1 : a.eval (.tmp 6) = pv := (hop 6 (by simp [Op.operands, Call.operands]))
      exact ⟨a.eval (.tmp 6), rfl, h1⟩
    · refine GrowStep.det ?_
      intro a W hg hop
      have h1 : a.eval (.tmp 1) = .int .u8 (sep.toNat : Int) := (hop 1 (by simp [Op.operands, Call.operands]))
      exact ⟨a.eval (.tmp 1), rfl, h1⟩
    · refine GrowStep.call ?_ ?_ ?_ ?_
      · exact fun t u' w1 w2 k hh => pmS_le _ _ _ _ _ _ t u' w1 w2 k hh
      · exact fun _ _ _ _ h => h
      · exact hGl
      intro a W hg hop
      have h0 : a.eval (.tmp 17) = pv := (hop 17 (by simp [Op.operands, Call.operands]))
      have h1 : a.eval (.tmp 18) = .int .u8 (sep.toNat : Int) := (hop 18 (by simp [Op.operands, Call.operands]))
      have h0' : a.tmps[17]?.getD undef = pv := by simpa [Act.eval] using h0
      have h1' : a.tmps[18]?.getD undef = .int .u8 (sep.toNat : Int) := by simpa [Act.eval] using h1
      refine ⟨70, #[pv, .int .u8 (sep.toNat : Int)], ?_, (toString_c W pv l sep (HP3.out.le hg.1) HLEN.out).mono ?_⟩
      · simp only [execOp, h0, h1]
        go_simp
      · rintro e w' ⟨rfl, hle⟩
        exact ⟨_, rfl, hle, rfl⟩
    · refine GrowStep.le ?_ ?_ ?_ ?_
      · exact fun t u' w1 w2 k hh => pmS_le _ _ _ _ _ _ t u' w1 w2 k hh
      · exact fun _ _ _ _ h => h
      · exact hGl
      intro a W hg hop
      have h1 : a.eval (.tmp 19) = .string (st (psText l sep)) := (hop 19 (by simp [Op.operands, Call.operands]))
      have hc := conv_sb (P := Tryz.prog) Tryz.underlying9 Tryz.underlying22 Tryz.underlying5 (st (psText l sep)) W
      have hz : (st (psText l sep)).size ≤ 140737488355328 := by rw [st_size]; have := HPL.out; omega
      have hbv := bv_sb W 5 (st (psText l sep)) hz (bcap_le W _ _ hz)
      rw [bs_st] at hbv
      refine ⟨_, _, ?_, le_sb W 5 (st (psText l sep)), hbv⟩
      simp only [execOp, h1]
      go_simp
    · refine GrowStep.det ?_
      intro a W hg hop
      have h1 : a.eval (.tmp 7) = .pointer (some ⟨w1.heap.size, 0, none⟩) := (hop 7 (by simp [Op.operands, Call.operands]))
      exact ⟨a.eval (.tmp 7), rfl, h1⟩
    · refine GrowStep.det ?_
      intro a W hg hop
      have h1 : a.eval (.tmp 21) = .pointer (some ⟨w1.heap.size, 0, none⟩) := (hop 21 (by simp [Op.operands, Call.operands]))
      refine ⟨.pointer (some ⟨w1.heap.size, 0, none⟩), ?_, rfl⟩
      simp only [execOp, h1]
      go_simp
    · refine GrowStep.det ?_
      intro a W hg hop
      have h1 : a.eval (.tmp 22) = .pointer (some ⟨w1.heap.size, 0, none⟩) := (hop 22 (by simp [Op.operands, Call.operands]))
      refine ⟨.pointer (some ⟨w1.heap.size, 0, none⟩), ?_, rfl⟩
      simp only [execOp, h1]
      go_simp
    · refine GrowStep.det ?_
      intro a W hg hop
      have h1 : a.eval (.tmp 23) = .pointer (some ⟨w1.heap.size, 0, none⟩) := (hop 23 (by simp [Op.operands, Call.operands]))
      have h2 : W.cell? ⟨w1.heap.size, 0, none⟩ = some lv := by rw [cell_cells hg.2 0]; rfl
      refine ⟨lv, ?_, rfl⟩
      simp only [execOp, h1]
      go_simp
    · refine GrowStep.det ?_
      intro a W hg hop
      have h1 : Bv W (a.eval (.tmp 20)) (psText l sep) := (hop 20 (by simp [Op.operands, Call.operands]))
      exact ⟨a.eval (.tmp 20), rfl, h1⟩
    · refine GrowStep.det ?_
      intro a W hg hop
      have h1 : a.eval (.tmp 24) = lv := (hop 24 (by simp [Op.operands, Call.operands]))
      exact ⟨a.eval (.tmp 24), rfl, h1⟩
  case hend =>
    intro v w' hg hS hZ
    have HG := Lib.hid hg
    have h4 : Bv w' (v 4) (psText l sep) := hS 4 (by simp)
    have h5 : v 5 = lv := hS 5 (by simp)
    have HB4 := Lib.hid h4
    have HB5 := Lib.hid (HBV.out.le hg.1)
    have HLE := Lib.hid ((HLE1.out.trans HLE3.out).trans hg.1)
    clear hS hZ hg h4
    simp only [putsL, Act.put, List.setIfInBounds_toArray, List.set_cons_zero, List.set_cons_succ]
    rw [h5]
    generalize v 4 = v4 at HB4 ⊢
    go_wp2
    go_ret2
    exact ⟨_, _, rfl, HB4.out, HB5.out, HLE.out⟩
end Go.Proofs.YtgelnjcjpkklbaaGreatDoor
