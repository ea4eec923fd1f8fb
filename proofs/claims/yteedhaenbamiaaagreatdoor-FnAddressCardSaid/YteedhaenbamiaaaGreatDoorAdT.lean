/- Contracts: the laws' isShown, addressText. -/
import Derived.Test.YteedhaenbamiaaaGreatDoorUtx
import Derived.Test.YteedhaenbamiaaaGreatDoorAdB
import Derived.Test.YteedhaenbamiaaaGreatDoorLw
import Derived.Deep.Cut
import Derived.Deep.CutBlock
set_option linter.unusedVariables false
set_option linter.unusedSimpArgs false
namespace Go.Proofs.YteedhaenbamiaaaGreatDoor
open Go.RowKit

def shC (c : UInt8) : Bool := c != 34 && c != 92
def shB (l : Tx) : Bool := l.all shC && (l.isEmpty || lineB l)
theorem shC_no {c : UInt8} (h : (c.toNat : Int) = 34 ∨ (c.toNat : Int) = 92) : shC c = false := by
  rcases h with h | h
  · have : c = 34 := u8_of (n := 34) h (by decide)
    simp [shC, this]
  · have : c = 92 := u8_of (n := 92) h (by decide)
    simp [shC, this]
theorem shC_of {c : UInt8} (h3 : (c.toNat : Int) ≠ 34) (h4 : (c.toNat : Int) ≠ 92) : shC c = true := by
  have e3 : c ≠ 34 := by rintro rfl; exact h3 rfl
  have e4 : c ≠ 92 := by rintro rfl; exact h4 rfl
  simp [shC, e3, e4]
set_option maxRecDepth 4000 in
set_option maxHeartbeats 2000000 in
theorem isShown_c (v : Value) (l : Tx) (w : World) (r : Bool) (hr : shB l = r) (hv : Bv w v l) : Calls Tryz.prog 27 #[v] w fun e w' => e = .returned (.bool r) ∧ w = w' := by
  have HV := Lib.hid hv
  have HRR := Lib.hid hr
  obtain ⟨A, cc, rfl, h1, h2, h4⟩ := hv
  have h3 := h4.1
  have HR := Lib.hid h4
  clear h4 hr
  go_enter Tryz.func27, Tryz.ntmps27
  go_wp2
  go_loop [3] (fun i => ∃ k : Nat, k ≤ l.length ∧ i = .int .i64 k ∧ (l.take k).all shC = true) (fun i => l.length - (intOf i).toNat)
  case atStart => exact ⟨0, Nat.zero_le _, rfl, rfl⟩
  case round =>
    obtain ⟨k, hk, rfl, hq⟩ := hrel
    have HQ := Lib.hid hq
    clear hq
    by_cases hlt : k < l.length
    · obtain ⟨b, o, rfl, d1⟩ := HR.out.at_ hlt
      have HY : Hid (shC l[k] = true → (l.take (k + 1)).all shC = true) := Lib.hid (fun h => by rw [List.take_succ_eq_append_getElem hlt, List.all_append, HQ.out]; simpa using h)
      have HZ : Hid (shC l[k] = false → r = false) := Lib.hid (fun h => by
        rw [← HRR.out]
        unfold shB
        rw [List.all_eq_false.2 ⟨l[k], List.getElem_mem hlt, by rw [h]; simp⟩]; rfl)
      have HT := Lib.hid (@shC_of l[k])
      have HF := Lib.hid (@shC_no l[k])
      generalize shC l[k] = q at HY HZ HT HF
      generalize (l[k].toNat : Int) = x at d1 HT HF
      by_cases n3 : x = 34
      · have HX := Lib.hid (HZ.out (HF.out (.inl n3)))
        subst n3
        go_wp2
        go_ret
        exact ⟨by rw [HX.out]; rfl, rfl⟩
      by_cases n4 : x = 92
      · have HX := Lib.hid (HZ.out (HF.out (.inr n4)))
        subst n4
        clear n3
        go_wp2
        go_ret
        exact ⟨by rw [HX.out]; rfl, rfl⟩
      have HX := Lib.hid (HY.out (HT.out n3 n4))
      have e3 : (x == 34) = false := by simpa using n3
      have e4 : (x == 92) = false := by simpa using n4
      clear n3 n4
      go_wp2
      go_round
      case rel => exact ⟨k + 1, by omega, by go_num, HX.out⟩
      case measure => simp [intOf]; omega
    · have HX : Hid (l.all shC = true) := Lib.hid (by
        have h1 := HQ.out
        rw [List.take_of_length_le (by omega)] at h1
        exact h1)
      by_cases h0 : l = []
      · have hz : ((l.length : Int) == 0) = true := by rw [h0]; rfl
        have HX2 : Hid (r = true) := Lib.hid (by rw [← HRR.out, h0]; rfl)
        clear h0
        go_wp2
        go_ret
        exact ⟨by rw [HX2.out]; rfl, rfl⟩
      · have hz : ((l.length : Int) == 0) = false := by have := List.length_pos_iff.2 h0; simp; omega
        have HX2 : Hid (lineB l = r) := Lib.hid (by
          rw [← HRR.out]
          unfold shB
          have : l.isEmpty = false := by simpa using h0
          rw [HX.out, this]; simp)
        clear h0
        go_wp2_with fail
        refine (isLine_d _ l w r HX2.out HV.out).mono ?_
        rintro e w' ⟨rfl, rfl⟩
        go_wp2
        go_ret
        exact ⟨rfl, rfl⟩
theorem sl_four (W : World) (x y z t : Value) (a b c d : Tx) (hx : Bv W x a) (hy : Bv W y b) (hz : Bv W z c) (ht : Bv W t d) : Sl (W.alloc (Obj.cells #[x, y, z, t] 22)) (W.alloc (Obj.cells #[x, y, z, t] 22)) (.slice (some ⟨W.heap.size, 0, none⟩) 4 4) [a, b, c, d] := by
  refine ⟨_, 4, rfl, by simp, by simp, by simp, fun _ => ⟨W.heap.size, 0, rfl, fun j hj => ?_⟩⟩
  have hle : Le W (W.alloc (Obj.cells #[x, y, z, t] 22)) := (Le.refl W).alloc _
  rw [Nat.zero_add, cell_cells (heap_alloc_new W _) j]
  match j, hj with
  | 0, _ => exact ⟨_, rfl, hx.le hle⟩
  | 1, _ => exact ⟨_, rfl, hy.le hle⟩
  | 2, _ => exact ⟨_, rfl, hz.le hle⟩
  | 3, _ => exact ⟨_, rfl, ht.le hle⟩
theorem lwSmall {u : PU} (h : GoodU u) : (lwText u).length ≤ 1000000000 := by
  have s := (gScheme h).2
  obtain ⟨u4, u5⟩ := gUser h
  obtain ⟨_, _, h3⟩ := gHost h
  have hp := (prm_k h.ps).ptlen 59 u.ps.length (Nat.le_refl _)
  have hq := (prm_k h.hs).ptlen 38 u.hs.length (Nat.le_refl _)
  have h5 := itoa_len u.port.toNat (by have := h.hi; omega)
  have a1 : (lwUser u).length ≤ 20000 := by
    unfold lwUser lwPass
    split
    · simp
    · split <;> simp only [List.length_append, List.length_cons, List.length_nil] <;> omega
  have a2 : (hostT u.host u.port.toNat).length ≤ 20000 := by
    unfold hostT
    split
    · omega
    · simp only [List.length_append, List.length_cons]; omega
  have a3 : (lwP u.ps 59 59).length ≤ 2097153 := by unfold lwP; split <;> simp only [List.length_cons, List.length_nil] <;> omega
  have a4 : (lwP u.hs 63 38).length ≤ 2097153 := by unfold lwP; split <;> simp only [List.length_cons, List.length_nil] <;> omega
  unfold lwText
  simp only [List.length_append, List.length_cons]
  omega
/-- the text so far -/
structure AtI (W0 : World) (T : Tx) (v : Value) (wr : World) : Prop where
  le : Le W0 wr
  own : OwnB W0.heap.size wr v T
theorem AtI.shape {W0 wr : World} {T : Tx} {v : Value} (h : AtI W0 T v wr) : ∃ n A c, v = .slice A n c := by
  rcases h.own.2 with ⟨e, _⟩ | ⟨g, cap, cur, e, _⟩
  · exact ⟨0, none, 0, e⟩
  · exact ⟨_, _, _, e⟩

set_option maxRecDepth 8000 in
set_option maxHeartbeats 8000000 in
theorem adrText_c (w : World) (sv : Value) (s : Tx) (x : UV) (u : PU) (lv : Value) (l : KVs) (form : Int) (hs : Bv w sv s) (hx : Uq (fun _ => True) w x u) (hl : Kq (fun _ => True) w lv l) (hg : GoodA s u l form) (hf : form = 0 ∨ form = 1 ∨ form = 2) :
    Calls Tryz.prog 31 #[sv, x.val, lv, .int .i64 form] w fun e w' => ∃ v, e = .returned v ∧ Bv w' v (adHead s u form ++ adTail l) ∧ Le w w' ∧ (adHead s u form ++ adTail l).length ≤ 1099511627000 := by
  have HX := Lib.hid hx
  have HS := Lib.hid hs
  have HL := Lib.hid hl
  have HG := Lib.hid hg
  have HSZ := Lib.hid (gSz hg.uri)
  have HTX := Lib.hid (gText hg.uri)
  have HPG := Lib.hid (prm_k hg.ps)
  have HUL : Hid ((lwText u).length ≤ 1000000000) := Lib.hid (lwSmall hg.uri)
  obtain ⟨As, cs, rfl⟩ : ∃ A c, sv = .slice A s.length c := by obtain ⟨A, c, e, _⟩ := hs; exact ⟨A, c, e⟩
  obtain ⟨Al, cl, rfl⟩ : ∃ A c, lv = .slice A l.length c := by obtain ⟨A, c, e, _⟩ := hl; exact ⟨A, c, e⟩
  have hval : Hid (x.val = .agg #[x.scheme, x.raw, .bool x.wild, .bool x.slash, x.user, x.pass, x.host, .int .i64 x.port, x.ps, x.hs]) := Lib.hid rfl
  clear hx hs hl hg
  rw [hval.out]
  go_enter Tryz.func31, Tryz.ntmps31
  have HB0 : Hid ((w.alloc (Obj.cells #[x.scheme, x.raw, .bool x.wild, .bool x.slash, x.user, x.pass, x.host, .int .i64 x.port, x.ps, x.hs] 32)).heap[w.heap.size]? = some (.cells x.row 32 (0, 0))) := Lib.hid (heap_alloc_new w _)
  have HL0 : Hid (Le w (w.alloc (Obj.cells #[x.scheme, x.raw, .bool x.wild, .bool x.slash, x.user, x.pass, x.host, .int .i64 x.port, x.ps, x.hs] 32))) := Lib.hid ((Le.refl w).alloc _)
  go_upto_region 1 with fail
  generalize w.alloc (Obj.cells #[x.scheme, x.raw, .bool x.wild, .bool x.slash, x.user, x.pass, x.host, .int .i64 x.port, x.ps, x.hs] 32) = W0 at HB0 HL0 ⊢
  generalize Value.agg #[x.scheme, x.raw, .bool x.wild, .bool x.slash, x.user, x.pass, x.host, .int .i64 x.port, x.ps, x.hs] = ag0
  have HB1 := Lib.hid (((Le.refl W0).alloc (Obj.cells #[.int .u8 60] 5)).heap HB0.out)
  have HX1 := Lib.hid (HX.out.le (HL0.out.alloc (Obj.cells #[.int .u8 60] 5)))
  have hb60 : Bv (W0.alloc (Obj.cells #[.int .u8 60] 5)) (.slice (some ⟨W0.heap.size, 0, none⟩) 1 1) [60] := bv_lit W0 [60] (by decide) (0, 0)
  have H60 := Lib.hid hb60
  clear hb60
  go_wp2_with (refine wpList_load_row rfl 32 (.tmp 5) rfl w.heap.size rfl 32 x.row (0, 0) _ HB1.out Tryz.underlying32 rfl uri_size ?_)
  refine (lUriText_c _ x u HX1.out HSZ.out).mono ?_
  rintro e w1 ⟨v1, rfl, hown1, hle1⟩
  have HL01 := Lib.hid (((Le.refl W0).alloc (Obj.cells #[.int .u8 60] 5)).trans hle1)
  have hbu := hown1.bv (by have := HUL.out; omega)
  obtain ⟨m1, A1, c1, rfl⟩ : ∃ m A c, v1 = .slice A m c := by obtain ⟨A, c, e⟩ := hbu.form; exact ⟨_, A, c, e⟩
  have hb62 : Bv (w1.alloc (Obj.cells #[.int .u8 62] 5)) (.slice (some ⟨w1.heap.size, 0, none⟩) 1 1) [62] := bv_lit w1 [62] (by decide) (0, 0)
  have hs3 := sl_three (w1.alloc (Obj.cells #[.int .u8 62] 5)) _ _ _ _ _ _ (H60.out.le (hle1.alloc (Obj.cells #[.int .u8 62] 5))) (hbu.le ((Le.refl w1).alloc (Obj.cells #[.int .u8 62] 5))) hb62
  rw [show (w1.alloc (Obj.cells #[.int .u8 62] 5)).heap.size = w1.heap.size + 1 from by simp] at hs3
  have HS3 := Lib.hid hs3
  have HBR : Hid ([[60], lwText u, [62]].flatten = adBrack u) := Lib.hid (by unfold adBrack; rw [HTX.out]; simp)
  clear hown1 hle1 hbu hb62 hs3 H60 HB1 HX1
  go_wp2_with fail
  refine (joined_c _ _ _ HS3.out (by have := HUL.out; simp only [List.flatten_cons, List.flatten_nil, List.length_append, List.length_cons, List.length_nil]; omega)).mono ?_
  rintro e w2 ⟨v2, rfl, hown2, hle2⟩
  rw [HBR.out] at hown2
  have hle02 : Le W0 w2 := ((HL01.out.alloc (Obj.cells #[.int .u8 62] 5)).alloc _).trans hle2
  have HA2 : Hid (AtI W0 (adBrack u) v2 w2) := Lib.hid ⟨hle02, World.ownsRow.mono hown2 (base' := W0.heap.size) ((HL01.out.alloc (Obj.cells #[.int .u8 62] 5)).alloc _).size⟩
  obtain ⟨n2, A2, c2, rfl⟩ := HA2.out.shape
  have HBL : Hid ((adBrack u).length ≤ 1000000002) := Lib.hid (by have := HUL.out; unfold adBrack; rw [HTX.out]; simp only [List.length_cons, List.length_append, List.length_nil]; omega)
  clear hown2 hle2 hle02 HS3 HL01
  go_upto_block 0 with fail
  go_cut [9] from 16 (fun s9 wx => AtI W0 (adHead s u form) s9 wx)
  case first =>
    have HSW := Lib.hid (HS.out.le (HL0.out.trans HA2.out.le))
    have HBW := Lib.hid (HA2.out.own.bv (by have := HBL.out; omega))
    have HGL := Lib.hid HG.out.len
    rcases hf with rfl | rfl | rfl
    · by_cases hs0 : s = []
      · have hl0 : (s.length : Int) = 0 := by rw [hs0]; rfl
        have HH : Hid (adHead s u 0 = adBrack u) := Lib.hid (by unfold adHead; rw [if_neg (by decide), if_neg (by simp), if_neg (by simp [hs0])])
        have hl0' : ¬ (0 : Int) < (s.length : Int) := by omega
        have hld : decide ((0 : Int) < (s.length : Int)) = false := decide_eq_false hl0'
        clear hs0
        go_wp2
        go_meet
        case rel => rw [HH.out]; exact HA2.out
      · have hl0 : (0 : Int) < s.length := by have := List.length_pos_iff.2 hs0; omega
        have HH : Hid (adHead s u 0 = [[34], s, [34, 32], adBrack u].flatten) := Lib.hid (by unfold adHead; rw [if_neg (by decide), if_neg (by simp), if_pos hs0]; simp)
        have hb34 : Bv (w2.alloc (Obj.cells #[.int .u8 34] 5)) (.slice (some ⟨w2.heap.size, 0, none⟩) 1 1) [34] := bv_lit w2 [34] (by decide) (0, 0)
        have hb342 : Bv ((w2.alloc (Obj.cells #[.int .u8 34] 5)).alloc (Obj.cells #[.int .u8 34, .int .u8 32] 5)) (.slice (some ⟨(w2.alloc (Obj.cells #[.int .u8 34] 5)).heap.size, 0, none⟩) 2 2) [34, 32] := bv_lit (w2.alloc (Obj.cells #[.int .u8 34] 5)) [34, 32] (by decide) (0, 0)
        have hle4 : Le w2 ((w2.alloc (Obj.cells #[.int .u8 34] 5)).alloc (Obj.cells #[.int .u8 34, .int .u8 32] 5)) := ((Le.refl w2).alloc _).alloc _
        have hs4 := sl_four ((w2.alloc (Obj.cells #[.int .u8 34] 5)).alloc (Obj.cells #[.int .u8 34, .int .u8 32] 5)) _ _ _ _ _ _ _ _ (hb34.le ((Le.refl _).alloc (Obj.cells #[.int .u8 34, .int .u8 32] 5))) (HSW.out.le hle4) hb342 (HBW.out.le hle4)
        rw [show (w2.alloc (Obj.cells #[.int .u8 34] 5)).heap.size = w2.heap.size + 1 from by simp, show ((w2.alloc (Obj.cells #[.int .u8 34] 5)).alloc (Obj.cells #[.int .u8 34, .int .u8 32] 5)).heap.size = w2.heap.size + 2 from by simp] at hs4
        have HS4 := Lib.hid hs4
        clear hb34 hb342 hle4 hs4 hs0
        go_wp2_with fail
        refine (joined_c _ _ _ HS4.out (by have := HBL.out; have := HGL.out; simp only [List.flatten_cons, List.flatten_nil, List.length_append, List.length_cons, List.length_nil]; omega)).mono ?_
        rintro e w3 ⟨v3, rfl, hown3, hle3⟩
        have HLX := Lib.hid (((HA2.out.le.alloc (Obj.cells #[.int .u8 34] 5)).alloc (Obj.cells #[.int .u8 34, .int .u8 32] 5)).alloc (Obj.cells #[.slice (some ⟨w2.heap.size, 0, none⟩) 1 1, .slice As s.length cs, .slice (some ⟨w2.heap.size + 1, 0, none⟩) 2 2, .slice A2 n2 c2] 22))
        have HA3 : Hid (AtI W0 (adHead s u 0) v3 w3) := Lib.hid ⟨HLX.out.trans hle3, by rw [HH.out]; exact World.ownsRow.mono hown3 (base' := W0.heap.size) HLX.out.size⟩
        clear hown3 hle3
        go_wp2
        go_meet
        case rel => exact HA3.out
    · by_cases hs0 : s = []
      · have hl0 : (s.length : Int) = 0 := by rw [hs0]; rfl
        have HH : Hid (adHead s u 1 = adBrack u) := Lib.hid (by unfold adHead; rw [if_neg (by decide), if_neg (by simp [hs0]), if_neg (by simp [hs0])])
        have hl0' : ¬ (0 : Int) < (s.length : Int) := by omega
        have hld : decide ((0 : Int) < (s.length : Int)) = false := decide_eq_false hl0'
        clear hs0
        go_wp2
        go_meet
        case rel => rw [HH.out]; exact HA2.out
      · have hl0 : (0 : Int) < s.length := by have := List.length_pos_iff.2 hs0; omega
        have HH : Hid (adHead s u 1 = [s, [32], adBrack u].flatten) := Lib.hid (by unfold adHead; rw [if_neg (by decide), if_pos ⟨rfl, hs0⟩]; simp)
        have hb32 : Bv (w2.alloc (Obj.cells #[.int .u8 32] 5)) (.slice (some ⟨w2.heap.size, 0, none⟩) 1 1) [32] := bv_lit w2 [32] (by decide) (0, 0)
        have hle4 : Le w2 (w2.alloc (Obj.cells #[.int .u8 32] 5)) := (Le.refl w2).alloc _
        have hs4 := sl_three (w2.alloc (Obj.cells #[.int .u8 32] 5)) _ _ _ _ _ _ (HSW.out.le hle4) hb32 (HBW.out.le hle4)
        rw [show (w2.alloc (Obj.cells #[.int .u8 32] 5)).heap.size = w2.heap.size + 1 from by simp] at hs4
        have HS4 := Lib.hid hs4
        clear hb32 hle4 hs4 hs0
        go_wp2_with fail
        refine (joined_c _ _ _ HS4.out (by have := HBL.out; have := HGL.out; simp only [List.flatten_cons, List.flatten_nil, List.length_append, List.length_cons, List.length_nil]; omega)).mono ?_
        rintro e w3 ⟨v3, rfl, hown3, hle3⟩
        have HLX := Lib.hid ((HA2.out.le.alloc (Obj.cells #[.int .u8 32] 5)).alloc (Obj.cells #[.slice As s.length cs, .slice (some ⟨w2.heap.size, 0, none⟩) 1 1, .slice A2 n2 c2] 22))
        have HA3 : Hid (AtI W0 (adHead s u 1) v3 w3) := Lib.hid ⟨HLX.out.trans hle3, by rw [HH.out]; exact World.ownsRow.mono hown3 (base' := W0.heap.size) HLX.out.size⟩
        clear hown3 hle3
        go_wp2
        go_meet
        case rel => exact HA3.out
    · have HB2 := Lib.hid (HA2.out.le.heap HB0.out)
      have HX2 := Lib.hid (HX.out.le (HL0.out.trans HA2.out.le))
      have HH : Hid (adHead s u 2 = lwText u) := Lib.hid (by unfold adHead; rw [if_pos rfl, HTX.out])
      go_wp2_with (refine wpList_load_row rfl 32 (.tmp 5) rfl w.heap.size rfl 32 x.row (0, 0) _ HB2.out Tryz.underlying32 rfl uri_size ?_)
      refine (lUriText_c _ x u HX2.out HSZ.out).mono ?_
      rintro e w3 ⟨v3, rfl, hown3, hle3⟩
      have HA3 : Hid (AtI W0 (adHead s u 2) v3 w3) := Lib.hid ⟨HA2.out.le.trans hle3, by rw [HH.out]; exact World.ownsRow.mono hown3 (base' := W0.heap.size) HA2.out.le.size⟩
      clear hown3 hle3
      go_wp2
      go_meet
      case rel => exact HA3.out
  case rest =>
    have HC := Lib.hid hcut
    obtain ⟨n3, A3, c3, rfl⟩ := hcut.shape
    have HHL : Hid ((adHead s u form).length ≤ 1000020000) := Lib.hid (by
      have h1 := HBL.out
      have h2 := HG.out.len
      have h3 := HUL.out
      unfold adHead
      rw [HTX.out]
      split
      · omega
      · split
        · simp only [List.length_append, List.length_cons]; omega
        · split
          · simp only [List.length_append, List.length_cons]; omega
          · omega)
    clear hcut hf
    by_cases hl0 : l = []
    · have hl0' : (l.length : Int) = 0 := by rw [hl0]; rfl
      have hld : decide ((0 : Int) < (l.length : Int)) = false := decide_eq_false (by omega)
      have HT : Hid (adHead s u form ++ adTail l = adHead s u form) := Lib.hid (by unfold adTail; rw [if_pos hl0, List.append_nil])
      clear hl0
      go_wp2
      go_ret
      refine ⟨_, rfl, ?_, HL0.out.trans HC.out.le, ?_⟩
      · rw [HT.out]; exact HC.out.own.bv (by have := HHL.out; omega)
      · rw [HT.out]; have := HHL.out; omega
    · have hl0' : (0 : Int) < l.length := by have := List.length_pos_iff.2 hl0; omega
      have HT : Hid (adHead s u form ++ adTail l = adHead s u form ++ [59] ++ ptT l 59) := Lib.hid (by unfold adTail; rw [if_neg hl0]; simp)
      have HPL : Hid ((ptT l 59).length ≤ 2097152) := Lib.hid (by have h := HPG.out.ptlen 59 l.length (Nat.le_refl _); rw [ptP_all] at h; exact h)
      have hb59 : Bv (wc.alloc (Obj.cells #[.int .u8 59] 5)) (.slice (some ⟨wc.heap.size, 0, none⟩) 1 1) [59] := bv_lit wc [59] (by decide) (0, 0)
      have H59 := Lib.hid hb59
      have HO := Lib.hid (HC.out.own.le ((Le.refl wc).alloc (Obj.cells #[.int .u8 59] 5)))
      have HSI := Lib.hid (HC.out.le.alloc (Obj.cells #[.int .u8 59] 5))
      clear hl0 hb59
      go_wp2_with (at_builtin; refine wpList_append_bv rfl (.tmp 47) (.tmp 48) rfl (base := W0.heap.size) rfl rfl HO.out H59.out (by have := HHL.out; simp only [List.length_cons, List.length_nil]; omega) HSI.out.size ?_)
      intro v4 w4 hown4 hgrow4
      have HA4 : Hid (AtI W0 (adHead s u form ++ [59]) v4 w4) := Lib.hid ⟨Below.grown' HSI.out hgrow4 (Nat.le_refl _) (fun g hg => (own_row' HO.out g hg).1), hown4⟩
      obtain ⟨n4, A4, c4, rfl⟩ := HA4.out.shape
      have HL4 := Lib.hid (HL.out.le (HL0.out.trans HA4.out.le))
      clear hown4 hgrow4
      go_wp2_with fail
      refine (pText_q _ l 59 59 rfl w4 HL4.out HPG.out).mono ?_
      rintro e w5 ⟨v5, rfl, hown5, hle5⟩
      have hb5 := hown5.bv (by have := HPL.out; omega)
      obtain ⟨m5, A5, c5, rfl⟩ : ∃ m A c, v5 = .slice A m c := by obtain ⟨A, c, e⟩ := hb5.form; exact ⟨_, A, c, e⟩
      have HB5 := Lib.hid hb5
      have HO5 := Lib.hid (HA4.out.own.le hle5)
      have HS5 := Lib.hid (HA4.out.le.trans hle5)
      clear hown5 hle5 hb5
      go_wp2_with (at_builtin; refine wpList_append_bv rfl (.tmp 49) (.tmp 51) rfl (base := W0.heap.size) rfl rfl HO5.out HB5.out (by have := HHL.out; have := HPL.out; simp only [List.length_append, List.length_cons, List.length_nil]; omega) HS5.out.size ?_)
      intro v6 w6 hown6 hgrow6
      have HA6 : Hid (AtI W0 (adHead s u form ++ adTail l) v6 w6) := Lib.hid ⟨Below.grown' HS5.out hgrow6 (Nat.le_refl _) (fun g hg => (own_row' HO5.out g hg).1), by rw [HT.out]; simpa using hown6⟩
      have HTL : Hid ((adHead s u form ++ adTail l).length ≤ 1099511627000) := Lib.hid (by have := HHL.out; have := HPL.out; rw [HT.out]; simp only [List.length_append, List.length_cons, List.length_nil]; omega)
      clear hown6 hgrow6
      go_wp2
      go_ret
      exact ⟨_, rfl, HA6.out.own.bv (by have := HTL.out; omega), HL0.out.trans HA6.out.le, HTL.out⟩
end Go.Proofs.YteedhaenbamiaaaGreatDoor
