/- Contract: the law FnUriOther. -/
import Derived.Test.YtainljmnhocbgaaGreatDoorLw2
import Derived.Test.YtainljmnhocbgaaGreatDoorRaw
import Derived.Great.BuildSlice
set_option linter.unusedVariables false
set_option linter.unusedSimpArgs false
namespace Go.Proofs.YtainljmnhocbgaaGreatDoor
open Go.RowKit

theorem is_d (w : World) (a : Value) (la lb : Tx) (s : ByteArray) (r : Bool) (ha : Bv w a la) (hs : bs s = lb) (hl : lb.length ≤ 140737488355328) (h : decide (la = lb) = r) :
    Calls Tryz.prog 18 #[a, .string s] w fun e w' => e = .returned (.bool r) ∧ Le w w' := by
  have := is_c w a la s ha (by rw [← bs_len, hs]; exact hl)
  rw [hs, h] at this
  exact this
theorem equal_l (w : World) (x y : Value) (lx ly : Tx) (b : Bool) (h : decide (lx = ly) = b) (hx : Bv w x lx) (hy : Bv w y ly) :
    Calls Tryz.prog 15 #[x, y] w fun e w' => e = .returned (.bool b) ∧ Le w w' :=
  (equal_b w x y lx ly b h hx hy).mono fun e w' ⟨h1, m, h2⟩ => ⟨h1, h2 ▸ (Le.refl w).drewN m⟩
theorem isLine_d (v : Value) (l : Tx) (w : World) (r : Bool) (h : lineB l = r) (hv : Bv w v l) : Calls Tryz.prog 19 #[v] w fun e w' => e = .returned (.bool r) ∧ w = w' := by
  rw [← h]; exact isLine_c v l w hv
/-- what the law speaks of -/
structure GoodUO (sc rest : Tx) : Prop where
  ne : sc ≠ []
  len : sc.length ≤ 8192
  sip : sc ≠ sSip
  sips : sc ≠ sSips
  line : lineB rest = true
theorem lineB_len {l : Tx} (h : lineB l = true) : l ≠ [] ∧ l.length ≤ 8192 := by
  unfold lineB at h
  simp only [Bool.and_eq_true, decide_eq_true_eq] at h
  exact ⟨List.length_pos_iff.1 h.1.1.1.2, h.1.1.2⟩
def lwq (c : UInt8) : Bool := 97 ≤ c && c ≤ 122
theorem lwq_int (c : UInt8) : lwq c = (decide (97 ≤ (c.toNat : Int)) && decide ((c.toNat : Int) ≤ 122)) := by
  have e1 : (97 : UInt8).toNat = 97 := rfl
  have e2 : (122 : UInt8).toNat = 122 := rfl
  have h1 : decide ((97 : UInt8) ≤ c) = decide (97 ≤ (c.toNat : Int)) := by
    rw [Bool.eq_iff_iff]; simp only [decide_eq_true_eq, UInt8.le_iff_toNat_le]; omega
  have h2 : decide (c ≤ (122 : UInt8)) = decide ((c.toNat : Int) ≤ 122) := by
    rw [Bool.eq_iff_iff]; simp only [decide_eq_true_eq, UInt8.le_iff_toNat_le]; omega
  unfold lwq
  rw [h1, h2]
theorem other_small {sc rest : Tx} (h1 : sc.length ≤ 8192) (h2 : rest.length ≤ 8192) : ({ PU.zero with scheme := sc, raw := rest } : PU).small := by
  unfold PU.small PU.zero; simp; omega
set_option maxRecDepth 8000 in
set_option maxHeartbeats 8000000 in
theorem fnUriOther_c (w : World) (a b : Value) (sc rest : Tx) (ha : Bv w a sc) (hb : Bv w b rest) (hL : Laid w) :
    Calls Tryz.prog 6 #[a, b] w fun e w' => e = .returned (.bool true) ∧ Le w w' := by
  have HA := Lib.hid ha
  have HB := Lib.hid hb
  have HL := Lib.hid hL
  obtain ⟨A0, c0, rfl, hl0⟩ := bv_slice ha
  obtain ⟨A1, c1, rfl, hl1⟩ := bv_slice hb
  have HR0 : Hid (Rb w A0 sc) := Lib.hid (by obtain ⟨A, c, e, _, _, h⟩ := ha; injection e with e; subst e; exact h)
  have HR1 : Hid (Rb w A1 rest) := Lib.hid (by obtain ⟨A, c, e, _, _, h⟩ := hb; injection e with e; subst e; exact h)
  clear ha hb hL
  by_cases h1 : 2147483647 < sc.length
  · have h1' : (2147483647 : Int) < sc.length := by omega
    go_enter Tryz.func6, Tryz.ntmps6
    go_wp2
    go_ret
    exact ⟨rfl, Le.refl w⟩
  have h1' : (sc.length : Int) ≤ 2147483647 := by omega
  by_cases h2 : 2147483647 < rest.length
  · have h2' : (2147483647 : Int) < rest.length := by omega
    go_enter Tryz.func6, Tryz.ntmps6
    go_wp2
    go_ret
    exact ⟨rfl, Le.refl w⟩
  have h2' : (rest.length : Int) ≤ 2147483647 := by omega
  go_enter Tryz.func6, Tryz.ntmps6
  go_wp2
  go_loop [5] (fun i => ∃ k : Nat, k ≤ sc.length ∧ i = .int .i64 k ∧ (sc.take k).all lwq = true) (fun i => sc.length - (intOf i).toNat)
  case atStart => exact ⟨0, Nat.zero_le _, rfl, rfl⟩
  case round =>
    obtain ⟨k, hk, rfl, hq⟩ := hrel
    have HQ := Lib.hid hq
    clear hq
    by_cases hlt : k < sc.length
    · obtain ⟨g, o, rfl, d1⟩ := HR0.out.at_ hlt
      by_cases n1 : 97 ≤ (sc[k].toNat : Int)
      · by_cases n2 : (sc[k].toNat : Int) ≤ 122
        · have hp : lwq sc[k] = true := by rw [lwq_int, decide_eq_true n1, decide_eq_true n2]; rfl
          have HX : Hid ((sc.take (k + 1)).all lwq = true) := Lib.hid (by rw [List.take_succ_eq_append_getElem hlt, List.all_append, HQ.out]; simpa using hp)
          clear hp
          generalize (sc[k].toNat : Int) = x at d1 n1 n2
          go_wp2
          go_round
          case rel => exact ⟨k + 1, by omega, by go_num, HX.out⟩
          case measure => simp [intOf]; omega
        · have n3 : 122 < (sc[k].toNat : Int) := by omega
          clear n2
          generalize (sc[k].toNat : Int) = x at d1 n1 n3
          go_wp2_with fail
          refine (known_c w HL.out).mono ?_
          rintro e w' ⟨rfl, hle⟩
          have HLE := Lib.hid hle
          clear hle
          go_wp2
          go_ret
          exact ⟨rfl, HLE.out⟩
      · have n3 : (sc[k].toNat : Int) < 97 := by omega
        clear n1
        generalize (sc[k].toNat : Int) = x at d1 n3
        go_wp2_with fail
        refine (known_c w HL.out).mono ?_
        rintro e w' ⟨rfl, hle⟩
        have HLE := Lib.hid hle
        clear hle
        go_wp2
        go_ret
        exact ⟨rfl, HLE.out⟩
    · have HAL : Hid (sc.all lwq = true) := Lib.hid (by have := HQ.out; rw [List.take_of_length_le (by omega)] at this; exact this)
      clear hk
      go_upto_region 8 with fail
      go_cut [68] from 36 to 68 (fun s68 wc => ∃ g : Bool, s68 = .bool g ∧ Le w wc ∧ (g = false → GoodUO sc rest))
      case first =>
        by_cases c1 : sc.length = 0
        · have hsc : sc = [] := List.eq_nil_of_length_eq_zero c1
          subst hsc
          go_wp2
          go_meet
          case rel => exact ⟨true, rfl, Le.refl w, fun h => by cases h⟩
        have c1' : ((sc.length : Int) == 0) = false := by rw [beq_eq_false_iff_ne]; omega
        have C1 : Hid (¬ sc.length = 0) := Lib.hid c1
        by_cases c2 : 8192 < sc.length
        · have c2' : (8192 : Int) < sc.length := by omega
          clear c1
          go_wp2
          go_meet
          case rel => exact ⟨true, rfl, Le.refl w, fun h => by cases h⟩
        have c2' : decide ((8192 : Int) < (sc.length : Int)) = false := decide_eq_false (by omega)
        have C2 : Hid (sc.length ≤ 8192) := Lib.hid (by omega)
        clear c1 c2
        go_wp2_with fail
        obtain ⟨r1, hr1⟩ : ∃ r, decide (sc = sSip) = r := ⟨_, rfl⟩
        refine (is_d w _ sc sSip _ r1 HA.out rfl (by decide) hr1).mono ?_
        rintro e w1 ⟨rfl, hle1⟩
        have HLE1 := Lib.hid hle1
        have R1 := Lib.hid hr1
        clear hle1 hr1
        cases r1
        case true =>
          go_wp2
          go_meet
          case rel => exact ⟨true, rfl, HLE1.out, fun h => by cases h⟩
        go_wp2_with fail
        obtain ⟨r2, hr2⟩ : ∃ r, decide (sc = sSips) = r := ⟨_, rfl⟩
        refine (is_d w1 _ sc sSips _ r2 (HA.out.le HLE1.out) rfl (by decide) hr2).mono ?_
        rintro e w2 ⟨rfl, hle2⟩
        have HLE2 := Lib.hid (Le.trans HLE1.out hle2)
        have R2 := Lib.hid hr2
        clear hle2 hr2
        cases r2
        case true =>
          go_wp2
          go_meet
          case rel => exact ⟨true, rfl, HLE2.out, fun h => by cases h⟩
        go_wp2_with fail
        obtain ⟨r3, hr3⟩ : ∃ r, lineB rest = r := ⟨_, rfl⟩
        refine (isLine_d _ rest w2 r3 hr3 (HB.out.le HLE2.out)).mono ?_
        rintro e w' ⟨rfl, rfl⟩
        have R3 := Lib.hid hr3
        clear hr3
        cases r3
        case false =>
          go_wp2
          go_meet
          case rel => exact ⟨true, rfl, HLE2.out, fun h => by cases h⟩
        have hpos : 0 < rest.length := List.length_pos_iff.2 (lineB_len R3.out).1
        obtain ⟨g, o, rfl, d0⟩ := HR1.out.at_ hpos
        have d1 := HLE2.out.cell d0
        rw [Nat.add_zero] at d1
        have HG : Hid (GoodUO sc rest) := Lib.hid ⟨fun h => C1.out (by rw [h]; rfl), C2.out, of_decide_eq_false R1.out, of_decide_eq_false R2.out, R3.out⟩
        by_cases c6 : rest[0] = 47
        · have f6 : ((rest[0].toNat : Int) == 47) = true := eq_t (n := 47) (by omega) c6
          clear c6 d0
          generalize (rest[0].toNat : Int) = x at d1 f6
          go_wp2
          go_meet
          case rel => exact ⟨true, rfl, HLE2.out, fun h => by cases h⟩
        · have f6 : ((rest[0].toNat : Int) == 47) = false := eq_f (n := 47) (by omega) c6
          clear c6 d0
          generalize (rest[0].toNat : Int) = x at d1 f6
          go_wp2_with fail
          refine (spaces_c _ rest w2 (HB.out.le HLE2.out)).mono ?_
          rintro e w3 ⟨v3, rfl, hown, hle3⟩
          have HLE3 := Lib.hid (Le.trans HLE2.out hle3)
          obtain ⟨A3, c3, rfl, _⟩ := bv_slice (hown.bv (Nat.le_trans (List.length_filter_le _ _) hl1))
          clear hown hle3
          by_cases c7 : 0 < (rest.filter blq).length
          · have c7' : (0 : Int) < (rest.filter blq).length := by omega
            go_wp2
            go_meet
            case rel => exact ⟨true, rfl, HLE3.out, fun h => by cases h⟩
          · have c7' : (rest.filter blq).length = 0 := by omega
            generalize (rest.filter blq).length = m at c7'
            subst c7'
            go_wp2
            go_meet
            case rel => exact ⟨false, rfl, HLE3.out, fun _ => HG.out⟩
      obtain ⟨g, rfl, hle, hgood⟩ := hcut
      have HLE := Lib.hid hle
      have HGD := Lib.hid hgood
      clear hle hgood
      cases g
      case true =>
        go_wp2_with fail
        refine (known_c _ (HL.out.le HLE.out)).mono ?_
        rintro e w' ⟨rfl, hle⟩
        have HLE' := Lib.hid (Le.trans HLE.out hle)
        clear hle
        go_wp2
        go_ret
        exact ⟨rfl, HLE'.out⟩
      have HG := Lib.hid (HGD.out rfl)
      clear HGD
      have hsl := HG.out.len
      have hrl := (lineB_len HG.out.line).2
      -- the text
      have hb1 : Bv (wc.alloc (Obj.cells #[.int .u8 58] 5)) (.slice (some ⟨wc.heap.size, 0, none⟩) 1 1) [58] := bv_lit wc [58] (by decide) (0, 0)
      obtain ⟨W2, hW2, hle2⟩ : ∃ W2, W2 = (wc.alloc (Obj.cells #[.int .u8 58] 5)).alloc (Obj.cells #[.slice A0 sc.length c0, .slice (some ⟨wc.heap.size, 0, none⟩) 1 1, .slice A1 rest.length c1] 22) ∧ Le wc W2 := ⟨_, rfl, ((Le.refl wc).alloc _).alloc _⟩
      have hSl : Sl W2 W2 (.slice (some ⟨wc.heap.size + 1, 0, none⟩) 3 3) [sc, [58], rest] := by
        refine ⟨_, 3, rfl, by simp, by simp, by simp, fun _ => ⟨wc.heap.size + 1, 0, rfl, fun j hj => ?_⟩⟩
        have hbk : W2.heap[wc.heap.size + 1]? = some (.cells #[.slice A0 sc.length c0, .slice (some ⟨wc.heap.size, 0, none⟩) 1 1, .slice A1 rest.length c1] 22 (0, 0)) := by rw [hW2]; exact heap_alloc2_new wc _ _
        have hle1 : Le (wc.alloc (Obj.cells #[.int .u8 58] 5)) W2 := by rw [hW2]; exact (Le.refl _).alloc _
        rw [Nat.zero_add, cell_cells hbk j]
        match j, hj with
        | 0, _ => exact ⟨_, rfl, HA.out.le (Le.trans HLE.out hle2)⟩
        | 1, _ => exact ⟨_, rfl, hb1.le hle1⟩
        | 2, _ => exact ⟨_, rfl, HB.out.le (Le.trans HLE.out hle2)⟩
      have HSL := Lib.hid hSl
      have HLE2 := Lib.hid (Le.trans HLE.out hle2)
      clear hb1 hSl hle2
      subst hW2
      go_wp2_with fail
      refine (joined_c _ _ _ HSL.out (by simp; omega)).mono ?_
      rintro e w3 ⟨v3, rfl, hown, hle3⟩
      have HLE3 := Lib.hid (Le.trans HLE2.out hle3)
      have hfl : [sc, [58], rest].flatten = sc ++ 58 :: rest := by simp
      rw [hfl] at hown
      have HT : Hid (Bv w3 v3 (sc ++ 58 :: rest)) := Lib.hid (hown.bv (by simp; omega))
      obtain ⟨A3, c3, rfl, _⟩ := bv_slice HT.out
      have HTL : Hid ((sc ++ 58 :: rest).length ≤ 1099511627000) := Lib.hid (by simp; omega)
      clear hown hle3 hfl
      generalize (sc ++ 58 :: rest).length = tn at HT ⊢
      go_wp2_with fail
      refine (iparse_c w3 _ (sc ++ 58 :: rest) HT.out HTL.out (HL.out.le HLE3.out)).mono ?_
      rintro e w4 ⟨hle4, x, ok, r, rfl, hx, hpt⟩
      have HLE4 := Lib.hid (Le.trans HLE3.out hle4)
      have HL34 := Lib.hid hle4
      have HAL' : Hid (∀ c ∈ sc, (97 ≤ c && c ≤ 122) = true) := Lib.hid (List.all_eq_true.1 HAL.out)
      have HLW : Hid (∀ q, PTop (sc ++ 58 :: rest) PU.zero q → q = some { PU.zero with scheme := sc, raw := rest }) :=
        Lib.hid (fun q hq => law_other HG.out.ne HAL'.out (fun h => h.elim HG.out.sip HG.out.sips) (lineB_len HG.out.line).1 hq)
      have hrr := HLW.out _ hpt
      obtain ⟨rfl, rfl⟩ : ok = true ∧ r = { PU.zero with scheme := sc, raw := rest } := by
        cases ok with
        | false => cases hrr
        | true => exact ⟨rfl, by injection hrr⟩
      have HX := Lib.hid hx
      obtain ⟨R, hR, hRs⟩ : ∃ R, x.val = .agg R ∧ R = x.row := ⟨_, rfl, rfl⟩
      have hone : R.all (·.oneCell') = true := by rw [hRs]; exact hx.one
      have hsz : R.size = 10 := by rw [hRs]; rfl
      have HRR := Lib.hid hR
      have HRS := Lib.hid hRs
      have hst := run_storeCells_new (P := Tryz.prog) w4 26 #[.slice none 0 0, .slice none 0 0, .bool false, .bool false, .slice none 0 0, .slice none 0 0, .slice none 0 0, .int .i64 0, .slice none 0 0, .slice none 0 0] R (by rw [hsz]; exact uri_size) (by rw [hsz]; rfl) hone
      rw [hR]
      clear hx hR hRs hone hrr hpt hle4
      go_upto_region 12 with fail
      have HLE5 : Hid (Le w (w4.alloc (Obj.cells R 26))) := Lib.hid (HLE4.out.alloc _)
      have HX5 := Lib.hid (HX.out.le ((Le.refl w4).alloc (Obj.cells R 26)))
      have HT5 := Lib.hid ((HT.out.le HL34.out).le ((Le.refl w4).alloc (Obj.cells R 26)))
      have HB5 := Lib.hid (heap_alloc_new w4 (Obj.cells R 26))
      clear hst
      generalize w4.alloc (Obj.cells R 26) = W5 at HLE5 HX5 HT5 HB5 ⊢
      have x0 : W5.cell? ⟨w4.heap.size, 0, none⟩ = some x.scheme := by rw [cell_cells HB5.out 0, HRS.out]; rfl
      go_wp2_with fail
      refine (equal_l W5 _ _ sc sc true (by simp) HX5.out.scheme.1 (HA.out.le HLE5.out)).mono ?_
      rintro e w6 ⟨rfl, hle6⟩
      have HLE6 := Lib.hid (Le.trans HLE5.out hle6)
      have HX6 := Lib.hid (HX5.out.le hle6)
      have HT6 := Lib.hid (HT5.out.le hle6)
      have HB6 := Lib.hid (hle6.heap HB5.out)
      clear hle6 x0
      have x1 : w6.cell? ⟨w4.heap.size, 1, none⟩ = some x.raw := by rw [cell_cells HB6.out 1, HRS.out]; rfl
      go_wp2_with fail
      refine (equal_l w6 _ _ rest rest true (by simp) HX6.out.raw.1 (HB.out.le HLE6.out)).mono ?_
      rintro e w7 ⟨rfl, hle7⟩
      have HLE7 := Lib.hid (Le.trans HLE6.out hle7)
      have HX7 := Lib.hid (HX6.out.le hle7)
      have HT7 := Lib.hid (HT6.out.le hle7)
      have HB7 := Lib.hid (hle7.heap HB6.out)
      clear hle7 x1
      have y0 : w7.cell? ⟨w4.heap.size, 0, none⟩ = some (x.scheme) := by rw [cell_cells HB7.out 0, HRS.out]; rfl
      have y1 : w7.cell? ⟨w4.heap.size, 1, none⟩ = some (x.raw) := by rw [cell_cells HB7.out 1, HRS.out]; rfl
      have y2 : w7.cell? ⟨w4.heap.size, 2, none⟩ = some (.bool x.wild) := by rw [cell_cells HB7.out 2, HRS.out]; rfl
      have y3 : w7.cell? ⟨w4.heap.size, 3, none⟩ = some (.bool x.slash) := by rw [cell_cells HB7.out 3, HRS.out]; rfl
      have y4 : w7.cell? ⟨w4.heap.size, 4, none⟩ = some (x.user) := by rw [cell_cells HB7.out 4, HRS.out]; rfl
      have y5 : w7.cell? ⟨w4.heap.size, 5, none⟩ = some (x.pass) := by rw [cell_cells HB7.out 5, HRS.out]; rfl
      have y6 : w7.cell? ⟨w4.heap.size, 6, none⟩ = some (x.host) := by rw [cell_cells HB7.out 6, HRS.out]; rfl
      have y7 : w7.cell? ⟨w4.heap.size, 7, none⟩ = some (.int .i64 x.port) := by rw [cell_cells HB7.out 7, HRS.out]; rfl
      have y8 : w7.cell? ⟨w4.heap.size, 8, none⟩ = some (x.ps) := by rw [cell_cells HB7.out 8, HRS.out]; rfl
      have y9 : w7.cell? ⟨w4.heap.size, 9, none⟩ = some (x.hs) := by rw [cell_cells HB7.out 9, HRS.out]; rfl
      go_wp2_with fail
      refine (uriTextRaw_c _ w7 x { PU.zero with scheme := sc, raw := rest } HX7.out (lineB_len HG.out.line).1 (HL.out.le HLE7.out) HTL.out HLW.out (other_small hsl hrl) rfl rfl rfl).mono ?_
      rintro e w8 ⟨v8, rfl, hv8, hle8⟩
      have HLE8 := Lib.hid (Le.trans HLE7.out hle8)
      have HT8 := Lib.hid (HT7.out.le hle8)
      have hut : uText { PU.zero with scheme := sc, raw := rest } = sc ++ 58 :: rest := by
        unfold uText uSch
        simp only [if_neg HG.out.ne, if_neg (lineB_len HG.out.line).1]
      rw [hut] at hv8
      have HV8 := Lib.hid hv8.1
      clear hv8 hle8 hut y0 y1 y2 y3 y4 y5 y6 y7 y8 y9
      go_wp2_with fail
      refine (equal_l w8 _ _ (sc ++ 58 :: rest) (sc ++ 58 :: rest) true (by simp) HV8.out HT8.out).mono ?_
      rintro e w9 ⟨rfl, hle9⟩
      have HLE9 := Lib.hid (Le.trans HLE8.out hle9)
      clear hle9
      go_wp2_with fail
      refine (known_c _ (HL.out.le HLE9.out)).mono ?_
      rintro e w10 ⟨rfl, hle10⟩
      have HLE10 := Lib.hid (Le.trans HLE9.out hle10)
      clear hle10
      go_wp2
      go_ret
      exact ⟨rfl, HLE10.out⟩
end Go.Proofs.YtainljmnhocbgaaGreatDoor
