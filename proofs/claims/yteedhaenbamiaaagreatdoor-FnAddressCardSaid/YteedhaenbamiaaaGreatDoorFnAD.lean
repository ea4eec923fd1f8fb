/- Contract: the law FnAddress (printed by gen_fnad.py). -/
import Derived.Test.YteedhaenbamiaaaGreatDoorAdT
import Derived.Test.YteedhaenbamiaaaGreatDoorAdI
set_option linter.unusedVariables false
set_option linter.unusedSimpArgs false
namespace Go.Proofs.YteedhaenbamiaaaGreatDoor
open Go.RowKit

theorem shB_k {s : Tx} (h : shB s = true) : (∀ c ∈ s, c ≠ 34 ∧ c ≠ 92) ∧ s.length ≤ 8192 := by
  unfold shB at h
  simp only [Bool.and_eq_true, Bool.or_eq_true] at h
  refine ⟨fun c hc => ?_, ?_⟩
  · have := List.all_eq_true.1 h.1 c hc
    unfold shC at this
    simpa using this
  · rcases h.2 with h | h
    · have : s = [] := by simpa using h
      rw [this]; simp
    · exact (lineB_len h).2
theorem form_three (n : Int) : ∀ z : Int, z = wrap64 (Int.tmod (IntKind.u64.wrap n) 3) → z = 0 ∨ z = 1 ∨ z = 2 := by
  intro z hz
  subst hz
  have e : IntKind.u64.wrap n = n % 18446744073709551616 := by unfold IntKind.wrap; simp [IntKind.signed, IntKind.bits]
  have h0 : 0 ≤ IntKind.u64.wrap n := by rw [e]; exact Int.emod_nonneg _ (by decide)
  have h1 := Int.tmod_nonneg 3 h0
  have h2 := Int.tmod_lt_of_pos (IntKind.u64.wrap n) (by decide : (0 : Int) < 3)
  unfold wrap64
  omega

set_option maxRecDepth 8000 in
set_option maxHeartbeats 16000000 in
theorem fnAddress_c (w : World) (sv : Value) (x : UV) (lv : Value) (s : Tx) (u : PU) (l : KVs) (n : Int) (hs : Bv w sv s) (hx : Uw w x u) (hl : Kw w lv l) (hn : IntKind.i64.min ≤ n ∧ n ≤ IntKind.i64.max) (hL : LaidA w) :
    Calls Tryz.prog 6 #[sv, x.val, lv, .int .i64 n] w fun e w' => e = .returned (.bool true) ∧ Le w w' := by
  have HS := Lib.hid hs
  have HX := Lib.hid hx
  have HLV := Lib.hid hl
  have HL := Lib.hid hL
  obtain ⟨As, cs, rfl⟩ : ∃ A c, sv = .slice A s.length c := hs.form
  obtain ⟨Al, cl, rfl⟩ : ∃ A c, lv = .slice A l.length c := hl.form
  have hval : Hid (x.val = .agg #[x.scheme, x.raw, .bool x.wild, .bool x.slash, x.user, x.pass, x.host, .int .i64 x.port, x.ps, x.hs]) := Lib.hid rfl
  clear hs hx hl hL
  rw [hval.out]
  go_enter Tryz.func6, Tryz.ntmps6
  have HB0 : Hid ((w.alloc (Obj.cells #[x.scheme, x.raw, .bool x.wild, .bool x.slash, x.user, x.pass, x.host, .int .i64 x.port, x.ps, x.hs] 32)).heap[w.heap.size]? = some (.cells x.row 32 (0, 0))) := Lib.hid (heap_alloc_new w _)
  have HL0 : Hid (Le w (w.alloc (Obj.cells #[x.scheme, x.raw, .bool x.wild, .bool x.slash, x.user, x.pass, x.host, .int .i64 x.port, x.ps, x.hs] 32))) := Lib.hid ((Le.refl w).alloc _)
  go_upto_region 1 with fail
  generalize w.alloc (Obj.cells #[x.scheme, x.raw, .bool x.wild, .bool x.slash, x.user, x.pass, x.host, .int .i64 x.port, x.ps, x.hs] 32) = W0 at HB0 HL0 ⊢
  generalize Value.agg #[x.scheme, x.raw, .bool x.wild, .bool x.slash, x.user, x.pass, x.host, .int .i64 x.port, x.ps, x.hs] = ag0
  go_cut [25] from 13 (fun s25 wx => ∃ big : Bool, s25 = .bool big ∧ Le W0 wx ∧ (big = false → s.length ≤ 2147483647 ∧ ftU u = true ∧ ftKs l = true))
  case first =>
    by_cases h1 : 2147483647 < s.length
    · have h1' : (2147483647 : Int) < s.length := by omega
      clear h1
      go_wp2
      go_meet
      case rel => exact ⟨true, rfl, Le.refl _, by simp⟩
    have h1' : (s.length : Int) ≤ 2147483647 := by omega
    have H1 := Lib.hid h1
    have hd1 : decide ((2147483647 : Int) < (s.length : Int)) = false := decide_eq_false (by omega)
    clear h1
    have xc0 : W0.cell? ⟨w.heap.size, 0, none⟩ = some (x.scheme) := by rw [cell_cells HB0.out 0]; rfl
    have xc1 : W0.cell? ⟨w.heap.size, 1, none⟩ = some (x.raw) := by rw [cell_cells HB0.out 1]; rfl
    have xc2 : W0.cell? ⟨w.heap.size, 2, none⟩ = some (.bool x.wild) := by rw [cell_cells HB0.out 2]; rfl
    have xc3 : W0.cell? ⟨w.heap.size, 3, none⟩ = some (.bool x.slash) := by rw [cell_cells HB0.out 3]; rfl
    have xc4 : W0.cell? ⟨w.heap.size, 4, none⟩ = some (x.user) := by rw [cell_cells HB0.out 4]; rfl
    have xc5 : W0.cell? ⟨w.heap.size, 5, none⟩ = some (x.pass) := by rw [cell_cells HB0.out 5]; rfl
    have xc6 : W0.cell? ⟨w.heap.size, 6, none⟩ = some (x.host) := by rw [cell_cells HB0.out 6]; rfl
    have xc7 : W0.cell? ⟨w.heap.size, 7, none⟩ = some (.int .i64 x.port) := by rw [cell_cells HB0.out 7]; rfl
    have xc8 : W0.cell? ⟨w.heap.size, 8, none⟩ = some (x.ps) := by rw [cell_cells HB0.out 8]; rfl
    have xc9 : W0.cell? ⟨w.heap.size, 9, none⟩ = some (x.hs) := by rw [cell_cells HB0.out 9]; rfl
    go_wp2_with fail
    refine (zzFits2_c W0 x u (ftU u) rfl (HX.out.le HL0.out)).mono ?_
    rintro e w1 ⟨rfl, hle1⟩
    have HL1 := Lib.hid hle1
    clear hle1 xc0 xc1 xc2 xc3 xc4 xc5 xc6 xc7 xc8 xc9
    obtain ⟨r1, hr1⟩ : ∃ r, ftU u = r := ⟨_, rfl⟩
    have HR1 := Lib.hid hr1
    rw [hr1]
    clear hr1
    cases r1
    · go_wp2
      go_meet
      case rel => exact ⟨true, rfl, HL1.out, by simp⟩
    go_wp2_with fail
    refine (zzFits3_c w1 _ l (ftKs l) rfl (HLV.out.le (HL0.out.trans HL1.out))).mono ?_
    rintro e w2 ⟨rfl, hle2⟩
    have HL2 := Lib.hid (HL1.out.trans hle2)
    clear hle2
    obtain ⟨r2, hr2⟩ : ∃ r, ftKs l = r := ⟨_, rfl⟩
    have HR2 := Lib.hid hr2
    rw [hr2]
    clear hr2
    cases r2
    · go_wp2
      go_meet
      case rel => exact ⟨true, rfl, HL2.out, by simp⟩
    · go_wp2
      go_meet
      case rel => exact ⟨false, rfl, HL2.out, fun _ => ⟨by have := H1.out; omega, HR1.out, HR2.out⟩⟩
  case rest =>
  obtain ⟨big, rfl, hle1, hbig⟩ := hcut
  have HL01 := Lib.hid (HL0.out.trans hle1)
  have HB1 := Lib.hid (hle1.heap HB0.out)
  have HBIG := Lib.hid hbig
  clear hle1 hbig HL0 HB0
  cases big
  case true =>
    go_wp2
    go_ret
    exact ⟨rfl, HL01.out⟩
  obtain ⟨hsl, hfu, hfl⟩ := HBIG.out rfl
  obtain ⟨_, _, _, _, _, f6, f7⟩ := ftU_parts hfu
  have HQ : Hid (Uq (fun _ => True) w x u) := Lib.hid (HX.out.uq (by have := (ftKs_parts f6).1; omega) (by have := (ftKs_parts f7).1; omega))
  have HK : Hid (Kq (fun _ => True) w (.slice Al l.length cl) l) := Lib.hid (HLV.out.kq (by have := (ftKs_parts hfl).1; omega))
  clear hsl hfu hfl f6 f7 HBIG
  go_upto_region 3 with fail
  go_cut [3] from 13 (fun s3 wx => ∃ f : Int, s3 = .int .i64 f ∧ wx = wc ∧ (f = 0 ∨ f = 1 ∨ f = 2))
  case first =>
    go_wp2
    go_meet
    case rel => exact ⟨_, rfl, rfl, form_three n _ rfl⟩
  case rest =>
  rename_i wd
  obtain ⟨f, rfl, rfl, hf⟩ := hcut
  have HF := Lib.hid hf
  clear hf
  go_upto_region 4 with fail
  rename World => W1
  go_cut [75] from 13 (fun s75 wx => ∃ bad : Bool, s75 = .bool bad ∧ Le W1 wx ∧ (bad = false → GoodA s u l f))
  case first =>
    obtain ⟨r1, hr1⟩ : ∃ r, shB s = r := ⟨_, rfl⟩
    have HR1 := Lib.hid hr1
    clear hr1
    go_wp2_with fail
    refine (isShown_c _ s W1 r1 HR1.out (HS.out.le HL01.out)).mono ?_
    rintro e w' ⟨rfl, rfl⟩
    cases r1
    · go_wp2
      go_meet
      case rel => exact ⟨true, rfl, Le.refl _, by simp⟩
    have xc0 : W1.cell? ⟨w.heap.size, 0, none⟩ = some (x.scheme) := by rw [cell_cells HB1.out 0]; rfl
    have xc1 : W1.cell? ⟨w.heap.size, 1, none⟩ = some (x.raw) := by rw [cell_cells HB1.out 1]; rfl
    have xc2 : W1.cell? ⟨w.heap.size, 2, none⟩ = some (.bool x.wild) := by rw [cell_cells HB1.out 2]; rfl
    have xc3 : W1.cell? ⟨w.heap.size, 3, none⟩ = some (.bool x.slash) := by rw [cell_cells HB1.out 3]; rfl
    have xc4 : W1.cell? ⟨w.heap.size, 4, none⟩ = some (x.user) := by rw [cell_cells HB1.out 4]; rfl
    have xc5 : W1.cell? ⟨w.heap.size, 5, none⟩ = some (x.pass) := by rw [cell_cells HB1.out 5]; rfl
    have xc6 : W1.cell? ⟨w.heap.size, 6, none⟩ = some (x.host) := by rw [cell_cells HB1.out 6]; rfl
    have xc7 : W1.cell? ⟨w.heap.size, 7, none⟩ = some (.int .i64 x.port) := by rw [cell_cells HB1.out 7]; rfl
    have xc8 : W1.cell? ⟨w.heap.size, 8, none⟩ = some (x.ps) := by rw [cell_cells HB1.out 8]; rfl
    have xc9 : W1.cell? ⟨w.heap.size, 9, none⟩ = some (x.hs) := by rw [cell_cells HB1.out 9]; rfl
    go_wp2_with fail
    refine (isUri_c W1 x u (HQ.out.le HL01.out)).mono ?_
    rintro e w2 ⟨r2, rfl, hr2, hle2⟩
    have HR2 := Lib.hid hr2
    have HL2 := Lib.hid hle2
    have HB2 := Lib.hid (hle2.heap HB1.out)
    clear hr2 hle2 xc0 xc1 xc2 xc3 xc4 xc5 xc6 xc7 xc8 xc9
    cases r2
    · go_wp2
      go_meet
      case rel => exact ⟨true, rfl, HL2.out, by simp⟩
    have HG2 := Lib.hid (HR2.out rfl)
    clear HR2
    obtain ⟨r3, hr3⟩ : ∃ r, prmB l false = r := ⟨_, rfl⟩
    have HR3 := Lib.hid hr3
    clear hr3
    go_wp2_with fail
    refine (isParams_c _ _ l false w2 r3 HR3.out (HK.out.le (HL01.out.trans HL2.out))).mono ?_
    rintro e w3 ⟨rfl, m3, hw3⟩
    have HL3 : Hid (Le W1 w3) := Lib.hid (by rw [hw3]; exact HL2.out.drewN m3)
    have HB3 : Hid (w3.heap[w.heap.size]? = some (.cells x.row 32 (0, 0))) := Lib.hid (by rw [hw3]; exact ((Le.refl w2).drewN m3).heap HB2.out)
    clear hw3
    cases r3
    · go_wp2
      go_meet
      case rel => exact ⟨true, rfl, HL3.out, by simp⟩
    have HGA : Hid ((f = 1 → s ≠ [] → wordB s = true) → (f = 2 → s = [] ∧ u.ps = [] ∧ u.hs = []) → GoodA s u l f) := Lib.hid (fun h1 h2 => ⟨(shB_k HR1.out).1, (shB_k HR1.out).2, HG2.out, HR3.out, h1, h2⟩)
    clear HR1 HG2 HR3 HB2
    rcases HF.out with rfl | rfl | rfl
    · go_wp2
      go_meet
      case rel => exact ⟨false, rfl, HL3.out, fun _ => HGA.out (fun h => by cases h) (fun h => by cases h)⟩
    · by_cases hs0 : s = []
      · have hl0 : (s.length : Int) = 0 := by rw [hs0]; rfl
        have hld : decide ((0 : Int) < (s.length : Int)) = false := decide_eq_false (by omega)
        have HS0 := Lib.hid hs0
        clear hs0
        go_wp2
        go_meet
        case rel => exact ⟨false, rfl, HL3.out, fun _ => HGA.out (fun _ h => absurd HS0.out h) (fun h => by cases h)⟩
      · have hl0 : (0 : Int) < s.length := by have := List.length_pos_iff.2 hs0; omega
        have hld : decide ((0 : Int) < (s.length : Int)) = true := decide_eq_true hl0
        obtain ⟨r4, hr4⟩ : ∃ r, wordB s = r := ⟨_, rfl⟩
        have HR4 := Lib.hid hr4
        clear hr4 hs0
        go_wp2_with fail
        refine (isWord_d _ s w3 r4 HR4.out (HS.out.le (HL01.out.trans HL3.out))).mono ?_
        rintro e w' ⟨rfl, rfl⟩
        cases r4
        · go_wp2
          go_meet
          case rel => exact ⟨true, rfl, HL3.out, by simp⟩
        · go_wp2
          go_meet
          case rel => exact ⟨false, rfl, HL3.out, fun _ => HGA.out (fun _ _ => HR4.out) (fun h => by cases h)⟩
    · by_cases hs0 : s = []
      · have hl0 : (s.length : Int) = 0 := by rw [hs0]; rfl
        have hld : decide ((0 : Int) < (s.length : Int)) = false := decide_eq_false (by omega)
        have HS0 := Lib.hid hs0
        obtain ⟨Ap, cp, ep⟩ : ∃ A c, x.ps = .slice A u.ps.length c := by obtain ⟨A, c, e, _⟩ := HQ.out.ps; exact ⟨A, c, e⟩
        obtain ⟨Ah, ch, eh⟩ : ∃ A c, x.hs = .slice A u.hs.length c := by obtain ⟨A, c, e, _⟩ := HQ.out.hs; exact ⟨A, c, e⟩
        have hpl : u.ps.length ≤ 1099511627776 := by obtain ⟨_, _, _, _, _, h, _⟩ := HQ.out.ps; exact h
        have hhl : u.hs.length ≤ 1099511627776 := by obtain ⟨_, _, _, _, _, h, _⟩ := HQ.out.hs; exact h
        have y8 : w3.cell? ⟨w.heap.size, 8, none⟩ = some (.slice Ap u.ps.length cp) := by rw [cell_cells HB3.out 8]; show some x.ps = _; rw [ep]
        have y9 : w3.cell? ⟨w.heap.size, 9, none⟩ = some (.slice Ah u.hs.length ch) := by rw [cell_cells HB3.out 9]; show some x.hs = _; rw [eh]
        clear hs0 ep eh
        by_cases hz : u.ps.length + u.hs.length = 0
        · have HP : Hid (u.ps = [] ∧ u.hs = []) := Lib.hid ⟨List.eq_nil_of_length_eq_zero (by omega), List.eq_nil_of_length_eq_zero (by omega)⟩
          obtain ⟨p1, hp1⟩ : ∃ n : Nat, u.ps.length = n := ⟨_, rfl⟩
          obtain ⟨p2, hp2⟩ : ∃ n : Nat, u.hs.length = n := ⟨_, rfl⟩
          rw [hp1] at y8
          rw [hp2] at y9
          obtain rfl : p1 = 0 := by omega
          obtain rfl : p2 = 0 := by omega
          clear hz hp1 hp2 hpl hhl
          go_wp2
          go_meet
          case rel => exact ⟨false, rfl, HL3.out, fun _ => HGA.out (fun h => by cases h) (fun _ => ⟨HS0.out, HP.out.1, HP.out.2⟩)⟩
        · have hz' : (0 : Int) < (u.ps.length : Int) + u.hs.length := by omega
          have hzd : decide ((0 : Int) < (u.ps.length : Int) + (u.hs.length : Int)) = true := decide_eq_true hz'
          clear hz
          go_wp2
          go_meet
          case rel => exact ⟨true, rfl, HL3.out, by simp⟩
      · obtain ⟨ln, hln⟩ : ∃ n : Nat, s.length = n := ⟨_, rfl⟩
        have hl0n : 0 < ln := by have := List.length_pos_iff.2 hs0; omega
        have hl0 : (0 : Int) < ln := by omega
        have hld : decide ((0 : Int) < (ln : Int)) = true := decide_eq_true hl0
        have HLN := Lib.hid hln
        rw [hln]
        clear hs0 hln
        go_wp2
        obtain rfl := HLN.out
        go_meet
        case rel => exact ⟨true, rfl, HL3.out, by simp⟩
  case rest =>
  obtain ⟨bad, rfl, hle4, hbad⟩ := hcut
  have HL4 := Lib.hid (HL01.out.trans hle4)
  have HB4 := Lib.hid (hle4.heap HB1.out)
  have HBAD := Lib.hid hbad
  clear hle4 hbad HL01 HB1
  rename World => W4
  cases bad
  case true =>
    go_wp2_with fail
    refine (known_c W4 (HL.out.l.le HL4.out)).mono ?_
    rintro e wk ⟨rfl, hlek⟩
    have HLK := Lib.hid (HL4.out.trans hlek)
    clear hlek
    go_wp2
    go_ret
    exact ⟨rfl, HLK.out⟩
  have HGA := Lib.hid (HBAD.out rfl)
  clear HBAD
  have xc0 : W4.cell? ⟨w.heap.size, 0, none⟩ = some (x.scheme) := by rw [cell_cells HB4.out 0]; rfl
  have xc1 : W4.cell? ⟨w.heap.size, 1, none⟩ = some (x.raw) := by rw [cell_cells HB4.out 1]; rfl
  have xc2 : W4.cell? ⟨w.heap.size, 2, none⟩ = some (.bool x.wild) := by rw [cell_cells HB4.out 2]; rfl
  have xc3 : W4.cell? ⟨w.heap.size, 3, none⟩ = some (.bool x.slash) := by rw [cell_cells HB4.out 3]; rfl
  have xc4 : W4.cell? ⟨w.heap.size, 4, none⟩ = some (x.user) := by rw [cell_cells HB4.out 4]; rfl
  have xc5 : W4.cell? ⟨w.heap.size, 5, none⟩ = some (x.pass) := by rw [cell_cells HB4.out 5]; rfl
  have xc6 : W4.cell? ⟨w.heap.size, 6, none⟩ = some (x.host) := by rw [cell_cells HB4.out 6]; rfl
  have xc7 : W4.cell? ⟨w.heap.size, 7, none⟩ = some (.int .i64 x.port) := by rw [cell_cells HB4.out 7]; rfl
  have xc8 : W4.cell? ⟨w.heap.size, 8, none⟩ = some (x.ps) := by rw [cell_cells HB4.out 8]; rfl
  have xc9 : W4.cell? ⟨w.heap.size, 9, none⟩ = some (x.hs) := by rw [cell_cells HB4.out 9]; rfl
  go_wp2_with fail
  refine (adrText_c W4 _ s x u _ l f (HS.out.le HL4.out) (HQ.out.le HL4.out) (HK.out.le HL4.out) HGA.out HF.out).mono ?_
  rintro e w5 ⟨v5, rfl, hv5, hle5, hlen5⟩
  have HL5 := Lib.hid (HL4.out.trans hle5)
  have HB5 := Lib.hid (hle5.heap HB4.out)
  have HV5 := Lib.hid hv5
  have HN5 := Lib.hid hlen5
  clear hle5 hv5 hlen5 xc0 xc1 xc2 xc3 xc4 xc5 xc6 xc7 xc8 xc9
  go_wp2_with fail
  refine (iaddr_c w5 v5 _ HV5.out HN5.out (HL.out.le HL5.out)).mono ?_
  rintro e w6 ⟨hle6, xn, xp, y, ok, r, rfl, hn6, hy6, hp6, hpt⟩
  have hlaw := adText_law HGA.out hpt
  have hok : ok = true ∧ r = ⟨s, u, l⟩ := by
    cases ok with
    | false => cases hlaw
    | true => exact ⟨rfl, by injection hlaw⟩
  obtain ⟨rfl, rfl⟩ := hok
  have HL6 := Lib.hid (HL5.out.trans hle6)
  have HB6 := Lib.hid (hle6.heap HB5.out)
  have HN6 := Lib.hid hn6
  have HY6 := Lib.hid hy6
  have HP6 := Lib.hid hp6
  obtain ⟨R, hR, hRs⟩ : ∃ R, y.val = .agg R ∧ R = y.row := ⟨_, rfl, rfl⟩
  have hone : R.all (·.oneCell') = true := by rw [hRs]; exact hy6.one
  have hsz : R.size = 10 := by rw [hRs]; rfl
  have HRS := Lib.hid hRs
  have hst := run_storeCells_new (P := Tryz.prog) w6 32 #[(.slice none 0 0), (.slice none 0 0), .bool false, .bool false, (.slice none 0 0), (.slice none 0 0), (.slice none 0 0), .int .i64 0, (.slice none 0 0), (.slice none 0 0)] R (by rw [hsz]; exact uri_size) (by rw [hsz]; rfl) hone
  rw [hR]
  clear hle6 hn6 hy6 hp6 hpt hR hRs hone hlaw HB5
  go_upto_region 7 with fail
  have HL7 := Lib.hid (HL6.out.alloc (Obj.cells R 32))
  have HC7 := Lib.hid (heap_alloc_new w6 (Obj.cells R 32))
  have hl67 := (Le.refl w6).alloc (Obj.cells R 32)
  have HB7 := Lib.hid (hl67.heap HB6.out)
  have HN7 := Lib.hid (HN6.out.le hl67)
  have HY7 := Lib.hid (HY6.out.le hl67)
  have HP7 := Lib.hid (HP6.out.le hl67)
  generalize w6.alloc (Obj.cells R 32) = W7 at HL7 HC7 HB7 HN7 HY7 HP7 hl67 ⊢
  clear hst hl67 HN6 HY6 HP6 HB6
  go_wp2_with fail
  refine (equal_c W7 _ _ s s HN7.out.1 (HS.out.le HL7.out)).mono ?_
  rintro e w8 ⟨rfl, hd8⟩
  rw [show decide (s = s) = true by simp]
  have hl8 := hd8.le
  have HL8 := Lib.hid (HL7.out.trans hl8)
  have HB8 := Lib.hid (hl8.heap HB7.out)
  have HC8 := Lib.hid (hl8.heap HC7.out)
  have HY8 := Lib.hid (HY7.out.le hl8)
  have HP8 := Lib.hid (HP7.out.le hl8)
  clear hd8 hl8
  have xc0 : w8.cell? ⟨w.heap.size, 0, none⟩ = some (x.scheme) := by rw [cell_cells HB8.out 0]; rfl
  have xc1 : w8.cell? ⟨w.heap.size, 1, none⟩ = some (x.raw) := by rw [cell_cells HB8.out 1]; rfl
  have xc2 : w8.cell? ⟨w.heap.size, 2, none⟩ = some (.bool x.wild) := by rw [cell_cells HB8.out 2]; rfl
  have xc3 : w8.cell? ⟨w.heap.size, 3, none⟩ = some (.bool x.slash) := by rw [cell_cells HB8.out 3]; rfl
  have xc4 : w8.cell? ⟨w.heap.size, 4, none⟩ = some (x.user) := by rw [cell_cells HB8.out 4]; rfl
  have xc5 : w8.cell? ⟨w.heap.size, 5, none⟩ = some (x.pass) := by rw [cell_cells HB8.out 5]; rfl
  have xc6 : w8.cell? ⟨w.heap.size, 6, none⟩ = some (x.host) := by rw [cell_cells HB8.out 6]; rfl
  have xc7 : w8.cell? ⟨w.heap.size, 7, none⟩ = some (.int .i64 x.port) := by rw [cell_cells HB8.out 7]; rfl
  have xc8 : w8.cell? ⟨w.heap.size, 8, none⟩ = some (x.ps) := by rw [cell_cells HB8.out 8]; rfl
  have xc9 : w8.cell? ⟨w.heap.size, 9, none⟩ = some (x.hs) := by rw [cell_cells HB8.out 9]; rfl
  have yc0 : w8.cell? ⟨w6.heap.size, 0, none⟩ = some (y.scheme) := by rw [cell_cells HC8.out 0, HRS.out]; rfl
  have yc1 : w8.cell? ⟨w6.heap.size, 1, none⟩ = some (y.raw) := by rw [cell_cells HC8.out 1, HRS.out]; rfl
  have yc2 : w8.cell? ⟨w6.heap.size, 2, none⟩ = some (.bool y.wild) := by rw [cell_cells HC8.out 2, HRS.out]; rfl
  have yc3 : w8.cell? ⟨w6.heap.size, 3, none⟩ = some (.bool y.slash) := by rw [cell_cells HC8.out 3, HRS.out]; rfl
  have yc4 : w8.cell? ⟨w6.heap.size, 4, none⟩ = some (y.user) := by rw [cell_cells HC8.out 4, HRS.out]; rfl
  have yc5 : w8.cell? ⟨w6.heap.size, 5, none⟩ = some (y.pass) := by rw [cell_cells HC8.out 5, HRS.out]; rfl
  have yc6 : w8.cell? ⟨w6.heap.size, 6, none⟩ = some (y.host) := by rw [cell_cells HC8.out 6, HRS.out]; rfl
  have yc7 : w8.cell? ⟨w6.heap.size, 7, none⟩ = some (.int .i64 y.port) := by rw [cell_cells HC8.out 7, HRS.out]; rfl
  have yc8 : w8.cell? ⟨w6.heap.size, 8, none⟩ = some (y.ps) := by rw [cell_cells HC8.out 8, HRS.out]; rfl
  have yc9 : w8.cell? ⟨w6.heap.size, 9, none⟩ = some (y.hs) := by rw [cell_cells HC8.out 9, HRS.out]; rfl
  go_wp2_with fail
  refine (sameUri_c _ _ w8 x y u u (HQ.out.le HL8.out) HY8.out).mono ?_
  rintro e w9 ⟨rfl, hle9⟩
  rw [show puB u u = true from (puB_iff _ _).2 rfl]
  have HL9 := Lib.hid (HL8.out.trans hle9)
  have HP9 := Lib.hid (HP8.out.le hle9)
  clear hle9 xc0 xc1 xc2 xc3 xc4 xc5 xc6 xc7 xc8 xc9 yc0 yc1 yc2 yc3 yc4 yc5 yc6 yc7 yc8 yc9
  go_wp2_with fail
  refine (sameKVs_c _ _ w9 _ _ l l HP9.out (HK.out.le HL9.out)).mono ?_
  rintro e w10 ⟨rfl, hd10⟩
  rw [show decide (l = l) = true by simp]
  have HL10 := Lib.hid (HL9.out.trans hd10.le)
  clear hd10
  go_wp2_with fail
  refine (known_c w10 (HL.out.l.le HL10.out)).mono ?_
  rintro e wk ⟨rfl, hlek⟩
  have HLK := Lib.hid (HL10.out.trans hlek)
  clear hlek
  go_wp2
  go_ret
  exact ⟨rfl, HLK.out⟩
end Go.Proofs.YteedhaenbamiaaaGreatDoor
