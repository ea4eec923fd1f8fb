/- Contract: the specification's UriText (printed by gen_sutx.py). -/
import Derived.Test.YteedhaenbamiaaaGreatDoorUtx
import Derived.Test.YteedhaenbamiaaaGreatDoorSDc
import Derived.Test.YteedhaenbamiaaaGreatDoorPlu
set_option linter.unusedVariables false
set_option linter.unusedSimpArgs false
namespace Go.Proofs.YteedhaenbamiaaaGreatDoor
open Go.RowKit

structure SzS (u : PU) : Prop where
  scheme : u.scheme.length ≤ 65536
  raw : u.raw.length ≤ 65536
  user : u.user.length ≤ 65536
  pass : u.pass.length ≤ 65536
  host : u.host.length ≤ 65536
  lo : -9223372036854775808 ≤ u.port
  hi : u.port ≤ 9223372036854775807
  ps : ∀ k ≤ u.ps.length, (ptP u.ps 59 k).length ≤ 100000000
  hs : ∀ k ≤ u.hs.length, (ptP u.hs 38 k).length ≤ 100000000
  pm : ∀ x ∈ u.ps, x.1.length + x.2.length ≤ 20000
  hm : ∀ x ∈ u.hs, x.1.length + x.2.length ≤ 20000
theorem hostS_len {h : Tx} {p : Int} (hl : h.length ≤ 65536) (hp : p ≤ 9223372036854775807) : (hostS h p).length ≤ 1000000 := by
  unfold hostS
  split
  · have := Lib.itoa_length_le p (by omega) hp
    simp only [List.length_append, List.length_cons]; omega
  · simp only [List.length_append, List.length_nil]; omega
theorem sxLen {u : PU} (hz : SzS u) : (sxText u).length ≤ 300000000 := by
  have h1 := hz.scheme
  have h2 := hz.user
  have h3 := hz.pass
  have h4 := hz.raw
  have h5 := hostS_len hz.host hz.hi
  have h6 := hz.ps _ (Nat.le_refl _)
  have h7 := hz.hs _ (Nat.le_refl _)
  have a1 : (lwUser u).length ≤ 200000 := by
    unfold lwUser lwPass
    split
    · simp
    · split <;> simp only [List.length_append, List.length_cons, List.length_nil] <;> omega
  have a3 : (lwP u.ps 59 59).length ≤ 100000001 := by unfold lwP; split <;> simp only [List.length_cons, List.length_nil] <;> omega
  have a4 : (lwP u.hs 63 38).length ≤ 100000001 := by unfold lwP; split <;> simp only [List.length_cons, List.length_nil] <;> omega
  have a5 : (u.host ++ uPort u).length ≤ 1000000 := h5
  unfold sxText
  split
  · decide
  · split
    · unfold sxRest
      simp only [List.length_append, List.length_cons] at a5 ⊢
      omega
    · rw [List.length_append, List.length_cons]
      omega
def sx5S (b : Nat) (g : Option Nat) (base : Nat) (old lv : Value) (T X : Tx) : Nat → Value → World → Prop
  | 1, v, _ => v = .pointer (some ⟨b, 0, none⟩)
  | 3, v, _ => v = old
  | 33, v, _ => v = old
  | 34, v, w => BvN g w v [58]
  | 35, v, w => OwnB base w v (T ++ [58])
  | 36, v, _ => v = .pointer (some ⟨b, 5, none⟩)
  | 37, v, _ => v = lv
  | _, _, _ => True
theorem sx5S_le (b : Nat) (g : Option Nat) (base : Nat) (old lv : Value) (T X : Tx) (t : Nat) (v : Value) (w w' : World) (k : Le w w') (h : sx5S b g base old lv T X t v w) : sx5S b g base old lv T X t v w' := by
  unfold sx5S at h ⊢
  split at h <;> first | exact h | exact BvN.le h k | exact OwnB.le h k
theorem sx5S_gr (b : Nat) (g : Option Nat) (base : Nat) (old lv : Value) (T X : Tx) (t : Nat) (v : Value) (w w' : World) (k : w.grownBy w' g) (ht : some 35 ≠ some t) (h : sx5S b g base old lv T X t v w) : sx5S b g base old lv T X t v w' := by
  unfold sx5S at h ⊢
  split at h <;> first | exact h | exact BvN.grown h k | exact absurd rfl ht
def sx9S (b : Nat) (g : Option Nat) (base : Nat) (old lv : Value) (T X : Tx) : Nat → Value → World → Prop
  | 1, v, _ => v = .pointer (some ⟨b, 0, none⟩)
  | 3, v, _ => v = old
  | 53, v, _ => v = old
  | 54, v, w => BvN g w v [59]
  | 55, v, w => OwnB base w v (T ++ [59])
  | 56, v, _ => v = .pointer (some ⟨b, 8, none⟩)
  | 57, v, _ => v = lv
  | 58, v, w => BvN g w v X
  | _, _, _ => True
theorem sx9S_le (b : Nat) (g : Option Nat) (base : Nat) (old lv : Value) (T X : Tx) (t : Nat) (v : Value) (w w' : World) (k : Le w w') (h : sx9S b g base old lv T X t v w) : sx9S b g base old lv T X t v w' := by
  unfold sx9S at h ⊢
  split at h <;> first | exact h | exact BvN.le h k | exact OwnB.le h k
theorem sx9S_gr (b : Nat) (g : Option Nat) (base : Nat) (old lv : Value) (T X : Tx) (t : Nat) (v : Value) (w w' : World) (k : w.grownBy w' g) (ht : some 55 ≠ some t) (h : sx9S b g base old lv T X t v w) : sx9S b g base old lv T X t v w' := by
  unfold sx9S at h ⊢
  split at h <;> first | exact h | exact BvN.grown h k | exact absurd rfl ht
def sx11S (b : Nat) (g : Option Nat) (base : Nat) (old lv : Value) (T X : Tx) : Nat → Value → World → Prop
  | 1, v, _ => v = .pointer (some ⟨b, 0, none⟩)
  | 3, v, _ => v = old
  | 64, v, _ => v = old
  | 65, v, w => BvN g w v [63]
  | 66, v, w => OwnB base w v (T ++ [63])
  | 67, v, _ => v = .pointer (some ⟨b, 9, none⟩)
  | 68, v, _ => v = lv
  | 69, v, w => BvN g w v X
  | _, _, _ => True
theorem sx11S_le (b : Nat) (g : Option Nat) (base : Nat) (old lv : Value) (T X : Tx) (t : Nat) (v : Value) (w w' : World) (k : Le w w') (h : sx11S b g base old lv T X t v w) : sx11S b g base old lv T X t v w' := by
  unfold sx11S at h ⊢
  split at h <;> first | exact h | exact BvN.le h k | exact OwnB.le h k
theorem sx11S_gr (b : Nat) (g : Option Nat) (base : Nat) (old lv : Value) (T X : Tx) (t : Nat) (v : Value) (w w' : World) (k : w.grownBy w' g) (ht : some 66 ≠ some t) (h : sx11S b g base old lv T X t v w) : sx11S b g base old lv T X t v w' := by
  unfold sx11S at h ⊢
  split at h <;> first | exact h | exact BvN.grown h k | exact absurd rfl ht
set_option maxRecDepth 8000 in
set_option maxHeartbeats 8000000 in
theorem sUriText_c (w : World) (x : UV) (u : PU) (hx : Uq (fun _ => True) w x u) (hz : SzS u) :
    Calls Tryz.prog 19 #[x.val] w fun e w' => ∃ v, e = .returned v ∧ Bv w' v (sxText u) ∧ Le w w' := by
  have HX := Lib.hid hx
  have HZ := Lib.hid hz
  obtain ⟨Ascheme, cscheme, escheme⟩ := hx.scheme.1.form
  obtain ⟨Araw, craw, eraw⟩ := hx.raw.1.form
  obtain ⟨Auser, cuser, euser⟩ := hx.user.1.form
  obtain ⟨Apass, cpass, epass⟩ := hx.pass.1.form
  obtain ⟨Ahost, chost, ehost⟩ := hx.host.1.form
  obtain ⟨Aps, cps, eps⟩ : ∃ A c, x.ps = .slice A u.ps.length c := by obtain ⟨A, c, e, _⟩ := hx.ps; exact ⟨A, c, e⟩
  obtain ⟨Ahs, chs, ehs⟩ : ∃ A c, x.hs = .slice A u.hs.length c := by obtain ⟨A, c, e, _⟩ := hx.hs; exact ⟨A, c, e⟩
  have hval : x.val = .agg #[.slice Ascheme u.scheme.length cscheme, .slice Araw u.raw.length craw, .bool x.wild, .bool x.slash, .slice Auser u.user.length cuser, .slice Apass u.pass.length cpass, .slice Ahost u.host.length chost, .int .i64 x.port, .slice Aps u.ps.length cps, .slice Ahs u.hs.length chs] := by
    unfold UV.val; rw [escheme, eraw, euser, epass, ehost, eps, ehs]
  have HF : Hid (Bv w (.slice Ascheme u.scheme.length cscheme) u.scheme ∧ Bv w (.slice Auser u.user.length cuser) u.user ∧ Bv w (.slice Apass u.pass.length cpass) u.pass ∧ Bv w (.slice Ahost u.host.length chost) u.host ∧ Kq (fun _ => True) w (.slice Aps u.ps.length cps) u.ps ∧ Kq (fun _ => True) w (.slice Ahs u.hs.length chs) u.hs) := Lib.hid (by
    rw [← escheme, ← euser, ← epass, ← ehost, ← eps, ← ehs]
    exact ⟨hx.scheme.1, hx.user.1, hx.pass.1, hx.host.1, hx.ps, hx.hs⟩)
  have HPT : Hid (x.port = u.port) := Lib.hid hx.port
  have HWI : Hid (x.wild = u.wild) := Lib.hid hx.wild
  have HRW : Hid (Bv w (.slice Araw u.raw.length craw) u.raw) := Lib.hid (by rw [← eraw]; exact hx.raw.1)
  rw [hval]
  clear hval hx escheme eraw euser epass ehost eps ehs hz HX
  go_enter Tryz.func19, Tryz.ntmps19
  go_upto_region 1 with fail
  have HB0 := Lib.hid (heap_alloc_new w (Obj.cells #[.slice Ascheme u.scheme.length cscheme, .slice Araw u.raw.length craw, .bool x.wild, .bool x.slash, .slice Auser u.user.length cuser, .slice Apass u.pass.length cpass, .slice Ahost u.host.length chost, .int .i64 x.port, .slice Aps u.ps.length cps, .slice Ahs u.hs.length chs] 36))
  have HL0 : Hid (Le w (w.alloc (Obj.cells #[.slice Ascheme u.scheme.length cscheme, .slice Araw u.raw.length craw, .bool x.wild, .bool x.slash, .slice Auser u.user.length cuser, .slice Apass u.pass.length cpass, .slice Ahost u.host.length chost, .int .i64 x.port, .slice Aps u.ps.length cps, .slice Ahs u.hs.length chs] 36))) := Lib.hid ((Le.refl w).alloc _)
  generalize w.alloc (Obj.cells #[.slice Ascheme u.scheme.length cscheme, .slice Araw u.raw.length craw, .bool x.wild, .bool x.slash, .slice Auser u.user.length cuser, .slice Apass u.pass.length cpass, .slice Ahost u.host.length chost, .int .i64 x.port, .slice Aps u.ps.length cps, .slice Ahs u.hs.length chs] 36) = W0 at HB0 HL0 ⊢
  generalize Value.agg #[.slice Ascheme u.scheme.length cscheme, .slice Araw u.raw.length craw, .bool x.wild, .bool x.slash, .slice Auser u.user.length cuser, .slice Apass u.pass.length cpass, .slice Ahost u.host.length chost, .int .i64 x.port, .slice Aps u.ps.length cps, .slice Ahs u.hs.length chs] = ag
  have HBX : Hid (∀ wr, Le W0 wr → wr.cell? ⟨w.heap.size, 0, none⟩ = some (.slice Ascheme u.scheme.length cscheme) ∧ wr.cell? ⟨w.heap.size, 4, none⟩ = some (.slice Auser u.user.length cuser) ∧ wr.cell? ⟨w.heap.size, 5, none⟩ = some (.slice Apass u.pass.length cpass) ∧ wr.cell? ⟨w.heap.size, 6, none⟩ = some (.slice Ahost u.host.length chost) ∧ wr.cell? ⟨w.heap.size, 7, none⟩ = some (.int .i64 u.port) ∧ wr.cell? ⟨w.heap.size, 8, none⟩ = some (.slice Aps u.ps.length cps) ∧ wr.cell? ⟨w.heap.size, 9, none⟩ = some (.slice Ahs u.hs.length chs)) := Lib.hid (fun wr h => by
    have hb := h.heap HB0.out
    rw [HPT.out] at hb
    exact ⟨cell_cells hb 0, cell_cells hb 4, cell_cells hb 5, cell_cells hb 6, cell_cells hb 7, cell_cells hb 8, cell_cells hb 9⟩)
  have HBY : Hid (∀ wr, Le W0 wr → wr.cell? ⟨w.heap.size, 1, none⟩ = some (.slice Araw u.raw.length craw)) := Lib.hid (fun wr h => cell_cells (h.heap HB0.out) 1)
  have y2 : W0.cell? ⟨w.heap.size, 2, none⟩ = some (.bool u.wild) := by
    have hb := HB0.out
    rw [HWI.out] at hb
    exact cell_cells hb 2
  obtain ⟨bw, hbw⟩ : ∃ b, u.wild = b := ⟨_, rfl⟩
  have HBW := Lib.hid hbw
  rw [hbw] at y2
  clear hbw
  cases bw
  case true =>
    have HT : Hid (sxText u = [42]) := Lib.hid (by unfold sxText; rw [if_pos HBW.out])
    have kc := fun (w : World) (C : Array Value) (n c : Nat) => Lib.run_convert_bytes_const (P := Tryz.prog) w 22 5 C n c Tryz.underlying22 Tryz.underlying5
    go_wp2
    go_ret
    refine ⟨_, rfl, ?_, HL0.out.trans ((Le.refl W0).alloc _)⟩
    rw [HT.out]
    exact bv_lit W0 [42] (by decide) (1, 2)
  have y0 := (HBX.out W0 (Le.refl W0)).1
  have HNI := Lib.hid (OwnB.nil W0.heap.size W0)
  have HSC := Lib.hid (HF.out.1.le HL0.out)
  go_wp2_with (at_builtin; refine wpList_append_bv rfl (.const (.slice none 0 0)) (.tmp 9) rfl (base := W0.heap.size) rfl rfl HNI.out HSC.out (by have := HZ.out.scheme; simp only [List.length_nil]; omega) (Nat.le_refl _) ?_)
  intro v0 wa hown0 hgrow0
  have HLA : Hid (Le W0 wa) := Lib.hid (Below.grown' (Le.refl W0) hgrow0 (Nat.le_refl _) (fun g hg => by cases hg))
  have HB58 : Hid (Bv (wa.alloc (Obj.cells #[.int .u8 58] 5)) (.slice (some ⟨wa.heap.size, 0, none⟩) 1 1) [58]) := Lib.hid (bv_lit wa [58] (by decide) (0, 0))
  have HOA : Hid (OwnB W0.heap.size (wa.alloc (Obj.cells #[.int .u8 58] 5)) v0 u.scheme) := Lib.hid (OwnB.le hown0 ((Le.refl wa).alloc _))
  obtain ⟨n0, A0, c0, rfl⟩ := hown0.shape
  clear hown0 hgrow0
  go_wp2_with (at_builtin; refine wpList_append_bv rfl (.tmp 10) (.tmp 11) rfl (base := W0.heap.size) rfl rfl HOA.out HB58.out (by have := HZ.out.scheme; simp only [List.length_cons, List.length_nil]; omega) (HLA.out.alloc _).size ?_)
  intro v1 w1 hown1 hgrow1
  have HU1 : Hid (UtI w W0 (u.scheme ++ [58]) v1 w1) := Lib.hid ⟨Below.grown' (HLA.out.alloc _) hgrow1 (Nat.le_refl _) (fun g hg => (own_row' HOA.out g hg).1), hown1⟩
  obtain ⟨n1, A1, c1, rfl⟩ := hown1.shape
  clear hown1 hgrow1 y0 y2
  obtain ⟨y0, y4, y5, y6, y7, y8, y9⟩ := HBX.out w1 HU1.out.le
  have y1 := HBY.out w1 HU1.out.le
  go_upto_if 16 with fail
  obtain ⟨bv, hbv⟩ : ∃ b, decide (0 < u.raw.length) = b := ⟨_, rfl⟩
  have HBV : Hid (isB bv (¬ u.raw = [])) := Lib.hid (by
    rw [← hbv]; unfold isB
    rw [decide_eq_true_eq, List.length_pos_iff])
  rw [hbv]
  clear hbv
  cases bv
  case true =>
    have HT : Hid (sxText u = u.scheme ++ [58] ++ u.raw) := Lib.hid (by
      have h := HBV.out
      unfold isB at h
      unfold sxText
      rw [HBW.out, if_neg (by simp), if_neg (h.1 rfl)]
      simp)
    have HO1 := Lib.hid HU1.out.own
    have HR1 := Lib.hid (HRW.out.le (HL0.out.trans HU1.out.le))
    have HLN : Hid ((u.scheme ++ [58]).length + u.raw.length ≤ 140737488355328) := Lib.hid (by have := HZ.out.scheme; have := HZ.out.raw; simp only [List.length_append, List.length_cons, List.length_nil]; omega)
    go_wp2_with (at_builtin; refine wpList_append_bv rfl (.tmp 17) (.tmp 19) rfl (base := W0.heap.size) rfl rfl HO1.out HR1.out HLN.out HU1.out.le.size ?_)
    intro v2 w2 hown2 hgrow2
    have HB2 : Hid (Bv w2 v2 (sxText u)) := Lib.hid (by
      rw [HT.out]
      refine OwnB.bv (base := W0.heap.size) ?_ (by rw [List.length_append]; exact HLN.out)
      simpa using hown2)
    have HL2 : Hid (Le W0 w2) := Lib.hid (Below.grown' HU1.out.le hgrow2 (Nat.le_refl _) (fun g hg => (own_row' HO1.out g hg).1))
    clear hown2 hgrow2
    go_wp2
    go_ret
    exact ⟨_, rfl, HB2.out, HL0.out.trans HL2.out⟩
  have HRN : Hid (u.raw = []) := Lib.hid (by
    have h := HBV.out
    unfold isB at h
    exact Classical.not_not.1 (fun hh => by have := h.2 hh; cases this))
  clear HBV y1
  go_upto_if 24 with fail
  obtain ⟨bu, hbu⟩ : ∃ b, decide (0 < u.user.length) = b := ⟨_, rfl⟩
  have HBU : Hid (isB bu (¬ u.user = [])) := Lib.hid (by
    rw [← hbu]; unfold isB
    rw [decide_eq_true_eq, List.length_pos_iff])
  rw [hbu]
  clear hbu
  go_cut [3] from 25 to 41 (fun s3 wc => UtI w W0 (u.scheme ++ 58 :: lwUser u) s3 wc)
  case first =>
    cases bu
    case false =>
      have HE : Hid (u.scheme ++ 58 :: lwUser u = u.scheme ++ [58]) := Lib.hid (by
        have h := HBU.out
        unfold isB at h
        unfold lwUser
        rw [if_pos (Classical.not_not.1 (fun hh => by have := h.2 hh; cases this))])
      clear HBU
      go_wp2
      go_meet
      case rel => rw [HE.out]; exact HU1.out
    case true =>
      have HBF := Lib.hid (HF.out.2.1.le (HL0.out.trans HU1.out.le))
      have HO1 := Lib.hid HU1.out.own
      have HSZ := Lib.hid HU1.out.le.size
      have HLN : Hid ((u.scheme ++ [58]).length + u.user.length ≤ 1000000) := Lib.hid (by have := HZ.out.scheme; have := HZ.out.user; simp only [List.length_append, List.length_cons, List.length_nil]; omega)
      go_wp2_with (at_builtin; refine wpList_append_bv rfl (.tmp 25) (.tmp 27) rfl (base := W0.heap.size) rfl rfl HO1.out HBF.out (by have := HLN.out; omega) HSZ.out ?_)
      intro v2 w2 hown2 hgrow2
      have HU2 : Hid (UtI w W0 (u.scheme ++ 58 :: u.user) v2 w2) := Lib.hid ⟨Below.grown' HU1.out.le hgrow2 (Nat.le_refl _) (fun g hg => (own_row' HO1.out g hg).1), hown2⟩
      obtain ⟨n2, A2, c2, rfl⟩ : ∃ n A c, v2 = .slice A n c := by
        rcases hown2.2 with ⟨e, _⟩ | ⟨g, cap, cur, e, _⟩
        · exact ⟨0, none, 0, e⟩
        · exact ⟨_, _, _, e⟩
      clear hown2 hgrow2 y0 y4 y5 y6 y7 y8 y9
      obtain ⟨y0, y4, y5, y6, y7, y8, y9⟩ := HBX.out w2 HU2.out.le
      go_upto_if 32 with fail
      obtain ⟨bp, hbp⟩ : ∃ b, decide (0 < u.pass.length) = b := ⟨_, rfl⟩
      have HBP : Hid (isB bp (¬ u.pass = [])) := Lib.hid (by
        rw [← hbp]; unfold isB
        rw [decide_eq_true_eq, List.length_pos_iff])
      rw [hbp]
      clear hbp
      go_cut [3] from 33 to 38 (fun s3 wc => UtI w W0 (u.scheme ++ 58 :: (u.user ++ lwPass u)) s3 wc)
      case first =>
        cases bp
        case false =>
          have HE : Hid (u.scheme ++ 58 :: (u.user ++ lwPass u) = u.scheme ++ 58 :: u.user) := Lib.hid (by
            have h := HBP.out
            unfold isB at h
            unfold lwPass
            rw [if_pos (Classical.not_not.1 (fun hh => by have := h.2 hh; cases this)), List.append_nil])
          clear HBP
          go_wp2
          go_meet
          case rel => rw [HE.out]; exact HU2.out
        case true =>
          generalize hT5 : u.scheme ++ 58 :: u.user = T5 at HU2
          have HT5 := Lib.hid hT5
          have HLT5 : Hid (T5.length ≤ 1000000 ∧ u.pass.length ≤ 65536) := Lib.hid (by have := HZ.out.scheme; have := HZ.out.user; have := HZ.out.pass; rw [← hT5]; simp only [List.length_append, List.length_cons]; omega)
          have HO5 := Lib.hid HU2.out.own
          have HL5 := Lib.hid HU2.out.le
          have HP5 : Hid (u.pass ≠ []) := Lib.hid (by have h := HBP.out; unfold isB at h; exact h.1 rfl)
          clear hT5 HBP
          go_upto_region 9 with fail
          have hm9 : (Tryz.prog).follows .mixedOrders = true := by kernel_rfl
          refine G3.wp_region_grow_tail (sx5S w.heap.size (Value.ownBlock (.slice A2 n2 c2)) W0.heap.size (.slice A2 n2 c2) (.slice Apass u.pass.length cpass) (T5) (u.pass)) (apG W0 (.slice A2 n2 c2) (T5)) 72 5 [33, 34, 35, 36, 37] hm9 (by kernel_rfl) rfl rfl ⟨HL5.out.drew, HO5.out.le (Le.refl _).drew⟩ ?hold9 ?hs9 ?hend9
          case hold9 =>
            intro t ht
            simp only [List.mem_cons, List.mem_nil_iff, or_false, not_or] at ht
            unfold sx5S
            split <;> first | rfl | trivial | (exfalso; simp at ht)
          case hs9 =>
            simp only [List.take_succ_cons, List.take_zero]
            refine ⟨?_, ?_, ?_, ?_, ?_, trivial⟩
            · refine GrowStep.det ?_
              intro a W hg hop
              have h1 : a.eval (.tmp 3) = (.slice A2 n2 c2) := (hop 3 (by simp [Op.operands, Call.operands]))
              refine ⟨(.slice A2 n2 c2), ?_, rfl⟩
              simp only [execOp, h1]
              go_simp
            · refine GrowStep.le ?_ ?_ ?_ ?_
              · exact fun t v w1 w2 k h => sx5S_le _ _ _ _ _ _ _ t v w1 w2 k h
              · exact fun _ _ _ _ h => h
              · exact fun w1 w2 k h => apG_le h k
              intro a W hg hop
              refine ⟨.slice (some ⟨W.heap.size, 0, none⟩) 1 1, W.alloc (Obj.cells #[.int .u8 58] 5), ?_, (Le.refl W).alloc _, ?_⟩
              · simp only [execOp]
                go_simp
              · exact BvN.new (w0 := W) (bv_lit W [58] (by decide) (0, 0)) (fun k hk => by simp only [Value.ownBlock, Option.some.injEq] at hk; omega) hg.own.lt
            · refine GrowStep.append (.tmp 33) (.tmp 34) 22 rfl ?_
              intro a W hg hop
              have h1 : a.eval (.tmp 33) = (.slice A2 n2 c2) := (hop 33 (by simp [Op.operands, Call.operands]))
              have h2 : BvN (Value.ownBlock (.slice A2 n2 c2)) W (a.eval (.tmp 34)) [58] := (hop 34 (by simp [Op.operands, Call.operands]))
              obtain ⟨v', w', q, k1, k2, k3⟩ := run_append_keep hg.own h2.1 (by have := HLT5.out; simp only [List.length_cons, List.length_nil] at this ⊢; omega) hg.le.size 22
              refine ⟨v', w', by rw [h1]; exact q, ⟨Below.grown' hg.le k2 (Nat.le_refl _) (fun g hh => (own_row' hg.own g hh).1), k3⟩, fun t u ht h => sx5S_gr _ _ _ _ _ _ _ t u _ _ k2 ht h, fun _ _ h => h, k1⟩
            · refine GrowStep.det ?_
              intro a W hg hop
              have h1 : a.eval (.tmp 1) = .pointer (some ⟨w.heap.size, 0, none⟩) := (hop 1 (by simp [Op.operands, Call.operands]))
              refine ⟨.pointer (some ⟨w.heap.size, 5, none⟩), ?_, rfl⟩
              simp only [execOp, h1]
              go_simp
            · refine GrowStep.det ?_
              intro a W hg hop
              have h1 : a.eval (.tmp 36) = .pointer (some ⟨w.heap.size, 5, none⟩) := (hop 36 (by simp [Op.operands, Call.operands]))
              have h2 : W.cell? ⟨w.heap.size, 5, none⟩ = some (.slice Apass u.pass.length cpass) := (HBX.out W hg.le).2.2.1
              refine ⟨.slice Apass u.pass.length cpass, ?_, rfl⟩
              simp only [execOp, h1]
              go_simp
          case hend9 =>
            intro v wz hg hS
            have s2 : OwnB W0.heap.size wz (v 35) (T5 ++ [58]) := hS 35 (by decide)
            have s4 : v 37 = (.slice Apass u.pass.length cpass) := hS 37 (by decide)
            have s5 : Bv wz (.slice Apass u.pass.length cpass) (u.pass) := HF.out.2.2.1.le (HL0.out.trans hg.le)
            obtain ⟨ns2, As2, cs2, es2⟩ := s2.shape
            rw [es2] at s2
            have HS2 := Lib.hid s2
            have HS5 := Lib.hid s5
            have HLZ := Lib.hid hg.le
            have HLEN : Hid ((T5 ++ [58]).length + (u.pass).length ≤ 140737488355328) := Lib.hid (by have := HLT5.out; simp only [List.length_append, List.length_cons, List.length_nil]; omega)
            clear hS hg s2 s5
            simp only [putsL, Act.put, List.setIfInBounds_toArray, List.set_cons_zero, List.set_cons_succ, List.drop_succ_cons, List.drop_zero]
            rw [es2]
            rw [s4]
            clear es2 s4
            go_wp2_with (at_builtin; refine wpList_append_bv rfl (.tmp 35) (.tmp 37) rfl (base := W0.heap.size) rfl rfl HS2.out HS5.out HLEN.out HLZ.out.size ?_)
            intro vz wz2 hownz hgrowz
            have HOZ := Lib.hid hownz
            have HLZ2 : Hid (Le W0 wz2) := Lib.hid (Below.grown' HLZ.out hgrowz (Nat.le_refl _) (fun g hg => (own_row' HS2.out g hg).1))
            clear hownz hgrowz
            go_wp2
            go_meet
            case rel => exact ⟨HLZ2.out, by
              have e : u.scheme ++ 58 :: (u.user ++ lwPass u) = T5 ++ 58 :: u.pass := by
                unfold lwPass
                rw [if_neg HP5.out, ← HT5.out]
                simp
              rw [e]; exact HOZ.out⟩
      have HU3 := Lib.hid hcut
      obtain ⟨n3, A3, c3, rfl⟩ : ∃ n A c, u3 = .slice A n c := by
        rcases hcut.own.2 with ⟨e, _⟩ | ⟨g, cap, cur, e, _⟩
        · exact ⟨0, none, 0, e⟩
        · exact ⟨_, _, _, e⟩
      clear hcut
      have hb64 : Bv (wc.alloc (Obj.cells #[.int .u8 64] 5)) (.slice (some ⟨wc.heap.size, 0, none⟩) 1 1) [64] := bv_lit wc [64] (by decide) (0, 0)
      have HB64 := Lib.hid hb64
      have HO3 := Lib.hid (HU3.out.own.le ((Le.refl wc).alloc (Obj.cells #[.int .u8 64] 5)))
      have HL3 := Lib.hid (HU3.out.le.alloc (Obj.cells #[.int .u8 64] 5))
      have HLN3 : Hid ((u.scheme ++ 58 :: (u.user ++ lwPass u)).length ≤ 1000000) := Lib.hid (by
        have h1 := HZ.out.scheme
        have h2 := HZ.out.user
        have h3 := HZ.out.pass
        unfold lwPass
        split <;> simp only [List.length_append, List.length_cons, List.length_nil] <;> omega)
      clear hb64
      go_wp2_with (at_builtin; refine wpList_append_bv rfl (.tmp 39) (.tmp 40) rfl (base := W0.heap.size) rfl rfl HO3.out HB64.out (by have := HLN3.out; simp only [List.length_cons, List.length_nil]; omega) HL3.out.size ?_)
      intro v4 w4 hown4 hgrow4
      have HU4 : Hid (UtI w W0 (u.scheme ++ 58 :: lwUser u) v4 w4) := Lib.hid ⟨Below.grown' HL3.out hgrow4 (Nat.le_refl _) (fun g hg => (own_row' HO3.out g hg).1), by
        have e : u.scheme ++ 58 :: lwUser u = u.scheme ++ 58 :: (u.user ++ (lwPass u ++ [64])) := by
          have h := HBU.out
          unfold isB at h
          unfold lwUser
          rw [if_neg (h.1 rfl)]
        rw [e]; exact hown4⟩
      clear hown4 hgrow4
      go_wp2
      go_meet
      case rel => exact HU4.out
  have HU4 := Lib.hid hcut
  obtain ⟨n4, A4, c4, rfl⟩ : ∃ n A c, u3 = .slice A n c := by
    rcases hcut.own.2 with ⟨e, _⟩ | ⟨g, cap, cur, e, _⟩
    · exact ⟨0, none, 0, e⟩
    · exact ⟨_, _, _, e⟩
  clear hcut HU1 HBU y0 y4 y5 y6 y7 y8 y9
  obtain ⟨y0, y4, y5, y6, y7, y8, y9⟩ := HBX.out wc HU4.out.le
  clear y0 y4 y5 y8 y9
  have HHB := Lib.hid (HF.out.2.2.2.1.le (HL0.out.trans HU4.out.le))
  go_wp2_with fail
  refine (sHost_c wc _ u.host u.port HHB.out (by have := HZ.out.host; omega) HZ.out.hi).mono ?_
  rintro e w5 ⟨v5, rfl, hown5, hle5⟩
  have HU5 : Hid (UtI w W0 (u.scheme ++ 58 :: lwUser u) (.slice A4 n4 c4) w5) := Lib.hid ⟨HU4.out.le.trans hle5, HU4.out.own.le hle5⟩
  have HLN5 : Hid ((u.scheme ++ 58 :: lwUser u).length ≤ 1000000 ∧ (hostS u.host u.port).length ≤ 1000000) := Lib.hid (by
    have h1 := HZ.out.scheme
    have h2 := HZ.out.user
    have h3 := HZ.out.pass
    refine ⟨?_, hostS_len HZ.out.host HZ.out.hi⟩
    unfold lwUser lwPass
    split
    · simp only [List.length_append, List.length_cons, List.length_nil]; omega
    · split <;> simp only [List.length_append, List.length_cons, List.length_nil] <;> omega)
  have hb5 := hown5.bv (by have := HLN5.out.2; omega)
  have HB5 := Lib.hid hb5
  obtain ⟨A5, c5, rfl⟩ := hb5.form
  clear hb5 hle5 hown5
  generalize (hostS u.host u.port).length = nh at HB5 ⊢
  have HO5 := Lib.hid HU5.out.own
  go_wp2_with (at_builtin; refine wpList_append_bv rfl (.tmp 42) (.tmp 47) rfl (base := W0.heap.size) rfl rfl HO5.out HB5.out (by have := HLN5.out; omega) HU5.out.le.size ?_)
  intro v6 w6 hown6 hgrow6
  have HU6 : Hid (UtI w W0 (u.scheme ++ 58 :: (lwUser u ++ hostS u.host u.port)) v6 w6) := Lib.hid ⟨Below.grown' HU5.out.le hgrow6 (Nat.le_refl _) (fun g hg => (own_row' HO5.out g hg).1), by simpa using hown6⟩
  obtain ⟨n6, A6, c6, rfl⟩ : ∃ n A c, v6 = .slice A n c := by
    rcases hown6.2 with ⟨e, _⟩ | ⟨g, cap, cur, e, _⟩
    · exact ⟨0, none, 0, e⟩
    · exact ⟨_, _, _, e⟩
  clear hown6 hgrow6 y6 y7
  obtain ⟨_, _, _, _, _, y8, y9⟩ := HBX.out w6 HU6.out.le
  go_upto_if 52 with fail
  obtain ⟨bq, hbq⟩ : ∃ b, decide (0 < u.ps.length) = b := ⟨_, rfl⟩
  have HBQ : Hid (isB bq (¬ u.ps = [])) := Lib.hid (by
    rw [← hbq]; unfold isB
    rw [decide_eq_true_eq, List.length_pos_iff])
  rw [hbq]
  clear hbq
  go_cut [3] from 53 to 59 (fun s3 wc => UtI w W0 (u.scheme ++ 58 :: (lwUser u ++ (hostS u.host u.port ++ lwP u.ps 59 59))) s3 wc)
  case first =>
    cases bq
    case false =>
      have HE : Hid (u.scheme ++ 58 :: (lwUser u ++ (hostS u.host u.port ++ lwP u.ps 59 59)) = u.scheme ++ 58 :: (lwUser u ++ hostS u.host u.port)) := Lib.hid (by
        have h := HBQ.out
        unfold isB at h
        unfold lwP
        rw [if_pos (Classical.not_not.1 (fun hh => by have := h.2 hh; cases this)), List.append_nil])
      clear HBQ
      go_wp2
      go_meet
      case rel => rw [HE.out]; exact HU6.out
    case true =>
      generalize hT9 : u.scheme ++ 58 :: (lwUser u ++ hostS u.host u.port) = T9 at HU6
      have HT9 := Lib.hid hT9
      have HLT9 : Hid (T9.length ≤ 3000000 ∧ (ptP u.ps 59 u.ps.length).length ≤ 1099511627776) := Lib.hid (by
        have h1 := HLN5.out.1
        have h2 := HLN5.out.2
        refine ⟨?_, Nat.le_trans (HZ.out.ps _ (Nat.le_refl _)) (by decide)⟩
        rw [← hT9]
        simp only [List.length_append, List.length_cons] at h1 h2 ⊢
        omega)
      have HO9 := Lib.hid HU6.out.own
      have HL9 := Lib.hid HU6.out.le
      have HP9 : Hid (u.ps ≠ []) := Lib.hid (by have h := HBQ.out; unfold isB at h; exact h.1 rfl)
      clear hT9 HBQ
      go_upto_region 13 with fail
      have hm13 : (Tryz.prog).follows .mixedOrders = true := by kernel_rfl
      refine G3.wp_region_grow_tail (sx9S w.heap.size (Value.ownBlock (.slice A6 n6 c6)) W0.heap.size (.slice A6 n6 c6) (.slice Aps u.ps.length cps) (T9) (ptP u.ps 59 u.ps.length)) (apG W0 (.slice A6 n6 c6) (T9)) 72 6 [53, 54, 55, 56, 57, 58] hm13 (by kernel_rfl) rfl rfl ⟨HL9.out.drew, HO9.out.le (Le.refl _).drew⟩ ?hold13 ?hs13 ?hend13
      case hold13 =>
        intro t ht
        simp only [List.mem_cons, List.mem_nil_iff, or_false, not_or] at ht
        unfold sx9S
        split <;> first | rfl | trivial | (exfalso; simp at ht)
      case hs13 =>
        simp only [List.take_succ_cons, List.take_zero]
        refine ⟨?_, ?_, ?_, ?_, ?_, ?_, trivial⟩
        · refine GrowStep.det ?_
          intro a W hg hop
          have h1 : a.eval (.tmp 3) = (.slice A6 n6 c6) := (hop 3 (by simp [Op.operands, Call.operands]))
          refine ⟨(.slice A6 n6 c6), ?_, rfl⟩
          simp only [execOp, h1]
          go_simp
        · refine GrowStep.le ?_ ?_ ?_ ?_
          · exact fun t v w1 w2 k h => sx9S_le _ _ _ _ _ _ _ t v w1 w2 k h
          · exact fun _ _ _ _ h => h
          · exact fun w1 w2 k h => apG_le h k
          intro a W hg hop
          refine ⟨.slice (some ⟨W.heap.size, 0, none⟩) 1 1, W.alloc (Obj.cells #[.int .u8 59] 5), ?_, (Le.refl W).alloc _, ?_⟩
          · simp only [execOp]
            go_simp
          · exact BvN.new (w0 := W) (bv_lit W [59] (by decide) (0, 0)) (fun k hk => by simp only [Value.ownBlock, Option.some.injEq] at hk; omega) hg.own.lt
        · refine GrowStep.append (.tmp 53) (.tmp 54) 22 rfl ?_
          intro a W hg hop
          have h1 : a.eval (.tmp 53) = (.slice A6 n6 c6) := (hop 53 (by simp [Op.operands, Call.operands]))
          have h2 : BvN (Value.ownBlock (.slice A6 n6 c6)) W (a.eval (.tmp 54)) [59] := (hop 54 (by simp [Op.operands, Call.operands]))
          obtain ⟨v', w', q, k1, k2, k3⟩ := run_append_keep hg.own h2.1 (by have := HLT9.out; simp only [List.length_cons, List.length_nil] at this ⊢; omega) hg.le.size 22
          refine ⟨v', w', by rw [h1]; exact q, ⟨Below.grown' hg.le k2 (Nat.le_refl _) (fun g hh => (own_row' hg.own g hh).1), k3⟩, fun t u ht h => sx9S_gr _ _ _ _ _ _ _ t u _ _ k2 ht h, fun _ _ h => h, k1⟩
        · refine GrowStep.det ?_
          intro a W hg hop
          have h1 : a.eval (.tmp 1) = .pointer (some ⟨w.heap.size, 0, none⟩) := (hop 1 (by simp [Op.operands, Call.operands]))
          refine ⟨.pointer (some ⟨w.heap.size, 8, none⟩), ?_, rfl⟩
          simp only [execOp, h1]
          go_simp
        · refine GrowStep.det ?_
          intro a W hg hop
          have h1 : a.eval (.tmp 56) = .pointer (some ⟨w.heap.size, 8, none⟩) := (hop 56 (by simp [Op.operands, Call.operands]))
          have h2 : W.cell? ⟨w.heap.size, 8, none⟩ = some (.slice Aps u.ps.length cps) := (HBX.out W hg.le).2.2.2.2.2.1
          refine ⟨.slice Aps u.ps.length cps, ?_, rfl⟩
          simp only [execOp, h1]
          go_simp
        · refine GrowStep.call ?_ ?_ ?_ ?_
          · exact fun t v w1 w2 k h => sx9S_le _ _ _ _ _ _ _ t v w1 w2 k h
          · exact fun _ _ _ _ h => h
          · exact fun w1 w2 k h => apG_le h k
          intro a W hg hop
          have h1 : a.eval (.tmp 57) = (.slice Aps u.ps.length cps) := (hop 57 (by simp [Op.operands, Call.operands]))
          have h1' : a.tmps[57]?.getD undef = (.slice Aps u.ps.length cps) := by simpa [Act.eval] using h1
          refine ⟨59, #[.slice Aps u.ps.length cps, .int .u8 59], ?_, (sText_c (.slice Aps u.ps.length cps) u.ps 59 W (HF.out.2.2.2.2.1.le (HL0.out.trans hg.le)) (fun k hk => by have := HZ.out.ps k hk; omega) HZ.out.pm).mono ?_⟩
          · simp only [execOp, h1]
            go_simp
          · rintro e w' ⟨v', rfl, hown, hle⟩
            exact ⟨_, rfl, hle, BvN.new (hown.bv (by have := HLT9.out.2; omega)) (fun k hk => (own_row' hown k hk).1) hg.own.lt⟩
      case hend13 =>
        intro v wz hg hS
        have s2 : OwnB W0.heap.size wz (v 55) (T9 ++ [59]) := hS 55 (by decide)
        have s5 : Bv wz (v 58) (ptP u.ps 59 u.ps.length) := (hS 58 (by decide) : BvN _ wz (v 58) (ptP u.ps 59 u.ps.length)).1
        obtain ⟨ns2, As2, cs2, es2⟩ := s2.shape
        rw [es2] at s2
        obtain ⟨ms5, As5, cs5, es5⟩ : ∃ m A c, v 58 = .slice A m c := by obtain ⟨A, c, e⟩ := s5.form; exact ⟨_, A, c, e⟩
        rw [es5] at s5
        have HS2 := Lib.hid s2
        have HS5 := Lib.hid s5
        have HLZ := Lib.hid hg.le
        have HLEN : Hid ((T9 ++ [59]).length + (ptP u.ps 59 u.ps.length).length ≤ 140737488355328) := Lib.hid (by have := HLT9.out; simp only [List.length_append, List.length_cons, List.length_nil]; omega)
        clear hS hg s2 s5
        simp only [putsL, Act.put, List.setIfInBounds_toArray, List.set_cons_zero, List.set_cons_succ, List.drop_succ_cons, List.drop_zero]
        rw [es2]
        rw [es5]
        clear es2 es5
        go_wp2_with (at_builtin; refine wpList_append_bv rfl (.tmp 55) (.tmp 58) rfl (base := W0.heap.size) rfl rfl HS2.out HS5.out HLEN.out HLZ.out.size ?_)
        intro vz wz2 hownz hgrowz
        have HOZ := Lib.hid hownz
        have HLZ2 : Hid (Le W0 wz2) := Lib.hid (Below.grown' HLZ.out hgrowz (Nat.le_refl _) (fun g hg => (own_row' HS2.out g hg).1))
        clear hownz hgrowz
        go_wp2
        go_meet
        case rel => exact ⟨HLZ2.out, by
          have e : u.scheme ++ 58 :: (lwUser u ++ (hostS u.host u.port ++ lwP u.ps 59 59)) = T9 ++ 59 :: ptP u.ps 59 u.ps.length := by
            unfold lwP
            rw [if_neg HP9.out, ← HT9.out]
            simp
          rw [e]; exact HOZ.out⟩
  have HU7 := Lib.hid hcut
  obtain ⟨n7, A7, c7, rfl⟩ := hcut.own.shape
  clear hcut y8 y9 HU6
  obtain ⟨_, _, _, _, _, _, y9⟩ := HBX.out wc HU7.out.le
  go_upto_if 63 with fail
  obtain ⟨br, hbr⟩ : ∃ b, decide (0 < u.hs.length) = b := ⟨_, rfl⟩
  have HBR : Hid (isB br (¬ u.hs = [])) := Lib.hid (by
    rw [← hbr]; unfold isB
    rw [decide_eq_true_eq, List.length_pos_iff])
  rw [hbr]
  clear hbr
  rename World => w7
  go_cut [3] from 64 to 70 (fun s3 wc => UtI w W0 (u.scheme ++ 58 :: (lwUser u ++ (hostS u.host u.port ++ (lwP u.ps 59 59 ++ lwP u.hs 63 38)))) s3 wc)
  case first =>
    cases br
    case false =>
      have HE : Hid (u.scheme ++ 58 :: (lwUser u ++ (hostS u.host u.port ++ (lwP u.ps 59 59 ++ lwP u.hs 63 38))) = u.scheme ++ 58 :: (lwUser u ++ (hostS u.host u.port ++ lwP u.ps 59 59))) := Lib.hid (by
        have h := HBR.out
        unfold isB at h
        have e : lwP u.hs 63 38 = [] := by
          unfold lwP
          rw [if_pos (Classical.not_not.1 (fun hh => by have := h.2 hh; cases this))]
        rw [e, List.append_nil])
      clear HBR
      go_wp2
      go_meet
      case rel => rw [HE.out]; exact HU7.out
    case true =>
      generalize hT11 : u.scheme ++ 58 :: (lwUser u ++ (hostS u.host u.port ++ lwP u.ps 59 59)) = T11 at HU7
      have HT11 := Lib.hid hT11
      have HLT11 : Hid (T11.length ≤ 1099512000000 + 3000000 ∧ (ptP u.hs 38 u.hs.length).length ≤ 1099511627776) := Lib.hid (by
        have h1 := HLN5.out.1
        have h2 := HLN5.out.2
        have h3 : (lwP u.ps 59 59).length ≤ 1099511627777 := by have := HZ.out.ps _ (Nat.le_refl _); unfold lwP; split <;> simp only [List.length_cons, List.length_nil] <;> omega
        refine ⟨?_, Nat.le_trans (HZ.out.hs _ (Nat.le_refl _)) (by decide)⟩
        rw [← hT11]
        simp only [List.length_append, List.length_cons] at h1 h2 ⊢
        omega)
      have HO11 := Lib.hid HU7.out.own
      have HL11 := Lib.hid HU7.out.le
      have HP11 : Hid (u.hs ≠ []) := Lib.hid (by have h := HBR.out; unfold isB at h; exact h.1 rfl)
      clear hT11 HBR
      go_upto_region 15 with fail
      have hm15 : (Tryz.prog).follows .mixedOrders = true := by kernel_rfl
      refine G3.wp_region_grow_tail (sx11S w.heap.size (Value.ownBlock (.slice A7 n7 c7)) W0.heap.size (.slice A7 n7 c7) (.slice Ahs u.hs.length chs) (T11) (ptP u.hs 38 u.hs.length)) (apG W0 (.slice A7 n7 c7) (T11)) 72 6 [64, 65, 66, 67, 68, 69] hm15 (by kernel_rfl) rfl rfl ⟨HL11.out.drew, HO11.out.le (Le.refl _).drew⟩ ?hold15 ?hs15 ?hend15
      case hold15 =>
        intro t ht
        simp only [List.mem_cons, List.mem_nil_iff, or_false, not_or] at ht
        unfold sx11S
        split <;> first | rfl | trivial | (exfalso; simp at ht)
      case hs15 =>
        simp only [List.take_succ_cons, List.take_zero]
        refine ⟨?_, ?_, ?_, ?_, ?_, ?_, trivial⟩
        · refine GrowStep.det ?_
          intro a W hg hop
          have h1 : a.eval (.tmp 3) = (.slice A7 n7 c7) := (hop 3 (by simp [Op.operands, Call.operands]))
          refine ⟨(.slice A7 n7 c7), ?_, rfl⟩
          simp only [execOp, h1]
          go_simp
        · refine GrowStep.le ?_ ?_ ?_ ?_
          · exact fun t v w1 w2 k h => sx11S_le _ _ _ _ _ _ _ t v w1 w2 k h
          · exact fun _ _ _ _ h => h
          · exact fun w1 w2 k h => apG_le h k
          intro a W hg hop
          refine ⟨.slice (some ⟨W.heap.size, 0, none⟩) 1 1, W.alloc (Obj.cells #[.int .u8 63] 5), ?_, (Le.refl W).alloc _, ?_⟩
          · simp only [execOp]
            go_simp
          · exact BvN.new (w0 := W) (bv_lit W [63] (by decide) (0, 0)) (fun k hk => by simp only [Value.ownBlock, Option.some.injEq] at hk; omega) hg.own.lt
        · refine GrowStep.append (.tmp 64) (.tmp 65) 22 rfl ?_
          intro a W hg hop
          have h1 : a.eval (.tmp 64) = (.slice A7 n7 c7) := (hop 64 (by simp [Op.operands, Call.operands]))
          have h2 : BvN (Value.ownBlock (.slice A7 n7 c7)) W (a.eval (.tmp 65)) [63] := (hop 65 (by simp [Op.operands, Call.operands]))
          obtain ⟨v', w', q, k1, k2, k3⟩ := run_append_keep hg.own h2.1 (by have := HLT11.out; simp only [List.length_cons, List.length_nil] at this ⊢; omega) hg.le.size 22
          refine ⟨v', w', by rw [h1]; exact q, ⟨Below.grown' hg.le k2 (Nat.le_refl _) (fun g hh => (own_row' hg.own g hh).1), k3⟩, fun t u ht h => sx11S_gr _ _ _ _ _ _ _ t u _ _ k2 ht h, fun _ _ h => h, k1⟩
        · refine GrowStep.det ?_
          intro a W hg hop
          have h1 : a.eval (.tmp 1) = .pointer (some ⟨w.heap.size, 0, none⟩) := (hop 1 (by simp [Op.operands, Call.operands]))
          refine ⟨.pointer (some ⟨w.heap.size, 9, none⟩), ?_, rfl⟩
          simp only [execOp, h1]
          go_simp
        · refine GrowStep.det ?_
          intro a W hg hop
          have h1 : a.eval (.tmp 67) = .pointer (some ⟨w.heap.size, 9, none⟩) := (hop 67 (by simp [Op.operands, Call.operands]))
          have h2 : W.cell? ⟨w.heap.size, 9, none⟩ = some (.slice Ahs u.hs.length chs) := (HBX.out W hg.le).2.2.2.2.2.2
          refine ⟨.slice Ahs u.hs.length chs, ?_, rfl⟩
          simp only [execOp, h1]
          go_simp
        · refine GrowStep.call ?_ ?_ ?_ ?_
          · exact fun t v w1 w2 k h => sx11S_le _ _ _ _ _ _ _ t v w1 w2 k h
          · exact fun _ _ _ _ h => h
          · exact fun w1 w2 k h => apG_le h k
          intro a W hg hop
          have h1 : a.eval (.tmp 68) = (.slice Ahs u.hs.length chs) := (hop 68 (by simp [Op.operands, Call.operands]))
          have h1' : a.tmps[68]?.getD undef = (.slice Ahs u.hs.length chs) := by simpa [Act.eval] using h1
          refine ⟨59, #[.slice Ahs u.hs.length chs, .int .u8 38], ?_, (sText_c (.slice Ahs u.hs.length chs) u.hs 38 W (HF.out.2.2.2.2.2.le (HL0.out.trans hg.le)) (fun k hk => by have := HZ.out.hs k hk; omega) HZ.out.hm).mono ?_⟩
          · simp only [execOp, h1]
            go_simp
          · rintro e w' ⟨v', rfl, hown, hle⟩
            exact ⟨_, rfl, hle, BvN.new (hown.bv (by have := HLT11.out.2; omega)) (fun k hk => (own_row' hown k hk).1) hg.own.lt⟩
      case hend15 =>
        intro v wz hg hS
        have s2 : OwnB W0.heap.size wz (v 66) (T11 ++ [63]) := hS 66 (by decide)
        have s5 : Bv wz (v 69) (ptP u.hs 38 u.hs.length) := (hS 69 (by decide) : BvN _ wz (v 69) (ptP u.hs 38 u.hs.length)).1
        obtain ⟨ns2, As2, cs2, es2⟩ := s2.shape
        rw [es2] at s2
        obtain ⟨ms5, As5, cs5, es5⟩ : ∃ m A c, v 69 = .slice A m c := by obtain ⟨A, c, e⟩ := s5.form; exact ⟨_, A, c, e⟩
        rw [es5] at s5
        have HS2 := Lib.hid s2
        have HS5 := Lib.hid s5
        have HLZ := Lib.hid hg.le
        have HLEN : Hid ((T11 ++ [63]).length + (ptP u.hs 38 u.hs.length).length ≤ 140737488355328) := Lib.hid (by have := HLT11.out; simp only [List.length_append, List.length_cons, List.length_nil]; omega)
        clear hS hg s2 s5
        simp only [putsL, Act.put, List.setIfInBounds_toArray, List.set_cons_zero, List.set_cons_succ, List.drop_succ_cons, List.drop_zero]
        rw [es2]
        rw [es5]
        clear es2 es5
        go_wp2_with (at_builtin; refine wpList_append_bv rfl (.tmp 66) (.tmp 69) rfl (base := W0.heap.size) rfl rfl HS2.out HS5.out HLEN.out HLZ.out.size ?_)
        intro vz wz2 hownz hgrowz
        have HOZ := Lib.hid hownz
        have HLZ2 : Hid (Le W0 wz2) := Lib.hid (Below.grown' HLZ.out hgrowz (Nat.le_refl _) (fun g hg => (own_row' HS2.out g hg).1))
        clear hownz hgrowz
        go_wp2
        go_meet
        case rel => exact ⟨HLZ2.out, by
          have e : u.scheme ++ 58 :: (lwUser u ++ (hostS u.host u.port ++ (lwP u.ps 59 59 ++ lwP u.hs 63 38))) = T11 ++ 63 :: ptP u.hs 38 u.hs.length := by
            rw [← HT11.out]
            conv => lhs; unfold lwP
            rw [if_neg HP11.out]
            unfold lwP
            simp
          rw [e]; exact HOZ.out⟩
  have HU8 := Lib.hid hcut
  obtain ⟨n8, A8, c8, rfl⟩ := hcut.own.shape
  clear hcut
  have HEND : Hid (sxText u = u.scheme ++ 58 :: (lwUser u ++ (hostS u.host u.port ++ (lwP u.ps 59 59 ++ lwP u.hs 63 38)))) := Lib.hid (by
    unfold sxText
    rw [HBW.out, if_neg (by simp), if_pos HRN.out]
    rfl)
  go_wp2
  go_ret
  refine ⟨_, rfl, ?_, HL0.out.trans HU8.out.le⟩
  rw [HEND.out]
  exact HU8.out.own.bv (by have := sxLen HZ.out; rw [HEND.out] at this; omega)
end Go.Proofs.YteedhaenbamiaaaGreatDoor
