/- Contracts: the specification's SamePairs, SameUri (printed by gen_same.py). -/
import Derived.Test.YteedhaenbamiaaaGreatDoorKnown
import Derived.Test.YteedhaenbamiaaaGreatDoorSpW
set_option linter.unusedVariables false
set_option linter.unusedSimpArgs false
namespace Go.Proofs.YteedhaenbamiaaaGreatDoor
open Go.RowKit

theorem isSame_b (w : World) (x y : Value) (lx ly : Tx) (b : Bool) (h : decide (lx = ly) = b) (hx : Bv w x lx) (hy : Bv w y ly) :
    Calls Tryz.prog 57 #[x, y] w fun e w' => e = .returned (.bool b) ∧ ∃ m, w' = w.drewN m := by
  subst h
  exact (isSame_c x y lx ly w hx hy).mono fun e w' ⟨h1, h2⟩ => ⟨h1, 0, by rw [← h2]; cases w; rfl⟩
theorem isSame_d (w : World) (x y : Value) (lx ly : Tx) (b : Bool) (h : decide (lx = ly) = b) (hx : Bv w x lx) (hy : Bv w y ly) :
    Calls Tryz.prog 57 #[x, y] w fun e w' => e = .returned (.bool b) ∧ ∃ m, w' = w.drewN m := isSame_b w x y lx ly b h hx hy
set_option maxRecDepth 4000 in
set_option maxHeartbeats 2000000 in
theorem samePairs_c (φ ψ : Nat → Prop) (w : World) (a b : Value) (la lb : KVs) (ha : Kq φ w a la) (hb : Kq ψ w b lb) :
    Calls Tryz.prog 37 #[a, b] w fun e w' => e = .returned (.bool (decide (la = lb))) ∧ Dr w w' := by
  have ha0 := Lib.hid ha
  have hb0 := Lib.hid hb
  obtain ⟨A, c, rfl, h1, h2, h3, _⟩ := ha
  obtain ⟨B, d, rfl, k1, k2, k3, _⟩ := hb
  by_cases hl : la.length = lb.length
  · have E1 : ((la.length : Int) != (lb.length : Int)) = false := by simp [hl]
    have E2 := Lib.hid hl
    clear hl
    go_enter Tryz.func37, Tryz.ntmps37
    go_wp2
    go_loopg [5] (la.length) (fun n i wr => ∃ k : Nat, n + k = la.length ∧ i = .int .i64 k ∧ Dr w wr ∧ la.take k = lb.take k)
    case atStart => exact ⟨0, by omega, rfl, Dr.refl _, rfl⟩
    case round =>
      obtain ⟨k, hn, rfl, hd, ht⟩ := hrel
      have HT := Lib.hid ht
      have HD := Lib.hid hd
      have HN : gk + k ≤ la.length ∧ la.length ≤ gk + k := by omega
      clear ht hn
      by_cases hlt : k < la.length
      · have hlt2 : k < lb.length := by have := E2.out; omega
        obtain ⟨b1, o1, rfl, x1, x2, d1, d2, X1, X2⟩ := (ha0.out.le hd.le).at_ hlt
        obtain ⟨b2, o2, rfl, y1, y2, e1, e2, Y1, Y2⟩ := (hb0.out.le hd.le).at_ hlt2
        clear hd
        by_cases hk : la[k].1 = lb[k].1
        · have Ht1 := Lib.hid (decide_eq_true hk)
          by_cases hv : la[k].2 = lb[k].2
          · have Ht2 := Lib.hid (decide_eq_true hv)
            have HF : Hid (la.take (k + 1) = lb.take (k + 1)) := Lib.hid (kv_take_succ _ _ _ HT.out hlt hlt2 (Prod.ext hk hv))
            clear hk hv
            go_wp2
            go_quiet ((first | (go_at_call 57; exact Calls.quiet_of (isSame_b _ _ _ _ _ _ Ht1.out (X1.out.dn _) (Y1.out.dn _))) | (go_at_call 57; exact Calls.quiet_of (isSame_b _ _ _ _ _ _ Ht2.out (X2.out.dn _) (Y2.out.dn _)))))
            go_wp2
            go_roundg (gk - 1)
            case measure => omega
            case rel => exact ⟨k + 1, by omega, by go_num, HD.out.step _, HF.out⟩
          · have Hf2 := Lib.hid (decide_eq_false hv)
            have HF : Hid (decide (la = lb) = false) := Lib.hid (decide_eq_false (by rintro rfl; exact hv rfl))
            clear hk hv
            go_wp2
            go_quiet ((first | (go_at_call 57; exact Calls.quiet_of (isSame_b _ _ _ _ _ _ Ht1.out (X1.out.dn _) (Y1.out.dn _))) | (go_at_call 57; exact Calls.quiet_of (isSame_b _ _ _ _ _ _ Hf2.out (X2.out.dn _) (Y2.out.dn _)))))
            go_wp2
            go_ret
            exact ⟨by rw [HF.out]; rfl, HD.out.step _⟩
        · have Hf1 := Lib.hid (decide_eq_false hk)
          have HF : Hid (decide (la = lb) = false) := Lib.hid (decide_eq_false (by rintro rfl; exact hk rfl))
          clear hk
          go_wp2
          go_quiet ((go_at_call 57; exact Calls.quiet_of (isSame_b _ _ _ _ _ _ Hf1.out (X1.out.dn _) (Y1.out.dn _))))
          go_wp2
          go_ret
          exact ⟨by rw [HF.out]; rfl, HD.out.step _⟩
      · have HF : Hid (decide (la = lb) = true) := Lib.hid (decide_eq_true (by
          have e1 := List.take_of_length_le (i := k) (l := la) (by omega)
          have e2 := List.take_of_length_le (i := k) (l := lb) (by have := E2.out; omega)
          rw [← e1, ← e2, HT.out]))
        clear hd
        go_wp2
        go_ret
        exact ⟨by rw [HF.out]; rfl, HD.out⟩
  · have E1 : ((la.length : Int) != (lb.length : Int)) = true := by simp; omega
    have E2 : decide (la = lb) = false := decide_eq_false (by intro h; exact hl (by rw [h]))
    rw [E2]
    clear hl E2
    go_enter Tryz.func37, Tryz.ntmps37
    go_wp2
    go_ret
    exact ⟨rfl, Dr.refl _⟩
theorem samePairs_b (φ ψ : Nat → Prop) (w : World) (a b : Value) (la lb : KVs) (r : Bool) (h : decide (la = lb) = r) (ha : Kq φ w a la) (hb : Kq ψ w b lb) :
    Calls Tryz.prog 37 #[a, b] w fun e w' => e = .returned (.bool r) ∧ ∃ m, w' = w.drewN m := by
  subst h
  exact samePairs_c φ ψ w a b la lb ha hb
set_option maxRecDepth 8000 in
set_option maxHeartbeats 4000000 in
theorem sSameUri_c (φ ψ : Nat → Prop) (w : World) (x y : UV) (u v : PU) (hx : Uq φ w x u) (hy : Uq ψ w y v) :
    Calls Tryz.prog 49 #[x.val, y.val] w fun e w' => e = .returned (.bool (puB u v)) ∧ Le w w' := by
  have hvx : Hid (x.val = .agg #[x.scheme, x.raw, .bool x.wild, .bool x.slash, x.user, x.pass, x.host, .int .i64 x.port, x.ps, x.hs]) := Lib.hid rfl
  have hvy : Hid (y.val = .agg #[y.scheme, y.raw, .bool y.wild, .bool y.slash, y.user, y.pass, y.host, .int .i64 y.port, y.ps, y.hs]) := Lib.hid rfl
  rw [hvx.out, hvy.out]
  have hle0 : Le w ((w.alloc (Obj.cells #[x.scheme, x.raw, .bool x.wild, .bool x.slash, x.user, x.pass, x.host, .int .i64 x.port, x.ps, x.hs] 36)).alloc (Obj.cells #[y.scheme, y.raw, .bool y.wild, .bool y.slash, y.user, y.pass, y.host, .int .i64 y.port, y.ps, y.hs] 36)) := ((Le.refl w).alloc _).alloc _
  have HX := Lib.hid (hx.le hle0)
  have HY := Lib.hid (hy.le hle0)
  have HLE := Lib.hid hle0
  obtain ⟨xs, xr, xw, xsl, xu, xp, xh, xpo, xps, xhs⟩ := x
  obtain ⟨ys, yr, yw, ysl, yu, yp, yh, ypo, yps, yhs⟩ := y
  obtain ⟨us, ur, uw, usl, uu, up, uh, upo, ups, uhs⟩ := u
  obtain ⟨vs, vr, vw, vsl, vu, vp, vh, vpo, vps, vhs⟩ := v
  obtain rfl : xw = uw := hx.wild
  obtain rfl : xsl = usl := hx.slash
  obtain rfl : xpo = upo := hx.port
  obtain rfl : yw = vw := hy.wild
  obtain rfl : ysl = vsl := hy.slash
  obtain rfl : ypo = vpo := hy.port
  clear hx hy hle0 hvx hvy
  dsimp only at HX HY HLE ⊢
  obtain ⟨bw, Ew⟩ : ∃ b, (xw == yw) = b := ⟨_, rfl⟩
  obtain ⟨bsl, Esl⟩ : ∃ b, (xsl == ysl) = b := ⟨_, rfl⟩
  obtain ⟨bpo, Epo⟩ : ∃ b, (xpo == ypo) = b := ⟨_, rfl⟩
  obtain ⟨b_scheme, h_scheme⟩ : ∃ b, decide (us = vs) = b := ⟨_, rfl⟩
  obtain ⟨b_raw, h_raw⟩ : ∃ b, decide (ur = vr) = b := ⟨_, rfl⟩
  obtain ⟨b_user, h_user⟩ : ∃ b, decide (uu = vu) = b := ⟨_, rfl⟩
  obtain ⟨b_pass, h_pass⟩ : ∃ b, decide (up = vp) = b := ⟨_, rfl⟩
  obtain ⟨b_host, h_host⟩ : ∃ b, decide (uh = vh) = b := ⟨_, rfl⟩
  obtain ⟨b_ps, h_ps⟩ : ∃ b, decide (ups = vps) = b := ⟨_, rfl⟩
  obtain ⟨b_hs, h_hs⟩ : ∃ b, decide (uhs = vhs) = b := ⟨_, rfl⟩
  have HPU : Hid (puB ⟨us, ur, xw, xsl, uu, up, uh, xpo, ups, uhs⟩ ⟨vs, vr, yw, ysl, vu, vp, vh, ypo, vps, vhs⟩ = (b_scheme && b_raw && bw && bsl && b_user && b_pass && b_host && bpo && b_ps && b_hs)) := Lib.hid (by
    simp only [puB, h_scheme, h_raw, Ew, Esl, h_user, h_pass, h_host, Epo, h_ps, h_hs])
  have e_scheme := Lib.hid h_scheme
  have e_raw := Lib.hid h_raw
  have e_user := Lib.hid h_user
  have e_pass := Lib.hid h_pass
  have e_host := Lib.hid h_host
  have e_ps := Lib.hid h_ps
  have e_hs := Lib.hid h_hs
  clear h_scheme h_raw h_user h_pass h_host h_ps h_hs
  rw [HPU.out]
  clear HPU
  go_enter Tryz.func49, Tryz.ntmps49
  go_wp2_with (first | (go_at_call 57; first | (refine (isSame_d _ _ _ _ _ _ e_scheme.out (by first | exact HX.out.scheme.1.dn _ | exact HX.out.scheme.1) (by first | exact HY.out.scheme.1.dn _ | exact HY.out.scheme.1)).mono ?_; rintro e w' ⟨rfl, n, rfl⟩) | (refine (isSame_d _ _ _ _ _ _ e_raw.out (by first | exact HX.out.raw.1.dn _ | exact HX.out.raw.1) (by first | exact HY.out.raw.1.dn _ | exact HY.out.raw.1)).mono ?_; rintro e w' ⟨rfl, n, rfl⟩) | (refine (isSame_d _ _ _ _ _ _ e_user.out (by first | exact HX.out.user.1.dn _ | exact HX.out.user.1) (by first | exact HY.out.user.1.dn _ | exact HY.out.user.1)).mono ?_; rintro e w' ⟨rfl, n, rfl⟩) | (refine (isSame_d _ _ _ _ _ _ e_pass.out (by first | exact HX.out.pass.1.dn _ | exact HX.out.pass.1) (by first | exact HY.out.pass.1.dn _ | exact HY.out.pass.1)).mono ?_; rintro e w' ⟨rfl, n, rfl⟩) | (refine (isSame_d _ _ _ _ _ _ e_host.out (by first | exact HX.out.host.1.dn _ | exact HX.out.host.1) (by first | exact HY.out.host.1.dn _ | exact HY.out.host.1)).mono ?_; rintro e w' ⟨rfl, n, rfl⟩)) | (go_at_call 37; first | (refine (samePairs_b φ ψ _ _ _ _ _ _ e_ps.out (by first | exact HX.out.ps.dn _ | exact HX.out.ps) (by first | exact HY.out.ps.dn _ | exact HY.out.ps)).mono ?_; rintro e w' ⟨rfl, n, rfl⟩) | (refine (samePairs_b φ ψ _ _ _ _ _ _ e_hs.out (by first | exact HX.out.hs.dn _ | exact HX.out.hs) (by first | exact HY.out.hs.dn _ | exact HY.out.hs)).mono ?_; rintro e w' ⟨rfl, n, rfl⟩)))
  all_goals (go_ret; refine ⟨ret_bool ?_, by first | exact HLE.out.drewN _ | exact HLE.out⟩; simp [*])
end Go.Proofs.YteedhaenbamiaaaGreatDoor
