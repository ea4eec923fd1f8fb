/- Contracts: the laws' sameUri, known. -/
import Derived.Test.YtbdeohmdpkkpdaaGreatDoorKnown
import Derived.Test.YtbdeohmdpkkpdaaGreatDoorSpW
set_option linter.unusedVariables false
set_option linter.unusedSimpArgs false
namespace Go.Proofs.YtbdeohmdpkkpdaaGreatDoor
open Go.RowKit

theorem Kq.dn {φ : Nat → Prop} {w : World} {v : Value} {l : KVs} (h : Kq φ w v l) (n : Nat) : Kq φ (w.drewN n) v l := h.le ((Le.refl w).drewN n)
def puB (u v : PU) : Bool := decide (u.scheme = v.scheme) && decide (u.raw = v.raw) && (u.wild == v.wild) && (u.slash == v.slash) && decide (u.user = v.user) && decide (u.pass = v.pass) && decide (u.host = v.host) && (u.port == v.port) && decide (u.ps = v.ps) && decide (u.hs = v.hs)
theorem puB_iff (u v : PU) : puB u v = true ↔ u = v := by
  obtain ⟨us, ur, uw, usl, uu, up, uh, upo, ups, uhs⟩ := u
  obtain ⟨vs, vr, vw, vsl, vu, vp, vh, vpo, vps, vhs⟩ := v
  simp [puB, and_assoc]
theorem sameKVs_b (φ ψ : Nat → Prop) (w : World) (a b : Value) (la lb : KVs) (r : Bool) (h : decide (la = lb) = r) (ha : Kq φ w a la) (hb : Kq ψ w b lb) :
    Calls Tryz.prog 34 #[a, b] w fun e w' => e = .returned (.bool r) ∧ ∃ m, w' = w.drewN m := by
  subst h
  exact sameKVs_c φ ψ w a b la lb ha hb
set_option maxRecDepth 8000 in
set_option maxHeartbeats 4000000 in
theorem sameUri_c (φ ψ : Nat → Prop) (w : World) (x y : UV) (u v : PU) (hx : Uq φ w x u) (hy : Uq ψ w y v) :
    Calls Tryz.prog 53 #[x.val, y.val] w fun e w' => e = .returned (.bool (puB u v)) ∧ Le w w' := by
  have hvx : Hid (x.val = .agg #[x.scheme, x.raw, .bool x.wild, .bool x.slash, x.user, x.pass, x.host, .int .i64 x.port, x.ps, x.hs]) := Lib.hid rfl
  have hvy : Hid (y.val = .agg #[y.scheme, y.raw, .bool y.wild, .bool y.slash, y.user, y.pass, y.host, .int .i64 y.port, y.ps, y.hs]) := Lib.hid rfl
  rw [hvx.out, hvy.out]
  have hle0 : Le w ((w.alloc (Obj.cells #[x.scheme, x.raw, .bool x.wild, .bool x.slash, x.user, x.pass, x.host, .int .i64 x.port, x.ps, x.hs] 78)).alloc (Obj.cells #[y.scheme, y.raw, .bool y.wild, .bool y.slash, y.user, y.pass, y.host, .int .i64 y.port, y.ps, y.hs] 78)) := ((Le.refl w).alloc _).alloc _
  have HX := Lib.hid (hx.le hle0)
  have HY := Lib.hid (hy.le hle0)
  have HLE := Lib.hid hle0
  obtain ⟨xs, xr, xw, xsl, xu, xp, xh, xpo, xps, xhs⟩ := x
  obtain ⟨ys, yr, yw, ysl, yu, yp, yh, ypo, yps, yhs⟩ := y
  obtain ⟨us, ur, uw, usl, uu, up, uh, upo, ups, uhs⟩ := u
  obtain ⟨vs, vr, vw, vsl, vu, vp, vh, vpo, vps, vhs⟩ := v
  obtain rfl : xw = uw := hx.wild
  obtain rfl : xsl = usl := hx.slash
  obtain rfl : xpo = upo := hx.port
  obtain rfl : yw = vw := hy.wild
  obtain rfl : ysl = vsl := hy.slash
  obtain rfl : ypo = vpo := hy.port
  clear hx hy hle0 hvx hvy
  dsimp only at HX HY HLE ⊢
  obtain ⟨bw, Ew⟩ : ∃ b, (xw == yw) = b := ⟨_, rfl⟩
  obtain ⟨bsl, Esl⟩ : ∃ b, (xsl == ysl) = b := ⟨_, rfl⟩
  obtain ⟨bpo, Epo⟩ : ∃ b, (xpo == ypo) = b := ⟨_, rfl⟩
  obtain ⟨b_scheme, h_scheme⟩ : ∃ b, decide (us = vs) = b := ⟨_, rfl⟩
  obtain ⟨b_raw, h_raw⟩ : ∃ b, decide (ur = vr) = b := ⟨_, rfl⟩
  obtain ⟨b_user, h_user⟩ : ∃ b, decide (uu = vu) = b := ⟨_, rfl⟩
  obtain ⟨b_pass, h_pass⟩ : ∃ b, decide (up = vp) = b := ⟨_, rfl⟩
  obtain ⟨b_host, h_host⟩ : ∃ b, decide (uh = vh) = b := ⟨_, rfl⟩
  obtain ⟨b_ps, h_ps⟩ : ∃ b, decide (ups = vps) = b := ⟨_, rfl⟩
  obtain ⟨b_hs, h_hs⟩ : ∃ b, decide (uhs = vhs) = b := ⟨_, rfl⟩
  have HPU : Hid (puB ⟨us, ur, xw, xsl, uu, up, uh, xpo, ups, uhs⟩ ⟨vs, vr, yw, ysl, vu, vp, vh, ypo, vps, vhs⟩ = (b_scheme && b_raw && bw && bsl && b_user && b_pass && b_host && bpo && b_ps && b_hs)) := Lib.hid (by
    simp only [puB, h_scheme, h_raw, Ew, Esl, h_user, h_pass, h_host, Epo, h_ps, h_hs])
  have e_scheme := Lib.hid h_scheme
  have e_raw := Lib.hid h_raw
  have e_user := Lib.hid h_user
  have e_pass := Lib.hid h_pass
  have e_host := Lib.hid h_host
  have e_ps := Lib.hid h_ps
  have e_hs := Lib.hid h_hs
  clear h_scheme h_raw h_user h_pass h_host h_ps h_hs
  rw [HPU.out]
  clear HPU
  go_enter Tryz.func53, Tryz.ntmps53
  go_wp2_with (first | (go_at_call 19; first | (refine (equal_b _ _ _ _ _ _ e_scheme.out (by first | exact HX.out.scheme.1.dn _ | exact HX.out.scheme.1) (by first | exact HY.out.scheme.1.dn _ | exact HY.out.scheme.1)).mono ?_; rintro e w' ⟨rfl, n, rfl⟩) | (refine (equal_b _ _ _ _ _ _ e_raw.out (by first | exact HX.out.raw.1.dn _ | exact HX.out.raw.1) (by first | exact HY.out.raw.1.dn _ | exact HY.out.raw.1)).mono ?_; rintro e w' ⟨rfl, n, rfl⟩) | (refine (equal_b _ _ _ _ _ _ e_user.out (by first | exact HX.out.user.1.dn _ | exact HX.out.user.1) (by first | exact HY.out.user.1.dn _ | exact HY.out.user.1)).mono ?_; rintro e w' ⟨rfl, n, rfl⟩) | (refine (equal_b _ _ _ _ _ _ e_pass.out (by first | exact HX.out.pass.1.dn _ | exact HX.out.pass.1) (by first | exact HY.out.pass.1.dn _ | exact HY.out.pass.1)).mono ?_; rintro e w' ⟨rfl, n, rfl⟩) | (refine (equal_b _ _ _ _ _ _ e_host.out (by first | exact HX.out.host.1.dn _ | exact HX.out.host.1) (by first | exact HY.out.host.1.dn _ | exact HY.out.host.1)).mono ?_; rintro e w' ⟨rfl, n, rfl⟩)) | (go_at_call 34; first | (refine (sameKVs_b φ ψ _ _ _ _ _ _ e_ps.out (by first | exact HX.out.ps.dn _ | exact HX.out.ps) (by first | exact HY.out.ps.dn _ | exact HY.out.ps)).mono ?_; rintro e w' ⟨rfl, n, rfl⟩) | (refine (sameKVs_b φ ψ _ _ _ _ _ _ e_hs.out (by first | exact HX.out.hs.dn _ | exact HX.out.hs) (by first | exact HY.out.hs.dn _ | exact HY.out.hs)).mono ?_; rintro e w' ⟨rfl, n, rfl⟩)))
  all_goals (go_ret; refine ⟨ret_bool ?_, by first | exact HLE.out.drewN _ | exact HLE.out⟩; simp [*])
end Go.Proofs.YtbdeohmdpkkpdaaGreatDoor
