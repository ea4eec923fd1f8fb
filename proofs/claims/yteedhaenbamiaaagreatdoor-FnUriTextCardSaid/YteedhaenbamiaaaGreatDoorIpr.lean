/- Contracts: the thin package's UriText, UriParts of a plain URI. -/
import Derived.Test.YteedhaenbamiaaaGreatDoorSUp
import Derived.Test.YteedhaenbamiaaaGreatDoorHvU
import Derived.Test.YteedhaenbamiaaaGreatDoorRaw
set_option linter.unusedVariables false
set_option linter.unusedSimpArgs false
namespace Go.Proofs.YteedhaenbamiaaaGreatDoor
open Go.RowKit

theorem slv_bv {w : World} {v : Value} {l : Tx} (h : Bv w v l) : SlV v := by obtain ⟨A, c, e, _⟩ := h; exact ⟨_, A, c, e⟩
set_option maxRecDepth 4000 in
set_option maxHeartbeats 4000000 in
theorem iPartsRaw_c (φ : Nat → Prop) (w : World) (x : UV) (u : PU) (hx : Uq φ w x u) (hr : u.raw ≠ []) (hL : Laid w) (hlen : (u.scheme ++ 58 :: u.raw).length ≤ 1099511627000) :
    Calls Tryz.prog 16 #[x.val] w fun e w' => ∃ a b c s, e = .returned (.tuple #[a, b, c, .bool s]) ∧ SlV a ∧ SlV b ∧ SlV c ∧ Le w w' := by
  have HX := Lib.hid hx
  have HL := Lib.hid hL
  have hval : Hid (x.val = .agg #[x.scheme, x.raw, .bool x.wild, .bool x.slash, x.user, x.pass, x.host, .int .i64 x.port, x.ps, x.hs]) := Lib.hid rfl
  clear hx hL
  rw [hval.out]
  go_enter Tryz.func16, Tryz.ntmps16
  go_wp2_with fail
  refine (addressRaw_c φ _ x u (HX.out.le ((Le.refl w).alloc _)) hr (HL.out.le ((Le.refl w).alloc _)) hlen).mono ?_
  rintro e w2 ⟨r, q, pv, hv, rfl, h1, h2, hsm, _, _, hle2⟩
  have HS := Lib.hid hsm
  clear hsm
  have HLE2 : Hid (Le w w2) := Lib.hid (Le.trans ((Le.refl w).alloc _) hle2)
  have HP := Lib.hid h1
  have HV := Lib.hid h2
  have hone : (r.cells pv hv).all (·.oneCell') = true := by
    obtain ⟨A, c, e1, _⟩ := h1
    obtain ⟨A', c', e2, _⟩ := h2
    rw [e1, e2]
    unfold PU.cells
    simp only [List.all_toArray, List.all_cons, List.all_nil]
    rfl
  have hst := run_storeCells_new (P := Tryz.prog) w2 84 #[.string ⟨#[]⟩, .string ⟨#[]⟩, .bool false, .bool false, .string ⟨#[]⟩, .string ⟨#[]⟩, .string ⟨#[]⟩, .int .i64 0, .slice none 0 0, .slice none 0 0] (r.cells pv hv) sip_size rfl hone
  clear h1 h2 hle2 hone
  have hle3 : Le w (w2.alloc (Obj.cells (r.cells pv hv) 84)) := HLE2.out.alloc _
  have hle4 : Le w2 (w2.alloc (Obj.cells (r.cells pv hv) 84)) := (Le.refl w2).alloc _
  have HU := Lib.hid (show UAt (w2.alloc (Obj.cells (r.cells pv hv) 84)) w2.heap.size r from ⟨pv, hv, heap_alloc_new w2 _, HP.out.le hle4, HV.out.le hle4, HS.out⟩)
  have HL3 := Lib.hid hle3
  clear hle3 hle4
  go_wp2_with fail
  refine (addr_c _ w2.heap.size r HU.out (HL.out.le HL3.out)).mono ?_
  rintro e w3 ⟨rfl, hle5⟩
  have HL4 : Hid (Le w w3) := Lib.hid (Le.trans HL3.out hle5)
  have HU4 := Lib.hid (HU.out.le hle5)
  clear hle5 hst
  obtain ⟨B, c, W, q, le1, bt⟩ := conv_mk (base := w.heap.size) w3 (st (adT r)) HL4.out.size (by rw [st_size]; exact adT_len r HS.out)
  rw [bs_st] at bt
  have HB := Lib.hid bt
  have HL5 : Hid (Le w W) := Lib.hid (Le.trans HL4.out le1)
  have HU5 := Lib.hid (HU4.out.le le1)
  clear bt le1
  go_wp2_with fail
  refine (endpoint_c W w2.heap.size r HU5.out (HL.out.le HL5.out)).mono ?_
  rintro e w6 ⟨rfl, hle6⟩
  have HL6 : Hid (Le w w6) := Lib.hid (Le.trans HL5.out hle6)
  have HU6 := Lib.hid (HU5.out.le hle6)
  have HB6 := Lib.hid (HB.out.le hle6)
  clear hle6 q
  obtain ⟨B2, c2, W2, q, le1, bt⟩ := conv_mk (base := w.heap.size) w6 (st (epT r)) HL6.out.size (by rw [st_size]; exact epT_len r HS.out)
  rw [bs_st] at bt
  have HC := Lib.hid bt
  have HL7 : Hid (Le w W2) := Lib.hid (Le.trans HL6.out le1)
  have HU7 := Lib.hid (HU6.out.le le1)
  have HB7 := Lib.hid (HB6.out.le le1)
  clear bt le1
  go_wp2_with fail
  refine (hostPort_c' W2 w2.heap.size r HU7.out (HL.out.le HL7.out)).mono ?_
  rintro e w8 ⟨rfl, hle8⟩
  have HL8 : Hid (Le w w8) := Lib.hid (Le.trans HL7.out hle8)
  have HU8 := Lib.hid (HU7.out.le hle8)
  have HB8 := Lib.hid (HB7.out.le hle8)
  have HC8 := Lib.hid (HC.out.le hle8)
  clear hle8 q
  obtain ⟨B3, c3, W3, q, le1, bt⟩ := conv_mk (base := w.heap.size) w8 (st (hpT r)) HL8.out.size (by rw [st_size]; exact hpT_len r HS.out)
  rw [bs_st] at bt
  have HD := Lib.hid bt
  have HL9 : Hid (Le w W3) := Lib.hid (Le.trans HL8.out le1)
  have HU9 := Lib.hid (HU8.out.le le1)
  have HB9 := Lib.hid (HB8.out.le le1)
  have HC9 := Lib.hid (HC8.out.le le1)
  clear bt le1
  go_wp2_with fail
  refine (isEnc_c W3 w2.heap.size r HU9.out).mono ?_
  rintro e w10 ⟨rfl, rfl⟩
  go_wp2
  go_returns
  exact ⟨_, _, _, _, rfl, slv_bv HB9.out.1, slv_bv HC9.out.1, slv_bv HD.out.1, HL9.out⟩

theorem hv_kv {l : KVs} (h : hvN l l.length ≤ 8192) : l.length ≤ 8192 ∧ ∀ x ∈ l, x.1.length ≤ 8192 ∧ x.2.length ≤ 8192 :=
  ⟨Nat.le_trans (hvN_len l _) h, fun x hx => by have := hvN_mem hx; omega⟩
theorem hv_pt {l : KVs} (h : hvN l l.length ≤ 8192) (sep : UInt8) : ∀ k ≤ l.length, (ptP l sep k).length ≤ 100000000 := by
  intro k hk
  have h1 := hv_kv h
  have h2 : ∀ x ∈ l, x.1.length + x.2.length ≤ 8192 := fun x hx => by have := hvN_mem hx; omega
  have h3 := ptP_len (sep := sep) h2 k hk
  have h4 : k * (8192 + 2) ≤ 8192 * (8192 + 2) := Nat.mul_le_mul_right _ (by omega)
  omega
theorem hv_sz {u : PU} (h : HvS u) (lo : -9223372036854775808 ≤ u.port) (hi : u.port ≤ 9223372036854775807) : SzS u :=
  ⟨by have := h.scheme; omega, by have := h.raw; omega, by have := h.user; omega, by have := h.pass; omega, by have := h.host; omega, lo, hi, hv_pt h.ps 59, hv_pt h.hs 38,
    fun x hx => by have := (hv_kv h.ps).2 x hx; omega, fun x hx => by have := (hv_kv h.hs).2 x hx; omega⟩
theorem hv_small {u : PU} (h : HvS u) (lo : -9223372036854775808 ≤ u.port) (hi : u.port ≤ 9223372036854775807) : u.small :=
  ⟨by have := h.scheme; omega, by have := h.raw; omega, by have := h.user; omega, by have := h.pass; omega, by have := h.host; omega, lo, hi⟩
theorem hv_ksm {l : KVs} (h : hvN l l.length ≤ 8192) : KSm 1099511627775 l := ⟨by have := (hv_kv h).1; omega, fun x hx => by have := (hv_kv h).2 x hx; omega⟩
theorem hv_flat {l : KVs} (h : hvN l l.length ≤ 8192) (sep : UInt8) : (l.flatMap (kvText sep)).length ≤ 1099511627776 := by
  have h1 := gFlat sep l (hv_kv h).2
  have h2 := (hv_kv h).1
  omega
theorem sch_text {u : PU} (hr : u.raw ≠ []) (hs : u.scheme ≠ []) (hw : u.wild = false) : uText u = sxText u := by
  unfold uText uSch sxText
  rw [if_neg hs, if_neg hr, hw, if_neg (by simp), if_neg hr]
/-- UriText of a plain URI -/
theorem uTextAny_c (w : World) (x : UV) (u : PU) (hx : Uq (fun _ => True) w x u) (hv : HvS u) (lo : -9223372036854775808 ≤ u.port) (hi : u.port ≤ 9223372036854775807) (hp : Pln u) (hL : Laid w) :
    Calls Tryz.prog 18 #[x.val] w fun e w' => ∃ v, e = .returned v ∧ Bv w' v (sxText u) ∧ Le w w' := by
  rcases pln_cases hp with ⟨he, hr, hs⟩ | hk
  · have e1 : u.host = [] := by rw [he]; rfl
    have e2 : u.ps = [] := by rw [he]; rfl
    have e3 : u.hs = [] := by rw [he]; rfl
    refine (uriTextRaw_c _ w x u hx hr hL (by have := hv.scheme; have := hv.raw; simp only [List.length_append, List.length_cons]; omega) (pln_raw hp hr) (hv_small hv lo hi) e1 e2 e3).mono ?_
    rintro e w' ⟨v, rfl, hb, hle⟩
    exact ⟨v, rfl, by rw [← sch_text hr hs hp.2]; exact hb.1, hle⟩
  · refine (uriText_c _ w x u hx (hv_small hv lo hi) hk.raw hL hk.host (hv_ksm hv.ps) (hv_ksm hv.hs) (hv_flat hv.ps 59) (hv_flat hv.hs 38)).mono ?_
    rintro e w' ⟨v, rfl, hb, hle⟩
    exact ⟨v, rfl, by rw [← pln_text hk]; exact hb.1, hle⟩
/-- the parts of a plain URI -/
structure IPTold (u : PU) (w : World) (a b c : Value) (s : Bool) : Prop where
  a : Bv w a (adT u)
  b : Bv w b (epT u)
  c : Bv w c (hpT u)
  s : s = decide (u.scheme = sSips)
theorem iPartsAny_c (w : World) (x : UV) (u : PU) (hx : Uq (fun _ => True) w x u) (hv : HvS u) (lo : -9223372036854775808 ≤ u.port) (hi : u.port ≤ 9223372036854775807) (hL : Laid w) :
    Calls Tryz.prog 16 #[x.val] w fun e w' => ∃ a b c s, e = .returned (.tuple #[a, b, c, .bool s]) ∧ SlV a ∧ SlV b ∧ SlV c ∧ Le w w' ∧ (u.raw = [] → IPTold u w' a b c s) := by
  by_cases hr : u.raw = []
  · refine (iParts_c _ w x u hx (hv_small hv lo hi) hr hL (hv_ksm hv.ps) (hv_ksm hv.hs)).mono ?_
    rintro e w' ⟨a, b, c, rfl, h1, h2, h3, hle⟩
    exact ⟨a, b, c, _, rfl, slv_bv h1, slv_bv h2, slv_bv h3, hle, fun _ => ⟨h1, h2, h3, rfl⟩⟩
  · refine (iPartsRaw_c _ w x u hx hr hL (by have := hv.scheme; have := hv.raw; simp only [List.length_append, List.length_cons]; omega)).mono ?_
    rintro e w' ⟨a, b, c, s, rfl, h1, h2, h3, hle⟩
    exact ⟨a, b, c, s, rfl, h1, h2, h3, hle, fun h => absurd h hr⟩
/-- the two tell the same -/
theorem pAd {u : PU} (h : SipK u) (hu : u.user ≠ []) : adT u = u.scheme ++ [58] ++ (u.user ++ 64 :: hostS u.host u.port) := by
  have hne : u.scheme ≠ [] := by rcases h.sch with e | e <;> rw [e] <;> decide
  unfold adT arT uSch hostS uPort
  rw [if_neg hne, if_neg hu]
  simp
theorem pEp (u : PU) : epT u = u.user ++ 64 :: hostS u.host u.port := rfl
theorem pHp {u : PU} (h : SipK u) : hpT u = u.host ++ 58 :: Lib.decDigits u.port.toNat := by
  unfold hpT
  obtain ⟨n, hn⟩ : ∃ n : Nat, u.port = n := ⟨u.port.toNat, by have := h.lo; omega⟩
  rw [hn, Lib.itoa_nonneg]
  rfl
end Go.Proofs.YteedhaenbamiaaaGreatDoor
