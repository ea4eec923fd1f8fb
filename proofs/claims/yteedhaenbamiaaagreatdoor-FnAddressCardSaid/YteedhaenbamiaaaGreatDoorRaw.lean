/- Contracts: the thin package's address and UriText, of a URI with an uninterpreted part; the plain law of such URIs. -/
import Derived.Test.YteedhaenbamiaaaGreatDoorHead
import Derived.Test.YteedhaenbamiaaaGreatDoorLaw
import Derived.Test.YteedhaenbamiaaaGreatDoorPlace
import Derived.Test.YteedhaenbamiaaaGreatDoorSpWb
set_option linter.unusedVariables false
set_option linter.unusedSimpArgs false
namespace Go.Proofs.YteedhaenbamiaaaGreatDoor
open Go.RowKit

/-- what an address of a URI with an uninterpreted part is: what its text is read as, or what reading left -/
def RawPost (w : World) (u : PU) (e : Ending) (w' : World) : Prop :=
  ∃ (r : PU) (q : Option PU) (pv hv : Value), e = .returned (.agg (r.cells pv hv)) ∧ Hp w' pv r.ps ∧ Hp w' hv r.hs ∧ r.small ∧ PTop (u.scheme ++ 58 :: u.raw) PU.zero q ∧ (∀ v, q = some v → r = v) ∧ Le w w'
theorem st3 (a b : Tx) : st a ++ ⟨#[58]⟩ ++ st b = st (a ++ 58 :: b) := by
  rw [show (⟨#[58]⟩ : ByteArray) = st [58] from rfl, st_app, st_app, List.append_assoc]; rfl
theorem cells_one {w : World} {u : PU} {pv hv : Value} (h1 : Hp w pv u.ps) (h2 : Hp w hv u.hs) : (u.cells pv hv).all (·.oneCell') = true := by
  obtain ⟨A, c, rfl, _⟩ := h1
  obtain ⟨A', c', rfl, _⟩ := h2
  unfold PU.cells
  simp only [List.all_toArray, List.all_cons, List.all_nil]
  rfl
def zsip : Array Value := #[.string ⟨#[]⟩, .string ⟨#[]⟩, .bool false, .bool false, .string ⟨#[]⟩, .string ⟨#[]⟩, .string ⟨#[]⟩, .int .i64 0, .slice none 0 0, .slice none 0 0]
set_option maxRecDepth 4000 in
set_option maxHeartbeats 4000000 in
theorem addressRaw_c (φ : Nat → Prop) (w : World) (x : UV) (u : PU) (hx : Uq φ w x u) (hr : u.raw ≠ []) (hL : Laid w) (hlen : (u.scheme ++ 58 :: u.raw).length ≤ 1099511627000) :
    Calls Tryz.prog 50 #[x.val] w (RawPost w u) := by
  have HX := Lib.hid hx
  have HL := Lib.hid hL
  have HLEN := Lib.hid hlen
  have hone := hx.one
  have hraw : 0 < u.raw.length := List.length_pos_iff.2 hr
  obtain ⟨rA, rc, er⟩ : ∃ A c, x.raw = .slice A u.raw.length c := by obtain ⟨⟨A, c, e, _⟩, _⟩ := hx.raw; exact ⟨A, c, e⟩
  obtain ⟨sA, sn, sc, es⟩ : ∃ A n c, x.scheme = .slice A n c := by obtain ⟨⟨A, c, e, _⟩, _⟩ := hx.scheme; exact ⟨A, _, c, e⟩
  obtain ⟨uA, un, uc, eu⟩ : ∃ A n c, x.user = .slice A n c := by obtain ⟨⟨A, c, e, _⟩, _⟩ := hx.user; exact ⟨A, _, c, e⟩
  obtain ⟨pA, pn, pc, ep⟩ : ∃ A n c, x.pass = .slice A n c := by obtain ⟨⟨A, c, e, _⟩, _⟩ := hx.pass; exact ⟨A, _, c, e⟩
  obtain ⟨hA, hn, hc, eh⟩ : ∃ A n c, x.host = .slice A n c := by obtain ⟨⟨A, c, e, _⟩, _⟩ := hx.host; exact ⟨A, _, c, e⟩
  obtain ⟨kA, kn, kc, ek⟩ : ∃ A n c, x.ps = .slice A n c := by obtain ⟨A, c, e, _⟩ := hx.ps; exact ⟨A, _, c, e⟩
  obtain ⟨jA, jn, jc, ej⟩ : ∃ A n c, x.hs = .slice A n c := by obtain ⟨A, c, e, _⟩ := hx.hs; exact ⟨A, _, c, e⟩
  have hval : x.val = .agg #[.slice sA sn sc, .slice rA u.raw.length rc, .bool x.wild, .bool x.slash, .slice uA un uc, .slice pA pn pc, .slice hA hn hc, .int .i64 x.port, .slice kA kn kc, .slice jA jn jc] := by
    unfold UV.val; rw [es, er, eu, ep, eh, ek, ej]
  obtain ⟨W3, hW3, hW3e⟩ : ∃ W3, W3 = ((w.alloc (Obj.cells #[.slice sA sn sc, .slice rA u.raw.length rc, .bool x.wild, .bool x.slash, .slice uA un uc, .slice pA pn pc, .slice hA hn hc, .int .i64 x.port, .slice kA kn kc, .slice jA jn jc] 32)).alloc (Obj.cells zsip 84)).alloc (Obj.cells zsip 84) ∧ Le w W3 := ⟨_, rfl, (((Le.refl w).alloc _).alloc _).alloc _⟩
  have q1 := conv_bs (P := Tryz.prog) Tryz.underlying22 Tryz.underlying5 Tryz.underlying9 (hx.scheme.1.le hW3e)
  have q2 := conv_bs (P := Tryz.prog) Tryz.underlying22 Tryz.underlying5 Tryz.underlying9 (hx.raw.1.le hW3e)
  rw [es] at q1
  rw [er] at q2
  have b1 : W3.heap[w.heap.size + 1]? = some (.cells zsip 84 (0, 0)) := by
    rw [hW3]; exact (Below.heap_alloc _ _ _ (by simp)).trans (heap_alloc2_new w _ _)
  have b2 : W3.heap[w.heap.size + 2]? = some (.cells zsip 84 (0, 0)) := by
    rw [hW3]
    have := heap_alloc_new ((w.alloc (Obj.cells #[.slice sA sn sc, .slice rA u.raw.length rc, .bool x.wild, .bool x.slash, .slice uA un uc, .slice pA pn pc, .slice hA hn hc, .int .i64 x.port, .slice kA kn kc, .slice jA jn jc] 32)).alloc (Obj.cells zsip 84)) (Obj.cells zsip 84)
    simpa using this
  have hsz3 : w.heap.size + 3 ≤ W3.heap.size := by rw [hW3]; simp
  have HB1 := Lib.hid b1
  have HLE3 := Lib.hid hW3e
  have hua : UAt W3 (w.heap.size + 2) PU.zero := ⟨.slice none 0 0, .slice none 0 0, b2, Hp.nil _, Hp.nil _, by unfold PU.small PU.zero; simp⟩
  have hlu : LaidU (w.heap.size + 2) W3 := ⟨w, hL, hW3e, by omega⟩
  have HCALL := Lib.hid (sip_c (st (u.scheme ++ 58 :: u.raw)) (w.heap.size + 2) PU.zero W3 hua (by rw [st_size]; exact hlen) hlu)
  have s1 : (st u.scheme).size ≤ 1099511627000 := by rw [st_size]; simp only [List.length_append, List.length_cons] at hlen; omega
  have s2 : (st u.raw).size ≤ 1099511627000 := by rw [st_size]; simp only [List.length_append, List.length_cons] at hlen; omega
  rw [hval]
  clear hval hx hL hlen hone es er eu ep eh ek ej hr hW3e b1 b2 hua hlu hsz3
  subst hW3
  unfold zsip at q1 q2
  go_enter Tryz.func50, Tryz.ntmps50
  go_wp2_with fail
  rw [st3]
  refine HCALL.out.mono ?_
  rw [bs_st]
  rintro e w2 ⟨hkp2, hor⟩
  obtain ⟨r, q, hua2, hpt, hq⟩ : ∃ r q, UAt w2 (w.heap.size + 2) r ∧ PTop (u.scheme ++ 58 :: u.raw) PU.zero q ∧ (∀ v, q = some v → r = v) := by
    rcases hor with ⟨v, h1, _, h3⟩ | ⟨h1, T, a, v, _, h3⟩
    · exact ⟨v, some v, h3, h1, fun v' hv => by injection hv⟩
    · exact ⟨v, none, h3, h1, fun v' hv => by cases hv⟩
  obtain ⟨e0, rfl⟩ : ∃ e0, e = .returned e0 := by
    rcases hor with ⟨v, _, h2, _⟩ | ⟨_, T, a, v, h2, _⟩ <;> exact ⟨_, h2⟩
  have HB1' : Hid (w2.heap[w.heap.size + 1]? = some (.cells zsip 84 (0, 0))) := Lib.hid (hkp2.heap (by omega) HB1.out)
  have HLE2 : Hid (Le w w2) := Lib.hid (Below.trans HLE3.out (hkp2.below (by omega) HLE3.out.size))
  obtain ⟨pv, hv, hb, hp, hh, hsm⟩ := hua2
  have HB := Lib.hid hb
  have HP := Lib.hid hp
  have HH := Lib.hid hh
  have HSM := Lib.hid hsm
  have HPT := Lib.hid hpt
  have HQ := Lib.hid hq
  have HONE := Lib.hid (cells_one hp hh)
  clear hb hp hh hsm hpt hq hor hkp2 q1 q2
  go_wp2_with (first | (refine wpList_load_row rfl 84 (.tmp 3) rfl (w.heap.size + 2) rfl 84 (r.cells pv hv) (0, 0) _ HB.out Tryz.underlying84 rfl sip_size ?_) | (refine wpList_store_rowR rfl 84 (.tmp 2) (.tmp 17) rfl (w.heap.size + 1) (r.cells pv hv) rfl rfl 84 zsip HB1'.out sip_size rfl HONE.out ?_))
  intro WZ hz hkz
  have HZ := Lib.hid hz
  have HLZ : Hid (Le w WZ) := Lib.hid (Below.trans HLE2.out (hkz.below (by omega) HLE2.out.size))
  have HPZ := Lib.hid (HP.out.kp hkz HB1'.out (by decide))
  have HHZ := Lib.hid (HH.out.kp hkz HB1'.out (by decide))
  clear hz hkz
  go_wp2
  (try simp only [Exit.inBlock, Exit.then])
  refine bodyPost_ret (results_cell_row rfl _ _ (w.heap.size + 1) 84 _ (0, 0) _ rfl HZ.out Tryz.underlying84 rfl sip_size) rfl ?_
  exact ⟨r, q, pv, hv, rfl, HPZ.out, HHZ.out, HSM.out, HPT.out, HQ.out, HLZ.out⟩

/-- the text of a URI that is read as itself -/
def RawText (w : World) (u : PU) (e : Ending) (w' : World) : Prop := ∃ v, e = .returned v ∧ Bq (w.heap.size ≤ ·) w' v (uText u) ∧ Le w w'
set_option maxRecDepth 4000 in
set_option maxHeartbeats 2000000 in
theorem uriTextRaw_c (φ : Nat → Prop) (w : World) (x : UV) (u : PU) (hx : Uq φ w x u) (hr : u.raw ≠ []) (hL : Laid w) (hlen : (u.scheme ++ 58 :: u.raw).length ≤ 1099511627000)
    (hlaw : ∀ q, PTop (u.scheme ++ 58 :: u.raw) PU.zero q → q = some u) (hs : u.small) (hho : u.host = []) (hps : u.ps = []) (hhs : u.hs = []) :
    Calls Tryz.prog 18 #[x.val] w (RawText w u) := by
  have HX := Lib.hid hx
  have HS := Lib.hid hs
  have HL := Lib.hid hL
  have HR := Lib.hid hr
  have HLEN := Lib.hid hlen
  have HLAW := Lib.hid hlaw
  have hlp : (u.ps.flatMap (kvText 59)).length ≤ 1099511627776 := by rw [hps]; simp
  have hlh : (u.hs.flatMap (kvText 38)).length ≤ 1099511627776 := by rw [hhs]; simp
  have hhp : hostPlain u.host := by rw [hho]; exact fun x h => (by cases h)
  have HHP := Lib.hid hhp
  have HTL := Lib.hid (uText_len u hs hlp hlh)
  have HLP := Lib.hid hlp
  have HLH := Lib.hid hlh
  have hval : Hid (x.val = .agg #[x.scheme, x.raw, .bool x.wild, .bool x.slash, x.user, x.pass, x.host, .int .i64 x.port, x.ps, x.hs]) := Lib.hid rfl
  clear hx hs hL hr hlen hlaw hho hps hhs hhp hlp hlh
  rw [hval.out]
  go_enter Tryz.func18, Tryz.ntmps18
  go_wp2_with fail
  refine (addressRaw_c φ _ x u (HX.out.le ((Le.refl w).alloc _)) HR.out (HL.out.le ((Le.refl w).alloc _)) HLEN.out).mono ?_
  rintro e w2 ⟨r, q, pv, hv, rfl, h1, h2, h3, h4, h5, hle2⟩
  obtain rfl : r = u := h5 u (HLAW.out q h4)
  have HLE2 : Hid (Le w w2) := Lib.hid (Le.trans ((Le.refl w).alloc _) hle2)
  have HP := Lib.hid h1
  have HV := Lib.hid h2
  have hst := run_storeCells_new (P := Tryz.prog) w2 84 #[.string ⟨#[]⟩, .string ⟨#[]⟩, .bool false, .bool false, .string ⟨#[]⟩, .string ⟨#[]⟩, .string ⟨#[]⟩, .int .i64 0, .slice none 0 0, .slice none 0 0] (r.cells pv hv) sip_size rfl (cells_one h1 h2)
  clear h1 h2 h3 h4 h5 hle2
  go_wp2_with fail
  have hle3 : Le w (w2.alloc (Obj.cells (r.cells pv hv) 84)) := HLE2.out.alloc _
  have hle4 : Le w2 (w2.alloc (Obj.cells (r.cells pv hv) 84)) := (Le.refl w2).alloc _
  refine (string_c _ w2.heap.size r ⟨pv, hv, heap_alloc_new w2 _, HP.out.le hle4, HV.out.le hle4, HS.out⟩ (HL.out.le hle3) HHP.out HLP.out HLH.out).mono ?_
  rintro e w3 ⟨rfl, hle5⟩
  have HLE3 : Hid (Le w w3) := Lib.hid (Le.trans hle3 hle5)
  clear hle3 hle4 hle5 hst
  obtain ⟨B, c, W, qq, le1, bt⟩ := conv_mk (base := w.heap.size) w3 (st (uText r)) HLE3.out.size (by rw [st_size]; exact HTL.out)
  rw [bs_st] at bt
  have HB := Lib.hid bt
  have HLE4 : Hid (Le w W) := Lib.hid (Le.trans HLE3.out le1)
  clear bt le1
  go_wp2
  go_ret
  exact ⟨_, rfl, ⟨HB.out.1, fun g h => (HB.out.2 g h).1⟩, HLE4.out⟩

/-! ### the plain law: a URI of another scheme -/
theorem low_al {c : UInt8} (h : (97 ≤ c && c ≤ 122) = true) : isAl c = true ∧ lowC c = c := by
  simp only [Bool.and_eq_true, decide_eq_true_eq, UInt8.le_iff_toNat_le] at h
  have e1 : (97 : UInt8).toNat = 97 := rfl
  have e2 : (122 : UInt8).toNat = 122 := rfl
  refine ⟨?_, lowC_no (by omega)⟩
  unfold isAl
  simp only [Bool.or_eq_true, Bool.and_eq_true, decide_eq_true_eq, UInt8.le_iff_toNat_le]
  exact .inl h
theorem law_other {sc rest : Tx} {r : Option PU} (h1 : sc ≠ []) (hal : ∀ c ∈ sc, (97 ≤ c && c ≤ 122) = true) (hn : ¬ (sc = sSip ∨ sc = sSips)) (hrest : rest ≠ [])
    (hp : PTop (sc ++ 58 :: rest) PU.zero r) : r = some { PU.zero with scheme := sc, raw := rest } := by
  have p1 := List.length_pos_iff.2 h1
  have p2 := List.length_pos_iff.2 hrest
  have hne : sc ++ 58 :: rest ≠ [] := by simp
  unfold PTop at hp
  rw [if_neg hne] at hp
  have hlow : sc.map lowC = sc := by
    conv => rhs; rw [← List.map_id sc]
    exact List.map_congr_left fun c hc => (low_al (hal c hc)).2
  have hf : fScheme (sc ++ 58 :: rest) PU.zero = some (.stop, [], { PU.zero with scheme := sc, raw := rest }) := by
    rw [fScheme_colon (sc ++ 58 :: rest) PU.zero sc.length (by simp only [List.length_append, List.length_cons]; omega) (lt_mid _ _ _) (by
      rw [take_mid]
      refine List.all_eq_true.2 fun c hc => ?_
      have := (low_al (hal c hc)).1
      simpa [nAl] using this) (at_mid _ _ _ _), take_mid, drop_mid, hlow, if_neg hn]
  have := run_next (x := (.stop, [], { PU.zero with scheme := sc, raw := rest })) hp (by simp) (fun y hy => by
    have hy : y = fScheme (sc ++ 58 :: rest) PU.zero := hy
    rw [hy, hf])
  exact run_stop this
end Go.Proofs.YteedhaenbamiaaaGreatDoor
