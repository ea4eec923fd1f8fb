/- Contracts: Uri's Addr, Endpoint, HostPort, IsEncrypted. -/
import Derived.Test.YteedhaenbamiaaaGreatDoorHead
import Derived.BigQuiet
set_option linter.unusedVariables false
set_option linter.unusedSimpArgs false
namespace Go.Proofs.YteedhaenbamiaaaGreatDoor
open Go.RowKit

def epT (u : PU) : Tx := u.user ++ 64 :: (u.host ++ uPort u)
def hpT (u : PU) : Tx := u.host ++ 58 :: Lib.itoa u.port
theorem UAt.row {w : World} {b : Nat} {u : PU} (h : UAt w b u) : w.cell? ⟨b, 0, none⟩ = some (.string (st u.scheme)) ∧ w.cell? ⟨b, 4, none⟩ = some (.string (st u.user)) ∧ w.cell? ⟨b, 6, none⟩ = some (.string (st u.host)) ∧ w.cell? ⟨b, 7, none⟩ = some (.int .i64 u.port) := by
  obtain ⟨pv, hv, h1, _⟩ := h
  exact ⟨cell_cells h1 0, cell_cells h1 4, cell_cells h1 6, cell_cells h1 7⟩
theorem UAt.port_b {w : World} {b : Nat} {u : PU} (h : UAt w b u) : -9223372036854775808 ≤ u.port ∧ u.port ≤ 9223372036854775807 := ⟨h.sm.2.2.2.2.2.1, h.sm.2.2.2.2.2.2⟩
set_option maxHeartbeats 1000000 in
theorem isEnc_c (w : World) (b : Nat) (u : PU) (hu : UAt w b u) : Calls Tryz.prog 54 #[.pointer (some ⟨b, 0, none⟩)] w fun e w' => e = .returned (.bool (decide (u.scheme = sSips))) ∧ w = w' := by
  obtain ⟨d0, _⟩ := hu.row
  have hb : ((st u.scheme).toList == sSips) = decide (u.scheme = sSips) := by rw [← st_beq2, st_toList sSips]
  go_enter Tryz.func54, Tryz.ntmps54
  go_wp2
  go_ret
  exact ⟨by rw [← hb]; rfl, rfl⟩
theorem UAt.sz {w : World} {b : Nat} {u : PU} (h : UAt w b u) : (st u.scheme).size ≤ 1099511627776 ∧ (st u.user).size ≤ 1099511627776 ∧ (st u.host).size ≤ 1099511627776 ∧ (st (Lib.itoa u.port)).size ≤ 21 := by
  have hs := h.sm
  rw [st_size, st_size, st_size, st_size]
  exact ⟨hs.1, hs.2.2.1, hs.2.2.2.2.1, Lib.itoa_length_le u.port h.port_b.1 h.port_b.2⟩
theorem st_c (c : UInt8) : (⟨#[c]⟩ : ByteArray) = st [c] := rfl
set_option maxHeartbeats 1000000 in
theorem hostPort_c' (w : World) (b : Nat) (u : PU) (hu : UAt w b u) (hL : Laid w) : Calls Tryz.prog 53 #[.pointer (some ⟨b, 0, none⟩)] w fun e w' => e = .returned (.string (st (hpT u))) ∧ Le w w' := by
  obtain ⟨d0, d4, d6, d7⟩ := hu.row
  obtain ⟨s0, s4, s6, s7⟩ := hu.sz
  have HP := Lib.hid hu.port_b
  have HL := Lib.hid hL
  clear hu hL
  go_enter Tryz.func53, Tryz.ntmps53
  go_wp2_with fail
  refine (itoa_c u.port w HP.out.1 HP.out.2 HL.out).mono ?_
  rintro e w1 ⟨rfl, hle⟩
  have e6 := hle.cell d6
  have HLE := Lib.hid hle
  clear hle
  go_wp2
  go_ret
  refine ⟨?_, HLE.out⟩
  congr 2
  rw [st_c, st_app, st_app]
  unfold hpT
  simp
set_option maxHeartbeats 2000000 in
theorem endpoint_c (w : World) (b : Nat) (u : PU) (hu : UAt w b u) (hL : Laid w) : Calls Tryz.prog 52 #[.pointer (some ⟨b, 0, none⟩)] w fun e w' => e = .returned (.string (st (epT u))) ∧ Le w w' := by
  obtain ⟨d0, d4, d6, d7⟩ := hu.row
  obtain ⟨s0, s4, s6, s7⟩ := hu.sz
  have HP := Lib.hid hu.port_b
  have HL := Lib.hid hL
  clear hu hL
  go_enter Tryz.func52, Tryz.ntmps52
  go_wp2
  go_quiet (fail)
  rename_i nq
  have HLN : Hid (Le w (w.drewN nq)) := Lib.hid ((Le.refl w).drewN nq)
  generalize w.drewN nq = w1 at HLN ⊢
  have d7 := HLN.out.cell d7
  by_cases hp : 0 < u.port
  · have hp' : decide (0 < u.port) = true := decide_eq_true hp
    have HE : Hid (uPort u = 58 :: Lib.itoa u.port) := Lib.hid (by unfold uPort; rw [if_pos hp])
    clear hp
    go_wp2_with fail
    refine (itoa_c u.port w1 HP.out.1 HP.out.2 (HL.out.le HLN.out)).mono ?_
    rintro e w2 ⟨rfl, hle⟩
    have HL2 := Lib.hid (HLN.out.trans hle)
    clear hle
    go_wp2
    go_ret
    refine ⟨?_, HL2.out⟩
    congr 2
    simp only [st_c, st_app]
    unfold epT
    rw [HE.out]
    simp
  · have hp' : decide (0 < u.port) = false := decide_eq_false hp
    have HE : Hid (uPort u = []) := Lib.hid (by unfold uPort; rw [if_neg hp])
    clear hp
    go_wp2
    go_ret
    refine ⟨?_, HLN.out⟩
    congr 2
    simp only [st_c, st_app]
    unfold epT
    rw [HE.out]
    simp
theorem st_lit3 : (⟨#[115, 105, 112]⟩ : ByteArray) = st [115, 105, 112] := rfl
theorem st_lit5 : (⟨#[115, 105, 112, 115, 58]⟩ : ByteArray) = st [115, 105, 112, 115, 58] := rfl
def arT (u : PU) : Tx := (if u.user = [] then [] else u.user ++ [64]) ++ (u.host ++ uPort u)
def adT (u : PU) : Tx := uSch u ++ 58 :: arT u
def isB (x : Bool) (p : Prop) : Prop := x = true ↔ p
theorem adT_cases (u : PU) {x y z : Bool} (hs : isB x (u.scheme = [])) (hn : isB y (u.user = [])) (he : decide (u.scheme = sSips) = z) :
    adT u = (if z = true then sSips else (if x = true then sSip else u.scheme)) ++ 58 :: ((if y = true then [] else u.user ++ [64]) ++ (u.host ++ uPort u)) := by
  unfold adT arT uSch
  have e1 : (if y = true then ([] : Tx) else u.user ++ [64]) = if u.user = [] then [] else u.user ++ [64] := by
    by_cases h : u.user = []
    · rw [if_pos h, if_pos (hn.2 h)]
    · rw [if_neg h, if_neg (fun hh => h (hn.1 hh))]
  have e2 : (if x = true then sSip else u.scheme) = if u.scheme = [] then sSip else u.scheme := by
    by_cases h : u.scheme = []
    · rw [if_pos h, if_pos (hs.2 h)]
    · rw [if_neg h, if_neg (fun hh => h (hs.1 hh))]
  have e3 : (if z = true then sSips else if u.scheme = [] then sSip else u.scheme) = if u.scheme = [] then sSip else u.scheme := by
    by_cases h : u.scheme = sSips
    · rw [← he, if_pos (decide_eq_true h), h]; rfl
    · rw [← he, if_neg (by simpa using h)]
  rw [e1, e2, e3]
set_option maxHeartbeats 4000000 in
theorem addr_c (w : World) (b : Nat) (u : PU) (hu : UAt w b u) (hL : Laid w) : Calls Tryz.prog 51 #[.pointer (some ⟨b, 0, none⟩)] w fun e w' => e = .returned (.string (st (adT u))) ∧ Le w w' := by
  obtain ⟨d0, d4, d6, d7⟩ := hu.row
  obtain ⟨s0, s4, s6, s7⟩ := hu.sz
  have HP := Lib.hid hu.port_b
  have HL := Lib.hid hL
  have HU := Lib.hid hu
  clear hu hL
  go_enter Tryz.func51, Tryz.ntmps51
  have em : ∀ l : Tx, l ≠ [] → (st l).toList.isEmpty = false := fun l h => by rw [st_toList]; cases l; exact absurd rfl h; rfl
  have em0 : ∀ l : Tx, l = [] → (st l).toList.isEmpty = true := fun l h => by rw [h, st_toList]; rfl
  obtain ⟨bs1, hs1, hs2⟩ : ∃ x : Bool, (st u.scheme).toList.isEmpty = x ∧ isB x (u.scheme = []) := by
    by_cases h : u.scheme = []
    · exact ⟨true, em0 _ h, by simp [isB, h]⟩
    · exact ⟨false, em _ h, by simp [isB, h]⟩
  obtain ⟨bn1, hn1, hn2⟩ : ∃ x : Bool, (st u.user).toList.isEmpty = x ∧ isB x (u.user = []) := by
    by_cases h : u.user = []
    · exact ⟨true, em0 _ h, by simp [isB, h]⟩
    · exact ⟨false, em _ h, by simp [isB, h]⟩
  have HS := Lib.hid hs2
  have HN := Lib.hid hn2
  clear em em0 hs2 hn2
  by_cases hp : 0 < u.port
  · have hp' : decide (0 < u.port) = true := decide_eq_true hp
    have HPE : Hid (uPort u = 58 :: Lib.itoa u.port) := Lib.hid (by unfold uPort; rw [if_pos hp])
    clear hp
    cases bs1 <;> cases bn1
    all_goals
      go_wp2_with fail
      refine (itoa_c u.port w HP.out.1 HP.out.2 HL.out).mono ?_
      rintro e W2 ⟨rfl, hle⟩
      have HLC := Lib.hid hle
      clear hle
      go_wp2_with fail
      refine (isEnc_c W2 b u (HU.out.le HLC.out)).mono ?_
      rintro e w3 ⟨rfl, rfl⟩
      obtain ⟨be, hbe⟩ : ∃ x, decide (u.scheme = sSips) = x := ⟨_, rfl⟩
      rw [hbe]
      have HBE := Lib.hid hbe
      clear hbe
      cases be
      all_goals
        go_wp2
        go_ret
        refine ⟨?_, HLC.out⟩
        congr 2
        simp only [st_c, st_lit3, st_lit5, st_app]
        rw [adT_cases u HS.out HN.out HBE.out, HPE.out]
        first | rfl | (congr 1; done) | (congr 1; simp [sSip, sSips])
  · have hp' : decide (0 < u.port) = false := decide_eq_false hp
    have HPE : Hid (uPort u = []) := Lib.hid (by unfold uPort; rw [if_neg hp])
    clear hp
    have HLC := Lib.hid (Le.refl w)
    obtain ⟨W2, hW2⟩ : ∃ W2, W2 = w := ⟨_, rfl⟩
    subst hW2
    cases bs1 <;> cases bn1
    all_goals
      go_wp2_with fail
      refine (isEnc_c W2 b u (HU.out.le HLC.out)).mono ?_
      rintro e w3 ⟨rfl, rfl⟩
      obtain ⟨be, hbe⟩ : ∃ x, decide (u.scheme = sSips) = x := ⟨_, rfl⟩
      rw [hbe]
      have HBE := Lib.hid hbe
      clear hbe
      cases be
      all_goals
        go_wp2
        go_ret
        refine ⟨?_, HLC.out⟩
        congr 2
        simp only [st_c, st_lit3, st_lit5, st_app]
        rw [adT_cases u HS.out HN.out HBE.out, HPE.out]
        first | rfl | (congr 1; done) | (congr 1; simp [sSip, sSips])
theorem uPort_len (u : PU) (hs : u.small) : (uPort u).length ≤ 22 := by
  have h3 := Lib.itoa_length_le u.port hs.2.2.2.2.2.1 hs.2.2.2.2.2.2
  unfold uPort
  split
  · simp only [List.length_cons]; omega
  · simp
theorem arT_len (u : PU) (hs : u.small) : (arT u).length ≤ 2199023255600 := by
  have h1 := uPort_len u hs
  have h2 := hs.2.2.1
  have h3 := hs.2.2.2.2.1
  unfold arT
  split <;> simp only [List.length_append, List.length_cons, List.length_nil] <;> omega
theorem adT_len (u : PU) (hs : u.small) : (adT u).length ≤ 140737488355328 := by
  have h1 := arT_len u hs
  have h2 : (uSch u).length ≤ 1099511627776 := by
    unfold uSch
    split
    · decide
    · exact hs.1
  unfold adT
  simp only [List.length_append, List.length_cons]
  omega
theorem epT_len (u : PU) (hs : u.small) : (epT u).length ≤ 140737488355328 := by
  have h1 := uPort_len u hs
  have h2 := hs.2.2.1
  have h3 := hs.2.2.2.2.1
  unfold epT
  simp only [List.length_append, List.length_cons]
  omega
theorem hpT_len (u : PU) (hs : u.small) : (hpT u).length ≤ 140737488355328 := by
  have h3 := Lib.itoa_length_le u.port hs.2.2.2.2.2.1 hs.2.2.2.2.2.2
  have h2 := hs.2.2.2.2.1
  unfold hpT
  simp only [List.length_append, List.length_cons]
  omega
set_option maxRecDepth 4000 in
set_option maxHeartbeats 4000000 in
theorem iParts_c (φ : Nat → Prop) (w : World) (x : UV) (u : PU) (hx : Uq φ w x u) (hs : u.small) (hr : u.raw = []) (hL : Laid w)
    (hp : KSm 1099511627775 u.ps) (hq : KSm 1099511627775 u.hs) :
    Calls Tryz.prog 16 #[x.val] w fun e w' => ∃ a b c, e = .returned (.tuple #[a, b, c, .bool (decide (u.scheme = sSips))]) ∧ Bv w' a (adT u) ∧ Bv w' b (epT u) ∧ Bv w' c (hpT u) ∧ Le w w' := by
  have HX := Lib.hid hx
  have HS := Lib.hid hs
  have HL := Lib.hid hL
  have hval : Hid (x.val = .agg #[x.scheme, x.raw, .bool x.wild, .bool x.slash, x.user, x.pass, x.host, .int .i64 x.port, x.ps, x.hs]) := Lib.hid rfl
  clear hx hs hL
  rw [hval.out]
  go_enter Tryz.func16, Tryz.ntmps16
  go_wp2_with fail
  refine (address_c φ _ x u (HX.out.le ((Le.refl w).alloc _)) HS.out hr hp hq).mono ?_
  rintro e w2 ⟨pv, hv, rfl, h1, h2, hle2⟩
  have HLE2 : Hid (Le w w2) := Lib.hid (Le.trans ((Le.refl w).alloc _) hle2)
  have HP := Lib.hid h1
  have HV := Lib.hid h2
  have hone : (u.cells pv hv).all (·.oneCell') = true := by
    obtain ⟨A, c, e1, _⟩ := h1
    obtain ⟨A', c', e2, _⟩ := h2
    rw [e1, e2]
    unfold PU.cells
    simp only [List.all_toArray, List.all_cons, List.all_nil]
    rfl
  have hst := run_storeCells_new (P := Tryz.prog) w2 84 #[.string ⟨#[]⟩, .string ⟨#[]⟩, .bool false, .bool false, .string ⟨#[]⟩, .string ⟨#[]⟩, .string ⟨#[]⟩, .int .i64 0, .slice none 0 0, .slice none 0 0] (u.cells pv hv) sip_size rfl hone
  clear h1 h2 hle2 hone
  have hle3 : Le w (w2.alloc (Obj.cells (u.cells pv hv) 84)) := HLE2.out.alloc _
  have hle4 : Le w2 (w2.alloc (Obj.cells (u.cells pv hv) 84)) := (Le.refl w2).alloc _
  have HU := Lib.hid (show UAt (w2.alloc (Obj.cells (u.cells pv hv) 84)) w2.heap.size u from ⟨pv, hv, heap_alloc_new w2 _, HP.out.le hle4, HV.out.le hle4, HS.out⟩)
  have HL3 := Lib.hid hle3
  clear hle3 hle4
  go_wp2_with fail
  refine (addr_c _ w2.heap.size u HU.out (HL.out.le HL3.out)).mono ?_
  rintro e w3 ⟨rfl, hle5⟩
  have HL4 : Hid (Le w w3) := Lib.hid (Le.trans HL3.out hle5)
  have HU4 := Lib.hid (HU.out.le hle5)
  clear hle5 hst
  obtain ⟨B, c, W, q, le1, bt⟩ := conv_mk (base := w.heap.size) w3 (st (adT u)) HL4.out.size (by rw [st_size]; exact adT_len u HS.out)
  rw [bs_st] at bt
  have HB := Lib.hid bt
  have HL5 : Hid (Le w W) := Lib.hid (Le.trans HL4.out le1)
  have HU5 := Lib.hid (HU4.out.le le1)
  clear bt le1
  go_wp2_with fail
  refine (endpoint_c W w2.heap.size u HU5.out (HL.out.le HL5.out)).mono ?_
  rintro e w6 ⟨rfl, hle6⟩
  have HL6 : Hid (Le w w6) := Lib.hid (Le.trans HL5.out hle6)
  have HU6 := Lib.hid (HU5.out.le hle6)
  have HB6 := Lib.hid (HB.out.le hle6)
  clear hle6 q
  obtain ⟨B2, c2, W2, q, le1, bt⟩ := conv_mk (base := w.heap.size) w6 (st (epT u)) HL6.out.size (by rw [st_size]; exact epT_len u HS.out)
  rw [bs_st] at bt
  have HC := Lib.hid bt
  have HL7 : Hid (Le w W2) := Lib.hid (Le.trans HL6.out le1)
  have HU7 := Lib.hid (HU6.out.le le1)
  have HB7 := Lib.hid (HB6.out.le le1)
  clear bt le1
  go_wp2_with fail
  refine (hostPort_c' W2 w2.heap.size u HU7.out (HL.out.le HL7.out)).mono ?_
  rintro e w8 ⟨rfl, hle8⟩
  have HL8 : Hid (Le w w8) := Lib.hid (Le.trans HL7.out hle8)
  have HU8 := Lib.hid (HU7.out.le hle8)
  have HB8 := Lib.hid (HB7.out.le hle8)
  have HC8 := Lib.hid (HC.out.le hle8)
  clear hle8 q
  obtain ⟨B3, c3, W3, q, le1, bt⟩ := conv_mk (base := w.heap.size) w8 (st (hpT u)) HL8.out.size (by rw [st_size]; exact hpT_len u HS.out)
  rw [bs_st] at bt
  have HD := Lib.hid bt
  have HL9 : Hid (Le w W3) := Lib.hid (Le.trans HL8.out le1)
  have HU9 := Lib.hid (HU8.out.le le1)
  have HB9 := Lib.hid (HB8.out.le le1)
  have HC9 := Lib.hid (HC8.out.le le1)
  clear bt le1
  go_wp2_with fail
  refine (isEnc_c W3 w2.heap.size u HU9.out).mono ?_
  rintro e w10 ⟨rfl, rfl⟩
  go_wp2
  go_returns
  exact ⟨_, _, _, rfl, HB9.out.1, HC9.out.1, HD.out.1, HL9.out⟩
end Go.Proofs.YteedhaenbamiaaaGreatDoor
