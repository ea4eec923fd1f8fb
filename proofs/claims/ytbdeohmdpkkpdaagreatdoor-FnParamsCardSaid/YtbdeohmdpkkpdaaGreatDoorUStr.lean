/- Contracts: Uri.String, the thin package's UriText. -/
import Derived.Test.YtbdeohmdpkkpdaaGreatDoorAddr
import Derived.Deep.WholeRow
set_option linter.unusedVariables false
set_option linter.unusedSimpArgs false
namespace Go.Proofs.YtbdeohmdpkkpdaaGreatDoor
open Go.RowKit

/-- a host that holds no colon -/
def hostPlain (l : Tx) : Prop := ∀ x ∈ l, x ≠ 58
theorem hostPlain.no {l : Tx} (h : hostPlain l) : ∀ k (h : k < (st l).size), (st l)[k]'h ≠ 58 := by
  intro k hk
  have h1 : k < (bs (st l)).length := by rw [bs_len]; exact hk
  have h2 : (st l)[k]'hk = (bs (st l))[k] := at_bs _ _ _
  rw [h2]
  have hm : (bs (st l))[k] ∈ bs (st l) := List.getElem_mem h1
  exact h _ (show (bs (st l))[k] ∈ l from hm)

set_option maxRecDepth 4000 in
set_option maxHeartbeats 2000000 in
theorem string_c (w : World) (b : Nat) (u : PU) (hu : UAt w b u) (hL : Laid w) (hh : hostPlain u.host)
    (hlp : (u.ps.flatMap (kvText 59)).length ≤ 1099511627776) (hlh : (u.hs.flatMap (kvText 38)).length ≤ 1099511627776) :
    Calls Tryz.prog 97 #[.pointer (some ⟨b, 0, none⟩)] w fun e w' => e = .returned (.string (st (uText u))) ∧ Le w w' := by
  have HU := Lib.hid hu
  have HL := Lib.hid hL
  have HH := Lib.hid hh
  clear hu hL hh
  go_enter Tryz.func97, Tryz.ntmps97
  go_wp2_with fail
  refine (strWrite_c w _ b w.heap.size u HU.out ⟨(Le.refl w).alloc _, bld_new w⟩ HL.out HH.out.no hlp hlh).mono ?_
  rintro e w2 ⟨rfl, hw2⟩
  have HW2 := Lib.hid hw2
  clear hw2
  go_wp2_with fail
  refine (bstr_c _ _ _ _ HW2.out.bld).mono ?_
  rintro e w3 ⟨rfl, _, hf3⟩
  have HL3 : Hid (Le w w3) := Lib.hid (Below.trans HW2.out.le hf3.1)
  clear hf3
  go_wp2
  go_ret
  exact ⟨rfl, HL3.out⟩

theorem uText_len (u : PU) (hs : u.small) (hlp : (u.ps.flatMap (kvText 59)).length ≤ 1099511627776) (hlh : (u.hs.flatMap (kvText 38)).length ≤ 1099511627776) : (uText u).length ≤ 140737488355328 := by
  have h1 : (uSch u).length ≤ 1099511627776 := by
    unfold uSch
    split
    · decide
    · exact hs.1
  have h2 : (uUser u).length ≤ 2199023255560 := by
    have a := hs.2.2.1
    have b := hs.2.2.2.1
    unfold uUser
    split
    · simp
    · split <;> simp only [List.length_append, List.length_cons, List.length_nil] <;> omega
  have h3 := Lib.itoa_length_le u.port hs.2.2.2.2.2.1 hs.2.2.2.2.2.2
  have h4 : (uPort u).length ≤ 22 := by
    unfold uPort
    split
    · simp only [List.length_cons]; omega
    · simp
  have h5 : (uSl u).length ≤ 2 := by unfold uSl; split <;> simp
  have h6 : (uPs u.ps 59 59).length ≤ 1099511627777 := by
    unfold uPs psText
    split
    · simp
    · simp only [List.length_cons, List.length_drop]; omega
  have h7 : (uPs u.hs 63 38).length ≤ 1099511627777 := by
    unfold uPs psText
    split
    · simp
    · simp only [List.length_cons, List.length_drop]; omega
  have h8 := hs.2.1
  have h9 := hs.2.2.2.2.1
  unfold uText
  split <;> simp only [List.length_append, List.length_cons] <;> omega

set_option maxRecDepth 4000 in
set_option maxHeartbeats 2000000 in
theorem uriText_c (φ : Nat → Prop) (w : World) (x : UV) (u : PU) (hx : Uq φ w x u) (hs : u.small) (hr : u.raw = []) (hL : Laid w) (hh : hostPlain u.host)
    (hp : KSm 1099511627775 u.ps) (hq : KSm 1099511627775 u.hs)
    (hlp : (u.ps.flatMap (kvText 59)).length ≤ 1099511627776) (hlh : (u.hs.flatMap (kvText 38)).length ≤ 1099511627776) :
    Calls Tryz.prog 52 #[x.val] w fun e w' => ∃ v, e = .returned v ∧ Bq (w.heap.size ≤ ·) w' v (uText u) ∧ Le w w' := by
  have HX := Lib.hid hx
  have HS := Lib.hid hs
  have HL := Lib.hid hL
  have HH := Lib.hid hh
  have HTL := Lib.hid (uText_len u hs hlp hlh)
  have hval : Hid (x.val = .agg #[x.scheme, x.raw, .bool x.wild, .bool x.slash, x.user, x.pass, x.host, .int .i64 x.port, x.ps, x.hs]) := Lib.hid rfl
  clear hx hs hL hh
  rw [hval.out]
  go_enter Tryz.func52, Tryz.ntmps52
  go_wp2_with fail
  refine (address_c φ _ x u (HX.out.le ((Le.refl w).alloc _)) HS.out hr hp hq).mono ?_
  rintro e w2 ⟨pv, hv, rfl, h1, h2, hle2⟩
  have HLE2 : Hid (Le w w2) := Lib.hid (Le.trans ((Le.refl w).alloc _) hle2)
  have HP := Lib.hid h1
  have HV := Lib.hid h2
  have hone : (u.cells pv hv).all (·.oneCell') = true := by
    obtain ⟨A, c, e1, _⟩ := h1
    obtain ⟨A', c', e2, _⟩ := h2
    rw [e1, e2]
    unfold PU.cells
    simp only [List.all_toArray, List.all_cons, List.all_nil]
    rfl
  have hst := run_storeCells_new (P := Tryz.prog) w2 128 #[.string ⟨#[]⟩, .string ⟨#[]⟩, .bool false, .bool false, .string ⟨#[]⟩, .string ⟨#[]⟩, .string ⟨#[]⟩, .int .i64 0, .slice none 0 0, .slice none 0 0] (u.cells pv hv) sip_size rfl hone
  clear h1 h2 hle2 hone
  go_wp2_with fail
  have hle3 : Le w (w2.alloc (Obj.cells (u.cells pv hv) 128)) := HLE2.out.alloc _
  have hle4 : Le w2 (w2.alloc (Obj.cells (u.cells pv hv) 128)) := (Le.refl w2).alloc _
  refine (string_c _ w2.heap.size u ⟨pv, hv, heap_alloc_new w2 _, HP.out.le hle4, HV.out.le hle4, HS.out⟩ (HL.out.le hle3) HH.out hlp hlh).mono ?_
  rintro e w3 ⟨rfl, hle5⟩
  have HLE3 : Hid (Le w w3) := Lib.hid (Le.trans hle3 hle5)
  clear hle3 hle4 hle5 hst
  obtain ⟨B, c, W, q, le1, bt⟩ := conv_mk (base := w.heap.size) w3 (st (uText u)) HLE3.out.size (by rw [st_size]; exact HTL.out)
  rw [bs_st] at bt
  have HB := Lib.hid bt
  have HLE4 : Hid (Le w W) := Lib.hid (Le.trans HLE3.out le1)
  clear bt le1
  go_wp2
  go_ret
  exact ⟨_, rfl, ⟨HB.out.1, fun g h => (HB.out.2 g h).1⟩, HLE4.out⟩
end Go.Proofs.YtbdeohmdpkkpdaaGreatDoor
