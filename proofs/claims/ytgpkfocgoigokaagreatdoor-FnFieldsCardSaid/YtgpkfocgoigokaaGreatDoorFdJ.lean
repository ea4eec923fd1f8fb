/- Contract: the thin package's Fields. -/
import Derived.Test.YtgpkfocgoigokaaGreatDoorFdI
import Derived.Test.YtgpkfocgoigokaaGreatDoorFdO
set_option linter.unusedVariables false
set_option linter.unusedSimpArgs false
namespace Go.Proofs.YtgpkfocgoigokaaGreatDoor
open Go.RowKit

set_option maxHeartbeats 1000000 in
theorem doorF_c (s : ByteArray) (w : World) (hs : s.size ≤ 1099511627000) : Calls Tryz.prog 14 #[.string s] w (SpPost s w) := by
  go_enter Tryz.func14, Tryz.ntmps14
  go_wp2_with fail
  refine (split_c s w hs).mono ?_
  rintro e w' ⟨v, res, rfl, h⟩
  have H := Lib.hid h
  clear h
  go_wp2
  go_ret
  exact ⟨v, res, rfl, H.out⟩
theorem str_cellF {w : World} {base : Nat} {v : Value} {l : List Tx} (h : w.ownsRow base 9 1 v l.length (l.map fun t => Value.string (st t))) {j : Nat} (hj : j < l.length) :
    ∃ g c, v = .slice (some ⟨g, 0, none⟩) l.length c ∧ w.cell? ⟨g, j, none⟩ = some (.string (st l[j])) := by
  have h0 := h
  rcases h.2 with ⟨_, hn⟩ | ⟨g, cap, cur, rfl, _⟩
  · omega
  · refine ⟨g, cap, rfl, ?_⟩
    have := h0.cells (g := g) rfl j _ (by rw [List.getElem?_map, List.getElem?_eq_getElem hj]; rfl)
    rw [add_adr, Nat.zero_add] at this
    exact this
def IFd (l : Tx) (w : World) (e : Ending) (w' : World) : Prop :=
  ∃ (v : Value) (ws : List Tx), e = .returned v ∧ Le w w' ∧ Sl w' w' v ws ∧ ((∀ x ∈ l, x.toNat < 128) → ws = fdP l [] true [])
set_option maxRecDepth 8000 in
set_option maxHeartbeats 8000000 in
theorem iFields_c (v : Value) (l : Tx) (w : World) (hv : Bv w v l) (hl : l.length ≤ 1099511620) :
    Calls Tryz.prog 5 #[v] w (IFd l w) := by
  have hcv := conv_bs (P := Tryz.prog) Tryz.underlying22 Tryz.underlying5 Tryz.underlying9 hv
  obtain ⟨A, c, rfl, _⟩ := hv
  go_enter Tryz.func5, Tryz.ntmps5
  go_wp2_with fail
  refine (doorF_c (st l) w (by rw [st_size]; omega)).mono ?_
  rw [show SpPost (st l) w = SpPost (st l) w from rfl]
  rintro e w1 ⟨rv, res, rfl, hle1, hown1, hrl, hrw, hrun⟩
  rw [bs_st] at hrun
  rw [st_size] at hrl hrw
  have HRUN := Lib.hid hrun
  have HRL := Lib.hid hrl
  have HRW := Lib.hid hrw
  have HLE1 := Lib.hid hle1
  obtain ⟨i0, hi0, hz0, hz1, hz2⟩ := info_parts bs_info
  obtain ⟨Ar, cr, rfl⟩ : ∃ A c, rv = .slice A res.length c := by
    rcases hown1.2 with ⟨e, h0⟩ | ⟨g, cap, cur, e, _⟩
    · exact ⟨none, 0, by rw [h0]; exact e⟩
    · exact ⟨_, _, e⟩
  have HO1 := Lib.hid hown1
  have hrl' : res.length ≤ 1099511630 := by omega
  clear hrun hrl hrw hle1 hown1 hcv
  go_wp2
  go_loopg [3, 10] (res.length) (fun m ov iv wr => ∃ (k : Nat) (xs : List Value), m + k = res.length ∧ iv = .int .i64 k ∧ Le w1 wr ∧ wr.ownsRow w1.heap.size 22 1 ov k xs ∧ WAll w1.heap.size wr.heap.size wr xs (res.take k))
  case atStart => exact ⟨0, [], by omega, rfl, Le.refl w1, World.ownsRow_nil _ _ _ _, WAll.nil _ _ _⟩
  case round =>
    obtain ⟨k, xs, hm, rfl, hle, hown, hall⟩ := hrel
    have HLE := Lib.hid hle
    have HO := Lib.hid hown
    have HAL := Lib.hid hall
    have HM : gk + k ≤ res.length ∧ res.length ≤ gk + k := by omega
    clear hm hown hall
    rename World => wr
    by_cases hlt : k < res.length
    · obtain ⟨g, c', hv, hc⟩ := str_cellF HO1.out hlt
      injection hv with hv1 _ hv2
      subst hv1
      subst hv2
      have d1 := hle.cell hc
      obtain ⟨t, ht⟩ : ∃ t, t = res[k] := ⟨_, rfl⟩
      have HTK : Hid (res.take (k + 1) = res.take k ++ [t]) := Lib.hid (by rw [ht]; exact List.take_succ_eq_append_getElem hlt)
      have htl : t.length ≤ 4398046500 := by have := HRW.out t (by rw [ht]; exact List.getElem_mem hlt); omega
      rw [← ht] at d1
      clear ht hc
      obtain ⟨B1, e1, W1, q1, le1, bt1⟩ := conv_mk (base := w1.heap.size) wr (st t) hle.size (by rw [st_size]; omega)
      have HB1 := Lib.hid bt1
      have HL1 := Lib.hid le1
      have HO2 := Lib.hid (own_le HO.out le1)
      have hsz1 := Nat.le_trans hle.size le1.size
      clear le1 bt1 hle
      go_wp2_with (at_builtin; refine wpList_append_lies _ rfl _ _ 24 rfl w1.heap.size 22 i0 (.slice none 0 0) 1 24 Tryz.underlying24 hi0 hz0 hz1 hz2 rfl (by decide) _ _ _ rfl (HO2.out.alloc _) ⟨W1.heap.size, 0, none⟩ 1 1 [.slice (some ⟨B1, 0, none⟩) (st t).size e1] rfl rfl ?c1 ?c2 ?c3 ?c4 ?c5 ?c6 (W1.heap.size + 1) ?c7 ?_)
      case c2 => rfl
      case c4 => unfold maxLen; omega
      case c5 => omega
      case c6 => omega
      intro g2 cap2 w2 hown2 hgrow2 hat2 hlt2
      have hle1 : Le W1 (W1.alloc (Obj.cells #[.slice (some ⟨B1, 0, none⟩) (st t).size e1] 22)) := (Le.refl W1).alloc _
      have HLE2 : Hid (Le w1 w2) := Lib.hid (Below.grown' ((HLE.out.trans HL1.out).alloc _) hgrow2 (Nat.le_refl _) (fun g hg => (own_row' HO2.out g hg).1))
      have HAL2 : Hid (WAll w1.heap.size w2.heap.size w2 (xs ++ [.slice (some ⟨B1, 0, none⟩) (st t).size e1]) (res.take (k + 1))) := Lib.hid (by
        have hu8 := grown_u8 (HO2.out.alloc (Obj.cells #[.slice (some ⟨B1, 0, none⟩) (st t).size e1] 22)) hgrow2
        have hall := (((HAL.out.le HL1.out).le hle1).keep (fun g cur fz _ hg => hu8 g cur fz hg)).mono (Nat.le_trans HL1.out.size (Nat.le_trans hle1.size hgrow2.size))
        have hbt := (HB1.out.le hle1).keep (w' := w2) (fun g cur fz hg => hu8 g cur fz hg)
        rw [bs_st] at hbt
        rw [HTK.out]
        refine hall.snoc hbt (fun g hg => ?_)
        obtain ⟨cur, fz, e⟩ := (hbt.2 g hg).2
        exact lt_of_heap e)
      have HOW2 := Lib.hid hown2
      clear hown2 hgrow2 hat2 hlt2 hle1
      go_wp2
      go_roundg (res.length - (k + 1))
      case measure => omega
      case rel => exact ⟨k + 1, _, by omega, by go_num, HLE2.out, HOW2.out, HAL2.out⟩
    · have hkl : k = res.length := by omega
      have HS : Hid (Sl wr wr u3 res) := Lib.hid (by
        have h1 := HAL.out
        rw [hkl, List.take_length] at h1
        have h2 := HO.out
        rw [hkl] at h2
        exact Sl.of_row h2 h1.ball (by omega))
      go_wp2
      go_ret
      exact ⟨_, res, rfl, HLE1.out.trans HLE.out, HS.out, HRUN.out⟩
end Go.Proofs.YtgpkfocgoigokaaGreatDoor
