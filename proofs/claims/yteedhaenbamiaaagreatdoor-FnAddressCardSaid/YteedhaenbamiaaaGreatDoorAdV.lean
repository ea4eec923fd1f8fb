/- Contracts: the package's reader of addresses, and the thin package's. -/
import Derived.Test.YteedhaenbamiaaaGreatDoorAdN
import Derived.Test.YteedhaenbamiaaaGreatDoorPlace
set_option linter.unusedVariables false
set_option linter.unusedSimpArgs false
namespace Go.Proofs.YteedhaenbamiaaaGreatDoor
open Go.RowKit

/-- what is left where the URI and the parameters go -/
def AvG (w0 w : World) (bu bp : Nat) (r : AV) : Prop :=
  Le w0 w ∧ UAt w bu r.uri ∧ r.name.length ≤ 1099511627000 ∧ ∃ x, w.cell? ⟨bp, 0, none⟩ = some x ∧ Hp w x r.ps
theorem AvG.of {w0 w : World} {na bu bp S : Nat} {r : AV} (h : ASt .stop w0 w na bu bp r) (hk : KSm (S + 1) r.ps) (hS : S ≤ 1099511627000) : AvG w0 w bu bp r := by
  obtain ⟨base, h⟩ := h
  obtain ⟨cs, x, hx, hb, ho⟩ := h.ps
  exact ⟨h.fr, h.u w fun _ _ _ => rfl, h.nl, x, (cell_cells hb 0).trans hx, Hp.of_own ho (by have := hk.1; omega) hk.2⟩
theorem AvG.le {w0 w w' : World} {bu bp : Nat} {r : AV} (h : AvG w0 w bu bp r) (k : Le w w') : AvG w0 w' bu bp r := by
  obtain ⟨h1, h2, hn, x, h3, h4⟩ := h
  exact ⟨h1.trans k, h2.le k, hn, x, k.cell h3, h4.le k⟩
def PavPost (w0 : World) (bu bp : Nat) (l : Tx) (e : Ending) (w' : World) : Prop :=
  ∃ r ev, e = .returned (.tuple #[.string (st r.name), ev]) ∧ AvG w0 w' bu bp r ∧
    ((ATop l (some r) ∧ ev = .nilIface) ∨ (ATop l none ∧ ∃ T a, ev = .iface T (.pointer (some a))))

set_option maxRecDepth 6000 in
set_option maxHeartbeats 1000000 in
theorem pav_c (s : ByteArray) (w0 : World) (bu bp : Nat) (w : World) (hu : UAt w bu PU.zero) (hp : w.heap[bp]? = some (.cells #[.slice none 0 0] 82 (0, 0))) (hw : Le w0 w) (hb : w0.heap.size ≤ bu ∧ w0.heap.size ≤ bp)
    (hs : s.size ≤ 1099511627000) (hL : LaidA w0) :
    Calls Tryz.prog 67 #[.string s, .pointer (some ⟨bu, 0, none⟩), .pointer (some ⟨bp, 0, none⟩)] w (PavPost w0 bu bp (bs s)) := by
  have HL := Lib.hid (bs_len s)
  have HG : Hid (AvG w0 w bu bp AV.zero) := ⟨hw, hu, by simp [AV.zero], _, cell_cells hp 0, Hp.nil _⟩
  by_cases h0 : s.size = 0
  · have hs0 : bs s = [] := List.eq_nil_of_length_eq_zero (by rw [HL.out]; exact h0)
    have HS0 := Lib.hid hs0
    have hb0 : ((s.size : Int) == 0) = true := by simp [h0]
    clear hs0 h0
    go_enter Tryz.func67, Tryz.ntmps67
    go_wp2_with fail
    refine (errnew_c _ _).mono ?_
    rintro e w3 ⟨rfl, hle3⟩
    have HLE3 := Lib.hid hle3
    clear hle3
    go_wp2
    go_ret2
    exact ⟨AV.zero, _, rfl, HG.out.le HLE3.out, .inr ⟨by unfold ATop; rw [if_pos HS0.out], _, _, rfl⟩⟩
  · have hb0 : ((s.size : Int) == 0) = false := beq_eq_false_iff_ne.2 (by omega)
    have hne : bs s ≠ [] := by intro e; apply h0; rw [← HL.out, e]; rfl
    have HNE := Lib.hid hne
    clear hne h0
    go_enter Tryz.func67, Tryz.ntmps67
    go_wp2_with fail
    have hle1 : Le w (w.alloc (Obj.cells #[.string ⟨#[]⟩, .pointer (some ⟨bu, 0, none⟩), .pointer (some ⟨bp, 0, none⟩)] 122)) := (Le.refl w).alloc _
    have hst : NSt w0 (w.alloc (Obj.cells #[.string ⟨#[]⟩, .pointer (some ⟨bu, 0, none⟩), .pointer (some ⟨bp, 0, none⟩)] 122)) w.heap.size bu bp AV.zero :=
      ⟨heap_alloc_new w _, hu.le hle1, hw.trans hle1, hle1.heap hp, rfl, by simp [AV.zero], hw.size, hb.1, hb.2⟩
    refine (pname_c s w0 _ bu bp AV.zero _ hst hs hL).mono ?_
    rintro e w2 h
    obtain ⟨r, ev, rfl, hA, hK, hor⟩ : ∃ r ev, e = .returned ev ∧ ASt .stop w0 w2 w.heap.size bu bp r ∧ KSm (s.size + 1) r.ps ∧ ((ATop (bs s) (some r) ∧ ev = .nilIface) ∨ (ATop (bs s) none ∧ ∃ T a, ev = .iface T (.pointer (some a)))) := by
      rcases h with ⟨r, h1, rfl, h2, h3⟩ | ⟨h1, T, a, r, rfl, h2, h3⟩
      · exact ⟨r, _, rfl, h2, h3, .inl ⟨by unfold ATop; rw [if_neg HNE.out]; exact h1, rfl⟩⟩
      · exact ⟨r, _, rfl, h2, h3, .inr ⟨by unfold ATop; rw [if_neg HNE.out]; exact h1, T, a, rfl⟩⟩
    have g0 : w2.cell? ⟨w.heap.size, 0, none⟩ = some (.string (st r.name)) := by obtain ⟨base, h⟩ := hA; exact h.nm.c0
    have HA := Lib.hid hA
    have HK := Lib.hid hK
    have HOR := Lib.hid hor
    clear h hst hle1 hA hK hor hu hp
    go_wp2
    go_ret2
    refine ⟨r, ev, rfl, AvG.of HA.out HK.out hs, ?_⟩
    exact HOR.out
end Go.Proofs.YteedhaenbamiaaaGreatDoor
