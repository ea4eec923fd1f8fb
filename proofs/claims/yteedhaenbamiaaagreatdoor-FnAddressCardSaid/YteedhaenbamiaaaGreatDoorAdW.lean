/- Contracts of the states of the package's reader of addresses: the name that is shown. -/
import Derived.Test.YteedhaenbamiaaaGreatDoorAdS
import Derived.Test.YteedhaenbamiaaaGreatDoorParse
import Derived.Test.YteedhaenbamiaaaGreatDoorShT
set_option linter.unusedVariables false
set_option linter.unusedSimpArgs false
namespace Go.Proofs.YteedhaenbamiaaaGreatDoor
open Go.RowKit

/-- the package-level variables that the readers of addresses read -/
structure LaidA (w : World) : Prop where
  l : Laid w
  tab : Lib.TabIs Tryz.prog w "strings.asciiSpace" .u8 Lib.asciiSpaceTab
  u8 : Lib.Utf8Tabs 9 10 w
theorem LaidA.le {w w' : World} (h : LaidA w) (k : Le w w') : LaidA w' := ⟨h.l.le k, var_le k h.tab, Utf8Tabs_below h.u8 k⟩
theorem trimsp_c (s : ByteArray) (w : World) (hs : s.size ≤ 1099511627776) (hL : LaidA w) :
    Calls Tryz.prog 128 #[.string s] w fun e w' => e = .returned (.string (st (Lib.trimSpaceD (bs s)))) ∧ Le w w' :=
  Tryz.strings_TrimSpace_any s w (by omega) hL.tab hL.u8 hL.l.white

def Aq.val : Aq → Value
  | .disp => .func (.func 113) #[] #[]
  | .quoted => .func (.func 127) #[] #[]
  | .brack => .func (.func 129) #[] #[]
  | .uri => .func (.func 130) #[] #[]
  | .prms => .func (.func 146) #[] #[]
  | .stop => .nilFunc
/-- block na is what is gathered: a name, and where the URI and the parameters go -/
def NA (w : World) (na bu bp : Nat) (name : Tx) : Prop :=
  w.heap[na]? = some (.cells #[.string (st name), .pointer (some ⟨bu, 0, none⟩), .pointer (some ⟨bp, 0, none⟩)] 122 (0, 0))
section
variable {w : World} {na bu bp : Nat} {name : Tx}
theorem NA.le {w' : World} (h : NA w na bu bp name) (k : Le w w') : NA w' na bu bp name := k.heap h
theorem NA.frozen (h : NA w na bu bp name) (j : Nat) : w.frozen? ⟨na, j, none⟩ = false := frozen_cells h j
theorem NA.c0 (h : NA w na bu bp name) : w.cell? ⟨na, 0, none⟩ = some (.string (st name)) := cell_cells h 0
theorem NA.c1 (h : NA w na bu bp name) : w.cell? ⟨na, 1, none⟩ = some (.pointer (some ⟨bu, 0, none⟩)) := cell_cells h 1
theorem NA.c2 (h : NA w na bu bp name) : w.cell? ⟨na, 2, none⟩ = some (.pointer (some ⟨bp, 0, none⟩)) := cell_cells h 2
theorem NA.set (h : NA w na bu bp name) (s : Tx) : NA (w.setCell ⟨na, 0, none⟩ (.string (st s))) na bu bp s := heap_set h 0 _
end
/-- what a state of the name that does not fail leaves -/
def NmPost (na bu bp : Nat) (w : World) (r : Aq × Tx × AV) (e : Ending) (w' : World) : Prop :=
  e = .returned (.tuple #[r.1.val, .string (st r.2.1), .nilIface]) ∧ NA w' na bu bp r.2.2.name ∧ Kp na w w'

theorem ds_hi (x : UInt8) (h : 128 ≤ x.toNat) : dsEnd x = false := by
  have n1 : x ≠ 34 := by rintro rfl; revert h; decide
  have n2 : x ≠ 60 := by rintro rfl; revert h; decide
  have n3 : x ≠ 59 := by rintro rfl; revert h; decide
  simp [dsEnd, n1, n2, n3]
theorem disp_at (l : Tx) (v : AV) (i : Nat) (hi : i < l.length) (hn : (l.take i).all (fun c => !dsEnd c) = true) (h : dsEnd l[i] = true) :
    aDisp l v = if l[i] = 34 then (.quoted, l.drop (i + 1), v) else if l[i] = 60 then (.brack, l.drop (i + 1), { v with name := Lib.trimSpaceD (l.take i) }) else (.uri, l, v) := by
  unfold aDisp
  simp only [scan_at hi h hn, if_pos hi, getD_at hi]
theorem disp_end (l : Tx) (v : AV) (hn : l.all (fun c => !dsEnd c) = true) : aDisp l v = (.uri, l, v) := by
  unfold aDisp
  simp only [scan_end hn, if_neg (Nat.lt_irrefl _)]

set_option maxHeartbeats 1000000 in
theorem disp_c (s : ByteArray) (na bu bp : Nat) (v : AV) (w : World) (hu : NA w na bu bp v.name) (hs : s.size ≤ 1099511627776) (hL : LaidA w) :
    Calls Tryz.prog 113 #[.pointer (some ⟨na, 0, none⟩), .string s] w (NmPost na bu bp w (aDisp (bs s) v)) := by
  have HL := Lib.hid (bs_len s)
  have HLA := Lib.hid hL
  clear hL
  go_enter Tryz.func113, Tryz.ntmps113
  go_wp2
  go_loopg [] (s.size) (fun n wr => ∃ p : Nat, n + p = s.size ∧ Le w wr ∧ wr.heap[w.heap.size]? = some (.stringIter s p) ∧ ((bs s).take p).all (fun c => !dsEnd c) = true)
  case atStart => exact ⟨0, by omega, (Le.refl w).iter s 0, World.iter_heap _ _ _, rfl⟩
  case round =>
    obtain ⟨p, hn, hle, hit, hq⟩ := hrel
    have HQ := Lib.hid hq
    have HLE := Lib.hid hle
    have HN : gk + p ≤ s.size ∧ s.size ≤ gk + p := by omega
    clear hn hq hle
    by_cases hlt : p < s.size
    · obtain ⟨c, d, W1, hnx, hst, hit1, hW1⟩ := next_step (P := Tryz.prog) hit hlt
      have HLE1 := Lib.hid (hW1 ▸ HLE.out.iterAt (Nat.le_refl _) s (p + d) : Le w W1)
      have HST := Lib.hid hst
      have HS2 : 1 ≤ d ∧ p + d ≤ s.size ∧ 0 ≤ c ∧ c ≤ 1114111 := ⟨hst.1, hst.2.1, hst.2.2.1, hst.2.2.2.1⟩
      have HIT1 := Lib.hid hit1
      have HU1 := Lib.hid (hu.le HLE1.out)
      clear hW1 hst hit hit1 hu
      by_cases h34 : c = 34
      · subst h34
        obtain ⟨hp, h1⟩ := scan_hit HST.out 34 (by decide) rfl
        have hres : Hid (aDisp (bs s) v = (.quoted, (bs s).drop (p + 1), v)) := by
          have h2 := disp_at (bs s) v p hp HQ.out (by rw [h1]; rfl)
          rw [h1] at h2
          exact h2
        clear h1 hp
        go_wp2
        go_quiet (fail)
        go_wp2
        go_ret3
        refine ⟨ret3 ?_ ?_ rfl, ?_, ?_⟩
        · rw [hres.out]; rfl
        · rw [hres.out]; exact str_eq (ext_drop s (p + 1))
        · rw [hres.out]; exact HU1.out.le ((Le.refl W1).drewN _)
        · exact (HLE1.out.drewN _).kp na
      · have e34 : (c == 34) = false := by simpa using h34
        by_cases h60 : c = 60
        · subst h60
          obtain ⟨hp, h1⟩ := scan_hit HST.out 60 (by decide) rfl
          have hres : Hid (aDisp (bs s) v = (.brack, (bs s).drop (p + 1), { v with name := Lib.trimSpaceD ((bs s).take p) })) := by
            have h2 := disp_at (bs s) v p hp HQ.out (by rw [h1]; rfl)
            rw [h1] at h2
            exact h2
          have hsz : Hid ((s.extract 0 p).size ≤ 1099511627776) := by
            rw [ext_take]; simp only [st_size, List.length_take, HL.out]; exact (by omega : min p s.size ≤ 1099511627776)
          have hbt : Hid (bs (s.extract 0 p) = (bs s).take p) := by rw [ext_take]; exact bs_st _
          clear h1 hp h34
          go_wp2_with fail
          refine (trimsp_c _ _ hsz.out (HLA.out.le HLE1.out)).mono ?_
          rintro e w2 ⟨rfl, hle2⟩
          have HLE2 := Lib.hid (HLE1.out.trans hle2)
          have U2 := HU1.out.le hle2
          have z0 := U2.frozen 0
          have g0 := U2.c0
          have HU2 := Lib.hid U2
          clear hle2 U2
          go_wp2
          go_quiet (fail)
          go_wp2
          go_ret3
          refine ⟨ret3 ?_ ?_ rfl, ?_, ?_⟩
          · rw [hres.out]; rfl
          · rw [hres.out]; exact str_eq (ext_drop s (p + 1))
          · rw [hres.out, hbt.out]; exact (HU2.out.set _).le ((Le.refl _).drewN _)
          · exact ((HLE2.out.kp na).set 0 _).le ((Le.refl _).drewN _)
        · have e60 : (c == 60) = false := by simpa using h60
          by_cases h59 : c = 59
          · subst h59
            obtain ⟨hp, h1⟩ := scan_hit HST.out 59 (by decide) rfl
            have hres : Hid (aDisp (bs s) v = (.uri, bs s, v)) := by
              have h2 := disp_at (bs s) v p hp HQ.out (by rw [h1]; rfl)
              rw [h1] at h2
              exact h2
            clear h1 hp h34 h60
            go_wp2
            go_ret3
            refine ⟨ret3 ?_ ?_ rfl, ?_, ?_⟩
            · rw [hres.out]; rfl
            · rw [hres.out]; exact str_eq (st_bs s).symm
            · rw [hres.out]; exact HU1.out
            · exact HLE1.out.kp na
          · have e59 : (c == 59) = false := by simpa using h59
            have hF := Lib.hid (scan_next ds_hi HST.out HQ.out (fun x hx => by
              have n1 : x ≠ 34 := by rintro rfl; exact h34 hx
              have n2 : x ≠ 60 := by rintro rfl; exact h60 hx
              have n3 : x ≠ 59 := by rintro rfl; exact h59 hx
              simp [dsEnd, n1, n2, n3]))
            clear h34 h60 h59
            go_wp2
            go_roundg (gk - d)
            case measure => omega
            case rel => exact ⟨p + d, by omega, HLE1.out, HIT1.out, hF.out⟩
    · have hnx := fun ty => Lib.run_next_end_at (P := Tryz.prog) wr _ s p ty hit hlt
      have hres : Hid (aDisp (bs s) v = (.uri, bs s, v)) := by
        refine disp_end _ _ ?_
        have h1 := HQ.out
        rw [List.take_of_length_le (by rw [HL.out]; omega)] at h1
        exact h1
      have HU1 := Lib.hid (hu.le HLE.out)
      clear hit hu
      go_wp2
      go_ret3
      refine ⟨ret3 ?_ ?_ rfl, ?_, ?_⟩
      · rw [hres.out]; rfl
      · rw [hres.out]; exact str_eq (st_bs s).symm
      · rw [hres.out]; exact HU1.out
      · exact HLE.out.kp na
end Go.Proofs.YteedhaenbamiaaaGreatDoor
