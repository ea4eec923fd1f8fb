/- Contracts: an address between brackets. -/
import Derived.Test.YtbdeohmdpkkpdaaGreatDoorParse3
set_option linter.unusedVariables false
set_option linter.unusedSimpArgs false
namespace Go.Proofs.YtbdeohmdpkkpdaaGreatDoor
open Go.RowKit

def IpPost (b : Nat) (w : World) (l : Tx) (u : PU) (e : Ending) (w' : World) : Prop := (∃ k, StPost b w (fIp l k u) e w') ∨ ErrPost b w e w'
set_option maxHeartbeats 1000000 in
theorem ip_c (s : ByteArray) (b : Nat) (u : PU) (w : World) (hu : UAt w b u) (hs : s.size ≤ 1099511627776) :
    Calls Tryz.prog 149 #[.pointer (some ⟨b, 0, none⟩), .string s] w (IpPost b w (bs s) u) := by
  have HL := Lib.hid (bs_len s)
  have g6 := hu.c6
  have z6 := hu.frozen 6
  have HU := Lib.hid hu
  clear hu
  go_enter Tryz.func149, Tryz.ntmps149
  go_wp2_with fail
  refine (zzIndex_c _ _ _ ?_ (by simp [ByteArray.size])).mono ?_
  · rw [← bs_len, bs_extract]; simp only [List.length_drop, List.length_take, HL.out]; omega
  rintro e w' ⟨r, hr, rfl, rfl⟩
  have hr2 : r = -1 ∨ 0 ≤ r ∧ r + 1 ≤ s.size := by
    rcases hr with h | ⟨h1, h2⟩
    · exact .inl h
    · refine .inr ⟨h1, ?_⟩
      rw [← bs_len (s.extract _ _), bs_extract] at h2
      simp only [List.length_drop, List.length_take, HL.out] at h2
      have e1 : (ByteArray.mk #[93]).size = 1 := rfl
      rw [e1] at h2
      omega
  clear hr
  by_cases hr0 : r ≤ 0
  · clear hr2
    go_wp2_with fail
    refine (errnew_c _ _).mono ?_
    rintro e w3 ⟨rfl, hle3⟩
    have HLE3 := Lib.hid hle3
    have HU3 := Lib.hid (HU.out.le hle3)
    clear hle3
    go_wp2
    go_ret3
    exact .inr ⟨_, _, _, _, u, rfl, HU3.out, HLE3.out.kp b⟩
  · obtain ⟨n, rfl⟩ : ∃ n : Nat, r = n := ⟨r.toNat, by omega⟩
    have hn : n + 1 ≤ s.size ∧ 1 ≤ n := by omega
    clear hr2 hr0
    by_cases he : n + 1 = s.size
    · have hb : (((n : Int) + 1) == (s.size : Int)) = true := by simp; omega
      have hres : Hid (fIp (bs s) n u = (.params, [], { u with host := (bs s).take (n + 1) })) := by
        unfold fIp
        rw [List.drop_of_length_le (by rw [HL.out]; omega)]
        exact rfl
      clear he
      go_wp2
      go_ret3
      refine .inl ⟨n, ret3 ?_ ?_ rfl, ?_, kp_set _ _ _ _⟩
      · rw [hres.out]; rfl
      · rw [hres.out]; rfl
      · rw [hres.out]
        have sm := HU.out.sm
        have hl := HL.out
        refine UAt.put HU.out 6 _ _ (fun _ _ => by rw [ext_take]; rfl) rfl rfl ?_
        simp only [PU.small, List.length_take] at sm ⊢; omega
    · have hb : (((n : Int) + 1) == (s.size : Int)) = false := by simp; omega
      have hn2 : n + 1 < s.size := by omega
      have hp : n + 1 < (bs s).length := by rw [HL.out]; exact hn2
      have h0 : 0 < (s.extract (n + 1) s.size).size := by rw [← bs_len, bs_extract]; simp only [List.length_drop, List.length_take, HL.out]; omega
      have hx : (s.extract (n + 1) s.size)[0]'h0 = (bs s)[n + 1] := by
        rw [at_bs _ _ h0]
        simp only [bs_extract, List.getElem_drop, List.getElem_take, Nat.add_zero]
      have hdr : (bs s).drop (n + 1) = (bs s)[n + 1] :: (bs s).drop (n + 2) := List.drop_eq_getElem_cons hp
      have hext : Hid ((s.extract (n + 1) s.size).extract 1 (s.size - (n + 1)) = st ((bs s).drop (n + 2))) := by
        have hz : (s.extract (n + 1) s.size).size = s.size - (n + 1) := by rw [← bs_len, bs_extract]; simp only [List.length_drop, List.length_take, HL.out]; omega
        rw [← hz, ext_drop, bs_extract, List.take_of_length_le (by rw [HL.out]; exact Nat.le_refl _), List.drop_drop]; exact rfl
      clear he
      by_cases c1 : (bs s)[n + 1] = 58
      · have hres := Lib.hid (show fIp (bs s) n u = (.port, (bs s).drop (n + 2), { u with host := (bs s).take (n + 1) }) from by
          unfold fIp; rw [hdr]; simp only [if_pos c1])
        have hv : (((s.extract (n + 1) s.size)[0]'h0).toNat : Int) = 58 := by rw [hx, c1]; rfl
        clear c1 hx hdr hp
        go_wp2
        go_quiet (fail)
        go_wp2
        go_ret3
        refine .inl ⟨n, ret3 ?_ ?_ rfl, ?_, (kp_set _ _ _ _).le ((Le.refl _).drewN _)⟩
        · rw [hres.out]; rfl
        · rw [hres.out]; exact str_eq hext.out
        · rw [hres.out]
          refine UAt.le ?_ ((Le.refl _).drewN _)
          have sm := HU.out.sm
          have hl := HL.out
          refine UAt.put HU.out 6 _ _ (fun _ _ => by rw [ext_take]; rfl) rfl rfl ?_
          simp only [PU.small, List.length_take] at sm ⊢; omega
      have b1 : ((((s.extract (n + 1) s.size)[0]'h0).toNat : Int) == 58) = false := by
        rw [hx]; simp only [beq_eq_false_iff_ne, ne_eq]; intro h; exact c1 (u8_of (n := 58) h (by decide))
      by_cases c2 : (bs s)[n + 1] = 59
      · have hres := Lib.hid (show fIp (bs s) n u = (.params, (bs s).drop (n + 2), { u with host := (bs s).take (n + 1) }) from by
          unfold fIp; rw [hdr]; simp only [if_neg c1, if_pos c2])
        have hv : (((s.extract (n + 1) s.size)[0]'h0).toNat : Int) = 59 := by rw [hx, c2]; rfl
        clear c1 c2 hx hdr hp b1
        go_wp2
        go_quiet (fail)
        go_wp2
        go_ret3
        refine .inl ⟨n, ret3 ?_ ?_ rfl, ?_, (kp_set _ _ _ _).le ((Le.refl _).drewN _)⟩
        · rw [hres.out]; rfl
        · rw [hres.out]; exact str_eq hext.out
        · rw [hres.out]
          refine UAt.le ?_ ((Le.refl _).drewN _)
          have sm := HU.out.sm
          have hl := HL.out
          refine UAt.put HU.out 6 _ _ (fun _ _ => by rw [ext_take]; rfl) rfl rfl ?_
          simp only [PU.small, List.length_take] at sm ⊢; omega
      have b2 : ((((s.extract (n + 1) s.size)[0]'h0).toNat : Int) == 59) = false := by
        rw [hx]; simp only [beq_eq_false_iff_ne, ne_eq]; intro h; exact c2 (u8_of (n := 59) h (by decide))
      by_cases c3 : (bs s)[n + 1] = 63
      · have hres := Lib.hid (show fIp (bs s) n u = (.heads, (bs s).drop (n + 2), { u with host := (bs s).take (n + 1) }) from by
          unfold fIp; rw [hdr]; simp only [if_neg c1, if_neg c2, if_pos c3])
        have hv : (((s.extract (n + 1) s.size)[0]'h0).toNat : Int) = 63 := by rw [hx, c3]; rfl
        clear c1 c2 c3 hx hdr hp b1 b2
        go_wp2
        go_quiet (fail)
        go_wp2
        go_ret3
        refine .inl ⟨n, ret3 ?_ ?_ rfl, ?_, (kp_set _ _ _ _).le ((Le.refl _).drewN _)⟩
        · rw [hres.out]; rfl
        · rw [hres.out]; exact str_eq hext.out
        · rw [hres.out]
          refine UAt.le ?_ ((Le.refl _).drewN _)
          have sm := HU.out.sm
          have hl := HL.out
          refine UAt.put HU.out 6 _ _ (fun _ _ => by rw [ext_take]; rfl) rfl rfl ?_
          simp only [PU.small, List.length_take] at sm ⊢; omega
      have b3 : ((((s.extract (n + 1) s.size)[0]'h0).toNat : Int) == 63) = false := by
        rw [hx]; simp only [beq_eq_false_iff_ne, ne_eq]; intro h; exact c3 (u8_of (n := 63) h (by decide))
      have hres := Lib.hid (show fIp (bs s) n u = (.params, [], { u with host := (bs s).take (n + 1) }) from by
        unfold fIp; rw [hdr]; simp only [if_neg c1, if_neg c2, if_neg c3])
      clear c1 c2 c3 hx hdr hp
      go_wp2
      go_ret3
      refine .inl ⟨n, ret3 ?_ ?_ rfl, ?_, kp_set _ _ _ _⟩
      · rw [hres.out]; rfl
      · rw [hres.out]; rfl
      · rw [hres.out]
        have sm := HU.out.sm
        have hl := HL.out
        refine UAt.put HU.out 6 _ _ (fun _ _ => by rw [ext_take]; rfl) rfl rfl ?_
        simp only [PU.small, List.length_take] at sm ⊢; omega
end Go.Proofs.YtbdeohmdpkkpdaaGreatDoor
