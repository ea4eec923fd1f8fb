/- Contracts of the states of the package's reader of URIs. -/
import Derived.Test.YtbdeohmdpkkpdaaGreatDoorLow
set_option linter.unusedVariables false
set_option linter.unusedSimpArgs false
namespace Go.Proofs.YtbdeohmdpkkpdaaGreatDoor
open Go.RowKit

def Sq.val : Sq → Value
  | .slashes => .func (.func 131) #[] #[]
  | .user => .func (.func 140) #[] #[]
  | .host => .func (.func 144) #[] #[]
  | .ip => .func (.func 149) #[] #[]
  | .port => .func (.func 150) #[] #[]
  | .params => .func (.func 151) #[] #[]
  | .heads => .func (.func 152) #[] #[]
  | .stop => .nilFunc
/-- what a state that does not fail leaves -/
def StPost (b : Nat) (w : World) (r : Sq × Tx × PU) (e : Ending) (w' : World) : Prop :=
  e = .returned (.tuple #[r.1.val, .string (st r.2.1), .nilIface]) ∧ UAt w' b r.2.2 ∧ Kp b w w'
/-! ### the user -/
theorem fUser_at (l : Tx) (u : PU) (i : Nat) (hi : i < l.length) (hn : (l.take i).all (fun c => !usEnd c) = true) (h : usEnd l[i] = true) :
    fUser l u = if l[i] = 91 then (.host, l.drop i, u) else if 0 < lastC (l.take i) then (.host, l.drop (i + 1), { u with user := l.take (lastC (l.take i)), pass := (l.take i).drop (lastC (l.take i) + 1) }) else (.host, l.drop (i + 1), { u with user := l.take i }) := by
  unfold fUser
  simp only [scan_at hi h hn, if_pos hi, getD_at hi]
theorem fUser_end (l : Tx) (u : PU) (hn : l.all (fun c => !usEnd c) = true) : fUser l u = (.host, l, u) := by
  unfold fUser
  simp only [scan_end hn, if_neg (Nat.lt_irrefl _)]
theorem us_skip (l : Tx) (x : UInt8) (h : 128 ≤ x.toNat) : ((l ++ [x]).all (fun c => !usEnd c), lastC (l ++ [x])) = (l.all (fun c => !usEnd c), lastC l) := by
  have h1 : ¬ x = 58 := by rintro rfl; revert h; decide
  have h2 : ¬ x = 91 := by rintro rfl; revert h; decide
  have h3 : ¬ x = 64 := by rintro rfl; revert h; decide
  rw [lastC_snoc, if_neg h1, all_snoc]
  simp [usEnd, h2, h3]
theorem us_one (l : Tx) (x : UInt8) (h : usEnd x = false) : ((l ++ [x]).all (fun c => !usEnd c), lastC (l ++ [x])) = (l.all (fun c => !usEnd c), if x = 58 then l.length else lastC l) := by
  rw [lastC_snoc, all_snoc, h]
  simp

set_option maxHeartbeats 1000000 in
theorem user_c (s : ByteArray) (b : Nat) (u : PU) (w : World) (hu : UAt w b u) (hs : s.size ≤ 1099511627776) :
    Calls Tryz.prog 140 #[.pointer (some ⟨b, 0, none⟩), .string s] w (StPost b w (fUser (bs s) u)) := by
  have hl := bs_len s
  have HL := Lib.hid hl
  clear hl
  go_enter Tryz.func140, Tryz.ntmps140
  go_wp2
  go_loopg [7] (s.size) (fun n ue wr => ∃ p k : Nat, n + p = s.size ∧ Le w wr ∧ wr.heap[w.heap.size]? = some (.stringIter s p) ∧ (k < p ∨ k = 0) ∧
    (((bs s).take p).all (fun c => !usEnd c), lastC ((bs s).take p)) = (true, k) ∧ ue = .int .i64 k)
  case atStart => exact ⟨0, 0, by omega, (Le.refl w).iter s 0, World.iter_heap _ _ _, by omega, rfl, rfl⟩
  case round =>
    obtain ⟨p, k, hn, hle, hit, hk, hq, rfl⟩ := hrel
    have HQ := Lib.hid hq
    have HLE := Lib.hid hle
    have U1 := hu.le hle
    have HN : gk + p ≤ s.size ∧ s.size ≤ gk + p := by omega
    clear hn hq hle
    by_cases hlt : p < s.size
    · obtain ⟨c, d, W1, hnx, hst, hit1, hW1⟩ := next_step (P := Tryz.prog) hit hlt
      have HLE1 := Lib.hid (hW1 ▸ HLE.out.iterAt (Nat.le_refl _) s (p + d) : Le w W1)
      have U2 := hu.le HLE1.out
      have g4 := U2.c4
      have z4 := U2.frozen 4
      have g5 := U2.c5
      have z5 := U2.frozen 5
      have HU2 := Lib.hid U2
      have HST := Lib.hid hst
      have HS2 : 1 ≤ d ∧ p + d ≤ s.size ∧ 0 ≤ c ∧ c ≤ 1114111 := ⟨hst.1, hst.2.1, hst.2.2.1, hst.2.2.2.1⟩
      have HIT1 := Lib.hid hit1
      have HT := Lib.hid (hst.take (fun l => (l.all (fun c => !usEnd c), lastC l)) us_skip)
      clear hW1 hst U1 U2 hit hit1 hu
      by_cases h91 : c = 91
      · subst h91
        obtain ⟨hp, hc, hres⟩ : ∃ hp : p < (bs s).length, (bs s)[p] = 91 ∧ Hid (fUser (bs s) u = (.host, (bs s).drop p, u)) := by
          rcases HT.out with ⟨hp, hc, _, _⟩ | ⟨hc, _⟩
          · have h1 := u8_of hc.symm (by decide)
            refine ⟨hp, h1, ?_⟩
            have h2 := fUser_at (bs s) u p hp (congrArg Prod.fst HQ.out) (by rw [h1]; rfl)
            rw [h1] at h2
            exact h2
          · omega
        clear hc hp
        go_wp2
        go_quiet (fail)
        go_wp2
        go_ret3
        refine ⟨ret3 ?_ ?_ rfl, ?_, ?_⟩
        · rw [hres.out]; rfl
        · rw [hres.out]; exact str_eq (ext_drop s p)
        · rw [hres.out]; exact HU2.out.le ((Le.refl W1).drewN _)
        · exact (HLE1.out.drewN _).kp b
      · by_cases h64 : c = 64
        · subst h64
          obtain ⟨hp, hc, hres⟩ : ∃ hp : p < (bs s).length, (bs s)[p] = 64 ∧ Hid (fUser (bs s) u = if 0 < k then (.host, (bs s).drop (p + 1), { u with user := (bs s).take k, pass := ((bs s).take p).drop (k + 1) }) else (.host, (bs s).drop (p + 1), { u with user := (bs s).take p })) := by
            rcases HT.out with ⟨hp, hc, _, _⟩ | ⟨hc, _⟩
            · have h1 := u8_of hc.symm (by decide)
              refine ⟨hp, h1, ?_⟩
              have h2 := fUser_at (bs s) u p hp (congrArg Prod.fst HQ.out) (by rw [h1]; rfl)
              rw [h1, if_neg (by decide), show lastC ((bs s).take p) = k from congrArg Prod.snd HQ.out] at h2
              exact h2
            · omega
          clear hc hp
          by_cases hk0 : 0 < k
          · have hk1 : k < p := by omega
            rw [if_pos hk0] at hres
            clear hk
            go_wp2
            go_quiet (fail)
            go_wp2
            go_ret3
            refine ⟨ret3 ?_ ?_ rfl, ?_, ?_⟩
            · rw [hres.out]; rfl
            · rw [hres.out]; exact str_eq (ext_drop s (p + 1))
            · rw [hres.out]
              refine UAt.le ?_ ((Le.refl _).drewN _)
              have sm := HU2.out.sm
              have hl := HL.out
              refine UAt.put (UAt.put HU2.out 4 _ { u with user := (bs s).take k } (fun _ _ => by rw [ext_take]; rfl) rfl rfl ?_) 5 _ _ (fun _ _ => by rw [ext_st]; rfl) rfl rfl ?_
              all_goals simp only [PU.small, List.length_take, List.length_drop] at sm ⊢; omega
            · exact (((HLE1.out.kp b).set 4 _).set 5 _).le ((Le.refl _).drewN _)
          · obtain rfl : k = 0 := by omega
            rw [if_neg hk0] at hres
            go_wp2
            go_quiet (fail)
            go_wp2
            go_ret3
            refine ⟨ret3 ?_ ?_ rfl, ?_, ?_⟩
            · rw [hres.out]; rfl
            · rw [hres.out]; exact str_eq (ext_drop s (p + 1))
            · rw [hres.out]
              refine UAt.le ?_ ((Le.refl _).drewN _)
              have sm := HU2.out.sm
              have hl := HL.out
              refine UAt.put HU2.out 4 _ _ (fun _ _ => by rw [ext_take]; rfl) rfl rfl ?_
              simp only [PU.small, List.length_take, List.length_drop] at sm ⊢; omega
            · exact ((HLE1.out.kp b).set 4 _).le ((Le.refl _).drewN _)
        · have e1 : (c == 91) = false := by simpa using h91
          have e3 : (c == 64) = false := by simpa using h64
          by_cases h58 : c = 58
          · subst h58
            have hF : Hid ((((bs s).take (p + d)).all (fun c => !usEnd c), lastC ((bs s).take (p + d))) = (true, p)) := by
              rcases HT.out with ⟨hp, hc, _, hF⟩ | ⟨hc, _⟩
              · have h1 := u8_of hc.symm (by decide)
                refine hF.trans ?_
                rw [h1, us_one _ _ (by rfl), show ((bs s).take p).all (fun c => !usEnd c) = true from congrArg Prod.fst HQ.out, if_pos (by rfl), List.length_take, HL.out, Nat.min_eq_left (by omega)]
              · omega
            clear h91 h64
            go_wp2
            go_roundg (gk - d)
            case measure => omega
            case rel => exact ⟨p + d, p, by omega, HLE1.out, HIT1.out, by omega, hF.out, rfl⟩
          · have hF : Hid ((((bs s).take (p + d)).all (fun c => !usEnd c), lastC ((bs s).take (p + d))) = (true, k)) := by
              rcases HT.out with ⟨hp, hc, _, hF⟩ | ⟨_, hF⟩
              · have n58 : (bs s)[p] ≠ 58 := by intro e; rw [e] at hc; exact h58 (by rw [hc]; rfl)
                have n91 : (bs s)[p] ≠ 91 := by intro e; rw [e] at hc; exact h91 (by rw [hc]; rfl)
                have n64 : (bs s)[p] ≠ 64 := by intro e; rw [e] at hc; exact h64 (by rw [hc]; rfl)
                refine hF.trans ?_
                rw [us_one _ _ (by simp [usEnd, n91, n64]), if_neg n58]
                exact HQ.out
              · exact hF.trans HQ.out
            have e2 : (c == 58) = false := by simpa using h58
            clear h91 h64 h58
            go_wp2
            go_roundg (gk - d)
            case measure => omega
            case rel => exact ⟨p + d, k, by omega, HLE1.out, HIT1.out, by omega, hF.out, rfl⟩
    · have hnx := fun ty => Lib.run_next_end_at (P := Tryz.prog) wr _ s p ty hit hlt
      have hres : Hid (fUser (bs s) u = (.host, bs s, u)) := by
        refine fUser_end _ _ ?_
        have h1 := congrArg Prod.fst HQ.out
        simp only at h1
        rw [List.take_of_length_le (by rw [HL.out]; omega)] at h1
        exact h1
      have HU1 := Lib.hid U1
      clear hit hu U1
      go_wp2
      go_ret3
      refine ⟨ret3 ?_ ?_ rfl, ?_, ?_⟩
      · rw [hres.out]; rfl
      · rw [hres.out]; exact str_eq (st_bs s).symm
      · rw [hres.out]; exact HU1.out
      · exact HLE.out.kp b
end Go.Proofs.YtbdeohmdpkkpdaaGreatDoor
