/- Contracts of the states of the package's reader of URIs. Contracts of more states of the package's reader of URIs (printed by gen_parse.py). Contracts: the scheme's state, the state of an address between brackets (printed by gen_parse3.py). Contracts: an address between brackets. -/
import Derived.Test.YtgpkfocgoigokaaGreatDoorLow
set_option linter.unusedVariables false
set_option linter.unusedSimpArgs false
namespace Go.Proofs.YtgpkfocgoigokaaGreatDoor
open Go.RowKit

def Sq.val : Sq → Value
  | .slashes => .func (.func 37) #[] #[]
  | .user => .func (.func 50) #[] #[]
  | .host => .func (.func 58) #[] #[]
  | .ip => .func (.func 67) #[] #[]
  | .port => .func (.func 68) #[] #[]
  | .params => .func (.func 69) #[] #[]
  | .heads => .func (.func 70) #[] #[]
  | .stop => .nilFunc
/-- what a state that does not fail leaves -/
def StPost (b : Nat) (w : World) (r : Sq × Tx × PU) (e : Ending) (w' : World) : Prop :=
  e = .returned (.tuple #[r.1.val, .string (st r.2.1), .nilIface]) ∧ UAt w' b r.2.2 ∧ Kp b w w'
/-! ### the user -/
theorem fUser_at (l : Tx) (u : PU) (i : Nat) (hi : i < l.length) (hn : (l.take i).all (fun c => !usEnd c) = true) (h : usEnd l[i] = true) :
    fUser l u = if l[i] = 91 then (.host, l.drop i, u) else if 0 < lastC (l.take i) then (.host, l.drop (i + 1), { u with user := l.take (lastC (l.take i)), pass := (l.take i).drop (lastC (l.take i) + 1) }) else (.host, l.drop (i + 1), { u with user := l.take i }) := by
  unfold fUser
  simp only [scan_at hi h hn, if_pos hi, getD_at hi]
theorem fUser_end (l : Tx) (u : PU) (hn : l.all (fun c => !usEnd c) = true) : fUser l u = (.host, l, u) := by
  unfold fUser
  simp only [scan_end hn, if_neg (Nat.lt_irrefl _)]
theorem us_skip (l : Tx) (x : UInt8) (h : 128 ≤ x.toNat) : ((l ++ [x]).all (fun c => !usEnd c), lastC (l ++ [x])) = (l.all (fun c => !usEnd c), lastC l) := by
  have h1 : ¬ x = 58 := by rintro rfl; revert h; decide
  have h2 : ¬ x = 91 := by rintro rfl; revert h; decide
  have h3 : ¬ x = 64 := by rintro rfl; revert h; decide
  rw [lastC_snoc, if_neg h1, all_snoc]
  simp [usEnd, h2, h3]
theorem us_one (l : Tx) (x : UInt8) (h : usEnd x = false) : ((l ++ [x]).all (fun c => !usEnd c), lastC (l ++ [x])) = (l.all (fun c => !usEnd c), if x = 58 then l.length else lastC l) := by
  rw [lastC_snoc, all_snoc, h]
  simp

set_option maxHeartbeats 1000000 in
theorem user_c (s : ByteArray) (b : Nat) (u : PU) (w : World) (hu : UAt w b u) (hs : s.size ≤ 1099511627776) :
    Calls Tryz.prog 50 #[.pointer (some ⟨b, 0, none⟩), .string s] w (StPost b w (fUser (bs s) u)) := by
  have hl := bs_len s
  have HL := Lib.hid hl
  clear hl
  go_enter Tryz.func50, Tryz.ntmps50
  go_wp2
  go_loopg [7] (s.size) (fun n ue wr => ∃ p k : Nat, n + p = s.size ∧ Le w wr ∧ wr.heap[w.heap.size]? = some (.stringIter s p) ∧ (k < p ∨ k = 0) ∧
    (((bs s).take p).all (fun c => !usEnd c), lastC ((bs s).take p)) = (true, k) ∧ ue = .int .i64 k)
  case atStart => exact ⟨0, 0, by omega, (Le.refl w).iter s 0, World.iter_heap _ _ _, by omega, rfl, rfl⟩
  case round =>
    obtain ⟨p, k, hn, hle, hit, hk, hq, rfl⟩ := hrel
    have HQ := Lib.hid hq
    have HLE := Lib.hid hle
    have U1 := hu.le hle
    have HN : gk + p ≤ s.size ∧ s.size ≤ gk + p := by omega
    clear hn hq hle
    by_cases hlt : p < s.size
    · obtain ⟨c, d, W1, hnx, hst, hit1, hW1⟩ := next_step (P := Tryz.prog) hit hlt
      have HLE1 := Lib.hid (hW1 ▸ HLE.out.iterAt (Nat.le_refl _) s (p + d) : Le w W1)
      have U2 := hu.le HLE1.out
      have g4 := U2.c4
      have z4 := U2.frozen 4
      have g5 := U2.c5
      have z5 := U2.frozen 5
      have HU2 := Lib.hid U2
      have HST := Lib.hid hst
      have HS2 : 1 ≤ d ∧ p + d ≤ s.size ∧ 0 ≤ c ∧ c ≤ 1114111 := ⟨hst.1, hst.2.1, hst.2.2.1, hst.2.2.2.1⟩
      have HIT1 := Lib.hid hit1
      have HT := Lib.hid (hst.take (fun l => (l.all (fun c => !usEnd c), lastC l)) us_skip)
      clear hW1 hst U1 U2 hit hit1 hu
      by_cases h91 : c = 91
      · subst h91
        obtain ⟨hp, hc, hres⟩ : ∃ hp : p < (bs s).length, (bs s)[p] = 91 ∧ Hid (fUser (bs s) u = (.host, (bs s).drop p, u)) := by
          rcases HT.out with ⟨hp, hc, _, _⟩ | ⟨hc, _⟩
          · have h1 := u8_of hc.symm (by decide)
            refine ⟨hp, h1, ?_⟩
            have h2 := fUser_at (bs s) u p hp (congrArg Prod.fst HQ.out) (by rw [h1]; rfl)
            rw [h1] at h2
            exact h2
          · omega
        clear hc hp
        go_wp2
        go_quiet (fail)
        go_wp2
        go_ret3
        refine ⟨ret3 ?_ ?_ rfl, ?_, ?_⟩
        · rw [hres.out]; rfl
        · rw [hres.out]; exact str_eq (ext_drop s p)
        · rw [hres.out]; exact HU2.out.le ((Le.refl W1).drewN _)
        · exact (HLE1.out.drewN _).kp b
      · by_cases h64 : c = 64
        · subst h64
          obtain ⟨hp, hc, hres⟩ : ∃ hp : p < (bs s).length, (bs s)[p] = 64 ∧ Hid (fUser (bs s) u = if 0 < k then (.host, (bs s).drop (p + 1), { u with user := (bs s).take k, pass := ((bs s).take p).drop (k + 1) }) else (.host, (bs s).drop (p + 1), { u with user := (bs s).take p })) := by
            rcases HT.out with ⟨hp, hc, _, _⟩ | ⟨hc, _⟩
            · have h1 := u8_of hc.symm (by decide)
              refine ⟨hp, h1, ?_⟩
              have h2 := fUser_at (bs s) u p hp (congrArg Prod.fst HQ.out) (by rw [h1]; rfl)
              rw [h1, if_neg (by decide), show lastC ((bs s).take p) = k from congrArg Prod.snd HQ.out] at h2
              exact h2
            · omega
          clear hc hp
          by_cases hk0 : 0 < k
          · have hk1 : k < p := by omega
            rw [if_pos hk0] at hres
            clear hk
            go_wp2
            go_quiet (fail)
            go_wp2
            go_ret3
            refine ⟨ret3 ?_ ?_ rfl, ?_, ?_⟩
            · rw [hres.out]; rfl
            · rw [hres.out]; exact str_eq (ext_drop s (p + 1))
            · rw [hres.out]
              refine UAt.le ?_ ((Le.refl _).drewN _)
              have sm := HU2.out.sm
              have hl := HL.out
              refine UAt.put (UAt.put HU2.out 4 _ { u with user := (bs s).take k } (fun _ _ => by rw [ext_take]; rfl) rfl rfl ?_) 5 _ _ (fun _ _ => by rw [ext_st]; rfl) rfl rfl ?_
              all_goals simp only [PU.small, List.length_take, List.length_drop] at sm ⊢; omega
            · exact (((HLE1.out.kp b).set 4 _).set 5 _).le ((Le.refl _).drewN _)
          · obtain rfl : k = 0 := by omega
            rw [if_neg hk0] at hres
            go_wp2
            go_quiet (fail)
            go_wp2
            go_ret3
            refine ⟨ret3 ?_ ?_ rfl, ?_, ?_⟩
            · rw [hres.out]; rfl
            · rw [hres.out]; exact str_eq (ext_drop s (p + 1))
            · rw [hres.out]
              refine UAt.le ?_ ((Le.refl _).drewN _)
              have sm := HU2.out.sm
              have hl := HL.out
              refine UAt.put HU2.out 4 _ _ (fun _ _ => by rw [ext_take]; rfl) rfl rfl ?_
              simp only [PU.small, List.length_take, List.length_drop] at sm ⊢; omega
            · exact ((HLE1.out.kp b).set 4 _).le ((Le.refl _).drewN _)
        · have e1 : (c == 91) = false := by simpa using h91
          have e3 : (c == 64) = false := by simpa using h64
          by_cases h58 : c = 58
          · subst h58
            have hF : Hid ((((bs s).take (p + d)).all (fun c => !usEnd c), lastC ((bs s).take (p + d))) = (true, p)) := by
              rcases HT.out with ⟨hp, hc, _, hF⟩ | ⟨hc, _⟩
              · have h1 := u8_of hc.symm (by decide)
                refine hF.trans ?_
                rw [h1, us_one _ _ (by rfl), show ((bs s).take p).all (fun c => !usEnd c) = true from congrArg Prod.fst HQ.out, if_pos (by rfl), List.length_take, HL.out, Nat.min_eq_left (by omega)]
              · omega
            clear h91 h64
            go_wp2
            go_roundg (gk - d)
            case measure => omega
            case rel => exact ⟨p + d, p, by omega, HLE1.out, HIT1.out, by omega, hF.out, rfl⟩
          · have hF : Hid ((((bs s).take (p + d)).all (fun c => !usEnd c), lastC ((bs s).take (p + d))) = (true, k)) := by
              rcases HT.out with ⟨hp, hc, _, hF⟩ | ⟨_, hF⟩
              · have n58 : (bs s)[p] ≠ 58 := by intro e; rw [e] at hc; exact h58 (by rw [hc]; rfl)
                have n91 : (bs s)[p] ≠ 91 := by intro e; rw [e] at hc; exact h91 (by rw [hc]; rfl)
                have n64 : (bs s)[p] ≠ 64 := by intro e; rw [e] at hc; exact h64 (by rw [hc]; rfl)
                refine hF.trans ?_
                rw [us_one _ _ (by simp [usEnd, n91, n64]), if_neg n58]
                exact HQ.out
              · exact hF.trans HQ.out
            have e2 : (c == 58) = false := by simpa using h58
            clear h91 h64 h58
            go_wp2
            go_roundg (gk - d)
            case measure => omega
            case rel => exact ⟨p + d, k, by omega, HLE1.out, HIT1.out, by omega, hF.out, rfl⟩
    · have hnx := fun ty => Lib.run_next_end_at (P := Tryz.prog) wr _ s p ty hit hlt
      have hres : Hid (fUser (bs s) u = (.host, bs s, u)) := by
        refine fUser_end _ _ ?_
        have h1 := congrArg Prod.fst HQ.out
        simp only at h1
        rw [List.take_of_length_le (by rw [HL.out]; omega)] at h1
        exact h1
      have HU1 := Lib.hid U1
      clear hit hu U1
      go_wp2
      go_ret3
      refine ⟨ret3 ?_ ?_ rfl, ?_, ?_⟩
      · rw [hres.out]; rfl
      · rw [hres.out]; exact str_eq (st_bs s).symm
      · rw [hres.out]; exact HU1.out
      · exact HLE.out.kp b
end Go.Proofs.YtgpkfocgoigokaaGreatDoor
set_option linter.unusedVariables false
set_option linter.unusedSimpArgs false
namespace Go.Proofs.YtgpkfocgoigokaaGreatDoor
open Go.RowKit

theorem hoEnd_hi (x : UInt8) (h : 128 ≤ x.toNat) : hoEnd x = false := by
  have n1 : x ≠ 91 := by rintro rfl; revert h; decide
  have n2 : x ≠ 58 := by rintro rfl; revert h; decide
  have n3 : x ≠ 59 := by rintro rfl; revert h; decide
  have n4 : x ≠ 63 := by rintro rfl; revert h; decide
  simp [hoEnd, n1, n2, n3, n4]
theorem fHost_at (l : Tx) (u : PU) (i : Nat) (hi : i < l.length) (hn : (l.take i).all (fun c => !hoEnd c) = true) (h : hoEnd l[i] = true) :
    fHost l u = if l[i] = 91 then (.ip, l.drop i, u) else if l[i] = 58 then (.port, l.drop (i + 1), { u with host := l.take i })
      else if l[i] = 59 then (.params, l.drop (i + 1), { u with host := l.take i }) else (.heads, l.drop (i + 1), { u with host := l.take i }) := by
  unfold fHost
  simp only [scan_at hi h hn, if_pos hi, getD_at hi]
theorem fHost_end (l : Tx) (u : PU) (hn : l.all (fun c => !hoEnd c) = true) : fHost l u = (.params, [], { u with host := l, wild := decide (l = [42]) }) := by
  unfold fHost
  simp only [scan_end hn, if_neg (Nat.lt_irrefl _)]

set_option maxHeartbeats 1000000 in
theorem host_c (s : ByteArray) (b : Nat) (u : PU) (w : World) (hu : UAt w b u) (hs : s.size ≤ 1099511627776) :
    Calls Tryz.prog 58 #[.pointer (some ⟨b, 0, none⟩), .string s] w (StPost b w (fHost (bs s) u)) := by
  have HL := Lib.hid (bs_len s)
  go_enter Tryz.func58, Tryz.ntmps58
  go_wp2
  go_loopg [] (s.size) (fun n wr => ∃ p : Nat, n + p = s.size ∧ Le w wr ∧ wr.heap[w.heap.size]? = some (.stringIter s p) ∧ ((bs s).take p).all (fun c => !hoEnd c) = true)
  case atStart => exact ⟨0, by omega, (Le.refl w).iter s 0, World.iter_heap _ _ _, rfl⟩
  case round =>
    obtain ⟨p, hn, hle, hit, hq⟩ := hrel
    have HQ := Lib.hid hq
    have HLE := Lib.hid hle
    have HN : gk + p ≤ s.size ∧ s.size ≤ gk + p := by omega
    clear hn hq hle
    by_cases hlt : p < s.size
    · obtain ⟨c, d, W1, hnx, hst, hit1, hW1⟩ := next_step (P := Tryz.prog) hit hlt
      have HLE1 := Lib.hid (hW1 ▸ HLE.out.iterAt (Nat.le_refl _) s (p + d) : Le w W1)
      have HST := Lib.hid hst
      have HS2 : 1 ≤ d ∧ p + d ≤ s.size ∧ 0 ≤ c ∧ c ≤ 1114111 := ⟨hst.1, hst.2.1, hst.2.2.1, hst.2.2.2.1⟩
      have HIT1 := Lib.hid hit1
      clear hW1 hst hit hit1
      by_cases h91 : c = 91
      · subst h91
        obtain ⟨hp, h1⟩ := scan_hit HST.out 91 (by decide) rfl
        have hres : Hid (fHost (bs s) u = (.ip, (bs s).drop p, u)) := by
          have h2 := fHost_at (bs s) u p hp HQ.out (by rw [h1]; rfl)
          rw [h1] at h2
          exact h2
        clear h1 hp
        go_wp2
        go_quiet (fail)
        go_wp2
        go_ret3
        refine ⟨ret3 ?_ ?_ rfl, ?_, ?_⟩
        · rw [hres.out]; rfl
        · rw [hres.out]; exact str_eq (ext_drop s p)
        · rw [hres.out]; exact (hu.le HLE1.out).le ((Le.refl W1).drewN _)
        · exact (HLE1.out.drewN _).kp b
      · have e91 : (c == 91) = false := by simpa using h91
        by_cases h58 : c = 58
        · subst h58
          obtain ⟨hp, h1⟩ := scan_hit HST.out 58 (by decide) rfl
          have hres : Hid (fHost (bs s) u = (.port, (bs s).drop (p + 1), { u with host := (bs s).take p })) := by
            have h2 := fHost_at (bs s) u p hp HQ.out (by rw [h1]; rfl)
            rw [h1] at h2
            exact h2
          clear h1 hp
          have U2 := hu.le HLE1.out
          have g6 := U2.c6
          have z6 := U2.frozen 6
          have HU2 := Lib.hid U2
          clear U2 hu
          go_wp2
          go_quiet (fail)
          go_wp2
          go_ret3
          refine ⟨ret3 ?_ ?_ rfl, ?_, ?_⟩
          · rw [hres.out]; rfl
          · rw [hres.out]; exact str_eq (ext_drop s (p + 1))
          · rw [hres.out]
            refine UAt.le ?_ ((Le.refl _).drewN _)
            have sm := HU2.out.sm
            have hl := HL.out
            refine UAt.put HU2.out 6 _ _ (fun _ _ => by rw [ext_take]; rfl) rfl rfl ?_
            simp only [PU.small, List.length_take, List.length_drop] at sm ⊢; omega
          · exact ((HLE1.out.kp b).set 6 _).le ((Le.refl _).drewN _)
        · have e58 : (c == 58) = false := by simpa using h58
          by_cases h59 : c = 59
          · subst h59
            obtain ⟨hp, h1⟩ := scan_hit HST.out 59 (by decide) rfl
            have hres : Hid (fHost (bs s) u = (.params, (bs s).drop (p + 1), { u with host := (bs s).take p })) := by
              have h2 := fHost_at (bs s) u p hp HQ.out (by rw [h1]; rfl)
              rw [h1] at h2
              exact h2
            clear h1 hp
            have U2 := hu.le HLE1.out
            have g6 := U2.c6
            have z6 := U2.frozen 6
            have HU2 := Lib.hid U2
            clear U2 hu
            go_wp2
            go_quiet (fail)
            go_wp2
            go_ret3
            refine ⟨ret3 ?_ ?_ rfl, ?_, ?_⟩
            · rw [hres.out]; rfl
            · rw [hres.out]; exact str_eq (ext_drop s (p + 1))
            · rw [hres.out]
              refine UAt.le ?_ ((Le.refl _).drewN _)
              have sm := HU2.out.sm
              have hl := HL.out
              refine UAt.put HU2.out 6 _ _ (fun _ _ => by rw [ext_take]; rfl) rfl rfl ?_
              simp only [PU.small, List.length_take, List.length_drop] at sm ⊢; omega
            · exact ((HLE1.out.kp b).set 6 _).le ((Le.refl _).drewN _)
          · have e59 : (c == 59) = false := by simpa using h59
            by_cases h63 : c = 63
            · subst h63
              obtain ⟨hp, h1⟩ := scan_hit HST.out 63 (by decide) rfl
              have hres : Hid (fHost (bs s) u = (.heads, (bs s).drop (p + 1), { u with host := (bs s).take p })) := by
                have h2 := fHost_at (bs s) u p hp HQ.out (by rw [h1]; rfl)
                rw [h1] at h2
                exact h2
              clear h1 hp
              have U2 := hu.le HLE1.out
              have g6 := U2.c6
              have z6 := U2.frozen 6
              have HU2 := Lib.hid U2
              clear U2 hu
              go_wp2
              go_quiet (fail)
              go_wp2
              go_ret3
              refine ⟨ret3 ?_ ?_ rfl, ?_, ?_⟩
              · rw [hres.out]; rfl
              · rw [hres.out]; exact str_eq (ext_drop s (p + 1))
              · rw [hres.out]
                refine UAt.le ?_ ((Le.refl _).drewN _)
                have sm := HU2.out.sm
                have hl := HL.out
                refine UAt.put HU2.out 6 _ _ (fun _ _ => by rw [ext_take]; rfl) rfl rfl ?_
                simp only [PU.small, List.length_take, List.length_drop] at sm ⊢; omega
              · exact ((HLE1.out.kp b).set 6 _).le ((Le.refl _).drewN _)
            · have e63 : (c == 63) = false := by simpa using h63
              have hF : Hid (((bs s).take (p + d)).all (fun c => !hoEnd c) = true) := scan_next (q := hoEnd) hoEnd_hi HST.out HQ.out (fun x hx => by
                have n91 : x ≠ 91 := by rintro rfl; exact h91 hx
                have n58 : x ≠ 58 := by rintro rfl; exact h58 hx
                have n59 : x ≠ 59 := by rintro rfl; exact h59 hx
                have n63 : x ≠ 63 := by rintro rfl; exact h63 hx
                simp [hoEnd, n91, n58, n59, n63])
              clear h91 h58 h59 h63
              go_wp2
              go_roundg (gk - d)
              case measure => omega
              case rel => exact ⟨p + d, by omega, HLE1.out, HIT1.out, hF.out⟩
    · have hnx := fun ty => Lib.run_next_end_at (P := Tryz.prog) wr _ s p ty hit hlt
      have hall : Hid ((bs s).all (fun c => !hoEnd c) = true) := by
        have h1 := HQ.out
        rw [List.take_of_length_le (by rw [HL.out]; omega)] at h1
        exact h1
      clear hit
      have hres : Hid (fHost (bs s) u = (.params, [], { u with host := bs s, wild := decide (bs s = [42]) })) := fHost_end _ _ hall.out
      have U1 := hu.le HLE.out
      have g6 := U1.c6
      have z6 := U1.frozen 6
      have g2 := U1.c2
      have z2 := U1.frozen 2
      have HU1 := Lib.hid U1
      clear U1 hu
      go_wp2
      go_ret3
      refine ⟨ret3 ?_ ?_ rfl, ?_, ?_⟩
      · rw [hres.out]; rfl
      · rw [hres.out]; rfl
      · rw [hres.out]
        have sm := HU1.out.sm
        have hl := HL.out
        refine UAt.put (UAt.put HU1.out 6 _ { u with host := bs s } (fun _ _ => by rw [show s = st (bs s) from (st_bs s).symm, bs_st]; rfl) rfl rfl ?_) 2 _ _ (fun _ _ => ?_) rfl rfl ?_
        · simp only [PU.small] at sm ⊢; omega
        · show _ = ({ u with host := bs s, wild := decide (bs s = [42]) } : PU).cells _ _
          rw [toList_beq]
          rfl
        · simp only [PU.small] at sm ⊢; omega
      · exact (((HLE.out.kp b).set 6 _).set 2 _)

/-- what a state that fails leaves -/
def ErrPost (b : Nat) (w : World) (e : Ending) (w' : World) : Prop :=
  ∃ v t T a u', e = .returned (.tuple #[v, .string t, .iface T (.pointer (some a))]) ∧ UAt w' b u' ∧ Kp b w w'
def RPost (b : Nat) (w : World) (r : Option (Sq × Tx × PU)) (e : Ending) (w' : World) : Prop :=
  match r with
  | some x => StPost b w x e w'
  | none => ErrPost b w e w'
theorem RPost.some {b : Nat} {w : World} {r : Option (Sq × Tx × PU)} {x : Sq × Tx × PU} {e : Ending} {w' : World} (h : r = some x) (k : StPost b w x e w') : RPost b w r e w' := by subst h; exact k
theorem RPost.none {b : Nat} {w : World} {r : Option (Sq × Tx × PU)} {e : Ending} {w' : World} (h : r = none) (k : ErrPost b w e w') : RPost b w r e w' := by subst h; exact k

/-! ### the slashes -/
set_option maxHeartbeats 400000 in
theorem slashes_c (s : ByteArray) (b : Nat) (u : PU) (w : World) (hu : UAt w b u) :
    Calls Tryz.prog 37 #[.pointer (some ⟨b, 0, none⟩), .string s] w (StPost b w (fSlashes (bs s) u)) := by
  have g3 := hu.c3
  have z3 := hu.frozen 3
  have HU := Lib.hid hu
  clear hu
  go_enter Tryz.func37, Tryz.ntmps37
  go_wp2_with fail
  refine (cut_c _ _ _).mono ?_
  rintro e w' ⟨rfl, rfl⟩
  have hb : Lib.hasPrefix (bs s) (bs ⟨#[47, 47]⟩) = [47, 47].isPrefixOf (bs s) := rfl
  have hp : Lib.trimPrefix (bs s) (bs ⟨#[47, 47]⟩) = if [47, 47].isPrefixOf (bs s) then (bs s).drop 2 else bs s := rfl
  rw [hb, hp]
  clear hb hp
  cases h : ([47, 47] : Tx).isPrefixOf (bs s)
  · have hres : Hid (fSlashes (bs s) u = (.user, bs s, { u with slash := false })) := by unfold fSlashes; rw [if_neg (by rw [h]; decide)]; exact rfl
    rw [if_neg (by decide)]
    clear h
    go_wp2
    go_ret3
    refine ⟨ret3 ?_ ?_ rfl, ?_, (kp_set _ _ _ _)⟩
    · rw [hres.out]; rfl
    · rw [hres.out]; rfl
    · rw [hres.out]; exact UAt.put HU.out 3 _ _ (fun _ _ => rfl) rfl rfl HU.out.sm
  · have hres : Hid (fSlashes (bs s) u = (.user, (bs s).drop 2, { u with slash := true })) := by unfold fSlashes; rw [if_pos h]; exact rfl
    rw [if_pos rfl]
    clear h
    go_wp2
    go_ret3
    refine ⟨ret3 ?_ ?_ rfl, ?_, (kp_set _ _ _ _)⟩
    · rw [hres.out]; rfl
    · rw [hres.out]; rfl
    · rw [hres.out]; exact UAt.put HU.out 3 _ _ (fun _ _ => rfl) rfl rfl HU.out.sm

/-! ### the port -/
def fPortU (l : Tx) (u : PU) : Option (Sq × Tx × PU) :=
  match Lib.atoiAll (fPort l).1 with
  | .ok v => some ((fPort l).2.1, (fPort l).2.2, { u with port := v })
  | _ => none
theorem poEnd_hi (x : UInt8) (h : 128 ≤ x.toNat) : poEnd x = false := by
  have n3 : x ≠ 59 := by rintro rfl; revert h; decide
  have n4 : x ≠ 63 := by rintro rfl; revert h; decide
  simp [poEnd, n3, n4]
theorem fPort_at (l : Tx) (i : Nat) (hi : i < l.length) (hn : (l.take i).all (fun c => !poEnd c) = true) (h : poEnd l[i] = true) :
    fPort l = (l.take i, if l[i] = 59 then .params else .heads, l.drop (i + 1)) := by
  unfold fPort
  simp only [scan_at hi h hn, if_pos hi, getD_at hi]
theorem fPort_end (l : Tx) (hn : l.all (fun c => !poEnd c) = true) : fPort l = (l, .params, []) := by
  unfold fPort
  simp only [scan_end hn, if_neg (Nat.lt_irrefl _)]
theorem fPortU_ok {l : Tx} {u : PU} {v : Int} {d : Tx} {q : Sq} {t : Tx} (h : fPort l = (d, q, t)) (hv : Lib.atoiAll d = .ok v) : fPortU l u = some (q, t, { u with port := v }) := by
  unfold fPortU; rw [h]; simp only [hv]
theorem fPortU_no {l : Tx} {u : PU} {d : Tx} {q : Sq} {t : Tx} (h : fPort l = (d, q, t)) (hv : ∀ v, Lib.atoiAll d ≠ .ok v) : fPortU l u = none := by
  unfold fPortU; rw [h]
  rcases hd : Lib.atoiAll d with v | _ | _
  · exact absurd hd (hv v)
  · rfl
  · rfl

set_option maxHeartbeats 1000000 in
theorem port_c (s : ByteArray) (b : Nat) (u : PU) (w : World) (hu : UAt w b u) (hs : s.size ≤ 1099511627776) (hL : Laid w) :
    Calls Tryz.prog 68 #[.pointer (some ⟨b, 0, none⟩), .string s] w (RPost b w (fPortU (bs s) u)) := by
  have HL := Lib.hid (bs_len s)
  go_enter Tryz.func68, Tryz.ntmps68
  go_wp2
  go_loopg [] (s.size) (fun n wr => ∃ p : Nat, n + p = s.size ∧ Le w wr ∧ wr.heap[w.heap.size]? = some (.stringIter s p) ∧ ((bs s).take p).all (fun c => !poEnd c) = true)
  case atStart => exact ⟨0, by omega, (Le.refl w).iter s 0, World.iter_heap _ _ _, rfl⟩
  case round =>
    obtain ⟨p, hn, hle, hit, hq⟩ := hrel
    have HQ := Lib.hid hq
    have HLE := Lib.hid hle
    have HN : gk + p ≤ s.size ∧ s.size ≤ gk + p := by omega
    clear hn hq hle
    by_cases hlt : p < s.size
    · obtain ⟨c, d, W1, hnx, hst, hit1, hW1⟩ := next_step (P := Tryz.prog) hit hlt
      have HLE1 := Lib.hid (hW1 ▸ HLE.out.iterAt (Nat.le_refl _) s (p + d) : Le w W1)
      have HST := Lib.hid hst
      have HS2 : 1 ≤ d ∧ p + d ≤ s.size ∧ 0 ≤ c ∧ c ≤ 1114111 := ⟨hst.1, hst.2.1, hst.2.2.1, hst.2.2.2.1⟩
      have HIT1 := Lib.hid hit1
      clear hW1 hst hit hit1
      by_cases h59 : c = 59
      · subst h59
        obtain ⟨hp, h1⟩ := scan_hit HST.out 59 (by decide) rfl
        have hf : Hid (fPort (bs s) = ((bs s).take p, .params, (bs s).drop (p + 1))) := by have h2 := fPort_at (bs s) p hp HQ.out (by rw [h1]; rfl); rw [h1] at h2; exact h2
        clear h1 hp
        go_wp2_with fail
        refine (atoi_c _ _ (by rw [← bs_len, bs_extract]; simp only [List.length_drop, List.length_take, HL.out]; omega) (hL.le HLE1.out)).mono ?_
        rintro e w2 ⟨hle2, hr⟩
        have HLE2 := Lib.hid (Le.trans HLE1.out hle2)
        have U2 := hu.le HLE2.out
        have g7 := U2.c7
        have z7 := U2.frozen 7
        have HU2 := Lib.hid U2
        clear U2 hu hle2 hL
        rcases hr with ⟨v, hv, rfl⟩ | ⟨hv, n, a, hn1, hn2, rfl⟩
        · have hres : Hid (fPortU (bs s) u = some (.params, (bs s).drop (p + 1), { u with port := v })) := fPortU_ok hf.out (by rw [← hv]; rw [bs_extract]; rfl)
          have hbd := Lib.hid (Lib.atoiAll_bounds hv)
          clear hv
          go_wp2
          go_quiet (fail)
          go_wp2
          go_ret3
          refine RPost.some hres.out ⟨ret3 rfl ?_ rfl, ?_, ?_⟩
          · exact str_eq (ext_drop s (p + 1))
          · refine UAt.le ?_ ((Le.refl _).drewN _)
            have sm := HU2.out.sm
            have hbd2 := hbd.out
            refine UAt.put HU2.out 7 _ _ (fun _ _ => rfl) rfl rfl ?_
            simp only [PU.small] at sm ⊢; omega
          · exact ((HLE2.out.kp b).set 7 _).le ((Le.refl _).drewN _)
        · have hres : Hid (fPortU (bs s) u = none) := fPortU_no hf.out (fun v h => hv v (by rw [← h]; rw [bs_extract]; rfl))
          clear hv
          go_wp2
          go_quiet (fail)
          go_wp2
          go_ret3
          refine RPost.none hres.out ⟨_, _, _, _, { u with port := n }, rfl, ?_, ?_⟩
          · refine UAt.le ?_ ((Le.refl _).drewN _)
            have sm := HU2.out.sm
            refine UAt.put HU2.out 7 _ _ (fun _ _ => rfl) rfl rfl ?_
            simp only [PU.small] at sm ⊢; omega
          · exact ((HLE2.out.kp b).set 7 _).le ((Le.refl _).drewN _)
      · have e59 : (c == 59) = false := by simpa using h59
        by_cases h63 : c = 63
        · subst h63
          obtain ⟨hp, h1⟩ := scan_hit HST.out 63 (by decide) rfl
          have hf : Hid (fPort (bs s) = ((bs s).take p, .heads, (bs s).drop (p + 1))) := by have h2 := fPort_at (bs s) p hp HQ.out (by rw [h1]; rfl); rw [h1] at h2; exact h2
          clear h1 hp
          go_wp2_with fail
          refine (atoi_c _ _ (by rw [← bs_len, bs_extract]; simp only [List.length_drop, List.length_take, HL.out]; omega) (hL.le HLE1.out)).mono ?_
          rintro e w2 ⟨hle2, hr⟩
          have HLE2 := Lib.hid (Le.trans HLE1.out hle2)
          have U2 := hu.le HLE2.out
          have g7 := U2.c7
          have z7 := U2.frozen 7
          have HU2 := Lib.hid U2
          clear U2 hu hle2 hL
          rcases hr with ⟨v, hv, rfl⟩ | ⟨hv, n, a, hn1, hn2, rfl⟩
          · have hres : Hid (fPortU (bs s) u = some (.heads, (bs s).drop (p + 1), { u with port := v })) := fPortU_ok hf.out (by rw [← hv]; rw [bs_extract]; rfl)
            have hbd := Lib.hid (Lib.atoiAll_bounds hv)
            clear hv
            go_wp2
            go_quiet (fail)
            go_wp2
            go_ret3
            refine RPost.some hres.out ⟨ret3 rfl ?_ rfl, ?_, ?_⟩
            · exact str_eq (ext_drop s (p + 1))
            · refine UAt.le ?_ ((Le.refl _).drewN _)
              have sm := HU2.out.sm
              have hbd2 := hbd.out
              refine UAt.put HU2.out 7 _ _ (fun _ _ => rfl) rfl rfl ?_
              simp only [PU.small] at sm ⊢; omega
            · exact ((HLE2.out.kp b).set 7 _).le ((Le.refl _).drewN _)
          · have hres : Hid (fPortU (bs s) u = none) := fPortU_no hf.out (fun v h => hv v (by rw [← h]; rw [bs_extract]; rfl))
            clear hv
            go_wp2
            go_quiet (fail)
            go_wp2
            go_ret3
            refine RPost.none hres.out ⟨_, _, _, _, { u with port := n }, rfl, ?_, ?_⟩
            · refine UAt.le ?_ ((Le.refl _).drewN _)
              have sm := HU2.out.sm
              refine UAt.put HU2.out 7 _ _ (fun _ _ => rfl) rfl rfl ?_
              simp only [PU.small] at sm ⊢; omega
            · exact ((HLE2.out.kp b).set 7 _).le ((Le.refl _).drewN _)
        · have e63 : (c == 63) = false := by simpa using h63
          have hF : Hid (((bs s).take (p + d)).all (fun c => !poEnd c) = true) := scan_next (q := poEnd) poEnd_hi HST.out HQ.out (fun x hx => by
            have n59 : x ≠ 59 := by rintro rfl; exact h59 hx
            have n63 : x ≠ 63 := by rintro rfl; exact h63 hx
            simp [poEnd, n59, n63])
          clear h59 h63
          go_wp2
          go_roundg (gk - d)
          case measure => omega
          case rel => exact ⟨p + d, by omega, HLE1.out, HIT1.out, hF.out⟩
    · have hnx := fun ty => Lib.run_next_end_at (P := Tryz.prog) wr _ s p ty hit hlt
      have hall : Hid ((bs s).all (fun c => !poEnd c) = true) := by
        have h1 := HQ.out
        rw [List.take_of_length_le (by rw [HL.out]; omega)] at h1
        exact h1
      clear hit
      have hf : Hid (fPort (bs s) = (bs s, .params, [])) := fPort_end _ hall.out
      clear hlt
      go_wp2_with fail
      refine (atoi_c _ _ hs (hL.le HLE.out)).mono ?_
      rintro e w2 ⟨hle2, hr⟩
      have HLE2 := Lib.hid (Le.trans HLE.out hle2)
      have U2 := hu.le HLE2.out
      have g7 := U2.c7
      have z7 := U2.frozen 7
      have HU2 := Lib.hid U2
      clear U2 hu hle2 hL
      rcases hr with ⟨v, hv, rfl⟩ | ⟨hv, n, a, hn1, hn2, rfl⟩
      · have hres : Hid (fPortU (bs s) u = some (.params, [], { u with port := v })) := fPortU_ok hf.out (by rw [← hv])
        have hbd := Lib.hid (Lib.atoiAll_bounds hv)
        clear hv
        go_wp2
        go_ret3
        refine RPost.some hres.out ⟨ret3 rfl ?_ rfl, ?_, ?_⟩
        · rfl
        · refine UAt.le ?_ (Le.refl _)
          have sm := HU2.out.sm
          have hbd2 := hbd.out
          refine UAt.put HU2.out 7 _ _ (fun _ _ => rfl) rfl rfl ?_
          simp only [PU.small] at sm ⊢; omega
        · exact ((HLE2.out.kp b).set 7 _).le (Le.refl _)
      · have hres : Hid (fPortU (bs s) u = none) := fPortU_no hf.out (fun v h => hv v (by rw [← h]))
        clear hv
        go_wp2
        go_ret3
        refine RPost.none hres.out ⟨_, _, _, _, { u with port := n }, rfl, ?_, ?_⟩
        · refine UAt.le ?_ (Le.refl _)
          have sm := HU2.out.sm
          refine UAt.put HU2.out 7 _ _ (fun _ _ => rfl) rfl rfl ?_
          simp only [PU.small] at sm ⊢; omega
        · exact ((HLE2.out.kp b).set 7 _).le (Le.refl _)

end Go.Proofs.YtgpkfocgoigokaaGreatDoor
set_option linter.unusedVariables false
set_option linter.unusedSimpArgs false
namespace Go.Proofs.YtgpkfocgoigokaaGreatDoor
open Go.RowKit

def nAl (c : UInt8) : Bool := !isAl c
theorem isAl_hi (x : UInt8) (h : 128 ≤ x.toNat) : isAl x = false := by
  rw [← alB_byte]
  simp only [alB, decide_eq_false_iff_not]
  omega
theorem fScheme_colon (l : Tx) (u : PU) (i : Nat) (h3 : ¬ l.length < 3) (hi : i < l.length) (hn : (l.take i).all (fun c => !nAl c) = true) (h : l[i] = 58) :
    fScheme l u = if (l.take i).map lowC = sSip ∨ (l.take i).map lowC = sSips then some (.slashes, l.drop (i + 1), { u with scheme := (l.take i).map lowC }) else some (.stop, [], { u with scheme := (l.take i).map lowC, raw := l.drop (i + 1) }) := by
  have hf : l.findIdx (fun c => !isAl c) = i := scan_at (p := nAl) hi (by rw [h]; rfl) hn
  unfold fScheme
  rw [if_neg h3]
  simp only [hf, if_pos hi, getD_at hi, h, if_true]
theorem fScheme_bad (l : Tx) (u : PU) (i : Nat) (h3 : ¬ l.length < 3) (hi : i < l.length) (hn : (l.take i).all (fun c => !nAl c) = true) (h : l[i] ≠ 58) (ha : isAl l[i] = false) : fScheme l u = none := by
  have hf : l.findIdx (fun c => !isAl c) = i := scan_at (p := nAl) hi (by unfold nAl; rw [ha]; rfl) hn
  unfold fScheme
  rw [if_neg h3]
  simp only [hf, if_pos hi, getD_at hi, if_neg h]
theorem fScheme_end (l : Tx) (u : PU) (h3 : ¬ l.length < 3) (hn : l.all (fun c => !nAl c) = true) : fScheme l u = none := by
  have hf : l.findIdx (fun c => !isAl c) = l.length := scan_end (p := nAl) hn
  unfold fScheme
  rw [if_neg h3]
  simp only [hf, if_neg (Nat.lt_irrefl _)]
theorem st_beq (l m : Tx) (h : l = m) : ((st l).toList == m) = true := by rw [toList_beq, bs_st]; simpa using h
theorem st_bne (l m : Tx) (h : l ≠ m) : ((st l).toList == m) = false := by rw [toList_beq, bs_st]; simpa using h

set_option maxHeartbeats 1000000 in
theorem scheme_c (s : ByteArray) (b : Nat) (u : PU) (w : World) (hu : UAt w b u) (hs : s.size ≤ 1099511627776) (h3 : ¬ s.size < 3) :
    Calls Tryz.prog 23 #[.pointer (some ⟨b, 0, none⟩), .string s] w (RPost b w (fScheme (bs s) u)) := by
  have HL := Lib.hid (bs_len s)
  have H3 : Hid (¬ (bs s).length < 3) := by rw [bs_len]; exact h3
  go_enter Tryz.func23, Tryz.ntmps23
  go_wp2
  go_loopg [] (s.size) (fun n wr => ∃ p : Nat, n + p = s.size ∧ Le w wr ∧ wr.heap[w.heap.size]? = some (.stringIter s p) ∧ ((bs s).take p).all (fun c => !nAl c) = true)
  case atStart => exact ⟨0, by omega, (Le.refl w).iter s 0, World.iter_heap _ _ _, rfl⟩
  case round =>
    obtain ⟨p, hn, hle, hit, hq⟩ := hrel
    have HQ := Lib.hid hq
    have HLE := Lib.hid hle
    have HN : gk + p ≤ s.size ∧ s.size ≤ gk + p := by omega
    clear hn hq hle
    by_cases hlt : p < s.size
    · obtain ⟨c, d, W1, hnx, hst, hit1, hW1⟩ := next_step (P := Tryz.prog) hit hlt
      have HLE1 := Lib.hid (hW1 ▸ HLE.out.iterAt (Nat.le_refl _) s (p + d) : Le w W1)
      have HST := Lib.hid hst
      have HS2 : 1 ≤ d ∧ p + d ≤ s.size ∧ 0 ≤ c ∧ c ≤ 1114111 := ⟨hst.1, hst.2.1, hst.2.2.1, hst.2.2.2.1⟩
      have HIT1 := Lib.hid hit1
      clear hW1 hst hit hit1
      by_cases h58 : c = 58
      · subst h58
        obtain ⟨hp, h1⟩ := scan_hit HST.out 58 (by decide) rfl
        
        have U2 := hu.le HLE1.out
        have HU2 := Lib.hid U2
        clear U2
        go_wp2_with fail
        refine (aSCIIToLower_c _ _ (by rw [← bs_len, bs_extract]; simp only [List.length_drop, List.length_take, HL.out]; omega)).mono ?_
        rintro e w2 ⟨rfl, hle2⟩
        have HLE2 := Lib.hid (Le.trans HLE1.out hle2)
        have U3 := HU2.out.le hle2
        have g0 := U3.c0
        have z0 := U3.frozen 0
        have g1 := U3.c1
        have z1 := U3.frozen 1
        have HU3 := Lib.hid U3
        have hbe : bs (s.extract 0 p) = (bs s).take p := by rw [bs_extract]; rfl
        rw [hbe]
        clear U3 hle2 hbe
        obtain ⟨sc, hsc⟩ : ∃ sc, sc = ((bs s).take p).map lowC := ⟨_, rfl⟩
        have h2 := fScheme_colon (bs s) u p H3.out hp HQ.out h1
        rw [← hsc] at h2
        rw [← hsc]
        have HSC : Hid (sc.length ≤ 1099511627776) := by rw [hsc, List.length_map, List.length_take, HL.out]; show _ ≤ _; omega
        clear hsc h1 hp hu
        by_cases hs1 : sc = sSip
        · have hres : Hid (fScheme (bs s) u = some (.slashes, (bs s).drop (p + 1), { u with scheme := sc })) := by rw [if_pos (.inl hs1)] at h2; exact h2
          clear h2
          have b1 := st_beq sc [115, 105, 112] hs1
          clear hs1
          go_wp2
          go_quiet (fail)
          go_wp2
          go_ret3
          refine RPost.some hres.out ⟨ret3 rfl ?_ rfl, ?_, ?_⟩
          · exact str_eq (ext_drop s (p + 1))
          · refine UAt.le ?_ ((Le.refl _).drewN _)
            have sm := HU3.out.sm
            have hsc := HSC.out
            refine UAt.put HU3.out 0 _ _ (fun _ _ => rfl) rfl rfl ?_
            simp only [PU.small] at sm ⊢; omega
          · exact ((HLE2.out.kp b).set 0 _).le ((Le.refl _).drewN _)
        · by_cases hs2 : sc = sSips
          · have hres : Hid (fScheme (bs s) u = some (.slashes, (bs s).drop (p + 1), { u with scheme := sc })) := by rw [if_pos (.inr hs2)] at h2; exact h2
            clear h2
            have b1 := st_bne sc [115, 105, 112] hs1
            have b2 := st_beq sc [115, 105, 112, 115] hs2
            clear hs1 hs2
            go_wp2
            go_quiet (fail)
            go_wp2
            go_ret3
            refine RPost.some hres.out ⟨ret3 rfl ?_ rfl, ?_, ?_⟩
            · exact str_eq (ext_drop s (p + 1))
            · refine UAt.le ?_ ((Le.refl _).drewN _)
              have sm := HU3.out.sm
              have hsc := HSC.out
              refine UAt.put HU3.out 0 _ _ (fun _ _ => rfl) rfl rfl ?_
              simp only [PU.small] at sm ⊢; omega
            · exact ((HLE2.out.kp b).set 0 _).le ((Le.refl _).drewN _)
          · have hres : Hid (fScheme (bs s) u = some (.stop, [], { u with scheme := sc, raw := (bs s).drop (p + 1) })) := by rw [if_neg (by rintro (h | h); exact hs1 h; exact hs2 h)] at h2; exact h2
            clear h2
            have b1 := st_bne sc [115, 105, 112] hs1
            have b2 := st_bne sc [115, 105, 112, 115] hs2
            clear hs1 hs2
            go_wp2
            go_ret3
            refine RPost.some hres.out ⟨ret3 rfl ?_ rfl, ?_, ?_⟩
            · rfl
            · have sm := HU3.out.sm
              have hsc := HSC.out
              have hl := HL.out
              refine UAt.put (UAt.put HU3.out 0 _ { u with scheme := sc } (fun _ _ => rfl) rfl rfl ?_) 1 _ _ (fun _ _ => by rw [ext_drop]; rfl) rfl rfl ?_
              all_goals simp only [PU.small, List.length_drop] at sm ⊢; omega
            · exact (((HLE2.out.kp b).set 0 _).set 1 _)
      · have e58 : (c == 58) = false := by simpa using h58
        go_wp2_with fail
        refine (isASCII_c _ _).mono ?_
        rintro e w2 ⟨rfl, rfl⟩
        by_cases hal : alB c = true
        · have hF : Hid (((bs s).take (p + d)).all (fun c => !nAl c) = true) := by
            obtain ⟨_, _, _, _, h5⟩ := HST.out
            rcases h5 with ⟨hp, e, rfl, _⟩ | ⟨e, _⟩
            · show ((bs s).take (p + 1)).all _ = true
              rw [List.take_succ_eq_append_getElem hp, all_snoc, HQ.out]
              rw [e, alB_byte] at hal
              simp [nAl, hal]
            · simp only [alB, decide_eq_true_eq] at hal
              omega
          clear h58
          go_wp2
          go_roundg (gk - d)
          case measure => omega
          case rel => exact ⟨p + d, by omega, HLE1.out, HIT1.out, hF.out⟩
        · have hal2 : alB c = false := by simpa using hal
          have hres : Hid (fScheme (bs s) u = none) := by
            obtain ⟨_, _, _, _, h5⟩ := HST.out
            have hp : p < (bs s).length := by rw [HL.out]; exact hlt
            rcases h5 with ⟨_, e, rfl, _⟩ | ⟨e, h6⟩
            · refine fScheme_bad _ _ p H3.out hp HQ.out (fun e2 => ?_) (by rw [← alB_byte, ← e]; exact hal2)
              rw [e2] at e
              exact h58 e
            · have h7 := h6 p hp (Nat.le_refl _) (by omega)
              refine fScheme_bad _ _ p H3.out hp HQ.out (fun e2 => ?_) (isAl_hi _ h7)
              rw [e2] at h7
              revert h7; decide
          clear hal h58
          go_wp2_with fail
          refine (errnew_c _ _).mono ?_
          rintro e w3 ⟨rfl, hle3⟩
          have HLE3 := Lib.hid (Le.trans HLE1.out hle3)
          have HU3 := Lib.hid (hu.le HLE3.out)
          clear hu hle3
          go_wp2
          go_ret3
          exact RPost.none hres.out ⟨_, _, _, _, u, rfl, HU3.out, HLE3.out.kp b⟩
    · have hnx := fun ty => Lib.run_next_end_at (P := Tryz.prog) wr _ s p ty hit hlt
      have hall : Hid ((bs s).all (fun c => !nAl c) = true) := by
        have h1 := HQ.out
        rw [List.take_of_length_le (by rw [HL.out]; omega)] at h1
        exact h1
      clear hit
      have hres : Hid (fScheme (bs s) u = none) := fScheme_end _ _ H3.out hall.out
      go_wp2_with fail
      refine (errnew_c _ _).mono ?_
      rintro e w3 ⟨rfl, hle3⟩
      have HLE3 := Lib.hid (Le.trans HLE.out hle3)
      have HU3 := Lib.hid (hu.le HLE3.out)
      clear hu hle3
      go_wp2
      go_ret3
      exact RPost.none hres.out ⟨_, _, _, _, u, rfl, HU3.out, HLE3.out.kp b⟩


set_option maxHeartbeats 400000 in
theorem scheme_short (s : ByteArray) (b : Nat) (u : PU) (w : World) (hu : UAt w b u) (h3 : s.size < 3) :
    Calls Tryz.prog 23 #[.pointer (some ⟨b, 0, none⟩), .string s] w (RPost b w (fScheme (bs s) u)) := by
  have h3' : (bs s).length < 3 := by rw [bs_len]; exact h3
  by_cases hst : bs s = [42]
  · have hres : Hid (fScheme (bs s) u = some (.stop, [], { u with host := [42], wild := true })) := by unfold fScheme; rw [if_pos h3', if_pos hst]; exact rfl
    have hb : (s.toList == [42]) = true := by rw [toList_beq]; simpa using hst
    have g6 := hu.c6
    have z6 := hu.frozen 6
    have g2 := hu.c2
    have z2 := hu.frozen 2
    have HU := Lib.hid hu
    clear hu hst h3'
    go_enter Tryz.func23, Tryz.ntmps23
    go_wp2
    go_ret3
    refine RPost.some hres.out ⟨ret3 rfl rfl rfl, ?_, ((kp_set _ _ _ _).set _ _)⟩
    have sm := HU.out.sm
    refine UAt.put (UAt.put HU.out 6 _ { u with host := [42] } (fun _ _ => rfl) rfl rfl ?_) 2 _ _ (fun _ _ => rfl) rfl rfl ?_
    all_goals simp only [PU.small, List.length_cons, List.length_nil] at sm ⊢; omega
  · have hres : Hid (fScheme (bs s) u = none) := by unfold fScheme; rw [if_pos h3', if_neg hst]; exact rfl
    have hb : (s.toList == [42]) = false := by rw [toList_beq]; simpa using hst
    clear hst h3'
    go_enter Tryz.func23, Tryz.ntmps23
    go_wp2_with fail
    refine (errnew_c _ _).mono ?_
    rintro e w3 ⟨rfl, hle3⟩
    have HLE3 := Lib.hid hle3
    have HU3 := Lib.hid (hu.le hle3)
    clear hu hle3
    go_wp2
    go_ret3
    exact RPost.none hres.out ⟨_, _, _, _, u, rfl, HU3.out, HLE3.out.kp b⟩
theorem schemes_c (s : ByteArray) (b : Nat) (u : PU) (w : World) (hu : UAt w b u) (hs : s.size ≤ 1099511627776) :
    Calls Tryz.prog 23 #[.pointer (some ⟨b, 0, none⟩), .string s] w (RPost b w (fScheme (bs s) u)) := by
  by_cases h3 : s.size < 3
  · exact scheme_short s b u w hu h3
  · exact scheme_c s b u w hu hs h3

/-! ### an address between brackets -/
set_option maxHeartbeats 400000 in
theorem zzIndex_c (s p : ByteArray) (w : World) (hs : s.size ≤ 1099511627776) (hp : p.size ≤ 1099511627776) :
    Calls Tryz.prog 43 #[.string s, .string p] w fun e w' => ∃ r : Int, (r = -1 ∨ 0 ≤ r ∧ r + p.size ≤ s.size) ∧ e = .returned (.int .i64 r) ∧ w = w' := by
  go_enter Tryz.func43, Tryz.ntmps43
  go_wp2
  go_loopg [5] (s.size + 1) (fun n i wr => ∃ k : Nat, n + k = s.size + 1 ∧ i = .int .i64 k ∧ w = wr)
  case atStart => exact ⟨0, by omega, rfl, rfl⟩
  case round =>
    obtain ⟨k, hn, rfl, rfl⟩ := hrel
    by_cases hk : k + p.size ≤ s.size
    · go_wp2
      · go_ret
        exact ⟨k, .inr ⟨by omega, by omega⟩, rfl, rfl⟩
      · go_roundg (gk - 1)
        case measure => omega
        case rel => exact ⟨k + 1, by omega, by go_num, rfl⟩
    · go_wp2
      go_ret
      exact ⟨-1, .inl rfl, rfl, rfl⟩

end Go.Proofs.YtgpkfocgoigokaaGreatDoor
set_option linter.unusedVariables false
set_option linter.unusedSimpArgs false
namespace Go.Proofs.YtgpkfocgoigokaaGreatDoor
open Go.RowKit

def IpPost (b : Nat) (w : World) (l : Tx) (u : PU) (e : Ending) (w' : World) : Prop := (∃ k, StPost b w (fIp l k u) e w') ∨ ErrPost b w e w'
set_option maxHeartbeats 1000000 in
theorem ip_c (s : ByteArray) (b : Nat) (u : PU) (w : World) (hu : UAt w b u) (hs : s.size ≤ 1099511627776) :
    Calls Tryz.prog 67 #[.pointer (some ⟨b, 0, none⟩), .string s] w (IpPost b w (bs s) u) := by
  have HL := Lib.hid (bs_len s)
  have g6 := hu.c6
  have z6 := hu.frozen 6
  have HU := Lib.hid hu
  clear hu
  go_enter Tryz.func67, Tryz.ntmps67
  go_wp2_with fail
  refine (zzIndex_c _ _ _ ?_ (by simp [ByteArray.size])).mono ?_
  · rw [← bs_len, bs_extract]; simp only [List.length_drop, List.length_take, HL.out]; omega
  rintro e w' ⟨r, hr, rfl, rfl⟩
  have hr2 : r = -1 ∨ 0 ≤ r ∧ r + 1 ≤ s.size := by
    rcases hr with h | ⟨h1, h2⟩
    · exact .inl h
    · refine .inr ⟨h1, ?_⟩
      rw [← bs_len (s.extract _ _), bs_extract] at h2
      simp only [List.length_drop, List.length_take, HL.out] at h2
      have e1 : (ByteArray.mk #[93]).size = 1 := rfl
      rw [e1] at h2
      omega
  clear hr
  by_cases hr0 : r ≤ 0
  · clear hr2
    go_wp2_with fail
    refine (errnew_c _ _).mono ?_
    rintro e w3 ⟨rfl, hle3⟩
    have HLE3 := Lib.hid hle3
    have HU3 := Lib.hid (HU.out.le hle3)
    clear hle3
    go_wp2
    go_ret3
    exact .inr ⟨_, _, _, _, u, rfl, HU3.out, HLE3.out.kp b⟩
  · obtain ⟨n, rfl⟩ : ∃ n : Nat, r = n := ⟨r.toNat, by omega⟩
    have hn : n + 1 ≤ s.size ∧ 1 ≤ n := by omega
    clear hr2 hr0
    by_cases he : n + 1 = s.size
    · have hb : (((n : Int) + 1) == (s.size : Int)) = true := by simp; omega
      have hres : Hid (fIp (bs s) n u = (.params, [], { u with host := (bs s).take (n + 1) })) := by
        unfold fIp
        rw [List.drop_of_length_le (by rw [HL.out]; omega)]
        exact rfl
      clear he
      go_wp2
      go_ret3
      refine .inl ⟨n, ret3 ?_ ?_ rfl, ?_, kp_set _ _ _ _⟩
      · rw [hres.out]; rfl
      · rw [hres.out]; rfl
      · rw [hres.out]
        have sm := HU.out.sm
        have hl := HL.out
        refine UAt.put HU.out 6 _ _ (fun _ _ => by rw [ext_take]; rfl) rfl rfl ?_
        simp only [PU.small, List.length_take] at sm ⊢; omega
    · have hb : (((n : Int) + 1) == (s.size : Int)) = false := by simp; omega
      have hn2 : n + 1 < s.size := by omega
      have hp : n + 1 < (bs s).length := by rw [HL.out]; exact hn2
      have h0 : 0 < (s.extract (n + 1) s.size).size := by rw [← bs_len, bs_extract]; simp only [List.length_drop, List.length_take, HL.out]; omega
      have hx : (s.extract (n + 1) s.size)[0]'h0 = (bs s)[n + 1] := by
        rw [at_bs _ _ h0]
        simp only [bs_extract, List.getElem_drop, List.getElem_take, Nat.add_zero]
      have hdr : (bs s).drop (n + 1) = (bs s)[n + 1] :: (bs s).drop (n + 2) := List.drop_eq_getElem_cons hp
      have hext : Hid ((s.extract (n + 1) s.size).extract 1 (s.size - (n + 1)) = st ((bs s).drop (n + 2))) := by
        have hz : (s.extract (n + 1) s.size).size = s.size - (n + 1) := by rw [← bs_len, bs_extract]; simp only [List.length_drop, List.length_take, HL.out]; omega
        rw [← hz, ext_drop, bs_extract, List.take_of_length_le (by rw [HL.out]; exact Nat.le_refl _), List.drop_drop]; exact rfl
      clear he
      by_cases c1 : (bs s)[n + 1] = 58
      · have hres := Lib.hid (show fIp (bs s) n u = (.port, (bs s).drop (n + 2), { u with host := (bs s).take (n + 1) }) from by
          unfold fIp; rw [hdr]; simp only [if_pos c1])
        have hv : (((s.extract (n + 1) s.size)[0]'h0).toNat : Int) = 58 := by rw [hx, c1]; rfl
        clear c1 hx hdr hp
        go_wp2
        go_quiet (fail)
        go_wp2
        go_ret3
        refine .inl ⟨n, ret3 ?_ ?_ rfl, ?_, (kp_set _ _ _ _).le ((Le.refl _).drewN _)⟩
        · rw [hres.out]; rfl
        · rw [hres.out]; exact str_eq hext.out
        · rw [hres.out]
          refine UAt.le ?_ ((Le.refl _).drewN _)
          have sm := HU.out.sm
          have hl := HL.out
          refine UAt.put HU.out 6 _ _ (fun _ _ => by rw [ext_take]; rfl) rfl rfl ?_
          simp only [PU.small, List.length_take] at sm ⊢; omega
      have b1 : ((((s.extract (n + 1) s.size)[0]'h0).toNat : Int) == 58) = false := by
        rw [hx]; simp only [beq_eq_false_iff_ne, ne_eq]; intro h; exact c1 (u8_of (n := 58) h (by decide))
      by_cases c2 : (bs s)[n + 1] = 59
      · have hres := Lib.hid (show fIp (bs s) n u = (.params, (bs s).drop (n + 2), { u with host := (bs s).take (n + 1) }) from by
          unfold fIp; rw [hdr]; simp only [if_neg c1, if_pos c2])
        have hv : (((s.extract (n + 1) s.size)[0]'h0).toNat : Int) = 59 := by rw [hx, c2]; rfl
        clear c1 c2 hx hdr hp b1
        go_wp2
        go_quiet (fail)
        go_wp2
        go_ret3
        refine .inl ⟨n, ret3 ?_ ?_ rfl, ?_, (kp_set _ _ _ _).le ((Le.refl _).drewN _)⟩
        · rw [hres.out]; rfl
        · rw [hres.out]; exact str_eq hext.out
        · rw [hres.out]
          refine UAt.le ?_ ((Le.refl _).drewN _)
          have sm := HU.out.sm
          have hl := HL.out
          refine UAt.put HU.out 6 _ _ (fun _ _ => by rw [ext_take]; rfl) rfl rfl ?_
          simp only [PU.small, List.length_take] at sm ⊢; omega
      have b2 : ((((s.extract (n + 1) s.size)[0]'h0).toNat : Int) == 59) = false := by
        rw [hx]; simp only [beq_eq_false_iff_ne, ne_eq]; intro h; exact c2 (u8_of (n := 59) h (by decide))
      by_cases c3 : (bs s)[n + 1] = 63
      · have hres := Lib.hid (show fIp (bs s) n u = (.heads, (bs s).drop (n + 2), { u with host := (bs s).take (n + 1) }) from by
          unfold fIp; rw [hdr]; simp only [if_neg c1, if_neg c2, if_pos c3])
        have hv : (((s.extract (n + 1) s.size)[0]'h0).toNat : Int) = 63 := by rw [hx, c3]; rfl
        clear c1 c2 c3 hx hdr hp b1 b2
        go_wp2
        go_quiet (fail)
        go_wp2
        go_ret3
        refine .inl ⟨n, ret3 ?_ ?_ rfl, ?_, (kp_set _ _ _ _).le ((Le.refl _).drewN _)⟩
        · rw [hres.out]; rfl
        · rw [hres.out]; exact str_eq hext.out
        · rw [hres.out]
          refine UAt.le ?_ ((Le.refl _).drewN _)
          have sm := HU.out.sm
          have hl := HL.out
          refine UAt.put HU.out 6 _ _ (fun _ _ => by rw [ext_take]; rfl) rfl rfl ?_
          simp only [PU.small, List.length_take] at sm ⊢; omega
      have b3 : ((((s.extract (n + 1) s.size)[0]'h0).toNat : Int) == 63) = false := by
        rw [hx]; simp only [beq_eq_false_iff_ne, ne_eq]; intro h; exact c3 (u8_of (n := 63) h (by decide))
      have hres := Lib.hid (show fIp (bs s) n u = (.params, [], { u with host := (bs s).take (n + 1) }) from by
        unfold fIp; rw [hdr]; simp only [if_neg c1, if_neg c2, if_neg c3])
      clear c1 c2 c3 hx hdr hp
      go_wp2
      go_ret3
      refine .inl ⟨n, ret3 ?_ ?_ rfl, ?_, kp_set _ _ _ _⟩
      · rw [hres.out]; rfl
      · rw [hres.out]; rfl
      · rw [hres.out]
        have sm := HU.out.sm
        have hl := HL.out
        refine UAt.put HU.out 6 _ _ (fun _ _ => by rw [ext_take]; rfl) rfl rfl ?_
        simp only [PU.small, List.length_take] at sm ⊢; omega
end Go.Proofs.YtgpkfocgoigokaaGreatDoor
