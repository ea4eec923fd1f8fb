/- Contracts: the scheme's state, the state of an address between brackets (printed by gen_parse3.py). -/
import Derived.Test.YtbdeohmdpkkpdaaGreatDoorParse2
set_option linter.unusedVariables false
set_option linter.unusedSimpArgs false
namespace Go.Proofs.YtbdeohmdpkkpdaaGreatDoor
open Go.RowKit

def nAl (c : UInt8) : Bool := !isAl c
theorem isAl_hi (x : UInt8) (h : 128 ≤ x.toNat) : isAl x = false := by
  rw [← alB_byte]
  simp only [alB, decide_eq_false_iff_not]
  omega
theorem fScheme_colon (l : Tx) (u : PU) (i : Nat) (h3 : ¬ l.length < 3) (hi : i < l.length) (hn : (l.take i).all (fun c => !nAl c) = true) (h : l[i] = 58) :
    fScheme l u = if (l.take i).map lowC = sSip ∨ (l.take i).map lowC = sSips then some (.slashes, l.drop (i + 1), { u with scheme := (l.take i).map lowC }) else some (.stop, [], { u with scheme := (l.take i).map lowC, raw := l.drop (i + 1) }) := by
  have hf : l.findIdx (fun c => !isAl c) = i := scan_at (p := nAl) hi (by rw [h]; rfl) hn
  unfold fScheme
  rw [if_neg h3]
  simp only [hf, if_pos hi, getD_at hi, h, if_true]
theorem fScheme_bad (l : Tx) (u : PU) (i : Nat) (h3 : ¬ l.length < 3) (hi : i < l.length) (hn : (l.take i).all (fun c => !nAl c) = true) (h : l[i] ≠ 58) (ha : isAl l[i] = false) : fScheme l u = none := by
  have hf : l.findIdx (fun c => !isAl c) = i := scan_at (p := nAl) hi (by unfold nAl; rw [ha]; rfl) hn
  unfold fScheme
  rw [if_neg h3]
  simp only [hf, if_pos hi, getD_at hi, if_neg h]
theorem fScheme_end (l : Tx) (u : PU) (h3 : ¬ l.length < 3) (hn : l.all (fun c => !nAl c) = true) : fScheme l u = none := by
  have hf : l.findIdx (fun c => !isAl c) = l.length := scan_end (p := nAl) hn
  unfold fScheme
  rw [if_neg h3]
  simp only [hf, if_neg (Nat.lt_irrefl _)]
theorem st_beq (l m : Tx) (h : l = m) : ((st l).toList == m) = true := by rw [toList_beq, bs_st]; simpa using h
theorem st_bne (l m : Tx) (h : l ≠ m) : ((st l).toList == m) = false := by rw [toList_beq, bs_st]; simpa using h

set_option maxHeartbeats 1000000 in
theorem scheme_c (s : ByteArray) (b : Nat) (u : PU) (w : World) (hu : UAt w b u) (hs : s.size ≤ 1099511627776) (h3 : ¬ s.size < 3) :
    Calls Tryz.prog 117 #[.pointer (some ⟨b, 0, none⟩), .string s] w (RPost b w (fScheme (bs s) u)) := by
  have HL := Lib.hid (bs_len s)
  have H3 : Hid (¬ (bs s).length < 3) := by rw [bs_len]; exact h3
  go_enter Tryz.func117, Tryz.ntmps117
  go_wp2
  go_loopg [] (s.size) (fun n wr => ∃ p : Nat, n + p = s.size ∧ Le w wr ∧ wr.heap[w.heap.size]? = some (.stringIter s p) ∧ ((bs s).take p).all (fun c => !nAl c) = true)
  case atStart => exact ⟨0, by omega, (Le.refl w).iter s 0, World.iter_heap _ _ _, rfl⟩
  case round =>
    obtain ⟨p, hn, hle, hit, hq⟩ := hrel
    have HQ := Lib.hid hq
    have HLE := Lib.hid hle
    have HN : gk + p ≤ s.size ∧ s.size ≤ gk + p := by omega
    clear hn hq hle
    by_cases hlt : p < s.size
    · obtain ⟨c, d, W1, hnx, hst, hit1, hW1⟩ := next_step (P := Tryz.prog) hit hlt
      have HLE1 := Lib.hid (hW1 ▸ HLE.out.iterAt (Nat.le_refl _) s (p + d) : Le w W1)
      have HST := Lib.hid hst
      have HS2 : 1 ≤ d ∧ p + d ≤ s.size ∧ 0 ≤ c ∧ c ≤ 1114111 := ⟨hst.1, hst.2.1, hst.2.2.1, hst.2.2.2.1⟩
      have HIT1 := Lib.hid hit1
      clear hW1 hst hit hit1
      by_cases h58 : c = 58
      · subst h58
        obtain ⟨hp, h1⟩ := scan_hit HST.out 58 (by decide) rfl
        
        have U2 := hu.le HLE1.out
        have HU2 := Lib.hid U2
        clear U2
        go_wp2_with fail
        refine (aSCIIToLower_c _ _ (by rw [← bs_len, bs_extract]; simp only [List.length_drop, List.length_take, HL.out]; omega)).mono ?_
        rintro e w2 ⟨rfl, hle2⟩
        have HLE2 := Lib.hid (Le.trans HLE1.out hle2)
        have U3 := HU2.out.le hle2
        have g0 := U3.c0
        have z0 := U3.frozen 0
        have g1 := U3.c1
        have z1 := U3.frozen 1
        have HU3 := Lib.hid U3
        have hbe : bs (s.extract 0 p) = (bs s).take p := by rw [bs_extract]; rfl
        rw [hbe]
        clear U3 hle2 hbe
        obtain ⟨sc, hsc⟩ : ∃ sc, sc = ((bs s).take p).map lowC := ⟨_, rfl⟩
        have h2 := fScheme_colon (bs s) u p H3.out hp HQ.out h1
        rw [← hsc] at h2
        rw [← hsc]
        have HSC : Hid (sc.length ≤ 1099511627776) := by rw [hsc, List.length_map, List.length_take, HL.out]; show _ ≤ _; omega
        clear hsc h1 hp hu
        by_cases hs1 : sc = sSip
        · have hres : Hid (fScheme (bs s) u = some (.slashes, (bs s).drop (p + 1), { u with scheme := sc })) := by rw [if_pos (.inl hs1)] at h2; exact h2
          clear h2
          have b1 := st_beq sc [115, 105, 112] hs1
          clear hs1
          go_wp2
          go_quiet (fail)
          go_wp2
          go_ret3
          refine RPost.some hres.out ⟨ret3 rfl ?_ rfl, ?_, ?_⟩
          · exact str_eq (ext_drop s (p + 1))
          · refine UAt.le ?_ ((Le.refl _).drewN _)
            have sm := HU3.out.sm
            have hsc := HSC.out
            refine UAt.put HU3.out 0 _ _ (fun _ _ => rfl) rfl rfl ?_
            simp only [PU.small] at sm ⊢; omega
          · exact ((HLE2.out.kp b).set 0 _).le ((Le.refl _).drewN _)
        · by_cases hs2 : sc = sSips
          · have hres : Hid (fScheme (bs s) u = some (.slashes, (bs s).drop (p + 1), { u with scheme := sc })) := by rw [if_pos (.inr hs2)] at h2; exact h2
            clear h2
            have b1 := st_bne sc [115, 105, 112] hs1
            have b2 := st_beq sc [115, 105, 112, 115] hs2
            clear hs1 hs2
            go_wp2
            go_quiet (fail)
            go_wp2
            go_ret3
            refine RPost.some hres.out ⟨ret3 rfl ?_ rfl, ?_, ?_⟩
            · exact str_eq (ext_drop s (p + 1))
            · refine UAt.le ?_ ((Le.refl _).drewN _)
              have sm := HU3.out.sm
              have hsc := HSC.out
              refine UAt.put HU3.out 0 _ _ (fun _ _ => rfl) rfl rfl ?_
              simp only [PU.small] at sm ⊢; omega
            · exact ((HLE2.out.kp b).set 0 _).le ((Le.refl _).drewN _)
          · have hres : Hid (fScheme (bs s) u = some (.stop, [], { u with scheme := sc, raw := (bs s).drop (p + 1) })) := by rw [if_neg (by rintro (h | h); exact hs1 h; exact hs2 h)] at h2; exact h2
            clear h2
            have b1 := st_bne sc [115, 105, 112] hs1
            have b2 := st_bne sc [115, 105, 112, 115] hs2
            clear hs1 hs2
            go_wp2
            go_ret3
            refine RPost.some hres.out ⟨ret3 rfl ?_ rfl, ?_, ?_⟩
            · rfl
            · have sm := HU3.out.sm
              have hsc := HSC.out
              have hl := HL.out
              refine UAt.put (UAt.put HU3.out 0 _ { u with scheme := sc } (fun _ _ => rfl) rfl rfl ?_) 1 _ _ (fun _ _ => by rw [ext_drop]; rfl) rfl rfl ?_
              all_goals simp only [PU.small, List.length_drop] at sm ⊢; omega
            · exact (((HLE2.out.kp b).set 0 _).set 1 _)
      · have e58 : (c == 58) = false := by simpa using h58
        go_wp2_with fail
        refine (isASCII_c _ _).mono ?_
        rintro e w2 ⟨rfl, rfl⟩
        by_cases hal : alB c = true
        · have hF : Hid (((bs s).take (p + d)).all (fun c => !nAl c) = true) := by
            obtain ⟨_, _, _, _, h5⟩ := HST.out
            rcases h5 with ⟨hp, e, rfl, _⟩ | ⟨e, _⟩
            · show ((bs s).take (p + 1)).all _ = true
              rw [List.take_succ_eq_append_getElem hp, all_snoc, HQ.out]
              rw [e, alB_byte] at hal
              simp [nAl, hal]
            · simp only [alB, decide_eq_true_eq] at hal
              omega
          clear h58
          go_wp2
          go_roundg (gk - d)
          case measure => omega
          case rel => exact ⟨p + d, by omega, HLE1.out, HIT1.out, hF.out⟩
        · have hal2 : alB c = false := by simpa using hal
          have hres : Hid (fScheme (bs s) u = none) := by
            obtain ⟨_, _, _, _, h5⟩ := HST.out
            have hp : p < (bs s).length := by rw [HL.out]; exact hlt
            rcases h5 with ⟨_, e, rfl, _⟩ | ⟨e, h6⟩
            · refine fScheme_bad _ _ p H3.out hp HQ.out (fun e2 => ?_) (by rw [← alB_byte, ← e]; exact hal2)
              rw [e2] at e
              exact h58 e
            · have h7 := h6 p hp (Nat.le_refl _) (by omega)
              refine fScheme_bad _ _ p H3.out hp HQ.out (fun e2 => ?_) (isAl_hi _ h7)
              rw [e2] at h7
              revert h7; decide
          clear hal h58
          go_wp2_with fail
          refine (errnew_c _ _).mono ?_
          rintro e w3 ⟨rfl, hle3⟩
          have HLE3 := Lib.hid (Le.trans HLE1.out hle3)
          have HU3 := Lib.hid (hu.le HLE3.out)
          clear hu hle3
          go_wp2
          go_ret3
          exact RPost.none hres.out ⟨_, _, _, _, u, rfl, HU3.out, HLE3.out.kp b⟩
    · have hnx := fun ty => Lib.run_next_end_at (P := Tryz.prog) wr _ s p ty hit hlt
      have hall : Hid ((bs s).all (fun c => !nAl c) = true) := by
        have h1 := HQ.out
        rw [List.take_of_length_le (by rw [HL.out]; omega)] at h1
        exact h1
      clear hit
      have hres : Hid (fScheme (bs s) u = none) := fScheme_end _ _ H3.out hall.out
      go_wp2_with fail
      refine (errnew_c _ _).mono ?_
      rintro e w3 ⟨rfl, hle3⟩
      have HLE3 := Lib.hid (Le.trans HLE.out hle3)
      have HU3 := Lib.hid (hu.le HLE3.out)
      clear hu hle3
      go_wp2
      go_ret3
      exact RPost.none hres.out ⟨_, _, _, _, u, rfl, HU3.out, HLE3.out.kp b⟩


set_option maxHeartbeats 400000 in
theorem scheme_short (s : ByteArray) (b : Nat) (u : PU) (w : World) (hu : UAt w b u) (h3 : s.size < 3) :
    Calls Tryz.prog 117 #[.pointer (some ⟨b, 0, none⟩), .string s] w (RPost b w (fScheme (bs s) u)) := by
  have h3' : (bs s).length < 3 := by rw [bs_len]; exact h3
  by_cases hst : bs s = [42]
  · have hres : Hid (fScheme (bs s) u = some (.stop, [], { u with host := [42], wild := true })) := by unfold fScheme; rw [if_pos h3', if_pos hst]; exact rfl
    have hb : (s.toList == [42]) = true := by rw [toList_beq]; simpa using hst
    have g6 := hu.c6
    have z6 := hu.frozen 6
    have g2 := hu.c2
    have z2 := hu.frozen 2
    have HU := Lib.hid hu
    clear hu hst h3'
    go_enter Tryz.func117, Tryz.ntmps117
    go_wp2
    go_ret3
    refine RPost.some hres.out ⟨ret3 rfl rfl rfl, ?_, ((kp_set _ _ _ _).set _ _)⟩
    have sm := HU.out.sm
    refine UAt.put (UAt.put HU.out 6 _ { u with host := [42] } (fun _ _ => rfl) rfl rfl ?_) 2 _ _ (fun _ _ => rfl) rfl rfl ?_
    all_goals simp only [PU.small, List.length_cons, List.length_nil] at sm ⊢; omega
  · have hres : Hid (fScheme (bs s) u = none) := by unfold fScheme; rw [if_pos h3', if_neg hst]; exact rfl
    have hb : (s.toList == [42]) = false := by rw [toList_beq]; simpa using hst
    clear hst h3'
    go_enter Tryz.func117, Tryz.ntmps117
    go_wp2_with fail
    refine (errnew_c _ _).mono ?_
    rintro e w3 ⟨rfl, hle3⟩
    have HLE3 := Lib.hid hle3
    have HU3 := Lib.hid (hu.le hle3)
    clear hu hle3
    go_wp2
    go_ret3
    exact RPost.none hres.out ⟨_, _, _, _, u, rfl, HU3.out, HLE3.out.kp b⟩
theorem schemes_c (s : ByteArray) (b : Nat) (u : PU) (w : World) (hu : UAt w b u) (hs : s.size ≤ 1099511627776) :
    Calls Tryz.prog 117 #[.pointer (some ⟨b, 0, none⟩), .string s] w (RPost b w (fScheme (bs s) u)) := by
  by_cases h3 : s.size < 3
  · exact scheme_short s b u w hu h3
  · exact scheme_c s b u w hu hs h3

/-! ### an address between brackets -/
set_option maxHeartbeats 400000 in
theorem zzIndex_c (s p : ByteArray) (w : World) (hs : s.size ≤ 1099511627776) (hp : p.size ≤ 1099511627776) :
    Calls Tryz.prog 159 #[.string s, .string p] w fun e w' => ∃ r : Int, (r = -1 ∨ 0 ≤ r ∧ r + p.size ≤ s.size) ∧ e = .returned (.int .i64 r) ∧ w = w' := by
  go_enter Tryz.func159, Tryz.ntmps159
  go_wp2
  go_loopg [5] (s.size + 1) (fun n i wr => ∃ k : Nat, n + k = s.size + 1 ∧ i = .int .i64 k ∧ w = wr)
  case atStart => exact ⟨0, by omega, rfl, rfl⟩
  case round =>
    obtain ⟨k, hn, rfl, rfl⟩ := hrel
    by_cases hk : k + p.size ≤ s.size
    · go_wp2
      · go_ret
        exact ⟨k, .inr ⟨by omega, by omega⟩, rfl, rfl⟩
      · go_roundg (gk - 1)
        case measure => omega
        case rel => exact ⟨k + 1, by omega, by go_num, rfl⟩
    · go_wp2
      go_ret
      exact ⟨-1, .inl rfl, rfl, rfl⟩

end Go.Proofs.YtbdeohmdpkkpdaaGreatDoor
