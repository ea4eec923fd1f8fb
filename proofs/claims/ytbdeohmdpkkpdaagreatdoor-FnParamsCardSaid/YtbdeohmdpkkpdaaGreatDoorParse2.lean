/- Contracts of more states of the package's reader of URIs (printed by gen_parse.py). -/
import Derived.Test.YtbdeohmdpkkpdaaGreatDoorParse
set_option linter.unusedVariables false
set_option linter.unusedSimpArgs false
namespace Go.Proofs.YtbdeohmdpkkpdaaGreatDoor
open Go.RowKit

theorem hoEnd_hi (x : UInt8) (h : 128 ≤ x.toNat) : hoEnd x = false := by
  have n1 : x ≠ 91 := by rintro rfl; revert h; decide
  have n2 : x ≠ 58 := by rintro rfl; revert h; decide
  have n3 : x ≠ 59 := by rintro rfl; revert h; decide
  have n4 : x ≠ 63 := by rintro rfl; revert h; decide
  simp [hoEnd, n1, n2, n3, n4]
theorem fHost_at (l : Tx) (u : PU) (i : Nat) (hi : i < l.length) (hn : (l.take i).all (fun c => !hoEnd c) = true) (h : hoEnd l[i] = true) :
    fHost l u = if l[i] = 91 then (.ip, l.drop i, u) else if l[i] = 58 then (.port, l.drop (i + 1), { u with host := l.take i })
      else if l[i] = 59 then (.params, l.drop (i + 1), { u with host := l.take i }) else (.heads, l.drop (i + 1), { u with host := l.take i }) := by
  unfold fHost
  simp only [scan_at hi h hn, if_pos hi, getD_at hi]
theorem fHost_end (l : Tx) (u : PU) (hn : l.all (fun c => !hoEnd c) = true) : fHost l u = (.params, [], { u with host := l, wild := decide (l = [42]) }) := by
  unfold fHost
  simp only [scan_end hn, if_neg (Nat.lt_irrefl _)]

set_option maxHeartbeats 1000000 in
theorem host_c (s : ByteArray) (b : Nat) (u : PU) (w : World) (hu : UAt w b u) (hs : s.size ≤ 1099511627776) :
    Calls Tryz.prog 144 #[.pointer (some ⟨b, 0, none⟩), .string s] w (StPost b w (fHost (bs s) u)) := by
  have HL := Lib.hid (bs_len s)
  go_enter Tryz.func144, Tryz.ntmps144
  go_wp2
  go_loopg [] (s.size) (fun n wr => ∃ p : Nat, n + p = s.size ∧ Le w wr ∧ wr.heap[w.heap.size]? = some (.stringIter s p) ∧ ((bs s).take p).all (fun c => !hoEnd c) = true)
  case atStart => exact ⟨0, by omega, (Le.refl w).iter s 0, World.iter_heap _ _ _, rfl⟩
  case round =>
    obtain ⟨p, hn, hle, hit, hq⟩ := hrel
    have HQ := Lib.hid hq
    have HLE := Lib.hid hle
    have HN : gk + p ≤ s.size ∧ s.size ≤ gk + p := by omega
    clear hn hq hle
    by_cases hlt : p < s.size
    · obtain ⟨c, d, W1, hnx, hst, hit1, hW1⟩ := next_step (P := Tryz.prog) hit hlt
      have HLE1 := Lib.hid (hW1 ▸ HLE.out.iterAt (Nat.le_refl _) s (p + d) : Le w W1)
      have HST := Lib.hid hst
      have HS2 : 1 ≤ d ∧ p + d ≤ s.size ∧ 0 ≤ c ∧ c ≤ 1114111 := ⟨hst.1, hst.2.1, hst.2.2.1, hst.2.2.2.1⟩
      have HIT1 := Lib.hid hit1
      clear hW1 hst hit hit1
      by_cases h91 : c = 91
      · subst h91
        obtain ⟨hp, h1⟩ := scan_hit HST.out 91 (by decide) rfl
        have hres : Hid (fHost (bs s) u = (.ip, (bs s).drop p, u)) := by
          have h2 := fHost_at (bs s) u p hp HQ.out (by rw [h1]; rfl)
          rw [h1] at h2
          exact h2
        clear h1 hp
        go_wp2
        go_quiet (fail)
        go_wp2
        go_ret3
        refine ⟨ret3 ?_ ?_ rfl, ?_, ?_⟩
        · rw [hres.out]; rfl
        · rw [hres.out]; exact str_eq (ext_drop s p)
        · rw [hres.out]; exact (hu.le HLE1.out).le ((Le.refl W1).drewN _)
        · exact (HLE1.out.drewN _).kp b
      · have e91 : (c == 91) = false := by simpa using h91
        by_cases h58 : c = 58
        · subst h58
          obtain ⟨hp, h1⟩ := scan_hit HST.out 58 (by decide) rfl
          have hres : Hid (fHost (bs s) u = (.port, (bs s).drop (p + 1), { u with host := (bs s).take p })) := by
            have h2 := fHost_at (bs s) u p hp HQ.out (by rw [h1]; rfl)
            rw [h1] at h2
            exact h2
          clear h1 hp
          have U2 := hu.le HLE1.out
          have g6 := U2.c6
          have z6 := U2.frozen 6
          have HU2 := Lib.hid U2
          clear U2 hu
          go_wp2
          go_quiet (fail)
          go_wp2
          go_ret3
          refine ⟨ret3 ?_ ?_ rfl, ?_, ?_⟩
          · rw [hres.out]; rfl
          · rw [hres.out]; exact str_eq (ext_drop s (p + 1))
          · rw [hres.out]
            refine UAt.le ?_ ((Le.refl _).drewN _)
            have sm := HU2.out.sm
            have hl := HL.out
            refine UAt.put HU2.out 6 _ _ (fun _ _ => by rw [ext_take]; rfl) rfl rfl ?_
            simp only [PU.small, List.length_take, List.length_drop] at sm ⊢; omega
          · exact ((HLE1.out.kp b).set 6 _).le ((Le.refl _).drewN _)
        · have e58 : (c == 58) = false := by simpa using h58
          by_cases h59 : c = 59
          · subst h59
            obtain ⟨hp, h1⟩ := scan_hit HST.out 59 (by decide) rfl
            have hres : Hid (fHost (bs s) u = (.params, (bs s).drop (p + 1), { u with host := (bs s).take p })) := by
              have h2 := fHost_at (bs s) u p hp HQ.out (by rw [h1]; rfl)
              rw [h1] at h2
              exact h2
            clear h1 hp
            have U2 := hu.le HLE1.out
            have g6 := U2.c6
            have z6 := U2.frozen 6
            have HU2 := Lib.hid U2
            clear U2 hu
            go_wp2
            go_quiet (fail)
            go_wp2
            go_ret3
            refine ⟨ret3 ?_ ?_ rfl, ?_, ?_⟩
            · rw [hres.out]; rfl
            · rw [hres.out]; exact str_eq (ext_drop s (p + 1))
            · rw [hres.out]
              refine UAt.le ?_ ((Le.refl _).drewN _)
              have sm := HU2.out.sm
              have hl := HL.out
              refine UAt.put HU2.out 6 _ _ (fun _ _ => by rw [ext_take]; rfl) rfl rfl ?_
              simp only [PU.small, List.length_take, List.length_drop] at sm ⊢; omega
            · exact ((HLE1.out.kp b).set 6 _).le ((Le.refl _).drewN _)
          · have e59 : (c == 59) = false := by simpa using h59
            by_cases h63 : c = 63
            · subst h63
              obtain ⟨hp, h1⟩ := scan_hit HST.out 63 (by decide) rfl
              have hres : Hid (fHost (bs s) u = (.heads, (bs s).drop (p + 1), { u with host := (bs s).take p })) := by
                have h2 := fHost_at (bs s) u p hp HQ.out (by rw [h1]; rfl)
                rw [h1] at h2
                exact h2
              clear h1 hp
              have U2 := hu.le HLE1.out
              have g6 := U2.c6
              have z6 := U2.frozen 6
              have HU2 := Lib.hid U2
              clear U2 hu
              go_wp2
              go_quiet (fail)
              go_wp2
              go_ret3
              refine ⟨ret3 ?_ ?_ rfl, ?_, ?_⟩
              · rw [hres.out]; rfl
              · rw [hres.out]; exact str_eq (ext_drop s (p + 1))
              · rw [hres.out]
                refine UAt.le ?_ ((Le.refl _).drewN _)
                have sm := HU2.out.sm
                have hl := HL.out
                refine UAt.put HU2.out 6 _ _ (fun _ _ => by rw [ext_take]; rfl) rfl rfl ?_
                simp only [PU.small, List.length_take, List.length_drop] at sm ⊢; omega
              · exact ((HLE1.out.kp b).set 6 _).le ((Le.refl _).drewN _)
            · have e63 : (c == 63) = false := by simpa using h63
              have hF : Hid (((bs s).take (p + d)).all (fun c => !hoEnd c) = true) := scan_next (q := hoEnd) hoEnd_hi HST.out HQ.out (fun x hx => by
                have n91 : x ≠ 91 := by rintro rfl; exact h91 hx
                have n58 : x ≠ 58 := by rintro rfl; exact h58 hx
                have n59 : x ≠ 59 := by rintro rfl; exact h59 hx
                have n63 : x ≠ 63 := by rintro rfl; exact h63 hx
                simp [hoEnd, n91, n58, n59, n63])
              clear h91 h58 h59 h63
              go_wp2
              go_roundg (gk - d)
              case measure => omega
              case rel => exact ⟨p + d, by omega, HLE1.out, HIT1.out, hF.out⟩
    · have hnx := fun ty => Lib.run_next_end_at (P := Tryz.prog) wr _ s p ty hit hlt
      have hall : Hid ((bs s).all (fun c => !hoEnd c) = true) := by
        have h1 := HQ.out
        rw [List.take_of_length_le (by rw [HL.out]; omega)] at h1
        exact h1
      clear hit
      have hres : Hid (fHost (bs s) u = (.params, [], { u with host := bs s, wild := decide (bs s = [42]) })) := fHost_end _ _ hall.out
      have U1 := hu.le HLE.out
      have g6 := U1.c6
      have z6 := U1.frozen 6
      have g2 := U1.c2
      have z2 := U1.frozen 2
      have HU1 := Lib.hid U1
      clear U1 hu
      go_wp2
      go_ret3
      refine ⟨ret3 ?_ ?_ rfl, ?_, ?_⟩
      · rw [hres.out]; rfl
      · rw [hres.out]; rfl
      · rw [hres.out]
        have sm := HU1.out.sm
        have hl := HL.out
        refine UAt.put (UAt.put HU1.out 6 _ { u with host := bs s } (fun _ _ => by rw [show s = st (bs s) from (st_bs s).symm, bs_st]; rfl) rfl rfl ?_) 2 _ _ (fun _ _ => ?_) rfl rfl ?_
        · simp only [PU.small] at sm ⊢; omega
        · show _ = ({ u with host := bs s, wild := decide (bs s = [42]) } : PU).cells _ _
          rw [toList_beq]
          rfl
        · simp only [PU.small] at sm ⊢; omega
      · exact (((HLE.out.kp b).set 6 _).set 2 _)

/-- what a state that fails leaves -/
def ErrPost (b : Nat) (w : World) (e : Ending) (w' : World) : Prop :=
  ∃ v t T a u', e = .returned (.tuple #[v, .string t, .iface T (.pointer (some a))]) ∧ UAt w' b u' ∧ Kp b w w'
def RPost (b : Nat) (w : World) (r : Option (Sq × Tx × PU)) (e : Ending) (w' : World) : Prop :=
  match r with
  | some x => StPost b w x e w'
  | none => ErrPost b w e w'
theorem RPost.some {b : Nat} {w : World} {r : Option (Sq × Tx × PU)} {x : Sq × Tx × PU} {e : Ending} {w' : World} (h : r = some x) (k : StPost b w x e w') : RPost b w r e w' := by subst h; exact k
theorem RPost.none {b : Nat} {w : World} {r : Option (Sq × Tx × PU)} {e : Ending} {w' : World} (h : r = none) (k : ErrPost b w e w') : RPost b w r e w' := by subst h; exact k

/-! ### the slashes -/
set_option maxHeartbeats 400000 in
theorem slashes_c (s : ByteArray) (b : Nat) (u : PU) (w : World) (hu : UAt w b u) :
    Calls Tryz.prog 131 #[.pointer (some ⟨b, 0, none⟩), .string s] w (StPost b w (fSlashes (bs s) u)) := by
  have g3 := hu.c3
  have z3 := hu.frozen 3
  have HU := Lib.hid hu
  clear hu
  go_enter Tryz.func131, Tryz.ntmps131
  go_wp2_with fail
  refine (cut_c _ _ _).mono ?_
  rintro e w' ⟨rfl, rfl⟩
  have hb : Lib.hasPrefix (bs s) (bs ⟨#[47, 47]⟩) = [47, 47].isPrefixOf (bs s) := rfl
  have hp : Lib.trimPrefix (bs s) (bs ⟨#[47, 47]⟩) = if [47, 47].isPrefixOf (bs s) then (bs s).drop 2 else bs s := rfl
  rw [hb, hp]
  clear hb hp
  cases h : ([47, 47] : Tx).isPrefixOf (bs s)
  · have hres : Hid (fSlashes (bs s) u = (.user, bs s, { u with slash := false })) := by unfold fSlashes; rw [if_neg (by rw [h]; decide)]; exact rfl
    rw [if_neg (by decide)]
    clear h
    go_wp2
    go_ret3
    refine ⟨ret3 ?_ ?_ rfl, ?_, (kp_set _ _ _ _)⟩
    · rw [hres.out]; rfl
    · rw [hres.out]; rfl
    · rw [hres.out]; exact UAt.put HU.out 3 _ _ (fun _ _ => rfl) rfl rfl HU.out.sm
  · have hres : Hid (fSlashes (bs s) u = (.user, (bs s).drop 2, { u with slash := true })) := by unfold fSlashes; rw [if_pos h]; exact rfl
    rw [if_pos rfl]
    clear h
    go_wp2
    go_ret3
    refine ⟨ret3 ?_ ?_ rfl, ?_, (kp_set _ _ _ _)⟩
    · rw [hres.out]; rfl
    · rw [hres.out]; rfl
    · rw [hres.out]; exact UAt.put HU.out 3 _ _ (fun _ _ => rfl) rfl rfl HU.out.sm

/-! ### the port -/
def fPortU (l : Tx) (u : PU) : Option (Sq × Tx × PU) :=
  match Lib.atoiAll (fPort l).1 with
  | .ok v => some ((fPort l).2.1, (fPort l).2.2, { u with port := v })
  | _ => none
theorem poEnd_hi (x : UInt8) (h : 128 ≤ x.toNat) : poEnd x = false := by
  have n3 : x ≠ 59 := by rintro rfl; revert h; decide
  have n4 : x ≠ 63 := by rintro rfl; revert h; decide
  simp [poEnd, n3, n4]
theorem fPort_at (l : Tx) (i : Nat) (hi : i < l.length) (hn : (l.take i).all (fun c => !poEnd c) = true) (h : poEnd l[i] = true) :
    fPort l = (l.take i, if l[i] = 59 then .params else .heads, l.drop (i + 1)) := by
  unfold fPort
  simp only [scan_at hi h hn, if_pos hi, getD_at hi]
theorem fPort_end (l : Tx) (hn : l.all (fun c => !poEnd c) = true) : fPort l = (l, .params, []) := by
  unfold fPort
  simp only [scan_end hn, if_neg (Nat.lt_irrefl _)]
theorem fPortU_ok {l : Tx} {u : PU} {v : Int} {d : Tx} {q : Sq} {t : Tx} (h : fPort l = (d, q, t)) (hv : Lib.atoiAll d = .ok v) : fPortU l u = some (q, t, { u with port := v }) := by
  unfold fPortU; rw [h]; simp only [hv]
theorem fPortU_no {l : Tx} {u : PU} {d : Tx} {q : Sq} {t : Tx} (h : fPort l = (d, q, t)) (hv : ∀ v, Lib.atoiAll d ≠ .ok v) : fPortU l u = none := by
  unfold fPortU; rw [h]
  rcases hd : Lib.atoiAll d with v | _ | _
  · exact absurd hd (hv v)
  · rfl
  · rfl

set_option maxHeartbeats 1000000 in
theorem port_c (s : ByteArray) (b : Nat) (u : PU) (w : World) (hu : UAt w b u) (hs : s.size ≤ 1099511627776) (hL : Laid w) :
    Calls Tryz.prog 150 #[.pointer (some ⟨b, 0, none⟩), .string s] w (RPost b w (fPortU (bs s) u)) := by
  have HL := Lib.hid (bs_len s)
  go_enter Tryz.func150, Tryz.ntmps150
  go_wp2
  go_loopg [] (s.size) (fun n wr => ∃ p : Nat, n + p = s.size ∧ Le w wr ∧ wr.heap[w.heap.size]? = some (.stringIter s p) ∧ ((bs s).take p).all (fun c => !poEnd c) = true)
  case atStart => exact ⟨0, by omega, (Le.refl w).iter s 0, World.iter_heap _ _ _, rfl⟩
  case round =>
    obtain ⟨p, hn, hle, hit, hq⟩ := hrel
    have HQ := Lib.hid hq
    have HLE := Lib.hid hle
    have HN : gk + p ≤ s.size ∧ s.size ≤ gk + p := by omega
    clear hn hq hle
    by_cases hlt : p < s.size
    · obtain ⟨c, d, W1, hnx, hst, hit1, hW1⟩ := next_step (P := Tryz.prog) hit hlt
      have HLE1 := Lib.hid (hW1 ▸ HLE.out.iterAt (Nat.le_refl _) s (p + d) : Le w W1)
      have HST := Lib.hid hst
      have HS2 : 1 ≤ d ∧ p + d ≤ s.size ∧ 0 ≤ c ∧ c ≤ 1114111 := ⟨hst.1, hst.2.1, hst.2.2.1, hst.2.2.2.1⟩
      have HIT1 := Lib.hid hit1
      clear hW1 hst hit hit1
      by_cases h59 : c = 59
      · subst h59
        obtain ⟨hp, h1⟩ := scan_hit HST.out 59 (by decide) rfl
        have hf : Hid (fPort (bs s) = ((bs s).take p, .params, (bs s).drop (p + 1))) := by have h2 := fPort_at (bs s) p hp HQ.out (by rw [h1]; rfl); rw [h1] at h2; exact h2
        clear h1 hp
        go_wp2_with fail
        refine (atoi_c _ _ (by rw [← bs_len, bs_extract]; simp only [List.length_drop, List.length_take, HL.out]; omega) (hL.le HLE1.out)).mono ?_
        rintro e w2 ⟨hle2, hr⟩
        have HLE2 := Lib.hid (Le.trans HLE1.out hle2)
        have U2 := hu.le HLE2.out
        have g7 := U2.c7
        have z7 := U2.frozen 7
        have HU2 := Lib.hid U2
        clear U2 hu hle2 hL
        rcases hr with ⟨v, hv, rfl⟩ | ⟨hv, n, a, hn1, hn2, rfl⟩
        · have hres : Hid (fPortU (bs s) u = some (.params, (bs s).drop (p + 1), { u with port := v })) := fPortU_ok hf.out (by rw [← hv]; rw [bs_extract]; rfl)
          have hbd := Lib.hid (Lib.atoiAll_bounds hv)
          clear hv
          go_wp2
          go_quiet (fail)
          go_wp2
          go_ret3
          refine RPost.some hres.out ⟨ret3 rfl ?_ rfl, ?_, ?_⟩
          · exact str_eq (ext_drop s (p + 1))
          · refine UAt.le ?_ ((Le.refl _).drewN _)
            have sm := HU2.out.sm
            have hbd2 := hbd.out
            refine UAt.put HU2.out 7 _ _ (fun _ _ => rfl) rfl rfl ?_
            simp only [PU.small] at sm ⊢; omega
          · exact ((HLE2.out.kp b).set 7 _).le ((Le.refl _).drewN _)
        · have hres : Hid (fPortU (bs s) u = none) := fPortU_no hf.out (fun v h => hv v (by rw [← h]; rw [bs_extract]; rfl))
          clear hv
          go_wp2
          go_quiet (fail)
          go_wp2
          go_ret3
          refine RPost.none hres.out ⟨_, _, _, _, { u with port := n }, rfl, ?_, ?_⟩
          · refine UAt.le ?_ ((Le.refl _).drewN _)
            have sm := HU2.out.sm
            refine UAt.put HU2.out 7 _ _ (fun _ _ => rfl) rfl rfl ?_
            simp only [PU.small] at sm ⊢; omega
          · exact ((HLE2.out.kp b).set 7 _).le ((Le.refl _).drewN _)
      · have e59 : (c == 59) = false := by simpa using h59
        by_cases h63 : c = 63
        · subst h63
          obtain ⟨hp, h1⟩ := scan_hit HST.out 63 (by decide) rfl
          have hf : Hid (fPort (bs s) = ((bs s).take p, .heads, (bs s).drop (p + 1))) := by have h2 := fPort_at (bs s) p hp HQ.out (by rw [h1]; rfl); rw [h1] at h2; exact h2
          clear h1 hp
          go_wp2_with fail
          refine (atoi_c _ _ (by rw [← bs_len, bs_extract]; simp only [List.length_drop, List.length_take, HL.out]; omega) (hL.le HLE1.out)).mono ?_
          rintro e w2 ⟨hle2, hr⟩
          have HLE2 := Lib.hid (Le.trans HLE1.out hle2)
          have U2 := hu.le HLE2.out
          have g7 := U2.c7
          have z7 := U2.frozen 7
          have HU2 := Lib.hid U2
          clear U2 hu hle2 hL
          rcases hr with ⟨v, hv, rfl⟩ | ⟨hv, n, a, hn1, hn2, rfl⟩
          · have hres : Hid (fPortU (bs s) u = some (.heads, (bs s).drop (p + 1), { u with port := v })) := fPortU_ok hf.out (by rw [← hv]; rw [bs_extract]; rfl)
            have hbd := Lib.hid (Lib.atoiAll_bounds hv)
            clear hv
            go_wp2
            go_quiet (fail)
            go_wp2
            go_ret3
            refine RPost.some hres.out ⟨ret3 rfl ?_ rfl, ?_, ?_⟩
            · exact str_eq (ext_drop s (p + 1))
            · refine UAt.le ?_ ((Le.refl _).drewN _)
              have sm := HU2.out.sm
              have hbd2 := hbd.out
              refine UAt.put HU2.out 7 _ _ (fun _ _ => rfl) rfl rfl ?_
              simp only [PU.small] at sm ⊢; omega
            · exact ((HLE2.out.kp b).set 7 _).le ((Le.refl _).drewN _)
          · have hres : Hid (fPortU (bs s) u = none) := fPortU_no hf.out (fun v h => hv v (by rw [← h]; rw [bs_extract]; rfl))
            clear hv
            go_wp2
            go_quiet (fail)
            go_wp2
            go_ret3
            refine RPost.none hres.out ⟨_, _, _, _, { u with port := n }, rfl, ?_, ?_⟩
            · refine UAt.le ?_ ((Le.refl _).drewN _)
              have sm := HU2.out.sm
              refine UAt.put HU2.out 7 _ _ (fun _ _ => rfl) rfl rfl ?_
              simp only [PU.small] at sm ⊢; omega
            · exact ((HLE2.out.kp b).set 7 _).le ((Le.refl _).drewN _)
        · have e63 : (c == 63) = false := by simpa using h63
          have hF : Hid (((bs s).take (p + d)).all (fun c => !poEnd c) = true) := scan_next (q := poEnd) poEnd_hi HST.out HQ.out (fun x hx => by
            have n59 : x ≠ 59 := by rintro rfl; exact h59 hx
            have n63 : x ≠ 63 := by rintro rfl; exact h63 hx
            simp [poEnd, n59, n63])
          clear h59 h63
          go_wp2
          go_roundg (gk - d)
          case measure => omega
          case rel => exact ⟨p + d, by omega, HLE1.out, HIT1.out, hF.out⟩
    · have hnx := fun ty => Lib.run_next_end_at (P := Tryz.prog) wr _ s p ty hit hlt
      have hall : Hid ((bs s).all (fun c => !poEnd c) = true) := by
        have h1 := HQ.out
        rw [List.take_of_length_le (by rw [HL.out]; omega)] at h1
        exact h1
      clear hit
      have hf : Hid (fPort (bs s) = (bs s, .params, [])) := fPort_end _ hall.out
      clear hlt
      go_wp2_with fail
      refine (atoi_c _ _ hs (hL.le HLE.out)).mono ?_
      rintro e w2 ⟨hle2, hr⟩
      have HLE2 := Lib.hid (Le.trans HLE.out hle2)
      have U2 := hu.le HLE2.out
      have g7 := U2.c7
      have z7 := U2.frozen 7
      have HU2 := Lib.hid U2
      clear U2 hu hle2 hL
      rcases hr with ⟨v, hv, rfl⟩ | ⟨hv, n, a, hn1, hn2, rfl⟩
      · have hres : Hid (fPortU (bs s) u = some (.params, [], { u with port := v })) := fPortU_ok hf.out (by rw [← hv])
        have hbd := Lib.hid (Lib.atoiAll_bounds hv)
        clear hv
        go_wp2
        go_ret3
        refine RPost.some hres.out ⟨ret3 rfl ?_ rfl, ?_, ?_⟩
        · rfl
        · refine UAt.le ?_ (Le.refl _)
          have sm := HU2.out.sm
          have hbd2 := hbd.out
          refine UAt.put HU2.out 7 _ _ (fun _ _ => rfl) rfl rfl ?_
          simp only [PU.small] at sm ⊢; omega
        · exact ((HLE2.out.kp b).set 7 _).le (Le.refl _)
      · have hres : Hid (fPortU (bs s) u = none) := fPortU_no hf.out (fun v h => hv v (by rw [← h]))
        clear hv
        go_wp2
        go_ret3
        refine RPost.none hres.out ⟨_, _, _, _, { u with port := n }, rfl, ?_, ?_⟩
        · refine UAt.le ?_ (Le.refl _)
          have sm := HU2.out.sm
          refine UAt.put HU2.out 7 _ _ (fun _ _ => rfl) rfl rfl ?_
          simp only [PU.small] at sm ⊢; omega
        · exact ((HLE2.out.kp b).set 7 _).le (Le.refl _)

end Go.Proofs.YtbdeohmdpkkpdaaGreatDoor
