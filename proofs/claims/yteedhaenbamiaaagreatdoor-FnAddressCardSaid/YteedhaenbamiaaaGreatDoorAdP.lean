/- Contracts of the states of the package's reader of addresses: the parameters. -/
import Derived.Test.YteedhaenbamiaaaGreatDoorAdU
set_option linter.unusedVariables false
set_option linter.unusedSimpArgs false
namespace Go.Proofs.YteedhaenbamiaaaGreatDoor
open Go.RowKit

theorem lastE_lt {l : Tx} (h : 0 < lastE l) : lastE l < l.length := by unfold lastE at h ⊢; omega
theorem NPs.c2 {w0 w : World} {base na bu bp : Nat} {v : AV} (h : NPs w0 w base na bu bp v) : w.cell? ⟨na, 2, none⟩ = some (.pointer (some ⟨bp, 0, none⟩)) := h.nm.c2
theorem NPs.addc {w0 w : World} {base na bu bp : Nat} {v : AV} (h : NPs w0 w base na bu bp v) {N : Nat} (hl : KSm N v.ps) (hN : N ≤ 1099511627775) (k x : Tx) :
    Calls Tryz.prog 165 #[.pointer (some ⟨bp, 0, none⟩), .string (st k), .string (st x)] w (fun e w' => ∃ y, e = .returned y ∧ NPs w0 w' base na bu bp { v with ps := addKV v.ps k x }) := by
  obtain ⟨cs, hp⟩ := h.ps
  refine ((PAx.of hp).add (by decide) h.lt.2.2.2 hl hN k x).mono ?_
  rintro e w' ⟨y, rfl, ⟨z, hp'⟩, hf⟩
  exact ⟨y, rfl, h.add hf hp'⟩

set_option maxRecDepth 6000 in
set_option maxHeartbeats 1000000 in
theorem addp_c (s : ByteArray) (w0 : World) (base na bu bp bx : Nat) (v : AV) (w : World) (k : Int) (hu : NPs w0 w base na bu bp v) (hx : w.cell? ⟨bx, 0, none⟩ = some (.pointer (some ⟨na, 0, none⟩)))
    (hk : k = lastE (bs s) ∨ k ≤ 0 ∧ lastE (bs s) = 0) (hs : s.size ≤ 1099511627000) (hks : KSm 1099511627700 v.ps) :
    Calls Tryz.prog 164 #[.int .i64 k, .string s, .pointer (some ⟨bx, 0, none⟩)] w fun e w' =>
      e = .returned (.tuple #[]) ∧ NPs w0 w' base na bu bp { v with ps := addP v.ps (bs s) } := by
  have HL := Lib.hid (bs_len s)
  have HU := Lib.hid hu
  have HKS := Lib.hid hks
  have g2 := hu.c2
  clear hu hks
  by_cases h0 : 0 < lastE (bs s)
  · obtain ⟨n, hn⟩ : ∃ n, n = lastE (bs s) := ⟨_, rfl⟩
    obtain rfl : k = (n : Int) := by omega
    have hlt := lastE_lt h0
    rw [HL.out] at hlt
    rw [← hn] at hlt
    have hres : Hid (addP v.ps (bs s) = addKV v.ps ((bs s).take n) ((bs s).drop (n + 1))) := by
      unfold addP; rw [if_pos h0, ← hn]; exact rfl
    have hn1 : 1 ≤ n := by omega
    clear hk h0 hn
    have i0 : decide ((n : Int) > 0) = true := by simp; omega
    have i1 : (0 : Int) ≤ (n : Int) := by omega
    have i2 : (n : Int) ≤ s.size := by omega
    have i4 : IntKind.i64.wrap ((n : Int) + 1) = n + 1 := IntWalk.i64_in _ (by omega)
    have i5 : (n : Int) + 1 ≤ s.size := by omega
    go_enter Tryz.func164, Tryz.ntmps164
    go_wp2_with fail
    rw [ext_take, ext_drop]
    refine (HU.out.addc HKS.out (by omega) _ _).mono ?_
    rintro e w3 ⟨y, rfl, hu3⟩
    have HU3 := Lib.hid hu3
    clear hu3
    go_wp2
    go_returns
    exact ⟨rfl, by rw [hres.out]; exact HU3.out⟩
  · have hk0 : k ≤ 0 := by omega
    have i0 : decide (k > 0) = false := by simp; omega
    clear hk
    by_cases hz : s.size = 0
    · have hs0 : bs s = [] := List.eq_nil_of_length_eq_zero (by rw [HL.out]; exact hz)
      have hres : Hid (addP v.ps (bs s) = v.ps) := by unfold addP; rw [if_neg h0, if_pos hs0]; exact rfl
      have hb0 : ((s.size : Int) == 0) = true := by simp [hz]
      clear hs0 h0
      go_enter Tryz.func164, Tryz.ntmps164
      go_wp2
      go_returns
      exact ⟨rfl, by rw [hres.out]; exact HU.out⟩
    · have hne : bs s ≠ [] := by intro e; apply hz; rw [← HL.out, e]; rfl
      have hres : Hid (addP v.ps (bs s) = addKV v.ps (bs s) []) := by unfold addP; rw [if_neg h0, if_neg hne]; exact rfl
      have hb0 : ((s.size : Int) == 0) = false := beq_eq_false_iff_ne.2 (by omega)
      clear hne h0
      have hall : s.extract 0 s.size = s := by rw [ext_take, List.take_of_length_le (by rw [bs_len]; exact Nat.le_refl _), st_bs]
      go_enter Tryz.func164, Tryz.ntmps164
      go_wp2_with fail
      have hc := HU.out.addc HKS.out (by omega) (bs s) []
      rw [st_bs] at hc
      refine hc.mono ?_
      rintro e w3 ⟨y, rfl, hu3⟩
      have HU3 := Lib.hid hu3
      clear hu3
      go_wp2
      go_returns
      exact ⟨rfl, by rw [hres.out]; exact HU3.out⟩

theorem pm_skip (l : Tx) (x : UInt8) (h : 128 ≤ x.toNat) : ((l ++ [x]).all (fun c => !(c == 59)), lastE (l ++ [x])) = (l.all (fun c => !(c == 59)), lastE l) := by
  have h1 : ¬ x = 61 := by rintro rfl; revert h; decide
  have h3 : ¬ x = 59 := by rintro rfl; revert h; decide
  rw [lastE_snoc, if_neg h1, all_snoc]
  simp [h3]
theorem pm_one (l : Tx) (x : UInt8) (h : x ≠ 59) : ((l ++ [x]).all (fun c => !(c == 59)), lastE (l ++ [x])) = (l.all (fun c => !(c == 59)), if x = 61 then l.length else lastE l) := by
  rw [lastE_snoc, all_snoc]
  simp [h]
def EqAt (m : Int) (l : Tx) : Prop := m = lastE l ∨ m ≤ 0 ∧ lastE l = 0

set_option maxRecDepth 6000 in
set_option maxHeartbeats 1000000 in
theorem prms_c (s : ByteArray) (w0 : World) (base na bu bp : Nat) (v : AV) (w : World) (hu : NPs w0 w base na bu bp v) (hs : s.size ≤ 1099511627000) (hks : KSm 1099511627700 v.ps) :
    Calls Tryz.prog 146 #[.pointer (some ⟨na, 0, none⟩), .string s] w (APost w0 na bu bp .prms (bs s) v) := by
  have HL := Lib.hid (bs_len s)
  have HU := Lib.hid hu
  have HKS := Lib.hid hks
  have hmf : ∀ (fn : Fn) (first cap : Array Value) (w : World), (Instr.makeFunc fn first cap).run Tryz.prog w = .ok (.func fn first cap) w := fun _ _ _ _ => rfl
  clear hu hks
  go_enter Tryz.func146, Tryz.ntmps146
  go_wp2
  obtain ⟨Wb, hWb⟩ : ∃ Wb, Wb = w.alloc (Obj.cells #[Value.pointer (some { block := na, off := 0 })] 124) := ⟨_, rfl⟩
  have hle0 : Le w Wb := by rw [hWb]; exact (Le.refl w).alloc _
  have hsz : Wb.heap.size = w.heap.size + 1 := by rw [hWb]; simp
  have hb : Wb.heap[w.heap.size]? = some (Obj.cells #[Value.pointer (some { block := na, off := 0 })] 124 (0, 0)) := by rw [hWb]; exact heap_alloc_new w _
  have hbx : Wb.cell? ⟨w.heap.size, 0, none⟩ = some (.pointer (some ⟨na, 0, none⟩)) := cell_cells hb 0
  have HUB := Lib.hid (HU.out.le hle0)
  rw [← hWb]
  clear hWb hb hle0 HU hmf
  generalize w.heap.size = bx at hsz hbx ⊢
  go_loopg [8] (s.size) (fun n u8 wr => ∃ (p : Nat) (m : Int), n + p = s.size ∧ Le Wb wr ∧ wr.heap[bx + 1]? = some (.stringIter s p) ∧ (-1 ≤ m ∧ m ≤ p) ∧
    (((bs s).take p).all (fun c => !(c == 59)) = true ∧ EqAt m ((bs s).take p)) ∧ u8 = .int .i64 m)
  case atStart => exact ⟨0, -1, by omega, (Le.refl Wb).iter s 0, hsz ▸ World.iter_heap Wb s 0, by omega, ⟨rfl, .inr ⟨by omega, rfl⟩⟩, rfl⟩
  case round =>
    obtain ⟨p, m, hn, hle, hit, hm, hq, rfl⟩ := hrel
    have HQ := Lib.hid hq
    have HLE := Lib.hid hle
    have HM := Lib.hid hm
    have HN : gk + p ≤ s.size ∧ s.size ≤ gk + p := by omega
    clear hn hq hle hm
    by_cases hlt : p < s.size
    · obtain ⟨c, d, W1, hnx, hst, hit1, hW1⟩ := next_step (P := Tryz.prog) hit hlt
      have HLE1 := Lib.hid (hW1 ▸ HLE.out.iterAt (hsz ▸ Nat.le_refl _) s (p + d) : Le Wb W1)
      have HS2 : 1 ≤ d ∧ p + d ≤ s.size ∧ 0 ≤ c ∧ c ≤ 1114111 := ⟨hst.1, hst.2.1, hst.2.2.1, hst.2.2.2.1⟩
      have HST := Lib.hid hst
      have HT := Lib.hid (hst.take (fun l => (l.all (fun c => !(c == 59)), lastE l)) pm_skip)
      have HIT1 := Lib.hid hit1
      have HU1 := Lib.hid (HUB.out.le HLE1.out)
      clear hW1 hst hit hit1
      by_cases h61 : c = 61
      · subst h61
        have hF : Hid (((bs s).take (p + d)).all (fun c => !(c == 59)) = true ∧ EqAt p ((bs s).take (p + d))) := by
          rcases HT.out with ⟨hp, hc, _, hF⟩ | ⟨hc, _⟩
          · have h1 := u8_of hc.symm (by decide)
            have h2 := hF.trans (pm_one _ _ (by rw [h1]; decide))
            rw [h1, if_pos (by rfl), List.length_take, HL.out, Nat.min_eq_left (by omega), HQ.out.1] at h2
            exact ⟨congrArg Prod.fst h2, .inl (congrArg (fun x => ((Prod.snd x : Nat) : Int)) h2).symm⟩
          · omega
        go_wp2
        go_roundg (gk - d)
        case measure => omega
        case rel => exact ⟨p + d, p, by omega, HLE1.out, HIT1.out, by omega, hF.out, rfl⟩
      have e61 : (c == 61) = false := by simpa using h61
      by_cases h59 : c = 59
      · subst h59
        obtain ⟨hp, h1⟩ := scan_hit HST.out 59 (by decide) rfl
        have hix := Lib.hid (ix_at hp HQ.out.1 h1)
        have hpl : Hid (p < (bs s).length) := Lib.hid hp
        have hbx1 := HLE1.out.cell hbx
        have hb59 : bs (s.extract 0 p) = (bs s).take p := by rw [ext_take]; exact bs_st _
        have hc := addp_c (s.extract 0 p) w0 base na bu bp bx v W1 m HU1.out hbx1 (by rw [hb59]; exact HQ.out.2) (by rw [ext_take]; simp only [st_size, List.length_take]; omega) HKS.out
        rw [hb59] at hc
        have HC := Lib.hid hc
        clear h1 hp hc hb59 h61
        go_wp2_with fail
        refine HC.out.mono ?_
        rintro e w2 ⟨rfl, hu2⟩
        have HU2 := Lib.hid hu2
        clear hu2
        go_wp2
        go_quiet (fail)
        go_wp2
        go_ret3
        refine .inl ⟨(.prms, (bs s).drop (p + 1), { v with ps := addP v.ps ((bs s).take p) }), ?_, ret3 rfl (str_eq (ext_drop s (p + 1))) rfl, _, HU2.out.le ((Le.refl _).drewN _)⟩
        show some _ = some (aPrms (bs s) v)
        unfold aPrms
        rw [hix.out, if_pos hpl.out]
      · have e59 : (c == 59) = false := by simpa using h59
        have hF : Hid (((bs s).take (p + d)).all (fun c => !(c == 59)) = true ∧ EqAt m ((bs s).take (p + d))) := by
          have h3 : (((bs s).take (p + d)).all (fun c => !(c == 59)), lastE ((bs s).take (p + d))) = (((bs s).take p).all (fun c => !(c == 59)), lastE ((bs s).take p)) := by
            rcases HT.out with ⟨hp, hc, _, hF⟩ | ⟨_, hF⟩
            · have n61 : (bs s)[p]'hp ≠ 61 := by intro e; rw [e] at hc; exact h61 (by rw [hc]; rfl)
              have n59 : (bs s)[p]'hp ≠ 59 := by intro e; rw [e] at hc; exact h59 (by rw [hc]; rfl)
              refine hF.trans ?_
              rw [pm_one _ _ n59, if_neg n61]
            · exact hF
          refine ⟨(congrArg Prod.fst h3).trans HQ.out.1, ?_⟩
          unfold EqAt
          rw [show lastE ((bs s).take (p + d)) = lastE ((bs s).take p) from congrArg Prod.snd h3]
          exact HQ.out.2
        clear h61 h59
        go_wp2
        go_roundg (gk - d)
        case measure => omega
        case rel => exact ⟨p + d, m, by omega, HLE1.out, HIT1.out, by have := HM.out; omega, hF.out, rfl⟩
    · have hnx := fun ty => Lib.run_next_end_at (P := Tryz.prog) wr _ s p ty hit hlt
      have hall : (bs s).take p = bs s := List.take_of_length_le (by rw [HL.out]; omega)
      have hq := HQ.out
      rw [hall] at hq
      have hix : Hid (ixOf (bs s) 59 = (bs s).length) := Lib.hid (ix_end hq.1)
      have HC := Lib.hid (addp_c s w0 base na bu bp bx v wr m (HUB.out.le HLE.out) (HLE.out.cell hbx) hq.2 hs HKS.out)
      clear hit hq hall
      go_wp2_with fail
      refine HC.out.mono ?_
      rintro e w2 ⟨rfl, hu2⟩
      have HU2 := Lib.hid hu2
      clear hu2
      go_wp2
      go_ret3
      refine .inl ⟨(.stop, bs s, { v with ps := addP v.ps (bs s) }), ?_, ret3 rfl (str_eq (st_bs s).symm) rfl, _, HU2.out⟩
      show some _ = some (aPrms (bs s) v)
      unfold aPrms
      rw [hix.out, if_neg (Nat.lt_irrefl _)]
end Go.Proofs.YteedhaenbamiaaaGreatDoor
