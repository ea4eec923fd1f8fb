/- Contract: the thin package's Params. -/
import Derived.Test.YtgelnjcjpkklbaaGreatDoorKnown
set_option linter.unusedVariables false
set_option linter.unusedSimpArgs false
namespace Go.Proofs.YtgelnjcjpkklbaaGreatDoor
open Go.RowKit

def PmsPost (l : Tx) (sp en : UInt8) (w : World) (e : Ending) (w' : World) : Prop :=
  ∃ (v' : Value) (t : Tx), e = .returned (.tuple #[v', .int .i64 (unm t sp en []).1]) ∧ TrimT l t ∧ Kq (w.heap.size ≤ ·) w' v' (unm t sp en []).2 ∧ Le w w'
set_option maxRecDepth 8000 in
set_option maxHeartbeats 4000000 in
theorem iParams_c (w : World) (v : Value) (l : Tx) (sp en : UInt8) (hv : Bv w v l) (hl : l.length ≤ 1099511627000) (hsp : sp.toNat < 128) (hen : en.toNat < 128) (hL : Laid w) :
    Calls Tryz.prog 26 #[v, .int .u8 sp.toNat, .int .u8 en.toNat] w (PmsPost l sp en w) := by
  have HV := Lib.hid hv
  have HL := Lib.hid hL
  have HS := Lib.hid (⟨hsp, hen, hl⟩ : _ ∧ _ ∧ _)
  have f1 : (sp.toNat : Int) ≤ 127 := by omega
  have f2 : (en.toNat : Int) ≤ 127 := by omega
  have f3 : (0 : Int) ≤ (sp.toNat : Int) := by omega
  have f4 : (0 : Int) ≤ (en.toNat : Int) := by omega
  clear hv hL hl hsp hen
  go_enter Tryz.func26, Tryz.ntmps26
  go_wp2_with fail
  refine (newparams_c w.heap.size w (Nat.le_refl _)).mono ?_
  rintro e w1 ⟨g1, rfl, hown1, hle1⟩
  have HOWN1 := Lib.hid hown1
  have HLE1 := Lib.hid hle1
  clear hown1 hle1
  have q1 := conv_bs (P := Tryz.prog) Tryz.underlying22 Tryz.underlying5 Tryz.underlying9 ((HV.out.le HLE1.out).le ((Le.refl w1).alloc (Obj.cells #[.slice (some ⟨g1, 0, none⟩) 0 4] 91)))
  go_wp2_with fail
  have hle2 : Le w (w1.alloc (Obj.cells #[.slice (some ⟨g1, 0, none⟩) 0 4] 91)) := HLE1.out.alloc _
  have hpx : PAx (w1.alloc (Obj.cells #[.slice (some ⟨g1, 0, none⟩) 0 4] 91)) w.heap.size w1.heap.size 0 91 #[.slice (some ⟨g1, 0, none⟩) 0 4] [] :=
    ⟨.slice (some ⟨g1, 0, none⟩) 0 4, .slice (some ⟨g1, 0, none⟩) 0 4, rfl, heap_alloc_new w1 _, own_le HOWN1.out ((Le.refl w1).alloc _)⟩
  have HLEN : Hid ((st l).size = l.length) := Lib.hid (st_size l)
  refine (unm_c w.heap.size w1.heap.size 0 91 _ [] (st l) sp en _ (by decide) hpx hle2.size (by rw [HLEN.out]; have := HS.out.2.2; omega) 0 (by rw [HLEN.out]; have := HS.out.2.2; omega) ⟨Nat.le_refl _, by simp⟩ HS.out.1 HS.out.2.1 (HL.out.le hle2)).mono ?_
  rintro e w2 ⟨t, ht, rfl, hpa, hpf⟩
  have HT : Hid (TrimT l (bs t)) := Lib.hid (by have := ht.tx; rw [bs_st] at this; exact this)
  have htl : (bs t).length ≤ l.length := by have := ht.len; rw [bs_st] at this; exact this
  have hkp : Kp w1.heap.size w w2 := (((PFr.refl w.heap.size w1.heap.size w).le hle2 (Nat.le_refl _)).trans hpf).kp
  have HLE2 : Hid (Le w w2) := Lib.hid (Below.trans (Le.refl w) (hkp.below HLE1.out.size (Nat.le_refl _)))
  obtain ⟨x0, v2, hx, hb, hown⟩ := hpa
  obtain rfl : x0 = v2 := Option.some.inj hx
  have c0 : w2.cell? ⟨w1.heap.size, 0, none⟩ = some x0 := cell_cells hb 0
  have hsm := (unm_sm (sp := sp) (en := en) (l := bs t) (p := []) (by have := HS.out.2.2; omega) (N := 0) ⟨Nat.le_refl _, by simp⟩).mono (M := 1099511627776) (by have := HS.out.2.2; omega)
  have HHP := Lib.hid (Hp.of_own hown hsm.1 hsm.2)
  clear ht hpx hle2 hpf hkp htl hown hb hx hsm q1
  go_wp2_with fail
  refine (pairs_c w2 x0 _ HHP.out).mono ?_
  rintro e w3 ⟨v3, rfl, hk, hle3⟩
  have HK := Lib.hid hk
  have HLE3 := Lib.hid (HLE2.out.trans hle3)
  have hs2 := HLE2.out.size
  clear hle3 hk
  go_wp2
  go_returns
  exact ⟨_, _, rfl, HT.out, HK.out.imp fun g hg => Nat.le_trans hs2 hg, HLE3.out⟩
end Go.Proofs.YtgelnjcjpkklbaaGreatDoor
