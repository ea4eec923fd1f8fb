/- Contracts: the specification's Upper and Port, the package's DefaultPort, the thin package's Port; the law FnPort (printed by gen_port.py). -/
import Derived.Test.YtbdeohmdpkkpdaaGreatDoorSpW5
import Derived.Test.YtbdeohmdpkkpdaaGreatDoorKnown3
set_option linter.unusedVariables false
set_option linter.unusedSimpArgs false
namespace Go.Proofs.YtbdeohmdpkkpdaaGreatDoor
open Go.RowKit

theorem upC_yes {c : UInt8} (h1 : 97 ≤ (c.toNat : Int)) (h2 : (c.toNat : Int) ≤ 122) : ((upC c).toNat : Int) = (c.toNat : Int) - 32 := by rw [aSCIIToUpper_yes c h1 h2]; omega
theorem upC_no {c : UInt8} (h : ¬ (97 ≤ (c.toNat : Int) ∧ (c.toNat : Int) ≤ 122)) : upC c = c := aSCIIToUpper_no c h
def UpPost (l : Tx) (w : World) (e : Ending) (w' : World) : Prop := ∃ v, e = .returned v ∧ OwnB w.heap.size w' v (l.map upC) ∧ Le w w'
set_option maxRecDepth 4000 in
set_option maxHeartbeats 2000000 in
theorem sUpper_c (v : Value) (l : Tx) (w : World) (hv : Bv w v l) : Calls Tryz.prog 23 #[v] w (UpPost l w) := by
  have HV := Lib.hid hv
  obtain ⟨A0, c0, hv0, hl0⟩ := bv_slice hv
  clear hv0 hv
  go_enter Tryz.func23, Tryz.ntmps23
  go_wp2_with (at_builtin; refine wpList_append_bv rfl (.const (.slice none 0 0)) (.tmp 5) rfl (base := w.heap.size) rfl rfl (OwnB.nil _ _) HV.out ?_ (Nat.le_refl _) ?_)
  · simp only [List.length_nil]; omega
  intro v1 w1 hown hgrow
  have hle1 : Le w w1 := Below.grown' (Le.refl w) hgrow (Nat.le_refl _) (fun g hg => by simp [Value.ownBlock] at hg)
  obtain ⟨A, c, rfl, _⟩ := bv_slice (hown.bv hl0)
  have HOWN := Lib.hid hown
  have HLE := Lib.hid hle1
  clear hown hgrow hle1
  go_wp2
  go_loopg [4] (l.length) (fun n i wr => ∃ k : Nat, n + k = l.length ∧ i = .int .i64 k ∧ Le w wr ∧ OwnB w.heap.size wr (.slice A l.length c) (half upC l k))
  case atStart => exact ⟨0, by omega, rfl, HLE.out, by have := HOWN.out; unfold half; rw [List.take_zero, List.map_nil, List.drop_zero, List.nil_append]; exact this⟩
  case round =>
    obtain ⟨k, hn, rfl, hle, hown⟩ := hrel
    have HO := Lib.hid hown
    have HL := Lib.hid hle
    have HN : gk + k ≤ l.length ∧ l.length ≤ gk + k := by omega
    clear hn hle
    by_cases hlt : k < l.length
    · have hown' := hown
      unfold OwnB at hown'
      rw [half_len] at hown'
      obtain ⟨g, cap, hvv, _⟩ := hown'.form (by omega)
      obtain ⟨rfl, rfl⟩ : A = some ⟨g, 0, none⟩ ∧ c = cap := by injection hvv with h1 _ h2; exact ⟨h1, h2⟩
      have d1 : wr.cell? ⟨g, k, none⟩ = some (.int .u8 (l[k].toNat : Int)) := by rw [hown'.cellAt k (by omega), u8s_at (half_at upC hlt)]
      have z1 := hown'.frozenAt k
      have hst := hown'.stored k (.int .u8 ((upC l[k]).toNat : Int))
      rw [u8s_set, ← half_succ upC hlt] at hst
      have hb := l[k].toNat_lt
      by_cases hup : 97 ≤ (l[k].toNat : Int) ∧ (l[k].toNat : Int) ≤ 122
      · have e := upC_yes hup.1 hup.2
        rw [e] at hst
        have HST : Hid (OwnB w.heap.size (wr.setCell ⟨g, k, none⟩ (.int .u8 ((l[k].toNat : Int) - 32))) (.slice (some ⟨g, 0, none⟩) l.length c) (half upC l (k + 1)) ∧ Le w (wr.setCell ⟨g, k, none⟩ (.int .u8 ((l[k].toNat : Int) - 32)))) := Lib.hid (by
          refine ⟨?_, Below.grown' HL.out hst.2 (Nat.le_refl _) (fun g' hg' => ?_)⟩
          · unfold OwnB
            rw [half_len]
            exact hst.1
          · injection hg' with hg'
            subst hg'
            exact (own_row' hown' g rfl).1)
        obtain ⟨n1, n2⟩ := hup
        clear hst hown hown' hvv e
        generalize (l[k].toNat : Int) = x at d1 n1 n2 HST
        go_wp2
        go_roundg (gk - 1)
        case measure => omega
        case rel => exact ⟨k + 1, by omega, by go_num, HST.out.2, HST.out.1⟩
      · have e := upC_no hup
        have HST : Hid (OwnB w.heap.size wr (.slice (some ⟨g, 0, none⟩) l.length c) (half upC l (k + 1))) := Lib.hid (by rw [half_keep upC hlt e]; exact hown)
        clear hst hown hown' hvv e
        by_cases n1 : 97 ≤ (l[k].toNat : Int)
        · have n2 : 122 < (l[k].toNat : Int) := by omega
          clear hup
          generalize (l[k].toNat : Int) = x at d1 n1 n2
          go_wp2
          go_roundg (gk - 1)
          case measure => omega
          case rel => exact ⟨k + 1, by omega, by go_num, HL.out, HST.out⟩
        · have n2 : (l[k].toNat : Int) < 97 := by omega
          clear hup n1
          generalize (l[k].toNat : Int) = x at d1 n2
          go_wp2
          go_roundg (gk - 1)
          case measure => omega
          case rel => exact ⟨k + 1, by omega, by go_num, HL.out, HST.out⟩
    · have HE : Hid (OwnB w.heap.size wr (.slice A l.length c) (l.map upC)) := Lib.hid (by rw [← half_end upC l (k := k) (by omega)]; exact hown)
      clear hown
      go_wp2
      go_ret
      exact ⟨_, rfl, HE.out, HL.out⟩


/-! ### ports -/
def pUdp : Tx := [117, 100, 112]
def pTcp : Tx := [116, 99, 112]
def pTls : Tx := [116, 108, 115]
def pWs : Tx := [119, 115]
def pWss : Tx := [119, 115, 115]
/-- the port of a name in small letters -/
def portD (l : Tx) : Int := if l = pTls then 5061 else if l = pTcp then 5060 else if l = pUdp then 5060 else if l = pWs then 80 else if l = pWss then 443 else 5060
theorem lit_b {l p : Tx} {b : Bool} (h : decide (l = p) = b) : ((st l).toList == p) = b := by rw [toList_beq, bs_st, h]
set_option maxRecDepth 4000 in
set_option maxHeartbeats 2000000 in
theorem defPort_c (s : ByteArray) (w : World) (hs : s.size ≤ 1099511627776) : Calls Tryz.prog 56 #[.string s] w fun e w' => e = .returned (.int .i64 (portD ((bs s).map lowC))) ∧ Le w w' := by
  have hc := aSCIIToLower_c s w hs
  generalize (bs s).map lowC = l at hc ⊢
  have HC := Lib.hid hc
  clear hc
  go_enter Tryz.func56, Tryz.ntmps56
  go_wp2_with fail
  refine HC.out.mono ?_
  rintro e w' ⟨rfl, hle⟩
  have HLE := Lib.hid hle
  clear hle HC
  by_cases c0 : l = pTls
  · have k0 : ((st l).toList == [116, 108, 115]) = true := lit_b (decide_eq_true c0)
    have hp : portD l = 5061 := by unfold portD; rw [if_pos c0]
    have HP := Lib.hid hp
    clear hp  c0
    go_wp2
    go_ret
    exact ⟨by rw [HP.out]; rfl, HLE.out⟩
  have k0 : ((st l).toList == [116, 108, 115]) = false := lit_b (decide_eq_false c0)
  by_cases c1 : l = pTcp
  · have k1 : ((st l).toList == [116, 99, 112]) = true := lit_b (decide_eq_true c1)
    have hp : portD l = 5060 := by unfold portD; rw [if_neg c0, if_pos c1]
    have HP := Lib.hid hp
    clear hp c0 c1
    go_wp2
    go_ret
    exact ⟨by rw [HP.out]; rfl, HLE.out⟩
  have k1 : ((st l).toList == [116, 99, 112]) = false := lit_b (decide_eq_false c1)
  by_cases c2 : l = pUdp
  · have k2 : ((st l).toList == [117, 100, 112]) = true := lit_b (decide_eq_true c2)
    have hp : portD l = 5060 := by unfold portD; rw [if_neg c0, if_neg c1, if_pos c2]
    have HP := Lib.hid hp
    clear hp c0 c1 c2
    go_wp2
    go_ret
    exact ⟨by rw [HP.out]; rfl, HLE.out⟩
  have k2 : ((st l).toList == [117, 100, 112]) = false := lit_b (decide_eq_false c2)
  by_cases c3 : l = pWs
  · have k3 : ((st l).toList == [119, 115]) = true := lit_b (decide_eq_true c3)
    have hp : portD l = 80 := by unfold portD; rw [if_neg c0, if_neg c1, if_neg c2, if_pos c3]
    have HP := Lib.hid hp
    clear hp c0 c1 c2 c3
    go_wp2
    go_ret
    exact ⟨by rw [HP.out]; rfl, HLE.out⟩
  have k3 : ((st l).toList == [119, 115]) = false := lit_b (decide_eq_false c3)
  by_cases c4 : l = pWss
  · have k4 : ((st l).toList == [119, 115, 115]) = true := lit_b (decide_eq_true c4)
    have hp : portD l = 443 := by unfold portD; rw [if_neg c0, if_neg c1, if_neg c2, if_neg c3, if_pos c4]
    have HP := Lib.hid hp
    clear hp c0 c1 c2 c3 c4
    go_wp2
    go_ret
    exact ⟨by rw [HP.out]; rfl, HLE.out⟩
  have k4 : ((st l).toList == [119, 115, 115]) = false := lit_b (decide_eq_false c4)
  have hp : portD l = 5060 := by unfold portD; rw [if_neg c0, if_neg c1, if_neg c2, if_neg c3, if_neg c4]
  have HP := Lib.hid hp
  clear hp c0 c1 c2 c3 c4
  go_wp2
  go_ret
  exact ⟨by rw [HP.out]; rfl, HLE.out⟩
set_option maxRecDepth 4000 in
theorem iPort_c (v : Value) (l : Tx) (w : World) (hv : Bv w v l) (hl : l.length ≤ 1099511627776) : Calls Tryz.prog 16 #[v] w fun e w' => e = .returned (.int .i64 (portD (l.map lowC))) ∧ Le w w' := by
  have q1 := conv_bs (P := Tryz.prog) Tryz.underlying22 Tryz.underlying5 Tryz.underlying9 hv
  have HC := Lib.hid (defPort_c (st l) w (by rw [st_size]; exact hl))
  rw [bs_st] at HC
  clear hv hl
  go_enter Tryz.func16, Tryz.ntmps16
  go_wp2_with fail
  refine HC.out.mono ?_
  rintro e w' ⟨rfl, hle⟩
  have HLE := Lib.hid hle
  clear hle HC
  go_wp2
  go_ret
  exact ⟨rfl, HLE.out⟩
def SPort (l : Tx) (w : World) (e : Ending) (w' : World) : Prop := Le w w' ∧ (e = .returned (.tuple #[.int .i64 (portD l), .int .i64 0]) ∨ ∃ n, e = .returned (.tuple #[.int .i64 n, .int .i64 (-2)]))
set_option maxRecDepth 4000 in
set_option maxHeartbeats 2000000 in
theorem sPort_c (v : Value) (l : Tx) (w : World) (hv : Bv w v l) : Calls Tryz.prog 15 #[v] w (SPort (l.map lowC) w) := by
  have HV := Lib.hid hv
  obtain ⟨A0, c0, hv0, hl0⟩ := bv_slice hv
  clear hv0 hv
  have hlc := lowered_c v l w HV.out
  unfold LowPost at hlc
  have hlen : (l.map lowC).length = l.length := List.length_map ..
  generalize l.map lowC = low at hlc hlen ⊢
  have HC := Lib.hid hlc
  clear hlc
  go_enter Tryz.func15, Tryz.ntmps15
  go_wp2_with fail
  refine HC.out.mono ?_
  rintro e w1 ⟨v1, rfl, hown, hle1⟩
  have HV1 := Lib.hid (hown.bv (by rw [hlen]; exact hl0))
  have HLE1 := Lib.hid hle1
  clear hown hle1 HC hl0 hlen
  go_upto_region 2 with fail
  go_cut [17] from 7 to 17 (fun s17 wc => ∃ g : Bool, s17 = .bool g ∧ Le w1 wc)
  case first =>
    go_wp2_with fail
    refine (isSame_c v1 v low l w1 HV1.out (HV.out.le HLE1.out)).mono ?_
    rintro e w' ⟨rfl, rfl⟩
    generalize decide (low = l) = b1
    cases b1
    · go_wp2_with fail
      refine (sUpper_c v l w1 (HV.out.le HLE1.out)).mono ?_
      rintro e w2 ⟨v2, rfl, hown2, hle2⟩
      have HV2 := Lib.hid (hown2.bv (by rw [List.length_map]; exact (bv_slice HV.out).choose_spec.choose_spec.2))
      have HLE2 := Lib.hid hle2
      clear hown2 hle2
      go_wp2_with fail
      refine (isSame_c v2 v _ l w2 HV2.out ((HV.out.le HLE1.out).le HLE2.out)).mono ?_
      rintro e w' ⟨rfl, rfl⟩
      generalize decide (l.map upC = l) = b2
      cases b2
      · go_wp2
        go_meet
        case rel => exact ⟨true, rfl, HLE2.out⟩
      · go_wp2
        go_meet
        case rel => exact ⟨false, rfl, HLE2.out⟩
    · go_wp2
      go_meet
      case rel => exact ⟨false, rfl, Le.refl w1⟩
  obtain ⟨g, rfl, hle⟩ := hcut
  have HLE := Lib.hid (HLE1.out.trans hle)
  have HVc := Lib.hid (HV1.out.le hle)
  clear hle
  cases g
  case true =>
    go_wp2
    go_returns
    exact ⟨HLE.out, .inr ⟨_, rfl⟩⟩
  have q1 := conv_bs (P := Tryz.prog) Tryz.underlying22 Tryz.underlying5 Tryz.underlying9 HVc.out
  by_cases c0 : low = pUdp
  · have k0 : ((st low).toList == [117, 100, 112]) = true := lit_b (decide_eq_true c0)
    have hp : portD low = 5060 := by rw [c0]; rfl
    have HP := Lib.hid hp
    clear hp  c0
    go_wp2
    go_returns
    exact ⟨HLE.out, .inl (by rw [HP.out]; rfl)⟩
  have k0 : ((st low).toList == [117, 100, 112]) = false := lit_b (decide_eq_false c0)
  by_cases c1 : low = pTcp
  · have k1 : ((st low).toList == [116, 99, 112]) = true := lit_b (decide_eq_true c1)
    have hp : portD low = 5060 := by rw [c1]; rfl
    have HP := Lib.hid hp
    clear hp c0 c1
    go_wp2
    go_returns
    exact ⟨HLE.out, .inl (by rw [HP.out]; rfl)⟩
  have k1 : ((st low).toList == [116, 99, 112]) = false := lit_b (decide_eq_false c1)
  by_cases c2 : low = pTls
  · have k2 : ((st low).toList == [116, 108, 115]) = true := lit_b (decide_eq_true c2)
    have hp : portD low = 5061 := by rw [c2]; rfl
    have HP := Lib.hid hp
    clear hp c0 c1 c2
    go_wp2
    go_returns
    exact ⟨HLE.out, .inl (by rw [HP.out]; rfl)⟩
  have k2 : ((st low).toList == [116, 108, 115]) = false := lit_b (decide_eq_false c2)
  by_cases c3 : low = pWs
  · have k3 : ((st low).toList == [119, 115]) = true := lit_b (decide_eq_true c3)
    have hp : portD low = 80 := by rw [c3]; rfl
    have HP := Lib.hid hp
    clear hp c0 c1 c2 c3
    go_wp2
    go_returns
    exact ⟨HLE.out, .inl (by rw [HP.out]; rfl)⟩
  have k3 : ((st low).toList == [119, 115]) = false := lit_b (decide_eq_false c3)
  by_cases c4 : low = pWss
  · have k4 : ((st low).toList == [119, 115, 115]) = true := lit_b (decide_eq_true c4)
    have hp : portD low = 443 := by rw [c4]; rfl
    have HP := Lib.hid hp
    clear hp c0 c1 c2 c3 c4
    go_wp2
    go_returns
    exact ⟨HLE.out, .inl (by rw [HP.out]; rfl)⟩
  have k4 : ((st low).toList == [119, 115, 115]) = false := lit_b (decide_eq_false c4)
  clear c0 c1 c2 c3 c4
  go_wp2
  go_returns
  exact ⟨HLE.out, .inr ⟨_, rfl⟩⟩
set_option maxRecDepth 8000 in
set_option maxHeartbeats 4000000 in
theorem fnPort_c (w : World) (v : Value) (l : Tx) (hv : Bv w v l) (hL : Laid w) :
    Calls Tryz.prog 3 #[v] w fun e w' => e = .returned (.bool true) ∧ Le w w' := by
  have HV := Lib.hid hv
  have HL := Lib.hid hL
  obtain ⟨A0, c0, rfl, hl0⟩ := bv_slice hv
  clear hv hL
  by_cases h1 : 2147483647 < l.length
  · have h1' : (2147483647 : Int) < l.length := by omega
    go_enter Tryz.func3, Tryz.ntmps3
    go_wp2
    go_ret
    exact ⟨rfl, Le.refl w⟩
  have h1' : (l.length : Int) ≤ 2147483647 := by omega
  by_cases h2 : 8192 < l.length
  · have h2' : (8192 : Int) < l.length := by omega
    go_enter Tryz.func3, Tryz.ntmps3
    go_wp2_with fail
    refine (known_c w HL.out).mono ?_
    rintro e w' ⟨rfl, hle⟩
    have HLE := Lib.hid hle
    clear hle
    go_wp2
    go_ret
    exact ⟨rfl, HLE.out⟩
  have h2' : (l.length : Int) ≤ 8192 := by omega
  go_enter Tryz.func3, Tryz.ntmps3
  go_wp2_with fail
  refine (sPort_c _ l w HV.out).mono ?_
  rintro e w1 ⟨hle1, rfl | ⟨n, rfl⟩⟩
  · have HLE1 := Lib.hid hle1
    have HC := Lib.hid (iPort_c _ l w1 (HV.out.le hle1) (by omega))
    clear hle1
    generalize portD (l.map lowC) = n at HC ⊢
    go_wp2_with fail
    refine HC.out.mono ?_
    rintro e w2 ⟨rfl, hle2⟩
    have HLE2 := Lib.hid (HLE1.out.trans hle2)
    clear hle2
    go_wp2_with fail
    refine (known_c w2 (HL.out.le HLE2.out)).mono ?_
    rintro e w3 ⟨rfl, hle3⟩
    have HLE3 := Lib.hid (HLE2.out.trans hle3)
    clear hle3
    go_wp2
    go_ret
    exact ⟨rfl, HLE3.out⟩
  · have HLE1 := Lib.hid hle1
    clear hle1
    go_wp2_with fail
    refine (known_c w1 (HL.out.le HLE1.out)).mono ?_
    rintro e w2 ⟨rfl, hle2⟩
    have HLE2 := Lib.hid (HLE1.out.trans hle2)
    clear hle2
    go_wp2
    go_ret
    exact ⟨rfl, HLE2.out⟩
end Go.Proofs.YtbdeohmdpkkpdaaGreatDoor
