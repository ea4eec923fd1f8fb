/- Contracts: the package's reader of addresses. -/
import Derived.Test.YteedhaenbamiaaaGreatDoorAdP
set_option linter.unusedVariables false
set_option linter.unusedSimpArgs false
namespace Go.Proofs.YteedhaenbamiaaaGreatDoor
open Go.RowKit

def fidA : Aq → FuncId
  | .disp => 113
  | .quoted => 127
  | .brack => 129
  | .uri => 130
  | .prms => 146
  | .stop => 0
theorem Aq.val_eq {q : Aq} (h : q ≠ .stop) : q.val = .func (.func (fidA q)) #[] #[] := by cases q <;> first | rfl | exact (h rfl).elim
theorem callA (q : Aq) (hq : q ≠ .stop) (args : Array Value) (w : World) : (callFunc (fidA q) args).run Tryz.prog w = .ok (.enter (fidA q) args) w := by
  cases q with
  | disp => exact (show (callFunc 113 args).run Tryz.prog w = .ok (.enter 113 args) w from by kernel_rfl)
  | quoted => exact (show (callFunc 127 args).run Tryz.prog w = .ok (.enter 127 args) w from by kernel_rfl)
  | brack => exact (show (callFunc 129 args).run Tryz.prog w = .ok (.enter 129 args) w from by kernel_rfl)
  | uri => exact (show (callFunc 130 args).run Tryz.prog w = .ok (.enter 130 args) w from by kernel_rfl)
  | prms => exact (show (callFunc 146 args).run Tryz.prog w = .ok (.enter 146 args) w from by kernel_rfl)
  | stop => exact (hq rfl).elim

theorem aDisp_keep (l : Tx) (v : AV) : { v with name := (aDisp l v).2.2.name } = (aDisp l v).2.2 := by
  unfold aDisp
  dsimp only
  (repeat' split) <;> rfl
theorem aQuoted_keep {l : Tx} {v : AV} {x : Aq × Tx × AV} (h : aQuoted l v = some x) : { v with name := x.2.2.name } = x.2.2 := by
  unfold aQuoted at h
  split at h
  · dsimp only at h
    split at h
    · injection h with h; subst h; rfl
    · cases h
  · cases h
theorem trimld_len : ∀ (n : Nat) (l : Tx), (Lib.trimLeftD n l).length ≤ l.length
  | 0, l => Nat.le_refl _
  | n + 1, l => by
    unfold Lib.trimLeftD
    (repeat' split) <;> first | exact Nat.zero_le _ | exact Nat.le_refl _ | exact Nat.le_trans (trimld_len n _) (by simp only [List.length_drop]; omega)
theorem trimrd_len : ∀ (n : Nat) (l : Tx), (Lib.trimRightD n l).length ≤ l.length
  | 0, l => Nat.le_refl _
  | n + 1, l => by
    unfold Lib.trimRightD
    (repeat' split) <;> first | exact Nat.zero_le _ | exact Nat.le_refl _ | exact Nat.le_trans (trimrd_len n _) (by simp only [List.length_take]; omega)
theorem trimsp_len (l : Tx) : (Lib.trimSpaceD l).length ≤ l.length := Nat.le_trans (trimrd_len _ _) (trimld_len _ _)
theorem aDisp_nl {l : Tx} {v : AV} {B : Nat} (h : v.name.length ≤ B) (hl : l.length ≤ B) : (aDisp l v).2.2.name.length ≤ B := by
  unfold aDisp
  dsimp only
  (repeat' split) <;> first | exact h | exact Nat.le_trans (trimsp_len _) (by simp only [List.length_take]; omega)
theorem aQuoted_nl {l : Tx} {v : AV} {B : Nat} (h : v.name.length ≤ B) (hl : l.length ≤ B) {x : Aq × Tx × AV} (hx : aQuoted l v = some x) : x.2.2.name.length ≤ B := by
  unfold aQuoted at hx
  split at hx
  · dsimp only at hx
    split at hx
    · injection hx with hx; subst hx; simp only [List.length_take]; omega
    · cases hx
  · cases hx
theorem astate_c (q : Aq) (hq : q ≠ .stop) (s : ByteArray) (w0 : World) (na bu bp : Nat) (v : AV) (w : World) (hu : ASt q w0 w na bu bp v) (hs : s.size ≤ 1099511627000) (hks : KSm 1099511627700 v.ps) (hL : LaidA w0) :
    Calls Tryz.prog (fidA q) #[.pointer (some ⟨na, 0, none⟩), .string s] w (APost w0 na bu bp q (bs s) v) := by
  cases q with
  | disp =>
    have hu' : NSt w0 w na bu bp v := hu
    refine (disp_c s na bu bp v w hu'.nm (by omega) (hL.le hu'.fr)).mono fun e w' ⟨he, h2, h3⟩ => .inl ⟨_, rfl, he, ?_⟩
    have h := hu'.name h3 h2 (aDisp_nl hu'.nl (by rw [bs_len]; exact hs))
    rw [aDisp_keep] at h
    exact h.ast
  | quoted =>
    have hu' : NSt w0 w na bu bp v := hu
    refine (quoted_c s na bu bp v w hu'.nm hs hu'.nl).mono fun e w' h => ?_
    rcases hr : aQuoted (bs s) v with _ | x
    · rw [hr] at h
      obtain ⟨f, t, T, a, n, he, ⟨h2, h4⟩, h3⟩ := h
      exact .inr ⟨hr.symm, f, t, T, a, { v with name := n }, he, rfl, (hu'.name h3 h2 h4).ast⟩
    · rw [hr] at h
      obtain ⟨he, h2, h3⟩ := h
      refine .inl ⟨x, hr.symm, he, ?_⟩
      have h := hu'.name h3 h2 (aQuoted_nl hu'.nl (by rw [bs_len]; exact hs) hr)
      rw [aQuoted_keep hr] at h
      exact h.ast
  | brack => exact brack_c s w0 na bu bp v w hu hs hL
  | uri => exact auri_c s w0 na bu bp v w hu hs hL
  | prms =>
    obtain ⟨base, hu'⟩ := hu
    exact prms_c s w0 base na bu bp v w hu' hs hks
  | stop => exact (hq rfl).elim

def rkA : Aq → Nat
  | .disp => 4
  | .quoted => 3
  | .brack => 2
  | .uri => 2
  | .prms => 1
  | .stop => 0
theorem addP_sm {N : Nat} {ps : KVs} (h : KSm N ps) {p : Tx} (hp : p.length ≤ 1099511627776) : KSm (N + 1) (addP ps p) := by
  unfold addP
  split
  · exact h.add (by simp only [List.length_take]; omega) (by simp only [List.length_drop]; omega)
  · split
    · exact h.mono (by omega)
    · exact h.add hp (by simp)
/-- how the states go on -/
theorem anext_rk {q : Aq} {l : Tx} {v : AV} {x : Aq × Tx × AV} (h : ANextOk q l v (some x)) : (rkA x.1 < rkA q ∧ x.2.1.length ≤ l.length ∧ (q ≠ .prms → x.2.2.ps = v.ps)) ∨ (q = .prms ∧ x.1 = .prms ∧ x.2.1.length < l.length) := by
  have hd : ∀ n, (l.drop n).length ≤ l.length := fun n => by simp only [List.length_drop]; omega
  cases q with
  | disp =>
    have h' : some x = some (aDisp l v) := h
    injection h' with h'; subst h'; unfold aDisp
    dsimp only
    (repeat' split) <;> first | exact .inl ⟨by simp [rkA], hd _, fun _ => rfl⟩ | exact .inl ⟨by simp [rkA], Nat.le_refl _, fun _ => rfl⟩
  | quoted =>
    have h' : some x = aQuoted l v := h
    unfold aQuoted at h'
    split at h'
    · dsimp only at h'
      split at h'
      · injection h' with h'; subst h'
        refine .inl ⟨by dsimp only; split <;> simp [rkA], ?_, fun _ => rfl⟩
        simp only [List.length_drop]; omega
      · cases h'
    · cases h'
  | brack =>
    unfold ANextOk at h
    dsimp only at h
    split at h
    · obtain ⟨o, _, h⟩ := h
      cases o with
      | none => cases h
      | some u => injection h with h; subst h; exact .inl ⟨by simp [rkA], hd _, fun _ => rfl⟩
    · cases h
  | uri =>
    unfold ANextOk at h
    dsimp only at h
    split at h
    · cases h
    · split at h
      · obtain ⟨o, _, h⟩ := h
        cases o with
        | none => cases h
        | some u => injection h with h; subst h; exact .inl ⟨by simp [rkA], hd _, fun _ => rfl⟩
      · obtain ⟨o, _, h⟩ := h
        cases o with
        | none => cases h
        | some u => injection h with h; subst h; exact .inl ⟨by simp [rkA], Nat.le_refl _, fun _ => rfl⟩
  | prms =>
    have h' : some x = some (aPrms l v) := h
    injection h' with h'; subst h'; unfold aPrms
    split
    · rename_i hi
      exact .inr ⟨rfl, rfl, by simp only [List.length_drop]; omega⟩
    · exact .inl ⟨by simp [rkA], Nat.le_refl _, fun h => (h rfl).elim⟩
  | stop => exact h.elim
/-- the parameters stay small -/
def PSm (S : Nat) (q : Aq) (l : Tx) (v : AV) : Prop := ∃ N, KSm N v.ps ∧ (q = .stop → N ≤ S + 1) ∧ (q ≠ .stop → N + l.length ≤ S)
theorem PSm.sm {S : Nat} {q : Aq} {l : Tx} {v : AV} (h : PSm S q l v) : KSm (S + 1) v.ps := by
  obtain ⟨N, h1, h2, h3⟩ := h
  by_cases hq : q = .stop
  · exact h1.mono (h2 hq)
  · exact h1.mono (by have := h3 hq; omega)
theorem PSm.next {S : Nat} {q : Aq} {l : Tx} {v : AV} {x : Aq × Tx × AV} (h : PSm S q l v) (hS : S ≤ 1099511627000) (hq : q ≠ .stop) (hx : ANextOk q l v (some x)) : PSm S x.1 x.2.1 x.2.2 := by
  obtain ⟨N, h1, _, h3⟩ := h
  have h3 := h3 hq
  by_cases hp : q = .prms
  · subst hp
    have h' : some x = some (aPrms l v) := hx
    injection h' with h'; subst h'; unfold aPrms
    split
    · rename_i hi
      refine ⟨N + 1, addP_sm h1 (by simp only [List.length_take]; omega), fun h => (by cases h), fun _ => ?_⟩
      simp only [List.length_drop]; omega
    · exact ⟨N + 1, addP_sm h1 (by omega), fun _ => by omega, fun h => (h rfl).elim⟩
  · rcases anext_rk hx with ⟨hr, hl, he⟩ | ⟨he, _⟩
    · exact ⟨N, by rw [he hp]; exact h1, fun _ => by omega, fun _ => by omega⟩
    · exact (hp he).elim
theorem am_lt {S a b x y : Nat} (h : a < b) (hx : x ≤ S) (hy : x ≤ y) : a * (S + 1) + x < b * (S + 1) + y := by
  have := Nat.mul_le_mul_right (S + 1) (show a + 1 ≤ b from h)
  rw [Nat.succ_mul] at this
  omega

/-- what the reader leaves -/
def PnPost (w0 : World) (S na bu bp : Nat) (l : Tx) (v : AV) (e : Ending) (w' : World) : Prop :=
  (∃ r, ARun .disp l v (some r) ∧ e = .returned .nilIface ∧ ASt .stop w0 w' na bu bp r ∧ KSm (S + 1) r.ps) ∨
  (ARun .disp l v none ∧ ∃ T a r, e = .returned (.iface T (.pointer (some a))) ∧ ASt .stop w0 w' na bu bp r ∧ KSm (S + 1) r.ps)

set_option maxRecDepth 6000 in
set_option maxHeartbeats 1000000 in
theorem pname_c (s : ByteArray) (w0 : World) (na bu bp : Nat) (v : AV) (w : World) (hu : NSt w0 w na bu bp v) (hs : s.size ≤ 1099511627000) (hL : LaidA w0) :
    Calls Tryz.prog 93 #[.string s, .pointer (some ⟨na, 0, none⟩)] w (PnPost w0 s.size na bu bp (bs s) v) := by
  have HL := Lib.hid (bs_len s)
  have HU := Lib.hid hu
  have HLA := Lib.hid hL
  clear hu hL
  go_enter Tryz.func93, Tryz.ntmps93
  go_wp2
  go_loopg [4, 5, 6] (4 * (s.size + 1) + s.size) (fun n e4 f5 s6 wr => ∃ (q : Aq) (l : Tx) (x : AV), n = rkA q * (s.size + 1) + l.length ∧ e4 = .nilIface ∧ f5 = q.val ∧ s6 = .string (st l) ∧ l.length ≤ s.size ∧ ASt q w0 wr na bu bp x ∧ PSm s.size q l x ∧ (∀ r, ARun q l x r → ARun .disp (bs s) v r))
  case atStart => exact ⟨.disp, bs s, v, by rw [HL.out]; rfl, rfl, rfl, by rw [st_bs], by rw [HL.out]; exact Nat.le_refl _, HU.out, ⟨0, by rw [HU.out.ps]; exact ⟨Nat.le_refl _, by simp⟩, (fun h => by cases h), (fun _ => by rw [HL.out]; omega)⟩, fun _ h => h⟩
  case round =>
    obtain ⟨q, l, x, hn, rfl, hf, rfl, hl, hua, hps, hrun⟩ := hrel
    have HN := Lib.hid hn
    have HUA := Lib.hid hua
    have HPS := Lib.hid hps
    have HRUN := Lib.hid hrun
    clear hn hua hps hrun
    by_cases hq : q = .stop
    · subst hq
      have e5 : _ = Value.nilFunc := hf
      clear hf
      subst e5
      have hqn := neq_nilFunc (P := Tryz.prog) (w := wr) 165 Tryz.underlying165
      go_wp2
      go_ret
      exact .inl ⟨x, HRUN.out _ (.done _ _), rfl, HUA.out, HPS.out.sm⟩
    · have e5 := hf.trans (Aq.val_eq hq)
      subst e5
      have HQ := Lib.hid hq
      have HC := Lib.hid (astate_c q hq (st l) w0 na bu bp x wr HUA.out (by rw [st_size]; omega) (HPS.out.sm.mono (by omega)) HLA.out)
      have hcf := callA q hq
      clear hq hf
      generalize fidA q = N at HC hcf ⊢
      have hqn := neq_func (P := Tryz.prog) (w := wr) 165 Tryz.underlying165 (.func N) #[] #[]
      go_wp2_with fail
      refine HC.out.mono ?_
      rintro e w2 h
      rw [bs_st] at h
      rcases h with ⟨y, hy, rfl, hua2⟩ | ⟨hy, f1, t1, T1, a1, v1, rfl, hp1, hua2⟩
      · have HY := Lib.hid hy
        have HUA2 := Lib.hid hua2
        have HPS2 := Lib.hid (HPS.out.next hs HQ.out hy)
        have HM : Hid (rkA y.1 * (s.size + 1) + y.2.1.length < rkA q * (s.size + 1) + l.length ∧ y.2.1.length ≤ s.size) := by
          rcases anext_rk hy with ⟨h1, h2, _⟩ | ⟨h1, h2, h3⟩
          · exact ⟨am_lt h1 (by omega) h2, by omega⟩
          · exact ⟨by rw [h1, h2]; omega, by omega⟩
        clear hy hua2 HC
        go_wp2
        go_roundg (rkA y.1 * (s.size + 1) + y.2.1.length)
        case measure => have := HN.out; have := HM.out.1; omega
        case rel => exact ⟨y.1, y.2.1, y.2.2, rfl, rfl, rfl, rfl, HM.out.2, HUA2.out, HPS2.out, fun r k => HRUN.out r (.step HY.out k)⟩
      · have HY := Lib.hid hy
        have HUA2 := Lib.hid hua2
        have HP1 := Lib.hid (hp1 ▸ HPS.out.sm : KSm (s.size + 1) v1.ps)
        clear hy hua2 HC
        go_wp2
        go_ret
        exact .inr ⟨HRUN.out _ (.fail HY.out), _, _, _, rfl, HUA2.out, HP1.out⟩
end Go.Proofs.YteedhaenbamiaaaGreatDoor
