/- Contract: the package's ParseUri. -/
import Derived.Test.YtbdeohmdpkkpdaaGreatDoorParse5
set_option linter.unusedVariables false
set_option linter.unusedSimpArgs false
namespace Go.Proofs.YtbdeohmdpkkpdaaGreatDoor
open Go.RowKit

/-- t is l without blanks ahead -/
def TrimT (l t : Tx) : Prop := (∃ k, t = l.drop k) ∧ (∀ x r, l = x :: r → x.toNat < 128 → spB x = false → t = l) ∧ (l = [] → t = l)
theorem TrimmedOf.tx {s t : ByteArray} (h : TrimmedOf s t) : TrimT (bs s) (bs t) := by
  obtain ⟨⟨k, _, h1⟩, h2, h3⟩ := h
  exact ⟨⟨k, h1⟩, fun x r a b c => congrArg bs (h2 x r a b c), fun e => congrArg bs (h3 e)⟩
/-- what a state does; 'none' for the state is the first one -/
def NextOk (o : Option Sq) (l : Tx) (u : PU) (r : Option (Sq × Tx × PU)) : Prop :=
  match o with
  | none => r = fScheme l u
  | some .slashes => r = some (fSlashes l u)
  | some .user => r = some (fUser l u)
  | some .host => r = some (fHost l u)
  | some .ip => r = none ∨ ∃ k, r = some (fIp l k u)
  | some .port => r = fPortU l u
  | some .params => ∃ t, TrimT l t ∧ r = some (fParams l t u)
  | some .heads => ∃ t, TrimT l t ∧ r = some (fHeads l t u)
  | some .stop => False
def rk : Option Sq → Nat
  | none => 9
  | some .slashes => 8
  | some .user => 7
  | some .host => 6
  | some .ip => 5
  | some .port => 4
  | some .params => 3
  | some .heads => 2
  | some .stop => 1
inductive PRun : Option Sq → Tx → PU → Option PU → Prop
  | done (l : Tx) (u : PU) : PRun (some .stop) l u (some u)
  | fail {o : Option Sq} {l : Tx} {u : PU} (h : NextOk o l u none) : PRun o l u none
  | step {o : Option Sq} {l : Tx} {u : PU} {x : Sq × Tx × PU} {r : Option PU} (h : NextOk o l u (some x)) (k : PRun (some x.1) x.2.1 x.2.2 r) : PRun o l u r
/-- which URI a text is: none, or one -/
def PTop (l : Tx) (u : PU) (r : Option PU) : Prop := if l = [] then r = none else PRun none l u r

theorem next_rk {o : Option Sq} {l : Tx} {u : PU} {x : Sq × Tx × PU} (h : NextOk o l u (some x)) : rk (some x.1) < rk o ∧ x.2.1.length ≤ l.length := by
  have hd : ∀ n, (l.drop n).length ≤ l.length := fun n => by simp only [List.length_drop]; omega
  cases o with
  | none =>
    have h' : some x = fScheme l u := h
    clear h
    unfold fScheme at h'
    split at h'
    · split at h'
      · injection h' with h'; subst h'; exact ⟨by simp [rk], by simp⟩
      · cases h'
    · dsimp only at h'
      split at h'
      · split at h'
        · split at h' <;> (injection h' with h'; subst h'; first | exact ⟨by simp [rk], hd _⟩ | exact ⟨by simp [rk], by simp⟩)
        · cases h'
      · cases h'
  | some q =>
    cases q with
    | slashes => injection h with h; subst h; unfold fSlashes; split <;> first | exact ⟨by simp [rk], hd _⟩ | exact ⟨by simp [rk], Nat.le_refl _⟩
    | user =>
      injection h with h; subst h; unfold fUser
      dsimp only
      (repeat' split) <;> first | exact ⟨by simp [rk], hd _⟩ | exact ⟨by simp [rk], Nat.le_refl _⟩
    | host =>
      injection h with h; subst h; unfold fHost
      dsimp only
      (repeat' split) <;> first | exact ⟨by simp [rk], hd _⟩ | exact ⟨by simp [rk], Nat.zero_le _⟩
    | ip =>
      rcases h with h | ⟨k, h⟩
      · cases h
      · injection h with h; subst h; unfold fIp
        have h2 := hd (k + 1)
        dsimp only
        split
        · exact ⟨by simp [rk], Nat.zero_le _⟩
        · rename_i c t e
          rw [e] at h2
          simp only [List.length_cons] at h2
          (repeat' split) <;> first | exact ⟨by simp [rk], by dsimp only; omega⟩ | exact ⟨by simp [rk], Nat.zero_le _⟩
    | port =>
      have h' : some x = fPortU l u := h
      clear h
      unfold fPortU at h'
      split at h'
      · injection h' with h'; subst h'
        unfold fPort
        dsimp only
        (repeat' split) <;> first | exact ⟨by simp [rk], hd _⟩ | exact ⟨by simp [rk], Nat.zero_le _⟩
      · cases h'
    | params =>
      obtain ⟨t, _, h⟩ := h
      injection h with h; subst h; unfold fParams
      dsimp only
      (repeat' split) <;> first | exact ⟨by simp [rk], hd _⟩ | exact ⟨by simp [rk], Nat.le_refl _⟩ | exact ⟨by simp [rk], Nat.zero_le _⟩
    | heads =>
      obtain ⟨t, _, h⟩ := h
      injection h with h; subst h; unfold fHeads
      exact ⟨by simp [rk], Nat.le_refl _⟩
    | stop => exact h.elim

/-- the state's value, and its function's number -/
def valO : Option Sq → Value
  | none => .func (.func 117) #[] #[]
  | some q => q.val
def fidO : Option Sq → FuncId
  | none => 117
  | some .slashes => 131
  | some .user => 140
  | some .host => 144
  | some .ip => 149
  | some .port => 150
  | some .params => 151
  | some .heads => 152
  | some .stop => 0
theorem valO_eq {o : Option Sq} (h : o ≠ some .stop) : valO o = .func (.func (fidO o)) #[] #[] := by
  cases o with
  | none => rfl
  | some q => cases q <;> first | rfl | exact (h rfl).elim
theorem callO (o : Option Sq) (ho : o ≠ some .stop) (args : Array Value) (w : World) : (callFunc (fidO o) args).run Tryz.prog w = .ok (.enter (fidO o) args) w := by
  cases o with
  | none => exact (show (callFunc 117 args).run Tryz.prog w = .ok (.enter 117 args) w from by kernel_rfl)
  | some q =>
    cases q with
    | slashes => exact (show (callFunc 131 args).run Tryz.prog w = .ok (.enter 131 args) w from by kernel_rfl)
    | user => exact (show (callFunc 140 args).run Tryz.prog w = .ok (.enter 140 args) w from by kernel_rfl)
    | host => exact (show (callFunc 144 args).run Tryz.prog w = .ok (.enter 144 args) w from by kernel_rfl)
    | ip => exact (show (callFunc 149 args).run Tryz.prog w = .ok (.enter 149 args) w from by kernel_rfl)
    | port => exact (show (callFunc 150 args).run Tryz.prog w = .ok (.enter 150 args) w from by kernel_rfl)
    | params => exact (show (callFunc 151 args).run Tryz.prog w = .ok (.enter 151 args) w from by kernel_rfl)
    | heads => exact (show (callFunc 152 args).run Tryz.prog w = .ok (.enter 152 args) w from by kernel_rfl)
    | stop => exact (ho rfl).elim
def StateP (o : Option Sq) (l : Tx) (b : Nat) (u : PU) (w : World) (e : Ending) (w' : World) : Prop :=
  (∃ x, NextOk o l u (some x) ∧ StPost b w x e w') ∨ (NextOk o l u none ∧ ErrPost b w e w')
theorem RPost.sp {o : Option Sq} {l : Tx} {b : Nat} {u : PU} {w w' : World} {e : Ending} {r : Option (Sq × Tx × PU)} (h : RPost b w r e w') (k : NextOk o l u r) : StateP o l b u w e w' := by
  cases r with
  | none => exact .inr ⟨k, h⟩
  | some x => exact .inl ⟨x, k, h⟩
theorem state_c (o : Option Sq) (ho : o ≠ some .stop) (s : ByteArray) (b : Nat) (u : PU) (w : World) (hu : UAt w b u) (hs : s.size ≤ 1099511627000) (hL : LaidU b w) :
    Calls Tryz.prog (fidO o) #[.pointer (some ⟨b, 0, none⟩), .string s] w (StateP o (bs s) b u w) := by
  cases o with
  | none => exact (schemes_c s b u w hu (by omega)).mono fun e w' h => h.sp rfl
  | some q =>
    cases q with
    | slashes => exact (slashes_c s b u w hu).mono fun e w' h => .inl ⟨_, rfl, h⟩
    | user => exact (user_c s b u w hu (by omega)).mono fun e w' h => .inl ⟨_, rfl, h⟩
    | host => exact (host_c s b u w hu (by omega)).mono fun e w' h => .inl ⟨_, rfl, h⟩
    | ip => exact (ip_c s b u w hu (by omega)).mono fun e w' h => by
              rcases h with ⟨k, h⟩ | h
              · exact .inl ⟨_, .inr ⟨k, rfl⟩, h⟩
              · exact .inr ⟨.inl rfl, h⟩
    | port => exact (port_c s b u w hu (by omega) hL.laid).mono fun e w' h => h.sp rfl
    | params => exact (params_c s b u w hu hs hL).mono fun e w' ⟨t, ht, h⟩ => .inl ⟨_, ⟨_, ht.tx, rfl⟩, h⟩
    | heads => exact (heads_c s b u w hu hs hL).mono fun e w' ⟨t, ht, h⟩ => .inl ⟨_, ⟨_, ht.tx, rfl⟩, h⟩
    | stop => exact (ho rfl).elim

/-! ### a function's value against nil -/
theorem equalIn_func {P : Program} {w : World} (d : Nat) (t : TypeId) {a b : Array TypeId} {c : Bool} (h : P.underlying t = some (.func a b c)) (f : Fn) (x y : Array Value) : (Op.equalIn (d + 1) t (.func f x y) .nilFunc).run P w = .ok false w := by
  simp [Op.equalIn, run_underlying h]
theorem equalIn_nilFunc {P : Program} {w : World} (d : Nat) (t : TypeId) {a b : Array TypeId} {c : Bool} (h : P.underlying t = some (.func a b c)) : (Op.equalIn (d + 1) t .nilFunc .nilFunc).run P w = .ok true w := by
  simp [Op.equalIn, run_underlying h]
theorem neq_func {P : Program} {w : World} (t : TypeId) {a b : Array TypeId} {c : Bool} (h : P.underlying t = some (.func a b c)) (f : Fn) (x y : Array Value) : (binOp .neq t (.func f x y) .nilFunc).run P w = .ok (.bool true) w := by
  have e : (Op.equal t (.func f x y) .nilFunc).run P w = .ok false w := equalIn_func 9999 t h f x y
  simp only [binOp]
  simp [e]
theorem neq_nilFunc {P : Program} {w : World} (t : TypeId) {a b : Array TypeId} {c : Bool} (h : P.underlying t = some (.func a b c)) : (binOp .neq t .nilFunc .nilFunc).run P w = .ok (.bool false) w := by
  have e : (Op.equal t .nilFunc .nilFunc).run P w = .ok true w := equalIn_nilFunc 9999 t h
  simp only [binOp]
  simp [e]

/-- what ParseUri leaves -/
def SipPost (l : Tx) (b : Nat) (u : PU) (w : World) (e : Ending) (w' : World) : Prop :=
  Kp b w w' ∧ ((∃ v, PTop l u (some v) ∧ e = .returned .nilIface ∧ UAt w' b v) ∨ (PTop l u none ∧ ∃ T a v, e = .returned (.iface T (.pointer (some a))) ∧ UAt w' b v))

set_option maxRecDepth 6000 in
set_option maxHeartbeats 1000000 in
theorem sip_c (s : ByteArray) (b : Nat) (u : PU) (w : World) (hu : UAt w b u) (hs : s.size ≤ 1099511627000) (hL : LaidU b w) :
    Calls Tryz.prog 93 #[.string s, .pointer (some ⟨b, 0, none⟩)] w (SipPost (bs s) b u w) := by
  have HL := Lib.hid (bs_len s)
  have HU := Lib.hid hu
  have HLAID := Lib.hid hL
  clear hu hL
  by_cases h0 : s.size = 0
  · have hs0 : bs s = [] := List.eq_nil_of_length_eq_zero (by rw [HL.out]; exact h0)
    have HS0 := Lib.hid hs0
    have hb0 : ((s.size : Int) == 0) = true := by simp [h0]
    clear hs0
    go_enter Tryz.func93, Tryz.ntmps93
    go_wp2_with fail
    refine (errnew_c _ _).mono ?_
    rintro e w3 ⟨rfl, hle3⟩
    have HLE3 := Lib.hid hle3
    clear hle3
    go_wp2
    go_ret
    exact ⟨HLE3.out.kp b, .inr ⟨by unfold PTop; rw [if_pos HS0.out], _, _, u, rfl, HU.out.le HLE3.out⟩⟩
  · have hb0 : ((s.size : Int) == 0) = false := beq_eq_false_iff_ne.2 (by omega)
    have hne : bs s ≠ [] := by intro e; apply h0; rw [← HL.out, e]; rfl
    have HNE := Lib.hid hne
    clear hne
    go_enter Tryz.func93, Tryz.ntmps93
    go_wp2
    go_loopg [4, 5, 6] 9 (fun n e4 f5 s6 wr => ∃ (o : Option Sq) (l : Tx) (v : PU), n = rk o ∧ e4 = .nilIface ∧ f5 = valO o ∧ s6 = .string (st l) ∧ l.length ≤ s.size ∧ UAt wr b v ∧ Kp b w wr ∧ (∀ r, PRun o l v r → PRun none (bs s) u r))
    case atStart => exact ⟨none, bs s, u, rfl, rfl, rfl, by rw [st_bs], by rw [HL.out]; exact Nat.le_refl _, HU.out, Kp.refl _ _, fun _ h => h⟩
    case round =>
      obtain ⟨o, l, v, hn, rfl, hf, rfl, hl, hua, hkp, hrun⟩ := hrel
      have HN := Lib.hid hn
      have HUA := Lib.hid hua
      have HKP := Lib.hid hkp
      have HRUN := Lib.hid hrun
      clear hn hua hkp hrun
      by_cases ho : o = some .stop
      · subst ho
        have e5 := hf
        simp only [valO, Sq.val] at e5
        clear hf
        subst e5
        have hq := neq_nilFunc (P := Tryz.prog) (w := wr) 177 Tryz.underlying177
        go_wp2
        go_ret
        exact ⟨HKP.out, .inl ⟨v, by unfold PTop; rw [if_neg HNE.out]; exact HRUN.out _ (.done _ _), rfl, HUA.out⟩⟩
      · have e5 := hf.trans (valO_eq ho)
        subst e5
        have HO := Lib.hid ho
        have HC := Lib.hid (state_c o ho (st l) b v wr HUA.out (by rw [st_size]; omega) (HLAID.out.kp HKP.out))
        have hcf := callO o ho
        clear ho hf
        generalize fidO o = N at HC hcf ⊢
        have hq := neq_func (P := Tryz.prog) (w := wr) 177 Tryz.underlying177 (.func N) #[] #[]
        go_wp2_with fail
        refine HC.out.mono ?_
        rintro e w2 h
        rw [bs_st] at h
        rcases h with ⟨x, hx, rfl, hua2, hkp2⟩ | ⟨hx, v1, t1, T1, a1, u1, rfl, hua2, hkp2⟩
        · have HX := Lib.hid hx
          have HUA2 := Lib.hid hua2
          have HKP2 := Lib.hid (HKP.out.trans hkp2)
          have HRK := Lib.hid (next_rk hx)
          clear hx hua2 hkp2 HC
          go_wp2
          go_roundg (rk (some x.1))
          case measure => have := HN.out; have := HRK.out.1; omega
          case rel => exact ⟨some x.1, x.2.1, x.2.2, rfl, rfl, rfl, rfl, Nat.le_trans HRK.out.2 hl, HUA2.out, HKP2.out, fun r k => HRUN.out r (.step HX.out k)⟩
        · have HX := Lib.hid hx
          have HUA2 := Lib.hid hua2
          have HKP2 := Lib.hid (HKP.out.trans hkp2)
          clear hx hua2 hkp2 HC
          go_wp2
          go_ret
          exact ⟨HKP2.out, .inr ⟨by unfold PTop; rw [if_neg HNE.out]; exact HRUN.out _ (.fail HX.out), _, _, _, rfl, HUA2.out⟩⟩
end Go.Proofs.YtbdeohmdpkkpdaaGreatDoor
