/- Contracts: NewParams, the states of parameters and of headers. -/
import Derived.Test.YtbdeohmdpkkpdaaGreatDoorUnm
import Derived.Test.YtbdeohmdpkkpdaaGreatDoorParse4
set_option linter.unusedVariables false
set_option linter.unusedSimpArgs false
namespace Go.Proofs.YtbdeohmdpkkpdaaGreatDoor
open Go.RowKit

def fParams (l t : Tx) (u : PU) : Sq × Tx × PU :=
  if l = [] then (.stop, [], { u with ps := [], hs := [] })
  else
    let r := unm t 59 63 []
    let n := if r.1 = l.length then l.length - 1 else r.1
    if l.getD n 0 = 63 then (.heads, l.drop (n + 1), { u with ps := r.2 }) else (.stop, l, { u with ps := r.2 })
def fHeads (l t : Tx) (u : PU) : Sq × Tx × PU := (.stop, l, { u with hs := (unm t 38 0 []).2 })

theorem umGo_le (l : Tx) (sp en : UInt8) : ∀ (f i : Nat) (m : UM), i ≤ l.length → (umGo l sp en f i m).1 ≤ l.length := by
  intro f
  induction f with
  | zero => intro i m h; exact h
  | succ f ih =>
    intro i m h
    unfold umGo
    split
    · split
      · exact h
      · exact ih _ _ (by omega)
    · exact Nat.le_refl _
theorem unm_le (l : Tx) (sp en : UInt8) (p : KVs) : (unm l sp en p).1 ≤ l.length := umGo_le l sp en _ _ _ (Nat.zero_le _)
theorem umStep_sm {l : Tx} (hl : l.length ≤ 1099511627776) {sp x : UInt8} {i N : Nat} {m : UM} (h : KSm N m.acc) : KSm (N + 1) (umStep l sp i x m).acc := by
  have hd : (l.drop m.start).length ≤ 1099511627776 := by simp only [List.length_drop]; omega
  have hs : ∀ a b, (sub l a b).length ≤ 1099511627776 := fun a b => Nat.le_trans (sub_len l a b) hl
  have h0 := h.mono (Nat.le_succ N)
  unfold umStep
  split
  · exact h0
  · split
    · exact h.add (hs _ _) (by simp)
    · split <;> exact h0
  · split
    · exact h0
    · split
      · exact h.add (hs _ _) (hs _ _)
      · exact h0
  · split
    · exact h.add hd (hs _ _)
    · exact h0
theorem umGo_sm {l : Tx} (hl : l.length ≤ 1099511627776) {sp en : UInt8} : ∀ (f i N : Nat) (m : UM), i ≤ l.length → KSm N m.acc → KSm (N + (l.length - i)) (umGo l sp en f i m).2.acc := by
  intro f
  induction f with
  | zero => intro i N m h k; exact k.mono (by omega)
  | succ f ih =>
    intro i N m h k
    unfold umGo
    split
    · split
      · exact k.mono (by omega)
      · exact (ih _ (N + 1) _ (by omega) (umStep_sm hl k)).mono (by omega)
    · exact k.mono (by omega)
theorem unm_sm {l : Tx} (hl : l.length ≤ 1099511627776) {sp en : UInt8} {N : Nat} {p : KVs} (h : KSm N p) : KSm (N + l.length + 2) (unm l sp en p).2 := by
  have h1 := umGo_sm hl (sp := sp) (en := en) (l.length + 1) 0 N ⟨0, 0, -1, 1, p⟩ (Nat.zero_le _) h
  have hs : ∀ a b, (sub l a b).length ≤ 1099511627776 := fun a b => Nat.le_trans (sub_len l a b) hl
  have hd : ∀ a, (l.drop a).length ≤ 1099511627776 := fun a => by simp only [List.length_drop]; omega
  unfold unm
  generalize umGo l sp en (l.length + 1) 0 ⟨0, 0, -1, 1, p⟩ = r at h1
  dsimp only
  unfold umEnd
  dsimp only
  have h2 : KSm (N + l.length + 1) (if 0 < r.2.sep ∧ r.2.start < r.2.sep then addKV r.2.acc (sub l r.2.start r.2.sep) (sub l (r.2.sep + 1) r.1) else r.2.acc) := by
    split
    · exact (h1.add (hs _ _) (hs _ _)).mono (by omega)
    · exact h1.mono (by omega)
  split
  · exact (h2.add (hd _) (by simp)).mono (by omega)
  · exact h2.mono (by omega)

theorem newparams_c (base : Nat) (w : World) (hbase : base ≤ w.heap.size) : Calls Tryz.prog 67 #[] w fun e w' =>
    ∃ g, e = .returned (.slice (some ⟨g, 0, none⟩) 0 4) ∧ w'.ownsRow base 164 2 (.slice (some ⟨g, 0, none⟩) 0 4) 0 [] ∧ Le w w' := by
  obtain ⟨i0, hi0, hz0, hz1, hz2⟩ := info_parts kv_info
  obtain ⟨W2, hrun, hown, hgr⟩ := run_makeSlice_owned (P := Tryz.prog) (w := w) base 94 164 i0 _ 2 Tryz.underlying94 hi0 hz0 hz1 .i64 .i64 4 (by decide) (by rw [hz2]; decide) (by decide) hbase
  have HO := Lib.hid hown
  have HG : Hid (Le w W2) := Lib.hid ⟨hgr.os, hgr.tape, hgr.output, hgr.size, fun k hk => hgr.block k hk (by simp)⟩
  have hrun2 : (Instr.makeSlice 94 (.int .i64 0) (.int .i64 4)).run Tryz.prog w = .ok (.slice (some ⟨w.heap.size, 0, none⟩) 0 4) W2 := hrun
  clear hrun hown hgr hi0 hz0 hz1 hz2
  go_enter Tryz.func67, Tryz.ntmps67
  go_wp2
  go_ret
  exact ⟨_, rfl, HO.out, HG.out⟩

/-- a URI whose parameters are the call's own -/
theorem UAt.of_ps {w : World} {base b : Nat} {u : PU} {pv hv : Value} {l : KVs} (hp : PAx w base b 8 128 (u.cells pv hv) l) (hh : Hp w hv u.hs) (hs : u.small) (hk : KSm 1099511627776 l) : UAt w b { u with ps := l } := by
  obtain ⟨v, x, hx, hb, hown⟩ := hp
  have e : x = v := (Option.some.inj hx).symm
  subst e
  exact ⟨x, hv, hb, Hp.of_own hown hk.1 hk.2, hh, hs⟩
theorem UAt.of_hs {w : World} {base b : Nat} {u : PU} {pv hv : Value} {l : KVs} (hp : PAx w base b 9 128 (u.cells pv hv) l) (hh : Hp w pv u.ps) (hs : u.small) (hk : KSm 1099511627776 l) : UAt w b { u with hs := l } := by
  obtain ⟨v, x, hx, hb, hown⟩ := hp
  have e : x = v := (Option.some.inj hx).symm
  subst e
  exact ⟨pv, x, hb, hh, Hp.of_own hown hk.1 hk.2, hs⟩
theorem PFr.kp {b : Nat} {w w' : World} (h : PFr w.heap.size b w w') : Kp b w w' :=
  ⟨h.os, h.tape, h.output, h.size, fun i hi hb => h.low i hi (fun e => hb (by rw [e]))⟩
theorem PFr.set0 {base b : Nat} {u v : World} (h : PFr base b u v) (o : Nat) (x : Value) : PFr base b u (v.setCell ⟨b, o, none⟩ x) := h.set o x

/-- what is laid lies below block b -/
def LaidU (b : Nat) (w : World) : Prop := ∃ w0, Laid w0 ∧ Le w0 w ∧ w0.heap.size ≤ b
theorem LaidU.laid {b : Nat} {w : World} (h : LaidU b w) : Laid w := by obtain ⟨w0, h, k, _⟩ := h; exact h.le k
theorem LaidU.le {b : Nat} {w w' : World} (h : LaidU b w) (k : Le w w') : LaidU b w' := by obtain ⟨w0, h, h2, h3⟩ := h; exact ⟨w0, h, h2.trans k, h3⟩
theorem LaidU.kp {b : Nat} {w w' : World} (h : LaidU b w) (k : Kp b w w') : LaidU b w' := by
  obtain ⟨w0, h, h2, h3⟩ := h
  exact ⟨w0, h, Below.trans h2 (k.below h3 h2.size), h3⟩

def PaPost (b : Nat) (w : World) (s : ByteArray) (u : PU) (e : Ending) (w' : World) : Prop := ∃ t, TrimmedOf s t ∧ StPost b w (fParams (bs s) (bs t) u) e w'
def HePost (b : Nat) (w : World) (s : ByteArray) (u : PU) (e : Ending) (w' : World) : Prop := ∃ t, TrimmedOf s t ∧ StPost b w (fHeads (bs s) (bs t) u) e w'

set_option maxHeartbeats 1000000 in
theorem heads_c (s : ByteArray) (b : Nat) (u : PU) (w : World) (hu : UAt w b u) (hs : s.size ≤ 1099511627000) (hL : LaidU b w) :
    Calls Tryz.prog 152 #[.pointer (some ⟨b, 0, none⟩), .string s] w (HePost b w s u) := by
  obtain ⟨pv, hv, hb, h1, h2, h3⟩ := hu
  have HL := Lib.hid (bs_len s)
  have z9 := frozen_cells hb 9
  have g9 : w.cell? ⟨b, 9, none⟩ = some hv := cell_cells hb 9
  have HB := Lib.hid hb
  have H1 := Lib.hid h1
  have HS := Lib.hid h3
  have HLAID := Lib.hid hL
  clear hb h1 h2 h3 hL
  go_enter Tryz.func152, Tryz.ntmps152
  go_wp2_with fail
  have hbl := lt_of_heap HB.out
  have hkp := kp_set w b 9 (.slice none 0 0)
  have hpx : PAx (w.setCell ⟨b, 9, none⟩ (.slice none 0 0)) w.heap.size b 9 128 (u.cells pv hv) [] :=
    ⟨.slice none 0 0, .slice none 0 0, rfl, heap_set HB.out 9 _, World.ownsRow_nil _ _ _ _⟩
  have hlaid : Laid (w.setCell ⟨b, 9, none⟩ (.slice none 0 0)) := (HLAID.out.kp hkp).laid
  refine (unm_c w.heap.size b 9 128 _ [] s 38 0 _ (by decide) hpx (by simp [World.setCell]) (by omega) 0 (by omega) ⟨Nat.le_refl _, by simp⟩ (by decide) (by decide) hlaid).mono ?_
  rintro e w2 ⟨t, ht, rfl, hpa, hpf⟩
  have HT := Lib.hid ht
  have HPA := Lib.hid hpa
  have HPF := Lib.hid (((PFr.refl w.heap.size b w).set 9 (.slice none 0 0)).trans hpf)
  clear hpa hpf ht hpx hlaid hkp hbl
  go_wp2
  go_ret3
  refine ⟨t, HT.out, rfl, ?_, HPF.out.kp⟩
  have ht : (bs t).length ≤ s.size := by
    obtain ⟨⟨k, hk, hd⟩, _, _⟩ := HT.out
    rw [hd, List.length_drop, HL.out]; omega
  refine UAt.of_hs HPA.out ?_ HS.out ((unm_sm (by omega) (N := 0) ⟨Nat.le_refl _, by simp⟩).mono (by omega))
  exact H1.out.of_blocks fun g _ _ hg => HPF.out.low g (lt_of_heap hg) (by
    rintro rfl
    have h := HB.out
    rw [hg] at h
    injection h with h
    injection h with _ h
    exact absurd h (by decide))

theorem TrimmedOf.len {s t : ByteArray} (h : TrimmedOf s t) : (bs t).length ≤ (bs s).length := by
  obtain ⟨⟨k, hk, hd⟩, _, _⟩ := h
  rw [hd, List.length_drop]; omega
set_option maxHeartbeats 1000000 in
theorem params_c (s : ByteArray) (b : Nat) (u : PU) (w : World) (hu : UAt w b u) (hs : s.size ≤ 1099511627000) (hL : LaidU b w) :
    Calls Tryz.prog 151 #[.pointer (some ⟨b, 0, none⟩), .string s] w (PaPost b w s u) := by
  have HL := Lib.hid (bs_len s)
  have z8 := hu.frozen 8
  have z9 := hu.frozen 9
  have HLAID := Lib.hid hL
  have HU := Lib.hid hu
  obtain ⟨pv, hv, hb, h1, h2, h3⟩ := hu
  have g8 : w.cell? ⟨b, 8, none⟩ = some pv := cell_cells hb 8
  have g9 : w.cell? ⟨b, 9, none⟩ = some hv := cell_cells hb 9
  have HB := Lib.hid hb
  have H2 := Lib.hid h2
  have HS := Lib.hid h3
  clear hb h1 h2 h3 hL
  by_cases h0 : s.size = 0
  · have hs0 : bs s = [] := List.eq_nil_of_length_eq_zero (by rw [HL.out]; exact h0)
    have HS0 := Lib.hid hs0
    have hb0 : ((s.size : Int) == 0) = true := by simp [h0]
    clear hs0
    go_enter Tryz.func151, Tryz.ntmps151
    go_wp2
    go_ret3
    have hres : fParams (bs s) (bs s) u = (.stop, [], { u with ps := [], hs := [] }) := by unfold fParams; rw [if_pos HS0.out]
    refine ⟨s, ⟨⟨0, Nat.zero_le _, rfl⟩, fun _ _ _ _ _ => rfl, fun _ => rfl⟩, ?_⟩
    rw [hres]
    refine ⟨ret3 rfl (str_eq (bs_inj (by rw [HS0.out, bs_st]))) rfl, ?_, ((Kp.refl b w).set 8 _).set 9 _⟩
    exact ⟨.slice none 0 0, .slice none 0 0, heap_set (heap_set HB.out 8 _) 9 _, Hp.nil _, Hp.nil _, HS.out⟩
  · have hb0 : ((s.size : Int) == 0) = false := beq_eq_false_iff_ne.2 (by omega)
    have hne : bs s ≠ [] := by intro e; apply h0; rw [← HL.out, e]; rfl
    have HNE := Lib.hid hne
    clear hne
    go_enter Tryz.func151, Tryz.ntmps151
    go_wp2_with fail
    refine (newparams_c w.heap.size w (Nat.le_refl _)).mono ?_
    rintro e w1 ⟨g1, rfl, hown1, hle1⟩
    have HOWN1 := Lib.hid hown1
    have HLE1 := Lib.hid hle1
    have y8 := hle1.cell g8
    have x8 := hle1.frozen (lt_of_heap HB.out) z8
    clear g8 g9 z8 z9 hown1 hle1
    have hb1 := HLE1.out.heap HB.out
    have HB1 := Lib.hid hb1
    have hbl := lt_of_heap HB1.out
    clear hb1
    go_wp2_with fail
    have hpx : PAx (w1.setCell ⟨b, 8, none⟩ (.slice (some ⟨g1, 0, none⟩) 0 4)) w.heap.size b 8 128 (u.cells pv hv) [] :=
      ⟨.slice (some ⟨g1, 0, none⟩) 0 4, .slice (some ⟨g1, 0, none⟩) 0 4, rfl, heap_set HB1.out 8 _, HOWN1.out.kept (kp_set w1 b 8 (.slice (some ⟨g1, 0, none⟩) 0 4)) (.inr fun e => own_not HOWN1.out HB1.out (by decide) e.symm)⟩
    have hlaid : Laid (w1.setCell ⟨b, 8, none⟩ (.slice (some ⟨g1, 0, none⟩) 0 4)) := ((HLAID.out.le HLE1.out).kp (kp_set w1 b 8 (.slice (some ⟨g1, 0, none⟩) 0 4))).laid
    refine (unm_c w.heap.size b 8 128 _ [] s 59 63 _ (by decide) hpx (by have := HLE1.out.size; simp [World.setCell]; omega) (by omega) 0 (by omega) ⟨Nat.le_refl _, by simp⟩ (by decide) (by decide) hlaid).mono ?_
    rintro e w2 ⟨t, ht, rfl, hpa, hpf⟩
    have HT := Lib.hid ht
    have HTL := Lib.hid ht.len
    have HPF := Lib.hid ((((PFr.refl w.heap.size b w).le HLE1.out (Nat.le_refl _)).set 8 (.slice (some ⟨g1, 0, none⟩) 0 4)).trans hpf)
    have HPX := Lib.hid hpa
    have hh2 : Hp w2 hv u.hs := H2.out.of_blocks fun g _ _ hg => HPF.out.low g (lt_of_heap hg) (by
      rintro rfl
      have h := HB.out
      rw [hg] at h
      injection h with h
      injection h with _ h
      exact absurd h (by decide))
    have HU2 : Hid (UAt w2 b { u with ps := (unm (bs t) 59 63 []).2 }) := Lib.hid
      (UAt.of_ps hpa hh2 HS.out ((unm_sm (by have := HTL.out; have := HL.out; omega) (N := 0) ⟨Nat.le_refl _, by simp⟩).mono (by have := HTL.out; have := HL.out; omega)))
    have hun := unm_le (bs t) 59 63 []
    have HK2 := Lib.hid HPF.out.kp
    clear hpa hpf ht hpx hlaid hh2 y8 x8 HOWN1 HPX HPF
    generalize hN : (unm (bs t) 59 63 []).1 = n at hun ⊢
    have hnl : n ≤ s.size := by have := HTL.out; have := HL.out; omega
    have HNN := Lib.hid hN
    clear hun hN
    obtain ⟨k, hk1, hk2⟩ : ∃ k, k < s.size ∧ (n = s.size ∧ k + 1 = s.size ∨ n ≠ s.size ∧ k = n) := by
      by_cases hns : n = s.size
      · exact ⟨s.size - 1, by omega, .inl ⟨hns, by omega⟩⟩
      · exact ⟨n, by omega, .inr ⟨hns, rfl⟩⟩
    have hp : k < (bs s).length := by rw [HL.out]; exact hk1
    have hres0 : fParams (bs s) (bs t) u = if (bs s)[k] = 63 then (.heads, (bs s).drop (k + 1), { u with ps := (unm (bs t) 59 63 []).2 }) else (.stop, bs s, { u with ps := (unm (bs t) 59 63 []).2 }) := by
      unfold fParams
      rw [if_neg HNE.out]
      have e1 : (if (unm (bs t) 59 63 []).1 = (bs s).length then (bs s).length - 1 else (unm (bs t) 59 63 []).1) = k := by
        rw [HNN.out, HL.out]
        rcases hk2 with ⟨e, e2⟩ | ⟨e, e2⟩
        · rw [if_pos e]; omega
        · rw [if_neg e]; exact e2.symm
      simp only [e1, getD_at hp]
    have hx : s[k]'hk1 = (bs s)[k] := at_bs s k hk1
    by_cases hc : (bs s)[k] = 63
    · rw [if_pos hc] at hres0
      have hres := Lib.hid hres0
      have hv1 : ((s[k]'hk1).toNat : Int) = 63 := by rw [hx, hc]; rfl
      clear hres0 hc hx hp
      rcases hk2 with ⟨rfl, hk3⟩ | ⟨hk3, rfl⟩
      · have hq : ((s.size : Int) - 1) = k := by omega
        clear hk3
        go_wp2
        go_quiet (fail)
        go_wp2
        go_ret3
        refine ⟨t, HT.out, ?_⟩
        rw [hres.out]
        exact ⟨ret3 rfl (str_eq (ext_drop s (k + 1))) rfl, HU2.out.le ((Le.refl _).drewN _), HK2.out.le ((Le.refl _).drewN _)⟩
      · have hq : ((k : Int) == (s.size : Int)) = false := by simp; omega
        clear hk3
        go_wp2
        go_quiet (fail)
        go_wp2
        go_ret3
        refine ⟨t, HT.out, ?_⟩
        rw [hres.out]
        exact ⟨ret3 rfl (str_eq (ext_drop s (k + 1))) rfl, HU2.out.le ((Le.refl _).drewN _), HK2.out.le ((Le.refl _).drewN _)⟩
    · rw [if_neg hc] at hres0
      have hres := Lib.hid hres0
      have hv1 : (((s[k]'hk1).toNat : Int) == 63) = false := by rw [hx]; simp only [beq_eq_false_iff_ne, ne_eq]; intro h; exact hc (u8_of (n := 63) h (by decide))
      clear hres0 hc hx hp
      rcases hk2 with ⟨rfl, hk3⟩ | ⟨hk3, rfl⟩
      · have hq : ((s.size : Int) - 1) = k := by omega
        clear hk3
        go_wp2
        go_ret3
        refine ⟨t, HT.out, ?_⟩
        rw [hres.out]
        exact ⟨ret3 rfl (str_eq (st_bs s).symm) rfl, HU2.out, HK2.out⟩
      · have hq : ((k : Int) == (s.size : Int)) = false := by simp; omega
        clear hk3
        go_wp2
        go_ret3
        refine ⟨t, HT.out, ?_⟩
        rw [hres.out]
        exact ⟨ret3 rfl (str_eq (st_bs s).symm) rfl, HU2.out, HK2.out⟩
end Go.Proofs.YtbdeohmdpkkpdaaGreatDoor
