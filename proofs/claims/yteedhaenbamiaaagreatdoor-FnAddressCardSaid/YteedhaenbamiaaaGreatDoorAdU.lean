/- Contracts of the states of the package's reader of addresses: the URI. -/
import Derived.Test.YteedhaenbamiaaaGreatDoorAdQ
import Derived.Test.YteedhaenbamiaaaGreatDoorLaw
set_option linter.unusedVariables false
set_option linter.unusedSimpArgs false
namespace Go.Proofs.YteedhaenbamiaaaGreatDoor
open Go.RowKit

/-- what is gathered, ahead of the parameters -/
structure NSt (w0 w : World) (na bu bp : Nat) (v : AV) : Prop where
  nm : NA w na bu bp v.name
  u : UAt w bu v.uri
  fr : Le w0 w
  pz : w.heap[bp]? = some (.cells #[.slice none 0 0] 82 (0, 0))
  ps : v.ps = []
  nl : v.name.length ≤ 1099511627000
  lo : w0.heap.size ≤ na ∧ w0.heap.size ≤ bu ∧ w0.heap.size ≤ bp
/-- .. and behind their beginning -/
structure NPs (w0 w : World) (base na bu bp : Nat) (v : AV) : Prop where
  nm : NA w na bu bp v.name
  u : ∀ w', (∀ k, k < base → k ≠ bp → w'.heap[k]? = w.heap[k]?) → UAt w' bu v.uri
  fr : Le w0 w
  ps : ∃ cs, PAt w base bp 0 82 cs v.ps
  nl : v.name.length ≤ 1099511627000
  lo : w0.heap.size ≤ na ∧ w0.heap.size ≤ bu ∧ w0.heap.size ≤ bp
  lt : na < base ∧ bu < base ∧ bp < base ∧ base ≤ w.heap.size
section
variable {w0 w w' : World} {base na bu bp : Nat} {v : AV}
theorem NA.ne_u {name : Tx} (h : NA w na bu bp name) (u : UAt w bu v.uri) : na ≠ bu := by
  rintro rfl
  obtain ⟨pv, hv, h1, _⟩ := u
  rw [h] at h1; injection h1 with h1; injection h1 with _ h2; exact absurd h2 (by decide)
theorem NSt.le (h : NSt w0 w na bu bp v) (k : Le w w') : NSt w0 w' na bu bp v :=
  ⟨h.nm.le k, h.u.le k, h.fr.trans k, k.heap h.pz, h.ps, h.nl, h.lo⟩
theorem NSt.name (h : NSt w0 w na bu bp v) (k : Kp na w w') {n : Tx} (hn : NA w' na bu bp n) (hl : n.length ≤ 1099511627000) : NSt w0 w' na bu bp { v with name := n } := by
  refine ⟨hn, ?_, Below.trans h.fr (k.below h.lo.1 h.fr.size), ?_, h.ps, hl, h.lo⟩
  · obtain ⟨pv, hv, h1, h2, h3, h4⟩ := h.u
    exact ⟨pv, hv, k.heap (fun e => h.nm.ne_u h.u e.symm) h1, h2.kp k h.nm (by decide), h3.kp k h.nm (by decide), h4⟩
  · refine k.heap ?_ h.pz
    rintro rfl
    have := h.pz
    rw [h.nm] at this; injection this with h1; injection h1 with _ h2; exact absurd h2 (by decide)
theorem NSt.uri (h : NSt w0 w na bu bp v) (k : Kp bu w w') {u : PU} (hu : UAt w' bu u) : NSt w0 w' na bu bp { v with uri := u } := by
  obtain ⟨pv, hv, h1, _⟩ := h.u
  refine ⟨k.heap (h.nm.ne_u h.u) h.nm, hu, Below.trans h.fr (k.below h.lo.2.1 h.fr.size), ?_, h.ps, h.nl, h.lo⟩
  refine k.heap ?_ h.pz
  rintro rfl
  have := h.pz
  rw [h1] at this; injection this with h1; injection h1 with _ h2; exact absurd h2 (by decide)
theorem Hp.low {l : KVs} {x : Value} (h : Hp w x l) (hb : w.heap[bp]? = some (.cells #[.slice none 0 0] 82 (0, 0))) (k : ∀ k, k < w.heap.size → k ≠ bp → w'.heap[k]? = w.heap[k]?) : Hp w' x l :=
  h.of_blocks fun g cur fz hg => k g (lt_of_heap hg) (by
    rintro rfl
    rw [hg] at hb; injection hb with hb; injection hb with _ h2; exact absurd h2 (by decide))
theorem NSt.ps' (h : NSt w0 w na bu bp v) : NPs w0 w w.heap.size na bu bp v := by
  refine ⟨h.nm, fun w' k => ?_, h.fr, ⟨_, .slice none 0 0, rfl, h.pz, ?_⟩, h.nl, h.lo, lt_of_heap h.nm, h.u.lt, lt_of_heap h.pz, Nat.le_refl _⟩
  · obtain ⟨pv, hv, h1, h2, h3, h4⟩ := h.u
    refine ⟨pv, hv, (k _ (lt_of_heap h1) ?_).trans h1, h2.low h.pz k, h3.low h.pz k, h4⟩
    rintro rfl
    have := h.pz
    rw [h1] at this; injection this with h1; injection h1 with _ h2; exact absurd h2 (by decide)
  · rw [h.ps]; exact ⟨rfl, .inl ⟨rfl, rfl⟩⟩
theorem NPs.add (h : NPs w0 w base na bu bp v) (k : PFr base bp w w') {cs : Array Value} {l : KVs} (hp : PAt w' base bp 0 82 cs l) : NPs w0 w' base na bu bp { v with ps := l } := by
  obtain ⟨cs0, x, _, hb, _⟩ := h.ps
  have hne : na ≠ bp := by
    rintro rfl
    rw [h.nm] at hb; injection hb with h1; injection h1 with _ h2; exact absurd h2 (by decide)
  refine ⟨(k.low _ h.lt.1 hne).trans h.nm, fun w2 k2 => h.u w2 fun i hi hb => (k2 i hi hb).trans (k.low i hi hb), ?_, ⟨_, hp⟩, h.nl, h.lo, h.lt.1, h.lt.2.1, h.lt.2.2.1, Nat.le_trans h.lt.2.2.2 k.size⟩
  refine Below.trans h.fr ⟨k.os, k.tape, k.output, k.size, fun i hi => k.low i ?_ ?_⟩
  · have := h.lo.1; have := h.lt.1; omega
  · have := h.lo.2.2; omega
theorem NPs.le (h : NPs w0 w base na bu bp v) (k : Le w w') : NPs w0 w' base na bu bp v := by
  refine ⟨h.nm.le k, fun w2 k2 => h.u w2 fun i hi hb => (k2 i hi hb).trans (k.block i (Nat.lt_of_lt_of_le hi h.lt.2.2.2)), h.fr.trans k, ?_, h.nl, h.lo, h.lt.1, h.lt.2.1, h.lt.2.2.1, Nat.le_trans h.lt.2.2.2 k.size⟩
  obtain ⟨cs, x, h1, h2, h3⟩ := h.ps
  exact ⟨cs, x, h1, k.heap h2, h3.kept ⟨k.os, k.tape, k.output, k.size, fun i hi _ => k.block i hi⟩ (Classical.em _)⟩
end
/-- what is gathered, in whatever state -/
def ASt (q : Aq) (w0 w : World) (na bu bp : Nat) (v : AV) : Prop :=
  match q with
  | .prms | .stop => ∃ base, NPs w0 w base na bu bp v
  | _ => NSt w0 w na bu bp v
theorem NSt.ast {q : Aq} {w0 w : World} {na bu bp : Nat} {v : AV} (h : NSt w0 w na bu bp v) : ASt q w0 w na bu bp v := by
  cases q <;> first | exact h | exact ⟨_, h.ps'⟩
/-- what a state leaves -/
def APost (w0 : World) (na bu bp : Nat) (q : Aq) (l : Tx) (v : AV) (e : Ending) (w' : World) : Prop :=
  (∃ x, ANextOk q l v (some x) ∧ e = .returned (.tuple #[x.1.val, .string (st x.2.1), .nilIface]) ∧ ASt x.1 w0 w' na bu bp x.2.2) ∨
  (ANextOk q l v none ∧ ∃ f t T a v', e = .returned (.tuple #[f, .string t, .iface T (.pointer (some a))]) ∧ v'.ps = v.ps ∧ ASt .stop w0 w' na bu bp v')

theorem ix_hi {n : UInt8} (hn : n.toNat < 128) (x : UInt8) (h : 128 ≤ x.toNat) : (x == n) = false := by
  have : x ≠ n := by rintro rfl; omega
  simp [this]
theorem ix_at {l : Tx} {n : UInt8} {i : Nat} (hi : i < l.length) (hn : (l.take i).all (fun c => !(c == n)) = true) (h : l[i] = n) : ixOf l n = i :=
  scan_at (p := fun c => c == n) hi (by simpa using h) hn
theorem ix_end {l : Tx} {n : UInt8} (hn : l.all (fun c => !(c == n)) = true) : ixOf l n = l.length := scan_end hn

set_option maxRecDepth 6000 in
set_option maxHeartbeats 1000000 in
theorem brack_c (s : ByteArray) (w0 : World) (na bu bp : Nat) (v : AV) (w : World) (hu : NSt w0 w na bu bp v) (hs : s.size ≤ 1099511627000) (hL : LaidA w0) :
    Calls Tryz.prog 129 #[.pointer (some ⟨na, 0, none⟩), .string s] w (APost w0 na bu bp .brack (bs s) v) := by
  have HL := Lib.hid (bs_len s)
  have HU := Lib.hid hu
  have HLA := Lib.hid hL
  clear hu hL
  by_cases h0 : s.size = 0
  · have hs0 : bs s = [] := List.eq_nil_of_length_eq_zero (by rw [HL.out]; exact h0)
    have HS0 := Lib.hid hs0
    have hb0 : ((s.size : Int) == 0) = true := by simp [h0]
    clear hs0
    go_enter Tryz.func129, Tryz.ntmps129
    go_wp2_with fail
    refine (errnew_c _ _).mono ?_
    rintro e w3 ⟨rfl, hle3⟩
    have HLE3 := Lib.hid hle3
    clear hle3
    go_wp2
    go_ret3
    exact .inr ⟨by rw [HS0.out]; exact (by simp [ANextOk, ixOf]), _, _, _, _, v, rfl, rfl, _, (HU.out.le HLE3.out).ps'⟩
  have hb0 : ((s.size : Int) == 0) = false := beq_eq_false_iff_ne.2 (by omega)
  clear h0
  go_enter Tryz.func129, Tryz.ntmps129
  go_wp2
  go_loopg [] (s.size) (fun n wr => ∃ p : Nat, n + p = s.size ∧ Le w wr ∧ wr.heap[w.heap.size]? = some (.stringIter s p) ∧ ((bs s).take p).all (fun c => !(c == 62)) = true)
  case atStart => exact ⟨0, by omega, (Le.refl w).iter s 0, World.iter_heap _ _ _, rfl⟩
  case round =>
    obtain ⟨p, hn, hle, hit, hq⟩ := hrel
    have HQ := Lib.hid hq
    have HLE := Lib.hid hle
    have HN : gk + p ≤ s.size ∧ s.size ≤ gk + p := by omega
    clear hn hq hle
    by_cases hlt : p < s.size
    · obtain ⟨c, d, W1, hnx, hst, hit1, hW1⟩ := next_step (P := Tryz.prog) hit hlt
      have HLE1 := Lib.hid (hW1 ▸ HLE.out.iterAt (Nat.le_refl _) s (p + d) : Le w W1)
      have HST := Lib.hid hst
      have HS2 : 1 ≤ d ∧ p + d ≤ s.size ∧ 0 ≤ c ∧ c ≤ 1114111 := ⟨hst.1, hst.2.1, hst.2.2.1, hst.2.2.2.1⟩
      have HIT1 := Lib.hid hit1
      have HU1 := Lib.hid (HU.out.le HLE1.out)
      clear hW1 hst hit hit1
      by_cases h62 : c = 62
      · subst h62
        obtain ⟨hp, h1⟩ := scan_hit HST.out 62 (by decide) rfl
        have hix := Lib.hid (ix_at hp HQ.out h1)
        have hpl : Hid (p < (bs s).length) := Lib.hid hp
        have hb62 : Hid (bs (s.extract 0 p) = (bs s).take p) := by rw [ext_take]; exact bs_st _
        have g1 := HU1.out.nm.c1
        have i1 : (0 : Int) ≤ (p : Int) := by omega
        have i2 : (p : Int) ≤ s.size := by omega
        clear h1 hp hb0
        go_wp2
        go_still_tail 7, (by kernel_rfl)
        change wpList _ _ _ _ _ (World.drew _)
        have HUd := Lib.hid (HU1.out.le (Le.refl _).drew)
        generalize World.drew _ = wd at HUd ⊢
        go_wp2_with fail
        refine (sip_c _ bu v.uri _ HUd.out.u (by rw [ext_take]; simp only [st_size, List.length_take]; omega) ⟨w0, HLA.out.l, HUd.out.fr, HUd.out.lo.2.1⟩).mono ?_
        rintro e w2 ⟨hkp, hor⟩
        rw [hb62.out] at hor
        rcases hor with ⟨u, h1, rfl, h3⟩ | ⟨h1, T, a, u, rfl, h3⟩
        · have HP := Lib.hid h1
          have HU2 := Lib.hid (HUd.out.uri hkp h3)
          clear h1 h3 hkp
          go_wp2
          go_quiet (fail)
          go_wp2
          go_ret3
          refine .inl ⟨(.prms, (bs s).drop (p + 1), { v with uri := u }), ?_, ret3 rfl (str_eq (ext_drop s (p + 1))) rfl, (HU2.out.le ((Le.refl _).drewN _)).ast⟩
          unfold ANextOk
          simp only [hix.out, if_pos hpl.out]
          exact ⟨some u, HP.out, rfl⟩
        · have HP := Lib.hid h1
          have HU2 := Lib.hid (HUd.out.uri hkp h3)
          clear h1 h3 hkp
          go_wp2
          go_quiet (fail)
          go_wp2
          go_ret3
          refine .inr ⟨?_, _, _, _, _, { v with uri := u }, ret3 rfl (str_eq (ext_drop s (p + 1))) rfl, rfl, (HU2.out.le ((Le.refl _).drewN _)).ast⟩
          unfold ANextOk
          simp only [hix.out, if_pos hpl.out]
          exact ⟨none, HP.out, rfl⟩
      · have e62 : (c == 62) = false := by simpa using h62
        have hF := Lib.hid (scan_next (ix_hi (n := 62) (by decide)) HST.out HQ.out (fun x hx => by
          have n1 : x ≠ 62 := by rintro rfl; exact h62 hx
          simp [n1]))
        clear h62
        go_wp2
        go_roundg (gk - d)
        case measure => omega
        case rel => exact ⟨p + d, by omega, HLE1.out, HIT1.out, hF.out⟩
    · have hnx := fun ty => Lib.run_next_end_at (P := Tryz.prog) wr _ s p ty hit hlt
      have hix : Hid (ixOf (bs s) 62 = (bs s).length) := by
        refine ix_end ?_
        have h1 := HQ.out
        rw [List.take_of_length_le (by rw [HL.out]; omega)] at h1
        exact h1
      have HU1 := Lib.hid (HU.out.le HLE.out)
      clear hit
      go_wp2_with fail
      refine (errnew_c _ _).mono ?_
      rintro e w3 ⟨rfl, hle3⟩
      have HLE3 := Lib.hid hle3
      clear hle3
      go_wp2
      go_ret3
      refine .inr ⟨?_, _, _, _, _, v, rfl, rfl, _, (HU1.out.le HLE3.out).ps'⟩
      unfold ANextOk
      simp only [hix.out, if_neg (Nat.lt_irrefl _)]
set_option maxRecDepth 6000 in
set_option maxHeartbeats 1000000 in
theorem auri_c (s : ByteArray) (w0 : World) (na bu bp : Nat) (v : AV) (w : World) (hu : NSt w0 w na bu bp v) (hs : s.size ≤ 1099511627000) (hL : LaidA w0) :
    Calls Tryz.prog 130 #[.pointer (some ⟨na, 0, none⟩), .string s] w (APost w0 na bu bp .uri (bs s) v) := by
  have HL := Lib.hid (bs_len s)
  have HU := Lib.hid hu
  have HLA := Lib.hid hL
  clear hu hL
  by_cases h0 : s.size = 0
  · have hs0 : bs s = [] := List.eq_nil_of_length_eq_zero (by rw [HL.out]; exact h0)
    have HS0 := Lib.hid hs0
    have hb0 : ((s.size : Int) == 0) = true := by simp [h0]
    clear hs0
    go_enter Tryz.func130, Tryz.ntmps130
    go_wp2_with fail
    refine (errnew_c _ _).mono ?_
    rintro e w3 ⟨rfl, hle3⟩
    have HLE3 := Lib.hid hle3
    clear hle3
    go_wp2
    go_ret3
    exact .inr ⟨by rw [HS0.out]; exact (by simp [ANextOk]), _, _, _, _, v, rfl, rfl, _, (HU.out.le HLE3.out).ps'⟩
  have hb0 : ((s.size : Int) == 0) = false := beq_eq_false_iff_ne.2 (by omega)
  have hne : bs s ≠ [] := by intro e; apply h0; rw [← HL.out, e]; rfl
  have HNE := Lib.hid hne
  clear h0 hne
  go_enter Tryz.func130, Tryz.ntmps130
  go_wp2
  go_loopg [] (s.size) (fun n wr => ∃ p : Nat, n + p = s.size ∧ Le w wr ∧ wr.heap[w.heap.size]? = some (.stringIter s p) ∧ ((bs s).take p).all (fun c => !(c == 59)) = true)
  case atStart => exact ⟨0, by omega, (Le.refl w).iter s 0, World.iter_heap _ _ _, rfl⟩
  case round =>
    obtain ⟨p, hn, hle, hit, hq⟩ := hrel
    have HQ := Lib.hid hq
    have HLE := Lib.hid hle
    have HN : gk + p ≤ s.size ∧ s.size ≤ gk + p := by omega
    clear hn hq hle
    by_cases hlt : p < s.size
    · obtain ⟨c, d, W1, hnx, hst, hit1, hW1⟩ := next_step (P := Tryz.prog) hit hlt
      have HLE1 := Lib.hid (hW1 ▸ HLE.out.iterAt (Nat.le_refl _) s (p + d) : Le w W1)
      have HST := Lib.hid hst
      have HS2 : 1 ≤ d ∧ p + d ≤ s.size ∧ 0 ≤ c ∧ c ≤ 1114111 := ⟨hst.1, hst.2.1, hst.2.2.1, hst.2.2.2.1⟩
      have HIT1 := Lib.hid hit1
      have HU1 := Lib.hid (HU.out.le HLE1.out)
      clear hW1 hst hit hit1
      by_cases h59 : c = 59
      · subst h59
        obtain ⟨hp, h1⟩ := scan_hit HST.out 59 (by decide) rfl
        have hix := Lib.hid (ix_at hp HQ.out h1)
        have hpl : Hid (p < (bs s).length) := Lib.hid hp
        have hb59 : Hid (bs (s.extract 0 p) = (bs s).take p) := by rw [ext_take]; exact bs_st _
        have g1 := HU1.out.nm.c1
        have i1 : (0 : Int) ≤ (p : Int) := by omega
        have i2 : (p : Int) ≤ s.size := by omega
        clear h1 hp hb0
        go_wp2
        go_still_tail 7, (by kernel_rfl)
        change wpList _ _ _ _ _ (World.drew _)
        have HUd := Lib.hid (HU1.out.le (Le.refl _).drew)
        generalize World.drew _ = wd at HUd ⊢
        go_wp2_with fail
        refine (sip_c _ bu v.uri _ HUd.out.u (by rw [ext_take]; simp only [st_size, List.length_take]; omega) ⟨w0, HLA.out.l, HUd.out.fr, HUd.out.lo.2.1⟩).mono ?_
        rintro e w2 ⟨hkp, hor⟩
        rw [hb59.out] at hor
        rcases hor with ⟨u, h1, rfl, h3⟩ | ⟨h1, T, a, u, rfl, h3⟩
        · have HP := Lib.hid h1
          have HU2 := Lib.hid (HUd.out.uri hkp h3)
          clear h1 h3 hkp
          go_wp2
          go_quiet (fail)
          go_wp2
          go_ret3
          refine .inl ⟨(.prms, (bs s).drop (p + 1), { v with uri := u }), ?_, ret3 rfl (str_eq (ext_drop s (p + 1))) rfl, (HU2.out.le ((Le.refl _).drewN _)).ast⟩
          unfold ANextOk
          simp only [hix.out, if_pos hpl.out, if_neg HNE.out]
          exact ⟨some u, HP.out, rfl⟩
        · have HP := Lib.hid h1
          have HU2 := Lib.hid (HUd.out.uri hkp h3)
          clear h1 h3 hkp
          go_wp2
          go_quiet (fail)
          go_wp2
          go_ret3
          refine .inr ⟨?_, _, _, _, _, { v with uri := u }, ret3 rfl (str_eq (ext_drop s (p + 1))) rfl, rfl, (HU2.out.le ((Le.refl _).drewN _)).ast⟩
          unfold ANextOk
          simp only [hix.out, if_pos hpl.out, if_neg HNE.out]
          exact ⟨none, HP.out, rfl⟩
      · have e59 : (c == 59) = false := by simpa using h59
        have hF := Lib.hid (scan_next (ix_hi (n := 59) (by decide)) HST.out HQ.out (fun x hx => by
          have n1 : x ≠ 59 := by rintro rfl; exact h59 hx
          simp [n1]))
        clear h59
        go_wp2
        go_roundg (gk - d)
        case measure => omega
        case rel => exact ⟨p + d, by omega, HLE1.out, HIT1.out, hF.out⟩
    · have hnx := fun ty => Lib.run_next_end_at (P := Tryz.prog) wr _ s p ty hit hlt
      have hix : Hid (ixOf (bs s) 59 = (bs s).length) := by
        refine ix_end ?_
        have h1 := HQ.out
        rw [List.take_of_length_le (by rw [HL.out]; omega)] at h1
        exact h1
      have HU1 := Lib.hid (HU.out.le HLE.out)
      clear hit
      have g1 := HU1.out.nm.c1
      go_wp2_with fail
      refine (sip_c s bu v.uri _ HU1.out.u hs ⟨w0, HLA.out.l, HU1.out.fr, HU1.out.lo.2.1⟩).mono ?_
      rintro e w2 ⟨hkp, hor⟩
      rcases hor with ⟨u, h1, rfl, h3⟩ | ⟨h1, T, a, u, rfl, h3⟩
      · have HP := Lib.hid h1
        have HU2 := Lib.hid (HU1.out.uri hkp h3)
        clear h1 h3 hkp
        go_wp2
        go_ret3
        refine .inl ⟨(.stop, bs s, { v with uri := u }), ?_, ret3 rfl (str_eq (st_bs s).symm) rfl, HU2.out.ast⟩
        unfold ANextOk
        simp only [hix.out, if_neg (Nat.lt_irrefl _), if_neg HNE.out]
        exact ⟨some u, HP.out, rfl⟩
      · have HP := Lib.hid h1
        have HU2 := Lib.hid (HU1.out.uri hkp h3)
        clear h1 h3 hkp
        go_wp2
        go_ret3
        refine .inr ⟨?_, _, s, _, _, { v with uri := u }, rfl, rfl, HU2.out.ast⟩
        unfold ANextOk
        simp only [hix.out, if_neg (Nat.lt_irrefl _), if_neg HNE.out]
        exact ⟨none, HP.out, rfl⟩
end Go.Proofs.YteedhaenbamiaaaGreatDoor
