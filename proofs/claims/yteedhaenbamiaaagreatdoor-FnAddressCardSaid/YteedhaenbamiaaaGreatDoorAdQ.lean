/- Contracts of the states of the package's reader of addresses: the name between quotes. -/
import Derived.Test.YteedhaenbamiaaaGreatDoorAdW
set_option linter.unusedVariables false
set_option linter.unusedSimpArgs false
namespace Go.Proofs.YteedhaenbamiaaaGreatDoor
open Go.RowKit

theorem qf_low {l : Tx} {p : Nat} (b : Bool) (hp : p < l.length) : qFind b (l.drop p) p = if l[p] = 92 then qFind (!b) (l.drop (p + 1)) (p + 1) else if b = true then (if l[p] = 10 ∨ l[p] = 13 then .bad else qFind false (l.drop (p + 1)) (p + 1)) else if l[p] = 34 then .at_ p else qFind false (l.drop (p + 1)) (p + 1) := by
  rw [List.drop_eq_getElem_cons hp]; rfl
theorem qf_high {l : Tx} : ∀ (d p : Nat) (b : Bool), 1 ≤ d → p + d ≤ l.length → (∀ j (hj : j < l.length), p ≤ j → j < p + d → 128 ≤ l[j].toNat) → qFind b (l.drop p) p = qFind false (l.drop (p + d)) (p + d)
  | 0, _, _, h, _, _ => by omega
  | d + 1, p, b, _, h, hx => by
    have hp : p < l.length := by omega
    have h0 := hx p hp (Nat.le_refl _) (by omega)
    have n1 : l[p] ≠ 92 := by intro e; rw [e] at h0; revert h0; decide
    have n2 : l[p] ≠ 10 := by intro e; rw [e] at h0; revert h0; decide
    have n3 : l[p] ≠ 13 := by intro e; rw [e] at h0; revert h0; decide
    have n4 : l[p] ≠ 34 := by intro e; rw [e] at h0; revert h0; decide
    have e1 : qFind b (l.drop p) p = qFind false (l.drop (p + 1)) (p + 1) := by
      rw [qf_low b hp, if_neg n1]
      cases b
      · rw [if_neg (by simp), if_neg n4]
      · rw [if_pos rfl, if_neg (by simp [n2, n3])]
    rw [e1]
    rcases Nat.eq_zero_or_pos d with rfl | hd
    · rfl
    · rw [qf_high d (p + 1) false hd (by omega) fun j hj h1 h2 => hx j hj (by omega) (by omega), show p + 1 + d = p + (d + 1) from by omega]
/-- one step of the scan for the quote that ends the name -/
theorem qf_step {s : ByteArray} {p d : Nat} {c : Int} (h : StepIs s p c d) (b : Bool) (h92 : c ≠ 92) (h34 : b = false → c ≠ 34) (hx : b = true → c ≠ 10 ∧ c ≠ 13) : qFind b ((bs s).drop p) p = qFind false ((bs s).drop (p + d)) (p + d) := by
  obtain ⟨h1, h2, h3, h4, h5⟩ := h
  rcases h5 with ⟨hp, e1, rfl, e3⟩ | ⟨e1, e2⟩
  · have n1 : (bs s)[p]'hp ≠ 92 := by intro e; rw [e] at e1; exact h92 e1
    rw [qf_low b hp, if_neg n1]
    cases b
    · have n4 : (bs s)[p]'hp ≠ 34 := by intro e; rw [e] at e1; exact h34 rfl e1
      rw [if_neg (by simp), if_neg n4]
    · have n2 : (bs s)[p]'hp ≠ 10 := by intro e; rw [e] at e1; exact (hx rfl).1 e1
      have n3 : (bs s)[p]'hp ≠ 13 := by intro e; rw [e] at e1; exact (hx rfl).2 e1
      rw [if_pos rfl, if_neg (by simp [n2, n3])]
  · exact qf_high d p b h1 (by rw [bs_len]; exact h2) e2
theorem ls_hi (x : UInt8) (h : 128 ≤ x.toNat) : lsEnd x = false := by
  have n2 : x ≠ 60 := by rintro rfl; revert h; decide
  have n3 : x ≠ 59 := by rintro rfl; revert h; decide
  simp [lsEnd, n2, n3]
theorem quoted_at {l : Tx} {v : AV} {k : Nat} (h : qFind false l 0 = .at_ k) : aQuoted l v = (let s := l.drop (k + 1)
    let i := s.findIdx lsEnd
    if i < s.length then some (if s.getD i 0 = 60 then .brack else .uri, s.drop (i + 1), { v with name := l.take k }) else none) := by
  unfold aQuoted; rw [h]
theorem quoted_hit {l m : Tx} {v : AV} {k i : Nat} (hm : m = l.drop (k + 1)) (h : qFind false l 0 = .at_ k) (hi : i < m.length) (hn : (m.take i).all (fun c => !lsEnd c) = true) (hx : lsEnd m[i] = true) :
    aQuoted l v = some (if m[i] = 60 then .brack else .uri, m.drop (i + 1), { v with name := l.take k }) := by
  subst hm
  rw [quoted_at h]
  simp only [scan_at hi hx hn, if_pos hi, getD_at hi]
theorem quoted_end {l m : Tx} {v : AV} {k : Nat} (hm : m = l.drop (k + 1)) (h : qFind false l 0 = .at_ k) (hn : m.all (fun c => !lsEnd c) = true) : aQuoted l v = none := by
  subst hm
  rw [quoted_at h]
  simp only [scan_end hn, if_neg (Nat.lt_irrefl _)]

/-- what a state of the name leaves -/
def AErr (na bu bp : Nat) (w : World) (e : Ending) (w' : World) : Prop :=
  ∃ v t T a n, e = .returned (.tuple #[v, .string t, .iface T (.pointer (some a))]) ∧ (NA w' na bu bp n ∧ n.length ≤ 1099511627000) ∧ Kp na w w'
def QPost (na bu bp : Nat) (w : World) (r : Option (Aq × Tx × AV)) (e : Ending) (w' : World) : Prop :=
  match r with
  | some x => NmPost na bu bp w x e w'
  | none => AErr na bu bp w e w'

set_option maxHeartbeats 1000000 in
theorem quoted_c (s : ByteArray) (na bu bp : Nat) (v : AV) (w : World) (hu : NA w na bu bp v.name) (hs : s.size ≤ 1099511627000) (hnl : v.name.length ≤ 1099511627000) :
    Calls Tryz.prog 127 #[.pointer (some ⟨na, 0, none⟩), .string s] w (QPost na bu bp w (aQuoted (bs s) v)) := by
  have HL := Lib.hid (bs_len s)
  go_enter Tryz.func127, Tryz.ntmps127
  go_wp2
  go_loopg [1, 7] (s.size) (fun n u1 u7 wr => ∃ (p : Nat) (b : Bool), n + p = s.size ∧ Le w wr ∧ wr.heap[w.heap.size]? = some (.stringIter s p) ∧ qFind false (bs s) 0 = qFind b ((bs s).drop p) p ∧ u1 = .string s ∧ u7 = .bool b)
  case atStart => exact ⟨0, false, by omega, (Le.refl w).iter s 0, World.iter_heap _ _ _, rfl, rfl, rfl⟩
  case round =>
    obtain ⟨p, b, hn, hle, hit, hq, rfl, rfl⟩ := hrel
    have HQ := Lib.hid hq
    have HLE := Lib.hid hle
    have HN : gk + p ≤ s.size ∧ s.size ≤ gk + p := by omega
    clear hn hq hle
    by_cases hlt : p < s.size
    · obtain ⟨c, d, W1, hnx, hst, hit1, hW1⟩ := next_step (P := Tryz.prog) hit hlt
      have HLE1 := Lib.hid (hW1 ▸ HLE.out.iterAt (Nat.le_refl _) s (p + d) : Le w W1)
      have HST := Lib.hid hst
      have HS2 : 1 ≤ d ∧ p + d ≤ s.size ∧ 0 ≤ c ∧ c ≤ 1114111 := ⟨hst.1, hst.2.1, hst.2.2.1, hst.2.2.2.1⟩
      have HIT1 := Lib.hid hit1
      have HU1 := Lib.hid (hu.le HLE1.out)
      clear hW1 hst hit hit1 hu
      by_cases h92 : c = 92
      · subst h92
        obtain ⟨hp, h1⟩ := scan_hit HST.out 92 (by decide) rfl
        have hd : d = 1 := by
          obtain ⟨_, _, _, _, h5⟩ := HST.out
          rcases h5 with ⟨_, _, e, _⟩ | ⟨e, _⟩
          · exact e
          · omega
        subst hd
        have hF : Hid (qFind false (bs s) 0 = qFind (!b) ((bs s).drop (p + 1)) (p + 1)) := by
          rw [HQ.out, qf_low b hp, if_pos (show (bs s)[p]'hp = 92 from h1)]; exact rfl
        clear h1 hp
        go_wp2
        go_roundg (gk - 1)
        case measure => omega
        case rel => exact ⟨p + 1, !b, by omega, HLE1.out, HIT1.out, hF.out, rfl, rfl⟩
      have e92 : (c == 92) = false := by simpa using h92
      cases b
      · by_cases h34 : c = 34
        · subst h34
          obtain ⟨hp, h1⟩ := scan_hit HST.out 34 (by decide) rfl
          have hA : Hid (qFind false (bs s) 0 = .at_ p) := by
            rw [HQ.out, qf_low false hp, h1]; exact rfl
          have z0 := HU1.out.frozen 0
          have g0 := HU1.out.c0
          have HL2 : Hid (bs (s.extract (p + 1) s.size) = (bs s).drop (p + 1)) := by rw [ext_drop]; exact bs_st _
          have hz : (s.extract (p + 1) s.size).size = s.size - (p + 1) := by rw [← bs_len, HL2.out, List.length_drop, HL.out]
          clear h1 hp h92
          go_wp2
          generalize hs2 : s.extract (p + 1) s.size = s2 at HL2 hz ⊢
          obtain ⟨W2, hW2⟩ : ∃ W2, W2 = W1.setCell ⟨na, 0, none⟩ (.string (s.extract 0 p)) := ⟨_, rfl⟩
          have hsz2 : W2.heap.size = W1.heap.size := by rw [hW2]; simp [World.setCell]
          have HU2 : Hid (NA W2 na bu bp ((bs s).take p)) := by rw [hW2, ext_take]; exact HU1.out.set _
          have HK2 : Hid (Kp na w W2) := by rw [hW2]; exact (HLE1.out.kp na).set 0 _
          rw [← hW2]
          clear hW2 HU1 HLE1 HN hs2 z0 g0
          have hs3 : s2.size ≤ 1099511627000 := by omega
          clear hz
          go_loopg [] (s2.size) (fun n wr => ∃ p2 : Nat, n + p2 = s2.size ∧ Le W2 wr ∧ wr.heap[W1.heap.size]? = some (.stringIter s2 p2) ∧ ((bs s2).take p2).all (fun c => !lsEnd c) = true)
          case atStart => exact ⟨0, by omega, (Le.refl _).iter s2 0, hsz2 ▸ World.iter_heap W2 s2 0, rfl⟩
          case round =>
            obtain ⟨p2, hn, hle, hit, hq⟩ := hrel
            have HQ2 := Lib.hid hq
            have HLE2 := Lib.hid hle
            have HN2 : gk + p2 ≤ s2.size ∧ s2.size ≤ gk + p2 := by omega
            clear hn hq hle
            by_cases hlt2 : p2 < s2.size
            · obtain ⟨c, d, W3, hnx2, hst, hit1, hW3⟩ := next_step (P := Tryz.prog) hit hlt2
              have HLE3 := Lib.hid (hW3 ▸ HLE2.out.iterAt (hsz2 ▸ Nat.le_refl _) s2 (p2 + d) : Le W2 W3)
              have HST2 := Lib.hid hst
              have HS3 : 1 ≤ d ∧ p2 + d ≤ s2.size ∧ 0 ≤ c ∧ c ≤ 1114111 := ⟨hst.1, hst.2.1, hst.2.2.1, hst.2.2.2.1⟩
              have HIT3 := Lib.hid hit1
              have HU3 := Lib.hid (HU2.out.le HLE3.out)
              clear hW3 hst hit hit1
              by_cases h60 : c = 60
              · subst h60
                obtain ⟨hp, h1⟩ := scan_hit HST2.out 60 (by decide) rfl
                have hres : Hid (aQuoted (bs s) v = some (.brack, (bs s2).drop (p2 + 1), { v with name := (bs s).take p })) := by
                  have h2 := quoted_hit (v := v) HL2.out hA.out hp HQ2.out (by rw [h1]; rfl)
                  rw [h1] at h2
                  exact h2
                clear h1 hp
                go_wp2
                go_quiet (fail)
                go_wp2
                go_ret3
                rw [hres.out]
                refine ⟨ret3 rfl ?_ rfl, ?_, ?_⟩
                · exact str_eq (ext_drop s2 (p2 + 1))
                · exact HU3.out.le ((Le.refl _).drewN _)
                · exact (HK2.out.le HLE3.out).le ((Le.refl _).drewN _)
              · have e60 : (c == 60) = false := by simpa using h60
                by_cases h59 : c = 59
                · subst h59
                  obtain ⟨hp, h1⟩ := scan_hit HST2.out 59 (by decide) rfl
                  have hres : Hid (aQuoted (bs s) v = some (.uri, (bs s2).drop (p2 + 1), { v with name := (bs s).take p })) := by
                    have h2 := quoted_hit (v := v) HL2.out hA.out hp HQ2.out (by rw [h1]; rfl)
                    rw [h1] at h2
                    exact h2
                  clear h1 hp
                  go_wp2
                  go_quiet (fail)
                  go_wp2
                  go_ret3
                  rw [hres.out]
                  refine ⟨ret3 rfl ?_ rfl, ?_, ?_⟩
                  · exact str_eq (ext_drop s2 (p2 + 1))
                  · exact HU3.out.le ((Le.refl _).drewN _)
                  · exact (HK2.out.le HLE3.out).le ((Le.refl _).drewN _)
                · have e59 : (c == 59) = false := by simpa using h59
                  have hF := Lib.hid (scan_next ls_hi HST2.out HQ2.out (fun x hx => by
                    have n2 : x ≠ 60 := by rintro rfl; exact h60 hx
                    have n3 : x ≠ 59 := by rintro rfl; exact h59 hx
                    simp [lsEnd, n2, n3]))
                  clear h60 h59
                  go_wp2
                  go_roundg (gk - d)
                  case measure => omega
                  case rel => exact ⟨p2 + d, by omega, HLE3.out, HIT3.out, hF.out⟩
            · have hnx2 := fun ty => Lib.run_next_end_at (P := Tryz.prog) wr _ s2 p2 ty hit hlt2
              have hres : Hid (aQuoted (bs s) v = none) := by
                refine quoted_end HL2.out hA.out ?_
                have h1 := HQ2.out
                rw [List.take_of_length_le (by rw [bs_len]; omega)] at h1
                exact h1
              have HU3 := Lib.hid (HU2.out.le HLE2.out)
              clear hit
              go_wp2_with fail
              refine (errnew_c _ _).mono ?_
              rintro e w3 ⟨rfl, hle3⟩
              have HLE4 := Lib.hid (HLE2.out.trans hle3)
              have HU4 := Lib.hid (HU3.out.le hle3)
              clear hle3
              go_wp2
              go_ret3
              rw [hres.out]
              exact ⟨_, _, _, _, _, rfl, ⟨HU4.out, by simp only [List.length_take]; have := HL.out; omega⟩, HK2.out.le HLE4.out⟩
        · have e34 : (c == 34) = false := by simpa using h34
          have hF := Lib.hid (HQ.out.trans (qf_step HST.out false h92 (fun _ => h34) (fun h => by simp at h)))
          clear h92 h34
          go_wp2
          go_roundg (gk - d)
          case measure => omega
          case rel => exact ⟨p + d, false, by omega, HLE1.out, HIT1.out, hF.out, rfl, rfl⟩
      · by_cases hb : c = 10 ∨ c = 13
        · have hres : Hid (aQuoted (bs s) v = none) := by
            have : qFind false (bs s) 0 = .bad := by
              rcases hb with rfl | rfl
              · obtain ⟨hp, h1⟩ := scan_hit HST.out 10 (by decide) rfl
                rw [HQ.out, qf_low true hp, h1]; rfl
              · obtain ⟨hp, h1⟩ := scan_hit HST.out 13 (by decide) rfl
                rw [HQ.out, qf_low true hp, h1]; rfl
            unfold aQuoted; rw [this]; exact rfl
          rcases hb with rfl | rfl
          all_goals
            clear h92
            go_wp2_with fail
            refine (errnew_c _ _).mono ?_
            rintro e w3 ⟨rfl, hle3⟩
            have HLE3 := Lib.hid (HLE1.out.trans hle3)
            have HU3 := Lib.hid (HU1.out.le hle3)
            clear hle3
            go_wp2
            go_ret3
            rw [hres.out]
            exact ⟨_, _, _, _, v.name, rfl, ⟨HU3.out, hnl⟩, HLE3.out.kp na⟩
        · have hb2 : c ≠ 10 ∧ c ≠ 13 := ⟨fun e => hb (.inl e), fun e => hb (.inr e)⟩
          have e10 : (c == 10) = false := by simpa using hb2.1
          have e13 : (c == 13) = false := by simpa using hb2.2
          have hF := Lib.hid (HQ.out.trans (qf_step HST.out true h92 (fun h => by simp at h) (fun _ => hb2)))
          clear h92 hb hb2
          go_wp2
          go_roundg (gk - d)
          case measure => omega
          case rel => exact ⟨p + d, false, by omega, HLE1.out, HIT1.out, hF.out, rfl, rfl⟩
    · have hnx := fun ty => Lib.run_next_end_at (P := Tryz.prog) wr _ s p ty hit hlt
      have hres : Hid (aQuoted (bs s) v = none) := by
        have : qFind false (bs s) 0 = .over := by
          rw [HQ.out, List.drop_of_length_le (by rw [HL.out]; omega)]
          cases b <;> rfl
        unfold aQuoted; rw [this]; exact rfl
      have HU1 := Lib.hid (hu.le HLE.out)
      clear hit hu
      go_wp2_with fail
      refine (errnew_c _ _).mono ?_
      rintro e w3 ⟨rfl, hle3⟩
      have HLE3 := Lib.hid (HLE.out.trans hle3)
      have HU3 := Lib.hid (HU1.out.le hle3)
      clear hle3
      go_wp2
      go_ret3
      rw [hres.out]
      exact ⟨_, _, _, _, v.name, rfl, ⟨HU3.out, hnl⟩, HLE3.out.kp na⟩
end Go.Proofs.YteedhaenbamiaaaGreatDoor
