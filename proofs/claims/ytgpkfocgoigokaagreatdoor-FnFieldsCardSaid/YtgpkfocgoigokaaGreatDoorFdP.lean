/- Contract: the specification's Fields. -/
import Derived.Test.YtgpkfocgoigokaaGreatDoorFdO
import Derived.Test.YtgpkfocgoigokaaGreatDoorSpWb
import Derived.Deep.Cut
set_option linter.unusedVariables false
set_option linter.unusedSimpArgs false
namespace Go.Proofs.YtgpkfocgoigokaaGreatDoor
open Go.RowKit

theorem own_types {w : World} {b1 b2 : Nat} {E1 E2 : TypeId} {s1 s2 n1 n2 : Nat} {v1 v2 : Value} {x1 x2 : List Value} (h1 : w.ownsRow b1 E1 s1 v1 n1 x1) (h2 : w.ownsRow b2 E2 s2 v2 n2 x2) (hne : E1 ≠ E2) : v1.ownBlock = none ∨ v1.ownBlock ≠ v2.ownBlock := by
  cases h : v1.ownBlock with
  | none => exact .inl rfl
  | some g =>
    refine .inr fun e => ?_
    obtain ⟨_, c, fz, e1⟩ := own_row' h1 g h
    obtain ⟨_, c', fz', e2⟩ := own_row' h2 g e.symm
    rw [e1] at e2
    injection e2 with e2
    injection e2 with _ e2
    exact hne e2
/-- where the reader stands: out's row, the words, the word that is open -/
structure FdI (w : World) (l : Tx) (k hi : Nat) (ov wv : Value) (xs : List Value) (ws : List Tx) (wd : Tx) (wr : World) : Prop where
  le : Le w wr
  hi1 : w.heap.size ≤ hi
  hi2 : hi ≤ wr.heap.size
  out : wr.ownsRow w.heap.size 22 1 ov ws.length xs
  all : WAll w.heap.size hi wr xs ws
  word : OwnB hi wr wv wd
  pr : ∀ c ∈ l.take k, prn c = true
  run : fdS l [] [] = fdS (l.drop k) wd ws
  wdl : wd.length ≤ k
  wsl : ws.length ≤ k
def SFd (l : Tx) (w : World) (e : Ending) (w' : World) : Prop :=
  ∃ (v : Value) (kd : Int) (ws : List Tx), e = .returned (.tuple #[v, .int .i64 kd]) ∧ Le w w' ∧ Sl w' w' v ws ∧ (kd = -2 ∨ (kd = 0 ∧ (∀ c ∈ l, prn c = true) ∧ l.head? ≠ some 32 ∧ ws = fdS l [] []))
theorem SFd.open_ (l : Tx) {w w' : World} (h : Le w w') : SFd l w (.returned (.tuple #[.slice none 0 0, .int .i64 (-2)])) w' :=
  ⟨_, _, [], rfl, h, ⟨none, 0, rfl, by simp, by simp, by simp, fun h => by simp at h⟩, .inl rfl⟩
theorem prn_int {c : UInt8} (h1 : ¬ (c.toNat : Int) < 32) (h2 : ¬ (126 : Int) < c.toNat) : prn c = true := by
  have e1 : (32 : UInt8) ≤ c := by rw [UInt8.le_iff_toNat_le]; show 32 ≤ c.toNat; omega
  have e2 : c ≤ (126 : UInt8) := by rw [UInt8.le_iff_toNat_le]; show c.toNat ≤ 126; omega
  simp [prn, e1, e2]
theorem fdS_blank {r wd : Tx} {ws : List Tx} : fdS (32 :: r) wd ws = fdS r [] (if wd = [] then ws else ws ++ [wd]) := by
  conv => lhs; unfold fdS
  rw [if_pos rfl]
theorem fdS_char {c : UInt8} {r wd : Tx} {ws : List Tx} (h : c ≠ 32) : fdS (c :: r) wd ws = fdS r (wd ++ [c]) ws := by
  conv => lhs; unfold fdS
  rw [if_neg h]

set_option maxRecDepth 8000 in
set_option maxHeartbeats 8000000 in
theorem sFields_c (v : Value) (l : Tx) (w : World) (hv : Bv w v l) (hl : l.length ≤ 1099511627000) :
    Calls Tryz.prog 6 #[v] w (SFd l w) := by
  obtain ⟨A, cc, rfl, h1, h2, h4⟩ := hv
  have h3 := h4.1
  have HR := Lib.hid h4
  clear h4
  go_enter Tryz.func6, Tryz.ntmps6
  go_upto_region 3 with fail
  go_cut [15] from 7 (fun s15 wx => ∃ q : Bool, s15 = .bool q ∧ w = wx ∧ (q = true ↔ l.head? = some 32))
  case first =>
    by_cases h0 : l = []
    · have hz : decide ((0 : Int) < (l.length : Int)) = false := decide_eq_false (by rw [h0]; simp)
      have hz2 : l.length = 0 := by rw [h0]; rfl
      have HH : Hid (¬ l.head? = some 32) := Lib.hid (by rw [h0]; simp)
      clear h0
      go_wp2
      go_meet
      case rel => exact ⟨false, rfl, rfl, by simp [HH.out]⟩
    · have hpos : 0 < l.length := List.length_pos_iff.2 h0
      have hz : decide ((0 : Int) < (l.length : Int)) = true := decide_eq_true (by omega)
      obtain ⟨b, o, rfl, d1⟩ := HR.out.at_ hpos
      rw [Nat.add_zero] at d1
      have hhd : l.head? = some l[0] := by rw [List.head?_eq_getElem?, List.getElem?_eq_getElem hpos]
      by_cases c0 : l[0] = 32
      · have b0 : ((l[0].toNat : Int) == 32) = true := by rw [c0]; rfl
        have HH : Hid (l.head? = some 32) := Lib.hid (by rw [hhd, c0])
        clear c0 hhd h0
        generalize (l[0].toNat : Int) = x at d1 b0
        go_wp2
        go_meet
        case rel => exact ⟨true, rfl, rfl, by simp [HH.out]⟩
      · have b0 : ((l[0].toNat : Int) == 32) = false := by simpa using fun h => c0 (u8_of (n := 32) h (by decide))
        have HH : Hid (¬ l.head? = some 32) := Lib.hid (by rw [hhd]; simpa using c0)
        clear c0 hhd h0
        generalize (l[0].toNat : Int) = x at d1 b0
        go_wp2
        go_meet
        case rel => exact ⟨false, rfl, rfl, by simp [HH.out]⟩
  case rest =>
  obtain ⟨q, rfl, rfl, hq⟩ := hcut
  have HQ := Lib.hid hq
  clear hq
  cases q
  case true =>
    go_wp2
    go_ret2
    exact SFd.open_ l (Le.refl w)
  have HH : Hid (¬ l.head? = some 32) := Lib.hid (fun h => by have := HQ.out.2 h; cases this)
  clear HQ
  go_wp2
  go_loopg [4, 5, 6] (l.length) (fun m ov wv iv wr => ∃ (k hi : Nat) (xs : List Value) (ws : List Tx) (wd : Tx), m + k = l.length ∧ iv = .int .i64 k ∧ FdI w l k hi ov wv xs ws wd wr)
  case atStart => exact ⟨0, w.heap.size, [], [], [], by omega, rfl, Le.refl w, Nat.le_refl _, Nat.le_refl _, World.ownsRow_nil _ _ _ _, WAll.nil _ _ _, OwnB.nil _ _, by simp, rfl, by simp, by simp⟩
  case round =>
    obtain ⟨k, hi, xs, ws, wd, hm, rfl, hI⟩ := hrel
    have HI := Lib.hid hI
    have HM : gk + k ≤ l.length ∧ l.length ≤ gk + k := by omega
    obtain ⟨i0, hi0, hz0, hz1, hz2⟩ := info_parts bs_info
    obtain ⟨Aw, cw, rfl⟩ : ∃ A c, u5 = .slice A wd.length c := by obtain ⟨A, c, e, _⟩ := hI.word.bv (by have := hI.wdl; omega); exact ⟨A, c, e⟩
    have HO := Lib.hid hI.out
    have HWD := Lib.hid hI.word
    clear hm hI
    by_cases hlt : k < l.length
    · obtain ⟨b, o, rfl, d0⟩ := HR.out.at_ hlt
      have d1 := HI.out.le.cell d0
      clear d0
      have HTK : Hid (l.take (k + 1) = l.take k ++ [l[k]] ∧ l.drop k = l[k] :: l.drop (k + 1)) := Lib.hid ⟨List.take_succ_eq_append_getElem hlt, List.drop_eq_getElem_cons hlt⟩
      obtain ⟨c, hc⟩ : ∃ c, c = l[k] := ⟨_, rfl⟩
      rw [← hc] at d1 HTK
      clear hc
      by_cases n1 : (c.toNat : Int) < 32
      · go_wp2
        go_ret2
        exact SFd.open_ l HI.out.le
      by_cases n2 : (126 : Int) < (c.toNat : Int)
      · go_wp2
        go_ret2
        exact SFd.open_ l HI.out.le
      have HPR := Lib.hid (prn_int n1 n2)
      have n1' : (32 : Int) ≤ c.toNat := by omega
      have n2' : (c.toNat : Int) ≤ 126 := by omega
      clear n1 n2
      by_cases c32 : c = 32
      · have b0 : ((c.toNat : Int) != 32) = false := by rw [c32]; rfl
        have HC := Lib.hid c32
        clear c32
        by_cases hw0 : wd = []
        · have hwl : decide ((0 : Int) < (wd.length : Int)) = false := decide_eq_false (by rw [hw0]; simp)
          have hwl2 : wd.length = 0 := by rw [hw0]; rfl
          have HN : Hid (FdI w l (k + 1) hi u4 (.slice none 0 0) xs ws [] wr) := Lib.hid (by
            obtain ⟨a1, a2, a3, a4, a5, a6, a7, a8, a9, a10⟩ := HI.out
            refine ⟨a1, a2, a3, a4, a5, OwnB.nil _ _, fun x hx => ?_, ?_, by simp, by omega⟩
            · rw [HTK.out.1, List.mem_append] at hx
              rcases hx with hx | hx
              · exact a7 x hx
              · obtain rfl : x = c := by simpa using hx
                exact HPR.out
            · rw [a8, HTK.out.2, HC.out, fdS_blank, if_pos hw0])
          clear hw0
          go_wp2
          go_roundg (l.length - (k + 1))
          case measure => omega
          case rel => exact ⟨k + 1, hi, xs, ws, [], by omega, by go_num, HN.out⟩
        · have hwl0 : 0 < wd.length := List.length_pos_iff.2 hw0
          have hwl : decide ((0 : Int) < (wd.length : Int)) = true := decide_eq_true (by omega)
          have HW0 := Lib.hid hw0
          have hwsl := HI.out.wsl
          clear hw0
          rename World => wr
          have hszw := HI.out.le.size
          go_wp2_with (at_builtin; refine wpList_append_lies _ rfl _ _ 24 rfl w.heap.size 22 i0 (.slice none 0 0) 1 24 Tryz.underlying24 hi0 hz0 hz1 hz2 rfl (by decide) _ _ _ rfl (HO.out.alloc _) ⟨wr.heap.size, 0, none⟩ 1 1 [.slice Aw wd.length cw] rfl rfl ?c1 ?c2 ?c3 ?c4 ?c5 ?c6 (wr.heap.size + 1) ?c7 ?_)
          case c1 => exact World.news_of_block (heap_alloc_new wr _)
          case c2 => intro u hu; simp only [List.mem_cons, List.mem_nil_iff, or_false] at hu; subst hu; rfl
          case c3 => omega
          case c4 => unfold maxLen; omega
          case c5 => omega
          case c6 => simp; omega
          case c7 => simp
          intro g2 cap2 w2 hown2 hgrow2 hat2 hlt2
          have hle1 : Le wr (wr.alloc (Obj.cells #[.slice Aw wd.length cw] 22)) := (Le.refl wr).alloc _
          have HLE2 : Hid (Le w w2) := Lib.hid (Below.grown' (HI.out.le.alloc _) hgrow2 (Nat.le_refl _) (fun g hg => (own_row' HO.out g hg).1))
          have HN : Hid (FdI w l (k + 1) w2.heap.size (.slice (some ⟨g2, 0, none⟩) (ws.length + 1) cap2) (.slice none 0 0) (xs ++ [.slice Aw wd.length cw]) (ws ++ [wd]) [] w2) := Lib.hid (by
            obtain ⟨a1, a2, a3, a4, a5, a6, a7, a8, a9, a10⟩ := HI.out
            have hu8 := grown_u8 (HO.out.alloc (Obj.cells #[.slice Aw wd.length cw] 22)) hgrow2
            have hall := ((a5.le hle1).keep (fun g cur fz _ hg => hu8 g cur fz hg)).mono (Nat.le_trans a3 (Nat.le_trans hle1.size hgrow2.size))
            have hbt : Bt w.heap.size w2 (.slice Aw wd.length cw) wd := by
              have h := ((a6.bt (by omega)).le hle1).keep (w' := w2) (fun g cur fz hg => hu8 g cur fz hg)
              exact ⟨h.1, fun g hg => ⟨Nat.le_trans a2 (h.2 g hg).1, (h.2 g hg).2⟩⟩
            refine ⟨HLE2.out, HLE2.out.size, Nat.le_refl _, by rw [List.length_append]; exact hown2, hall.snoc hbt (fun g hg => ?_), OwnB.nil _ _, fun x hx => ?_, ?_, by simp, by simp; omega⟩
            · obtain ⟨cur, fz, e⟩ := (hbt.2 g hg).2
              exact lt_of_heap e
            · rw [HTK.out.1, List.mem_append] at hx
              rcases hx with hx | hx
              · exact a7 x hx
              · obtain rfl : x = c := by simpa using hx
                exact HPR.out
            · rw [a8, HTK.out.2, HC.out, fdS_blank, if_neg HW0.out])
          clear hown2 hgrow2 hat2 hlt2 hle1
          go_wp2
          go_roundg (l.length - (k + 1))
          case measure => omega
          case rel => exact ⟨k + 1, _, _, ws ++ [wd], [], by omega, by go_num, HN.out⟩
      · have b0 : ((c.toNat : Int) != 32) = true := by simpa using fun h => c32 (u8_of (n := 32) h (by decide))
        have HC := Lib.hid c32
        clear c32
        rename World => wr
        have hlit : Bv (wr.alloc (Obj.cells #[.int .u8 (c.toNat : Int)] 5)) (.slice (some ⟨wr.heap.size, 0, none⟩) 1 1) [c] := bv_lit wr [c] (by simp) (0, 0)
        have HLIT := Lib.hid hlit
        have hle1 : Le wr (wr.alloc (Obj.cells #[.int .u8 (c.toNat : Int)] 5)) := (Le.refl wr).alloc _
        have HLE1 := Lib.hid hle1
        have HW1 := Lib.hid (HWD.out.le hle1)
        have HSI := Lib.hid (Nat.le_trans HI.out.hi2 hle1.size)
        have hwdl := HI.out.wdl
        clear hlit hle1
        go_wp2_with (at_builtin; refine wpList_append_bv rfl (.tmp 41) (.tmp 46) rfl (base := hi) rfl rfl HW1.out HLIT.out (by simp only [List.length_cons, List.length_nil]; omega) HSI.out ?_)
        intro v2 w2 hown2 hgrow2
        have HN : Hid (FdI w l (k + 1) hi u4 v2 xs ws (wd ++ [c]) w2) := Lib.hid (by
          obtain ⟨a1, a2, a3, a4, a5, a6, a7, a8, a9, a10⟩ := HI.out
          refine ⟨Below.grown' (a1.trans HLE1.out) hgrow2 (Nat.le_refl _) (fun g hg => Nat.le_trans a2 (own_row' HW1.out g hg).1), a2, Nat.le_trans HSI.out hgrow2.size, ?_, ?_, hown2, fun x hx => ?_, ?_, by simp; omega, by omega⟩
          · exact (own_le a4 HLE1.out).kept hgrow2 (own_types (own_le a4 HLE1.out) HW1.out (by decide))
          · refine (a5.le HLE1.out).keep fun g cur fz hg1 hg2 => hgrow2.block g (lt_of_heap hg2) fun e => ?_
            have := (own_row' HW1.out g e.symm).1
            omega
          · rw [HTK.out.1, List.mem_append] at hx
            rcases hx with hx | hx
            · exact a7 x hx
            · obtain rfl : x = c := by simpa using hx
              exact HPR.out
          · rw [a8, HTK.out.2, fdS_char HC.out])
        clear hown2 hgrow2
        go_wp2
        go_roundg (l.length - (k + 1))
        case measure => omega
        case rel => exact ⟨k + 1, hi, xs, ws, wd ++ [c], by omega, by go_num, HN.out⟩
    · have hkl : k = l.length := by omega
      have HEND : Hid ((∀ c ∈ l, prn c = true) ∧ fdS l [] [] = (if wd = [] then ws else ws ++ [wd])) := Lib.hid (by
        obtain ⟨a1, a2, a3, a4, a5, a6, a7, a8, a9, a10⟩ := HI.out
        rw [hkl, List.take_length] at a7
        rw [hkl, List.drop_length] at a8
        exact ⟨a7, a8⟩)
      have hwsl := HI.out.wsl
      have hkd : decide ((k : Int) < (l.length : Int)) = false := decide_eq_false (by omega)
      by_cases hw0 : wd = []
      · have hwl : decide ((0 : Int) < (wd.length : Int)) = false := decide_eq_false (by rw [hw0]; simp)
        have hwl2 : wd.length = 0 := by rw [hw0]; rfl
        have HS : Hid (Sl wr wr u4 ws ∧ ws = fdS l [] []) := Lib.hid ⟨Sl.of_row HI.out.out HI.out.all.ball (by omega), by rw [HEND.out.2, if_pos hw0]⟩
        clear hw0 hkl
        go_wp2
        go_ret2
        exact ⟨_, 0, ws, rfl, HI.out.le, HS.out.1, .inr ⟨rfl, HEND.out.1, HH.out, HS.out.2⟩⟩
      · have hwl0 : 0 < wd.length := List.length_pos_iff.2 hw0
        have hwl : decide ((0 : Int) < (wd.length : Int)) = true := decide_eq_true (by omega)
        have HW0 := Lib.hid hw0
        clear hw0 hkl
        rename World => wr
        have hszw := HI.out.le.size
        go_wp2_with (at_builtin; refine wpList_append_lies _ rfl _ _ 24 rfl w.heap.size 22 i0 (.slice none 0 0) 1 24 Tryz.underlying24 hi0 hz0 hz1 hz2 rfl (by decide) _ _ _ rfl (HO.out.alloc _) ⟨wr.heap.size, 0, none⟩ 1 1 [.slice Aw wd.length cw] rfl rfl ?c1 ?c2 ?c3 ?c4 ?c5 ?c6 (wr.heap.size + 1) ?c7 ?_)
        case c1 => exact World.news_of_block (heap_alloc_new wr _)
        case c2 => intro u hu; simp only [List.mem_cons, List.mem_nil_iff, or_false] at hu; subst hu; rfl
        case c3 => omega
        case c4 => unfold maxLen; omega
        case c5 => omega
        case c6 => simp; omega
        case c7 => simp
        intro g2 cap2 w2 hown2 hgrow2 hat2 hlt2
        have hle1 : Le wr (wr.alloc (Obj.cells #[.slice Aw wd.length cw] 22)) := (Le.refl wr).alloc _
        have HLE2 : Hid (Le w w2) := Lib.hid (Below.grown' (HI.out.le.alloc _) hgrow2 (Nat.le_refl _) (fun g hg => (own_row' HO.out g hg).1))
        have HS : Hid (Sl w2 w2 (.slice (some ⟨g2, 0, none⟩) (ws.length + 1) cap2) (ws ++ [wd]) ∧ ws ++ [wd] = fdS l [] []) := Lib.hid (by
          obtain ⟨a1, a2, a3, a4, a5, a6, a7, a8, a9, a10⟩ := HI.out
          have hu8 := grown_u8 (HO.out.alloc (Obj.cells #[.slice Aw wd.length cw] 22)) hgrow2
          have hall := ((a5.le hle1).keep (fun g cur fz _ hg => hu8 g cur fz hg)).mono (Nat.le_trans a3 (Nat.le_trans hle1.size hgrow2.size))
          have hbt := ((a6.bt (by omega)).le hle1).keep (w' := w2) (fun g cur fz hg => hu8 g cur fz hg)
          refine ⟨Sl.of_row (by rw [List.length_append]; exact hown2) (hall.ball.snoc hbt.1) (by simp; omega), ?_⟩
          rw [HEND.out.2, if_neg HW0.out])
        clear hown2 hgrow2 hat2 hlt2 hle1
        go_wp2
        go_ret2
        exact ⟨_, 0, ws ++ [wd], rfl, HLE2.out, HS.out.1, .inr ⟨rfl, HEND.out.1, HH.out, HS.out.2⟩⟩
end Go.Proofs.YtgpkfocgoigokaaGreatDoor
