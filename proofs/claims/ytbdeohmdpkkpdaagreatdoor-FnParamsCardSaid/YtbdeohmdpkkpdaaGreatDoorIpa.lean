/- Contracts: the library's reading of an address of four numbers. -/
import Derived.Test.YtbdeohmdpkkpdaaGreatDoorLow
import Derived.StillTailTactics
import Derived.Laws.BitsAllLaws
import Derived.Great.BuildSlice
set_option linter.unusedVariables false
set_option linter.unusedSimpArgs false
namespace Go.Proofs.YtbdeohmdpkkpdaaGreatDoor
open Go.RowKit

theorem kp_setRowI (w : World) (g : Nat) (cs : Array Value) : Kp g w (w.setRow g cs) := ⟨rfl, rfl, rfl, by simp, fun k _ hb => setRow_other w g k cs (fun e => hb (by rw [e]))⟩
theorem wpList_store_rowR {P : Program} {ops : Array Oper} {rest : List Oper} {o : Oper} {a : Act} {w : World} {Q : Exit → Act → World → Prop} (hgd : o.guard = none) (ty : TypeId) (x y : Operand) (ho : o.op = .store ty x y)
    (g : Nat) (cells : Array Value) (hx : a.eval x = .pointer (some ⟨g, 0, none⟩)) (hy : a.eval y = .agg cells)
    (t : TypeId) (old : Array Value) (hg : w.heap[g]? = some (.cells old t (0, 0))) (hi : (P.info? ty).map (·.size) = some cells.size)
    (hold : old.size = cells.size) (h1 : cells.all (·.oneCell') = true)
    (h : ∀ w', w'.heap[g]? = some (.cells cells t (0, 0)) → Kp g w w' → wpList P ops Q rest (a.put o.dst undef) w') : wpList P ops Q (o :: rest) a w :=
  wpList_store_row hgd ty x y ho g cells hx hy t old hg hi hold h1 (h _ (setRow_heap w _ _ _ _ _ hg) (kp_setRowI w g cells))
theorem wpList_build0' {P : Program} {ops : Array Oper} {rest : List Oper} {o : Oper} {a : Act} {w : World} {Q : Exit → Act → World → Prop} (hg : o.guard = none) (t : TypeId) (ho : o.op = .build t #[]) (d : Option Tmp) (hd : o.dst = d) (cells : Array Value) (hf : P.built t [] = some cells)
    (h : wpList P ops Q rest (a.put d (.agg cells)) w) : wpList P ops Q (o :: rest) a w :=
  wpList_buildTo hg t #[] ho d hd cells (by simpa using hf) h

/-! ### the four numbers -/
def u8L (zs : List Int) : Array Value := (zs.map fun z => Value.int .u8 z).toArray
theorem u8L_at {zs : List Int} {p : Nat} (h : p < zs.length) : (u8L zs)[p]? = some (.int .u8 zs[p]) := by
  unfold u8L; simp [List.getElem?_map, List.getElem?_eq_getElem h]
theorem u8L_set (zs : List Int) (p : Nat) (z : Int) : (u8L zs).setIfInBounds p (.int .u8 z) = u8L (zs.set p z) := by
  unfold u8L
  rw [List.setIfInBounds_toArray, ← List.map_set]
def F4 (w : World) (b : Nat) : Prop := ∃ fs : List Int, fs.length = 4 ∧ (∀ z ∈ fs, 0 ≤ z ∧ z ≤ 255) ∧ w.heap[b]? = some (.cells (u8L fs) 276 (0, 0))
theorem F4.cell {w : World} {b : Nat} (h : F4 w b) {p : Nat} (hp : p < 4) : (∃ z : Int, w.cell? ⟨b, p, none⟩ = some (.int .u8 z)) ∧ w.frozen? ⟨b, p, none⟩ = false := by
  obtain ⟨fs, hl, hr, hb⟩ := h
  exact ⟨⟨_, (cell_cells hb p).trans (u8L_at (by omega))⟩, frozen_cells hb p⟩
theorem F4.set {w : World} {b : Nat} (h : F4 w b) {p : Nat} {z : Int} (h0 : 0 ≤ z) (h1 : z ≤ 255) : F4 (w.setCell ⟨b, p, none⟩ (.int .u8 z)) b := by
  obtain ⟨fs, hl, hr, hb⟩ := h
  refine ⟨fs.set p z, by simp [hl], fun x hx => ?_, ?_⟩
  · rcases List.mem_or_eq_of_mem_set hx with h | rfl
    · exact hr x h
    · exact ⟨h0, h1⟩
  · rw [← u8L_set]; exact heap_set hb p _
theorem F4.le {w w' : World} {b : Nat} (h : F4 w b) (k : Le w w') : F4 w' b := by
  obtain ⟨fs, hl, hr, hb⟩ := h; exact ⟨fs, hl, hr, k.heap hb⟩
def V4P (b : Nat) (w : World) (e : Ending) (w' : World) : Prop := Kp b w w' ∧ F4 w' b ∧ (e = .returned .nilIface ∨ ∃ T x, e = .returned (.iface T x))
set_option maxRecDepth 8000 in
set_option maxHeartbeats 8000000 in
theorem v4f_c (s : ByteArray) (w : World) (b : Nat) (hf : F4 w b) (hs : s.size ≤ 1099511627776) :
    Calls Tryz.prog 182 #[.string s, .int .i64 0, .int .i64 s.size, .slice (some ⟨b, 0, none⟩) 4 4] w (V4P b w) := by
  have hsl : s.extract 0 s.size = s := by rw [ext_drop]; exact st_bs s
  have HF := Lib.hid hf
  clear hf
  go_enter Tryz.func182, Tryz.ntmps182
  go_wp2
  clear hsl
  go_loopg [9, 10, 11, 13] (s.size) (fun n v9 v10 v11 v13 wr => ∃ (k pos : Nat) (val dl : Int), n + k = s.size ∧ v13 = .int .i64 k ∧ v9 = .int .i64 val ∧ v10 = .int .i64 pos ∧ v11 = .int .i64 dl ∧ 0 ≤ val ∧ val ≤ 255 ∧ pos ≤ 3 ∧ 0 ≤ dl ∧ dl ≤ k ∧ Kp b w wr ∧ F4 wr b)
  case atStart => exact ⟨0, 0, 0, 0, by omega, rfl, rfl, rfl, rfl, by omega, by omega, by omega, by omega, by omega, Kp.refl b w, HF.out⟩
  case round =>
    obtain ⟨k, pos, val, dl, hn, rfl, rfl, rfl, rfl, b1, b2, b3, b4, b5, hk, hf⟩ := hrel
    have HK := Lib.hid hk
    have HF2 := Lib.hid hf
    have HN : gk + k ≤ s.size ∧ s.size ≤ gk + k := by omega
    have hlt0 : k ≤ s.size := by omega
    clear hn hk hf
    by_cases hlt : k < s.size
    · obtain ⟨x, hx, hx0, hx1⟩ : ∃ x : Int, ((s[k]'hlt).toNat : Int) = x ∧ 0 ≤ x ∧ x ≤ 255 := ⟨_, rfl, by omega, by have := (s[k]'hlt).toNat_lt; omega⟩
      by_cases hd : 48 ≤ x ∧ x ≤ 57
      · obtain ⟨hd1, hd2⟩ := hd
        by_cases hdl : dl = 1
        · subst hdl
          by_cases hv : val = 0
          · subst hv
            go_wp2
            go_ret
            exact ⟨HK.out, HF2.out, .inr ⟨_, _, rfl⟩⟩
          · have hv' : (val == 0) = false := by rw [beq_eq_false_iff_ne]; exact hv
            by_cases hbig : 255 < val * 10 + x - 48
            · clear hv
              go_wp2
              go_ret
              exact ⟨HK.out, HF2.out, .inr ⟨_, _, rfl⟩⟩
            · have hbig' : val * 10 + x - 48 ≤ 255 := by omega
              clear hv hbig
              go_wp2
              go_roundg (gk - 1)
              case measure => omega
              case rel => exact ⟨k + 1, pos, val * 10 + x - 48, 2, by omega, by go_num, rfl, rfl, rfl, by omega, by omega, by omega, by omega, by omega, HK.out, HF2.out⟩
        · have hdl' : (dl == 1) = false := by rw [beq_eq_false_iff_ne]; exact hdl
          by_cases hbig : 255 < val * 10 + x - 48
          · clear hdl
            go_wp2
            go_ret
            exact ⟨HK.out, HF2.out, .inr ⟨_, _, rfl⟩⟩
          · have hbig' : val * 10 + x - 48 ≤ 255 := by omega
            clear hdl hbig
            go_wp2
            go_roundg (gk - 1)
            case measure => omega
            case rel => exact ⟨k + 1, pos, val * 10 + x - 48, dl + 1, by omega, by go_num, rfl, rfl, rfl, by omega, by omega, by omega, by omega, by omega, HK.out, HF2.out⟩
      · by_cases hp : x = 46
        · have e46 : (x == 46) = true := by rw [hp]; rfl
          have l48 : x < 48 := by omega
          clear hd
          by_cases hk0 : k = 0
          · subst hk0
            clear hp
            go_wp2
            go_ret
            exact ⟨HK.out, HF2.out, .inr ⟨_, _, rfl⟩⟩
          · have hk0' : ((k : Int) == 0) = false := by rw [beq_eq_false_iff_ne]; omega
            by_cases hke : (k : Int) = (s.size : Int) - 1
            · have hke' : ((k : Int) == (s.size : Int) - 1) = true := by rw [beq_iff_eq]; exact hke
              clear hke hp hk0
              go_wp2
              go_ret
              exact ⟨HK.out, HF2.out, .inr ⟨_, _, rfl⟩⟩
            · have hke' : ((k : Int) == (s.size : Int) - 1) = false := by rw [beq_eq_false_iff_ne]; exact hke
              have hkm : k - 1 < s.size := by omega
              have hk1 : 1 ≤ (k : Int) := by omega
              obtain ⟨y, hy⟩ : ∃ y : Int, ((s[k - 1]'hkm).toNat : Int) = y := ⟨_, rfl⟩
              by_cases hy46 : y = 46
              · have ey : (y == 46) = true := by rw [hy46]; rfl
                clear hy46 hke hp hk0
                go_wp2
                go_ret
                exact ⟨HK.out, HF2.out, .inr ⟨_, _, rfl⟩⟩
              · have ey : (y == 46) = false := by rw [beq_eq_false_iff_ne]; exact hy46
                by_cases hp3 : pos = 3
                · subst hp3
                  clear hy46 hke hp hk0
                  go_wp2
                  go_ret
                  exact ⟨HK.out, HF2.out, .inr ⟨_, _, rfl⟩⟩
                · have hp3' : ((pos : Int) == 3) = false := by rw [beq_eq_false_iff_ne]; omega
                  have hp4 : pos < 4 := by omega
                  obtain ⟨⟨z, hz⟩, hfz⟩ := HF2.out.cell hp4
                  have hw : IntKind.u8.wrap val = val := IntWalk.u8_in _ (by omega)
                  have HSET := Lib.hid (HF2.out.set (p := pos) b1 b2)
                  have HKS := Lib.hid (HK.out.set pos (.int .u8 val))
                  clear hy46 hke hp hk0
                  go_wp2
                  go_roundg (gk - 1)
                  case measure => omega
                  case rel => exact ⟨k + 1, pos + 1, 0, 0, by omega, by go_num, rfl, by go_num, rfl, by omega, by omega, by omega, by omega, by omega, HKS.out, HSET.out⟩
        · have e46 : (x == 46) = false := by rw [beq_eq_false_iff_ne]; exact hp
          clear hp
          by_cases hx48 : x < 48
          · clear hd
            go_wp2
            go_ret
            exact ⟨HK.out, HF2.out, .inr ⟨_, _, rfl⟩⟩
          · have h48 : 48 ≤ x := by omega
            have h57 : 57 < x := by omega
            clear hd hx48
            go_wp2
            go_ret
            exact ⟨HK.out, HF2.out, .inr ⟨_, _, rfl⟩⟩
    · by_cases hp3 : pos < 3
      · have hp3' : (pos : Int) < 3 := by omega
        go_wp2
        go_ret
        exact ⟨HK.out, HF2.out, .inr ⟨_, _, rfl⟩⟩
      · have hp3' : (3 : Int) ≤ pos := by omega
        obtain ⟨⟨z, hz⟩, hfz⟩ := HF2.out.cell (p := 3) (by omega)
        have hw : IntKind.u8.wrap val = val := IntWalk.u8_in _ (by omega)
        have HSET := Lib.hid (HF2.out.set (p := 3) b1 b2)
        have HKS := Lib.hid (HK.out.set 3 (.int .u8 val))
        clear hp3
        go_wp2
        go_ret
        exact ⟨HKS.out, HSET.out, .inl rfl⟩
end Go.Proofs.YtbdeohmdpkkpdaaGreatDoor
