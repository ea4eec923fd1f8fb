/- Contract: the specification's ParamsDo (printed by gen_sdo.py). -/
import Derived.Test.YtgelnjcjpkklbaaGreatDoorOwr
import Derived.Test.YtgelnjcjpkklbaaGreatDoorUriOf
set_option linter.unusedVariables false
set_option linter.unusedSimpArgs false
namespace Go.Proofs.YtgelnjcjpkklbaaGreatDoor
open Go.RowKit

def cdS (sv1 iv1 p1 q1 x sv2 iv2 p2 q2 y : Value) : Nat → Value → World → Prop
  | 7, v, _ => v = sv1
  | 11, v, _ => v = iv1
  | 1, v, _ => v = sv2
  | 9, v, _ => v = iv2
  | 57, v, _ => v = sv1
  | 58, v, _ => v = iv1
  | 59, v, _ => v = p1
  | 60, v, _ => v = q1
  | 61, v, _ => v = x
  | 63, v, _ => v = sv2
  | 64, v, _ => v = iv2
  | 65, v, _ => v = p2
  | 66, v, _ => v = q2
  | 67, v, _ => v = y
  | 62, v, w => ∃ l, Bv w v l
  | 68, v, w => ∃ l, Bv w v l
  | 69, v, _ => ∃ r, v = .bool r
  | _, _, _ => True
theorem cdS_le (sv1 iv1 p1 q1 x sv2 iv2 p2 q2 y : Value) (t : Nat) (v : Value) (w w' : World) (h : Le w w') (hs : cdS sv1 iv1 p1 q1 x sv2 iv2 p2 q2 y t v w) : cdS sv1 iv1 p1 q1 x sv2 iv2 p2 q2 y t v w' := by
  unfold cdS at hs ⊢
  split at hs <;> first | exact hs | (obtain ⟨l, hl⟩ := hs; exact ⟨l, hl.le h⟩)

theorem actK_tot (l : KVs) (ds : List Act3) : (actsK l ds).2.length = ds.length := by
  have := actsK_len l ds ds.length (Nat.le_refl _)
  rw [List.take_length] at this
  exact this
structure KeyR (w : World) (ks : KVs) (sv : Value) (wr : World) : Prop where
  le : Le w wr
  own : ∃ xs, wr.ownsRow w.heap.size 104 2 sv ks.length xs ∧ PAll w xs ks
theorem KeyR.kq {w wr : World} {ks : KVs} {sv : Value} (h : KeyR w ks sv wr) (hl : ks.length ≤ 1099511627776) : Kq (fun _ => True) wr sv ks := by
  obtain ⟨h1, xs, h2, h3⟩ := h
  exact Kq.of_row h2 h3 h1 hl
theorem KeyR.grow {w wr w' : World} {ks : KVs} {sv : Value} (h : KeyR w ks sv wr) (k : Le wr w') : KeyR w ks sv w' := by
  obtain ⟨h1, xs, h2, h3⟩ := h
  exact ⟨h1.trans k, xs, own_le h2 k, h3⟩
theorem KeyR.app {w W w2 : World} {ks : KVs} {sv v2 : Value} {xs : List Value} {x y : Value} {z : Tx × Tx} {o : Obj} (hle : Le w W) (ho : W.ownsRow w.heap.size 104 2 sv ks.length xs) (hp : PAll w xs ks) (hx : Bv w x z.1) (hy : Bv w y z.2)
    (hown : w2.ownsRow w.heap.size 104 2 v2 (ks.length + 1) (xs ++ [x, y])) (hg : (W.alloc o).grownBy w2 sv.ownBlock) : KeyR w (ks ++ [z]) v2 w2 :=
  ⟨Below.grown' (hle.alloc _) hg (Nat.le_refl _) (fun g hg => (own_row' ho g hg).1), _, by rw [List.length_append]; exact hown, hp.snoc hx hy⟩
def SDoPost (l : KVs) (ds : List Act3) (w : World) (e : Ending) (w' : World) : Prop :=
  Le w w' ∧ ((∃ v1 v2, e = .returned (.tuple #[v1, v2, .int .i64 0]) ∧ DK l ∧ Kq (fun _ => True) w' v1 (actsK l ds).1 ∧ Kq (fun _ => True) w' v2 (actsK l ds).2) ∨ ∃ v1 v2, e = .returned (.tuple #[v1, v2, .int .i64 (-2)]))
/-- behind the acts so far -/
structure SD (w0 : World) (so : Value) (l : KVs) (sv : Value) (ts : KVs) (W : World) : Prop where
  le : Le w0 W
  out : ∃ xs, OwR W w0.heap.size so l.length xs ∧ PAll w0 xs l
  told : ∃ xs, W.ownsRow w0.heap.size 104 2 sv ts.length xs ∧ WCells w0.heap.size w0 W xs ts
  ne : ∀ g, so.ownBlock = some g → sv.ownBlock ≠ some g
section
variable {w0 W : World} {so sv : Value} {l ts : KVs} {key val : Tx} {xb : Nat}
theorem SD.grow (h : SD w0 so l sv ts W) {W' : World} (k : Le W W') : SD w0 so l sv ts W' := by
  obtain ⟨h1, ⟨xs, h2, h3⟩, ⟨ys, h4, h5⟩, h6⟩ := h
  exact ⟨h1.trans k, ⟨xs, h2.le k, h3⟩, ⟨ys, own_le h4 k, h5.keep fun g _ _ hg => k.block g (lt_of_heap hg)⟩, h6⟩
theorem SD.setx (h : SD w0 so l sv ts W) (hb : w0.heap.size ≤ xb) {cs : Array Value} {T : TypeId} {fz : Nat × Nat} (hx : W.heap[xb]? = some (.cells cs T fz)) (hT : T ≠ 5) (n1 : so.ownBlock ≠ some xb) (n2 : sv.ownBlock ≠ some xb) (j : Nat) (y : Value) : SD w0 so l sv ts (W.setCell ⟨xb, j, none⟩ y) := by
  obtain ⟨h1, ⟨xs, h2, h3⟩, ⟨ys, h4, h5⟩, h6⟩ := h
  exact ⟨Below.setCell h1 hb _, ⟨xs, h2.kept (kp_set W xb j y) (.inr n1), h3⟩, ⟨ys, h4.kept (kp_set W xb j y) (.inr n2), h5.keep (setx_bytes hx hT j y)⟩, h6⟩
/-- .. with what is told of this act, in block xb -/
structure SDX (w0 : World) (xb : Nat) (so : Value) (l : KVs) (sv : Value) (ts : KVs) (key val : Tx) (W : World) : Prop where
  sd : SD w0 so l sv ts W
  n1 : so.ownBlock ≠ some xb
  n2 : sv.ownBlock ≠ some xb
  hb : w0.heap.size ≤ xb
  xc : ∃ n1 A1 c1 n2 A2 c2, W.heap[xb]? = some (.cells #[.slice A1 n1 c1, .slice A2 n2 c2] 104 (0, 0)) ∧ Bt w0.heap.size W (.slice A1 n1 c1) key ∧ Bv w0 (.slice A2 n2 c2) val
theorem SDX.start (h : SD w0 so l sv ts W) : SDX w0 W.heap.size so l sv ts [] [] (W.alloc (Obj.cells #[.slice none 0 0, .slice none 0 0] 104)) := by
  refine ⟨h.grow ((Le.refl W).alloc _), ?_, ?_, h.le.size, _, _, _, _, _, _, heap_alloc_new W _, Bt.nil _ _, Bv.nil _⟩
  · obtain ⟨xs, h2, _⟩ := h.out
    intro e
    obtain ⟨_, c, fz, hc⟩ := h2.row _ e
    have := lt_of_heap hc
    omega
  · obtain ⟨xs, h2, _⟩ := h.told
    intro e
    obtain ⟨_, c, fz, hc⟩ := own_row' h2 _ e
    have := lt_of_heap hc
    omega
theorem SDX.grow (h : SDX w0 xb so l sv ts key val W) {W' : World} (k : Le W W') : SDX w0 xb so l sv ts key val W' := by
  obtain ⟨h1, h2, h3, h4, n1, A1, c1, n2, A2, c2, h5, h6, h7⟩ := h
  exact ⟨h1.grow k, h2, h3, h4, n1, A1, c1, n2, A2, c2, k.heap h5, h6.le k, h7⟩
theorem SDX.setv (h : SDX w0 xb so l sv ts key val W) {y : Value} {val' : Tx} (hy : Bv w0 y val') : SDX w0 xb so l sv ts key val' (W.setCell ⟨xb, 1, none⟩ y) := by
  obtain ⟨h1, h2, h3, h4, n1, A1, c1, n2, A2, c2, h5, h6, h7⟩ := h
  obtain ⟨A, c, rfl, hr⟩ := hy
  exact ⟨h1.setx h4 h5 (by decide) h2 h3 1 _, h2, h3, h4, n1, A1, c1, _, A, c, heap_set h5 1 _, h6.keep (setx_bytes h5 (by decide) 1 _), ⟨A, c, rfl, hr⟩⟩
theorem SDX.setk (h : SDX w0 xb so l sv ts key val W) : SDX w0 xb so l sv ts [49] val ((W.alloc (Obj.cells #[.int .u8 49] 5 (1, 2))).setCell ⟨xb, 0, none⟩ (.slice (some ⟨W.heap.size, 0, none⟩) 1 1)) := by
  have hsz := h.sd.le.size
  obtain ⟨h1, h2, h3, h4, n1, A1, c1, n2, A2, c2, h5, h6, h7⟩ := h.grow ((Le.refl W).alloc (Obj.cells #[.int .u8 49] 5 (1, 2)))
  have hb : Bt w0.heap.size (W.alloc (Obj.cells #[.int .u8 49] 5 (1, 2))) (.slice (some ⟨W.heap.size, 0, none⟩) 1 1) [49] := ⟨bv_lit W [49] (by decide) (1, 2), fun g hg => by
    have hg' : some W.heap.size = some g := hg
    injection hg' with hg'
    subst hg'
    exact ⟨hsz, _, _, heap_alloc_new W _⟩⟩
  exact ⟨h1.setx h4 h5 (by decide) h2 h3 0 _, h2, h3, h4, _, _, _, n2, A2, c2, heap_set h5 0 _, hb.keep (setx_bytes h5 (by decide) 0 _), h7⟩
theorem SDX.put {g n c : Nat} (h : SDX w0 xb (.slice (some ⟨g, 0, none⟩) n c) l sv ts key val W) (hn : n = l.length) {j : Nat} (hj : j < l.length) {y : Value} {K V : Tx} (hy : Bv w0 y V) (hK : l[j].1 = K) :
    SDX w0 xb (.slice (some ⟨g, 0, none⟩) n c) (l.set j (K, V)) sv ts key val (W.setCell ⟨g, j * 2 + 1, none⟩ y) := by
  subst hn
  obtain ⟨⟨s1, ⟨xs, s2, s3⟩, ⟨ys, s4, s5⟩, s6⟩, h2, h3, h4, n1, A1, c1, n2, A2, c2, h5, h6, h7⟩ := h
  obtain ⟨hgb, cc, fz, hgc⟩ := s2.row g rfl
  have hne : g ≠ xb := fun e => h2 (by rw [e]; rfl)
  refine ⟨⟨Below.setCell s1 hgb _, ⟨xs.set (j * 2 + 1) y, ?_, s3.put hj hy hK⟩, ⟨ys, s4.kept (kp_set W g _ y) (.inr (s6 g rfl)), s5.keep (setx_bytes hgc (by decide) _ y)⟩, s6⟩, h2, h3, h4, n1, A1, c1, n2, A2, c2, ?_, h6.keep (setx_bytes hgc (by decide) _ y), h7⟩
  · rw [List.length_set]; exact s2.stored _ y
  · exact (Below.heap_setCell _ _ _ _ (fun e => hne e.symm)).trans h5
theorem SDX.app (h : SDX w0 xb so l sv ts key val W) {v2 : Value} {w2 : World} {l' : KVs} {xs' : List Value} (h1 : OwR w2 w0.heap.size v2 l'.length xs') (h2 : PAll w0 xs' l') (hg : W.grownBy w2 so.ownBlock) (hr : ∀ g, v2.ownBlock = some g → so.ownBlock = some g ∨ W.heap.size ≤ g) :
    SDX w0 xb v2 l' sv ts key val w2 := by
  obtain ⟨⟨s1, ⟨xs, s2, s3⟩, ⟨ys, s4, s5⟩, s6⟩, n1, n2, hb, m1, A1, c1, m2, A2, c2, h5, h6, h7⟩ := h
  have hby : ∀ (g : Nat) (cur : Array Value) (fz : Nat × Nat), W.heap[g]? = some (.cells cur 5 fz) → w2.heap[g]? = W.heap[g]? := by
    intro g cur fz hc
    refine hg.block g (lt_of_heap hc) (fun e => ?_)
    obtain ⟨_, c', fz', h⟩ := s2.row g e.symm
    rw [hc] at h
    injection h with h
    injection h with _ h
    exact absurd h (by decide)
  have hxl := lt_of_heap h5
  refine ⟨⟨Below.grown' s1 hg (Nat.le_refl _) (fun g hg => (s2.row g hg).1), ⟨xs', h1, h2⟩, ⟨ys, s4.kept hg ?_, s5.keep hby⟩, ?_⟩, ?_, n2, hb, m1, A1, c1, m2, A2, c2, (hg.block xb hxl (fun e => n1 e.symm)).trans h5, h6.keep hby, h7⟩
  · cases hq : so.ownBlock with
    | none =>
      cases hq2 : sv.ownBlock with
      | none => exact .inl rfl
      | some g => exact .inr (by simp)
    | some g => exact .inr (s6 g hq)
  · intro g hg2 e
    rcases hr g hg2 with h | h
    · exact s6 g h e
    · obtain ⟨_, c, fz, hc⟩ := own_row' s4 g e
      have := lt_of_heap hc
      omega
  · intro e
    rcases hr xb e with h | h
    · exact n1 h
    · omega
end
set_option maxRecDepth 100000 in
set_option maxHeartbeats 8000000 in
theorem sDo_c (φ : Nat → Prop) (w : World) (va dv : Value) (l : KVs) (ds : List Act3) (ha : Kq φ w va l) (hd : Dw w dv ds) (hl : l.length ≤ 10000) (hds : ds.length ≤ 10000) :
    Calls Tryz.prog 37 #[va, dv] w (SDoPost l ds w) := by
  have HA := Lib.hid ha
  have HD := Lib.hid hd
  obtain ⟨Aa, ca, rfl, hca, hcb, la3, _⟩ := ha
  obtain ⟨Ad, cd, rfl⟩ := hd.form
  clear hd
  obtain ⟨i0, hi0, hz0, hz1, hz2⟩ := skv_parts
  have kc := fun (w : World) (C : Array Value) (n c : Nat) => Lib.run_convert_bytes_const (P := Tryz.prog) w 22 5 C n c Tryz.underlying22 Tryz.underlying5
  go_enter Tryz.func37, Tryz.ntmps37
  go_wp2
  go_loopg [7, 8] (l.length) (fun n sv i wr => ∃ k : Nat, n + k = l.length ∧ i = .int .i64 k ∧ KeyR w (l.take k) sv wr)
  case atStart => exact ⟨0, by omega, rfl, Le.refl w, [], World.ownsRow_nil _ _ _ _, PAll.nil _⟩
  case round =>
    obtain ⟨k, hn, rfl, hkr⟩ := hrel
    have HK := Lib.hid hkr
    have HN : gk + k ≤ l.length ∧ l.length ≤ gk + k := by omega
    clear hn hkr
    by_cases hkl : k < l.length
    · obtain ⟨g, o, rfl, x, y, d1, d2, X, Y⟩ := HA.out.at_ hkl
      have d1 := HK.out.le.cell d1
      have d2 := HK.out.le.cell d2
      have hx1 := X.out.oneU
      have hy1 := Y.out.oneU
      have hsz := HK.out.le.size
      obtain ⟨xs, ho, hpa⟩ := HK.out.own
      have HO := Lib.hid ho
      have HPA := Lib.hid hpa
      have htk : (l.take k).length = k := by rw [List.length_take]; omega
      clear ho hpa
      go_wp2_with ((at_builtin; refine wpList_append_lies _ rfl _ _ 47 rfl w.heap.size 104 i0 (.agg #[.slice none 0 0, .slice none 0 0]) 2 48 Tryz.underlying47 hi0 hz0 hz1 hz2 rfl (by decide) _ _ _ rfl (HO.out.alloc _) ⟨wr.heap.size, 0, none⟩ 1 1 [x, y] rfl rfl ?c1 ?c2 ?c3 ?c4 ?c5 ?c6 (wr.heap.size + 1) ?c7 ?_))
      case c1 => exact World.news_of_block (heap_alloc_new wr _)
      case c2 => intro u hu; simp only [List.mem_cons, List.mem_nil_iff, or_false] at hu; rcases hu with rfl | rfl <;> assumption
      case c3 => omega
      case c4 => unfold maxLen; omega
      case c5 => omega
      case c6 => simp; omega
      case c7 => simp
      intro g2 cap2 w2 hown2 hgrow2 hat2 hlt2
      have HK2 : Hid (KeyR w (l.take (k + 1)) (.slice (some ⟨g2, 0, none⟩) (k + 1) cap2) w2) := Lib.hid (by
        rw [List.take_succ_eq_append_getElem hkl]
        exact KeyR.app HK.out.le HO.out HPA.out X.out Y.out (by rw [htk]; exact hown2) hgrow2)
      clear hown2 hgrow2 hat2 hlt2 d1 d2
      go_wp2
      go_roundg (gk - 1)
      case measure => omega
      case rel => exact ⟨k + 1, by omega, by go_num, HK2.out⟩
    · have HK1 : Hid (KeyR w l u7 wr) := Lib.hid (by have h := HK.out; rw [List.take_of_length_le (by omega)] at h; exact h)
      clear HK
      obtain ⟨A7, c7, rfl⟩ : ∃ A c, u7 = .slice A l.length c := by obtain ⟨A, c, e, _⟩ := HK1.out.kq (by omega); exact ⟨A, c, e⟩
      obtain ⟨r1, hr1⟩ : ∃ r, apB l = r := ⟨_, rfl⟩
      go_wp2_with fail
      refine (isApart_c (fun _ => True) _ l wr (HK1.out.kq (by omega))).mono ?_
      rw [hr1]
      rintro e w1 ⟨rfl, hle1⟩
      have HK2 := Lib.hid (HK1.out.grow hle1)
      have HR1 := Lib.hid hr1
      clear hle1 hr1
      cases r1
      case false =>
        go_wp2
        go_returns
        exact ⟨HK2.out.le, .inr ⟨_, _, rfl⟩⟩
      have HDL := Lib.hid (dk_of_ap HR1.out)
      go_wp2
      rename World => wk
      obtain ⟨wo, hwo⟩ : ∃ wo : World, wo = wk := ⟨_, rfl⟩
      clear hwo
      go_loopg [7, 9] (ds.length) (fun n sv i wr => ∃ k : Nat, n + k = ds.length ∧ i = .int .i64 k ∧ ∃ ks : KVs, ks.length ≤ 10000 + k ∧ KeyR w ks sv wr)
      case atStart => exact ⟨0, by omega, rfl, l, by omega, HK2.out⟩
      case round =>
        obtain ⟨i, hn, rfl, ks, hks, hkr⟩ := hrel
        have HK3 := Lib.hid hkr
        have HN2 : gk + i ≤ ds.length ∧ ds.length ≤ gk + i := by omega
        clear hn hkr
        obtain ⟨A7, c7, rfl⟩ : ∃ A c, u7 = .slice A ks.length c := by obtain ⟨A, c, e, _⟩ := HK3.out.kq (by omega); exact ⟨A, c, e⟩
        by_cases hlt : i < ds.length
        · obtain ⟨ga, oa, rfl, x1, x2, d0, d1, d2, X1, X2⟩ := HD.out.at_ hlt
          have D1 := Lib.hid d1
          have c1 := HK3.out.le.cell d1
          obtain ⟨Ax, cx, rfl, _⟩ := bv_slice X1.out
          clear d0 d1 d2
          go_wp2_with fail
          refine (at_c (fun _ => True) wr _ _ ks ds[i].2.1 (HK3.out.kq (by omega)) (X1.out.le HK3.out.le)).mono ?_
          rintro e w3 ⟨rfl, rfl⟩
          have HKS : Hid (ks.length ≤ 10000 + i) := Lib.hid hks
          clear hks
          rcases kInt_range ks ds[i].2.1 with ⟨j, hj, hjl, hjk⟩ | hno
          · rw [hj]
            clear hj hjk
            have hj0 : decide ((j : Int) < 0) = false := decide_eq_false (by omega)
            have HJ : Hid (j < ks.length) := Lib.hid hjl
            clear hjl
            go_wp2
            rename World => wr
            have HGO : ∃ go : Nat, go = gk ∧ go + i ≤ ds.length ∧ ds.length ≤ go + i := ⟨gk, rfl, HN2⟩
            clear HN2
            obtain ⟨go, hgo, HN2⟩ := HGO
            have HGK : Hid (go ≤ gk ∧ gk ≤ go) := Lib.hid (by omega)
            clear hgo
            go_loopg [11] 0 (fun n m wx => ∃ j : Nat, m = .int .i64 j ∧ wx = wr)
            case atStart => exact ⟨0, rfl, rfl⟩
            case round =>
              obtain ⟨m, rfl, rfl⟩ := hrel
              by_cases hml : m < ks.length
              · go_wp2
                go_roundg (go - 1)
                case measure => have := HGK.out; omega
                case rel => exact ⟨i + 1, by omega, by go_num, ks, by have := HKS.out; omega, HK3.out⟩
              · go_wp2
                go_roundg (go - 1)
                case measure => have := HGK.out; omega
                case rel => exact ⟨i + 1, by omega, by go_num, ks, by have := HKS.out; omega, HK3.out⟩
          · rw [hno]
            clear hno
            have HGO : ∃ go : Nat, go = gk ∧ go + i ≤ ds.length ∧ ds.length ≤ go + i := ⟨gk, rfl, HN2⟩
            clear HN2
            obtain ⟨go, hgo, HN2⟩ := HGO
            have HGK : Hid (go ≤ gk ∧ gk ≤ go) := Lib.hid (by omega)
            clear hgo
            go_wp2
            rename World => wr
            obtain ⟨wo, hwo⟩ : ∃ wo : World, wo = wr := ⟨_, rfl⟩
            clear hwo
            have hkb : ks.length ≤ 20000 := by have := HKS.out; omega
            go_loopg [11] (ks.length) (fun n m wx => ∃ j : Nat, n + j = ks.length ∧ m = .int .i64 j ∧ KeyR w ks (.slice A7 ks.length c7) wx)
            case atStart => exact ⟨0, by omega, rfl, HK3.out⟩
            case round =>
              obtain ⟨m, hn, rfl, hkr⟩ := hrel
              have HK4 := Lib.hid hkr
              have HG0 := Lib.hid (Le.refl wr)
              have X1r := Lib.hid (X1.out.le hkr.le)
              have D1r := Lib.hid (hkr.le.cell D1.out)
              have HM : gk + m ≤ ks.length ∧ ks.length ≤ gk + m := by omega
              clear hn hkr
              by_cases hml : m < ks.length
              · obtain ⟨gb, ob, rfl, y1, y2, e1, e2, Y1, Y2⟩ := (HK4.out.kq (by have := HKS.out; omega)).at_ hml
                have E1 := Lib.hid e1
                clear e1 e2
                go_wp2
                have hm : (Tryz.prog).follows .mixedOrders = true := by kernel_rfl
                have hGl : ∀ w1 w2, Le w1 w2 → Le wr w1 → Le wr w2 := fun w1 w2 k h => Le.trans h k
                refine wp_region_grow_put (cdS (Value.slice (some ⟨gb, ob, none⟩) ks.length c7) (.int .i64 m) (.pointer (some ⟨gb, ob + m * 2, none⟩)) (.pointer (some ⟨gb, ob + m * 2, none⟩)) y1 (Value.slice (some ⟨ga, oa, none⟩) ds.length cd) (.int .i64 i) (.pointer (some ⟨ga, oa + i * 3, none⟩)) (.pointer (some ⟨ga, oa + i * 3 + 1, none⟩)) (Value.slice Ax ds[i].2.1.length cx)) (fun _ _ => True) (Le wr) 201 [57, 58, 59, 60, 61, 62, 63, 64, 65, 66, 67, 68, 69] hm (by kernel_rfl) rfl rfl ?hG ?hold ?hs ?hend
                case hG => exact HG0.out.drew
                case hold =>
                  intro t ht
                  simp only [List.mem_cons, List.mem_nil_iff, or_false, not_or] at ht
                  unfold cdS
                  split <;> first | rfl | trivial | (exfalso; simp at ht)
                case hs =>
                  refine ⟨?_, ?_, ?_, ?_, ?_, ?_, ?_, ?_, ?_, ?_, ?_, ?_, ?_, trivial⟩
                  · refine GrowStep.det ?_
                    intro a W hg hop
                    have h0 : a.eval (.tmp 7) = (Value.slice (some ⟨gb, ob, none⟩) ks.length c7) := (hop 7 (by simp [Op.operands, Call.operands]))
                    have h0' : a.tmps[7]?.getD undef = (Value.slice (some ⟨gb, ob, none⟩) ks.length c7) := by simpa [Act.eval] using h0
                    refine ⟨(Value.slice (some ⟨gb, ob, none⟩) ks.length c7), ?_, rfl⟩
                    simp only [execOp, h0]
                    go_simp
                  · refine GrowStep.det ?_
                    intro a W hg hop
                    have h0 : a.eval (.tmp 11) = (.int .i64 m) := (hop 11 (by simp [Op.operands, Call.operands]))
                    have h0' : a.tmps[11]?.getD undef = (.int .i64 m) := by simpa [Act.eval] using h0
                    refine ⟨(.int .i64 m), ?_, rfl⟩
                    simp only [execOp, h0]
                    go_simp
                  · refine GrowStep.det ?_
                    intro a W hg hop
                    have h0 : a.eval (.tmp 57) = (Value.slice (some ⟨gb, ob, none⟩) ks.length c7) := (hop 57 (by simp [Op.operands, Call.operands]))
                    have h0' : a.tmps[57]?.getD undef = (Value.slice (some ⟨gb, ob, none⟩) ks.length c7) := by simpa [Act.eval] using h0
                    have h1 : a.eval (.tmp 58) = (.int .i64 m) := (hop 58 (by simp [Op.operands, Call.operands]))
                    have h1' : a.tmps[58]?.getD undef = (.int .i64 m) := by simpa [Act.eval] using h1
                    refine ⟨(.pointer (some ⟨gb, ob + m * 2, none⟩)), ?_, rfl⟩
                    simp only [execOp, h0, h1]
                    go_simp
                  · refine GrowStep.det ?_
                    intro a W hg hop
                    have h0 : a.eval (.tmp 59) = (.pointer (some ⟨gb, ob + m * 2, none⟩)) := (hop 59 (by simp [Op.operands, Call.operands]))
                    have h0' : a.tmps[59]?.getD undef = (.pointer (some ⟨gb, ob + m * 2, none⟩)) := by simpa [Act.eval] using h0
                    refine ⟨(.pointer (some ⟨gb, ob + m * 2, none⟩)), ?_, rfl⟩
                    simp only [execOp, h0]
                    go_simp
                  · refine GrowStep.det ?_
                    intro a W hg hop
                    have h0 : a.eval (.tmp 60) = (.pointer (some ⟨gb, ob + m * 2, none⟩)) := (hop 60 (by simp [Op.operands, Call.operands]))
                    have h0' : a.tmps[60]?.getD undef = (.pointer (some ⟨gb, ob + m * 2, none⟩)) := by simpa [Act.eval] using h0
                    have c1 := hg.cell E1.out
                    refine ⟨y1, ?_, rfl⟩
                    simp only [execOp, h0]
                    go_simp
                  · refine GrowStep.call ?_ ?_ ?_ ?_
                    · exact fun t u w1 w2 k h => cdS_le _ _ _ _ _ _ _ _ _ _ t u w1 w2 k h
                    · exact fun _ _ _ _ h => h
                    · exact hGl
                    intro a W hg hop
                    have h0 : a.eval (.tmp 61) = y1 := (hop 61 (by simp [Op.operands, Call.operands]))
                    have h0' : a.tmps[61]?.getD undef = y1 := by simpa [Act.eval] using h0
                    refine ⟨73, #[y1], ?_, (lowered_c y1 _ W (Y1.out.le hg)).mono ?_⟩
                    · simp only [execOp, h0]
                      go_simp
                    · rintro e w' ⟨v', rfl, hk, hle⟩; exact ⟨v', rfl, hle, _, hk.bv (by rw [List.length_map]; exact (bv_slice Y1.out).choose_spec.choose_spec.2)⟩
                  · refine GrowStep.det ?_
                    intro a W hg hop
                    have h0 : a.eval (.tmp 1) = (Value.slice (some ⟨ga, oa, none⟩) ds.length cd) := (hop 1 (by simp [Op.operands, Call.operands]))
                    have h0' : a.tmps[1]?.getD undef = (Value.slice (some ⟨ga, oa, none⟩) ds.length cd) := by simpa [Act.eval] using h0
                    refine ⟨(Value.slice (some ⟨ga, oa, none⟩) ds.length cd), ?_, rfl⟩
                    simp only [execOp, h0]
                    go_simp
                  · refine GrowStep.det ?_
                    intro a W hg hop
                    have h0 : a.eval (.tmp 9) = (.int .i64 i) := (hop 9 (by simp [Op.operands, Call.operands]))
                    have h0' : a.tmps[9]?.getD undef = (.int .i64 i) := by simpa [Act.eval] using h0
                    refine ⟨(.int .i64 i), ?_, rfl⟩
                    simp only [execOp, h0]
                    go_simp
                  · refine GrowStep.det ?_
                    intro a W hg hop
                    have h0 : a.eval (.tmp 63) = (Value.slice (some ⟨ga, oa, none⟩) ds.length cd) := (hop 63 (by simp [Op.operands, Call.operands]))
                    have h0' : a.tmps[63]?.getD undef = (Value.slice (some ⟨ga, oa, none⟩) ds.length cd) := by simpa [Act.eval] using h0
                    have h1 : a.eval (.tmp 64) = (.int .i64 i) := (hop 64 (by simp [Op.operands, Call.operands]))
                    have h1' : a.tmps[64]?.getD undef = (.int .i64 i) := by simpa [Act.eval] using h1
                    refine ⟨(.pointer (some ⟨ga, oa + i * 3, none⟩)), ?_, rfl⟩
                    simp only [execOp, h0, h1]
                    go_simp
                  · refine GrowStep.det ?_
                    intro a W hg hop
                    have h0 : a.eval (.tmp 65) = (.pointer (some ⟨ga, oa + i * 3, none⟩)) := (hop 65 (by simp [Op.operands, Call.operands]))
                    have h0' : a.tmps[65]?.getD undef = (.pointer (some ⟨ga, oa + i * 3, none⟩)) := by simpa [Act.eval] using h0
                    refine ⟨(.pointer (some ⟨ga, oa + i * 3 + 1, none⟩)), ?_, rfl⟩
                    simp only [execOp, h0]
                    go_simp
                  · refine GrowStep.det ?_
                    intro a W hg hop
                    have h0 : a.eval (.tmp 66) = (.pointer (some ⟨ga, oa + i * 3 + 1, none⟩)) := (hop 66 (by simp [Op.operands, Call.operands]))
                    have h0' : a.tmps[66]?.getD undef = (.pointer (some ⟨ga, oa + i * 3 + 1, none⟩)) := by simpa [Act.eval] using h0
                    have c1 := hg.cell D1r.out
                    refine ⟨(Value.slice Ax ds[i].2.1.length cx), ?_, rfl⟩
                    simp only [execOp, h0]
                    go_simp
                  · refine GrowStep.call ?_ ?_ ?_ ?_
                    · exact fun t u w1 w2 k h => cdS_le _ _ _ _ _ _ _ _ _ _ t u w1 w2 k h
                    · exact fun _ _ _ _ h => h
                    · exact hGl
                    intro a W hg hop
                    have h0 : a.eval (.tmp 67) = (Value.slice Ax ds[i].2.1.length cx) := (hop 67 (by simp [Op.operands, Call.operands]))
                    have h0' : a.tmps[67]?.getD undef = (Value.slice Ax ds[i].2.1.length cx) := by simpa [Act.eval] using h0
                    refine ⟨73, #[(Value.slice Ax ds[i].2.1.length cx)], ?_, (lowered_c (Value.slice Ax ds[i].2.1.length cx) _ W (X1r.out.le hg)).mono ?_⟩
                    · simp only [execOp, h0]
                      go_simp
                    · rintro e w' ⟨v', rfl, hk, hle⟩; exact ⟨v', rfl, hle, _, hk.bv (by rw [List.length_map]; exact (bv_slice X1r.out).choose_spec.choose_spec.2)⟩
                  · refine GrowStep.call ?_ ?_ ?_ ?_
                    · exact fun t u w1 w2 k h => cdS_le _ _ _ _ _ _ _ _ _ _ t u w1 w2 k h
                    · exact fun _ _ _ _ h => h
                    · exact hGl
                    intro a W hg hop
                    obtain ⟨l1, k1⟩ : ∃ l, Bv W (a.eval (.tmp 62)) l := (hop 62 (by simp [Op.operands, Call.operands]))
                    obtain ⟨l2, k2⟩ : ∃ l, Bv W (a.eval (.tmp 68)) l := (hop 68 (by simp [Op.operands, Call.operands]))
                    generalize hy1 : a.eval (.tmp 62) = y1 at k1
                    generalize hy2 : a.eval (.tmp 68) = y2 at k2
                    have hy1' : a.tmps[62]?.getD undef = y1 := by simpa [Act.eval] using hy1
                    have hy2' : a.tmps[68]?.getD undef = y2 := by simpa [Act.eval] using hy2
                    refine ⟨72, #[y1, y2], ?_, (isSame_c y1 y2 _ _ W k1 k2).mono ?_⟩
                    · simp only [execOp, hy1, hy2]
                      go_simp
                    · rintro e w' ⟨rfl, rfl⟩; exact ⟨_, rfl, Le.refl W, _, rfl⟩
                case hend =>
                  intro v w' hg hS hZ
                  have HG := Lib.hid hg
                  obtain ⟨rr, s28⟩ : ∃ r, v 69 = .bool r := hS 69 (by decide)
                  clear hS hZ hg
                  simp only [putsL, Act.put, List.setIfInBounds_toArray, List.set_cons_zero, List.set_cons_succ]
                  rw [s28]
                  clear s28

                  cases rr
                  case true =>
                    go_wp2
                    go_returns
                    exact ⟨HK4.out.le.trans HG.out, .inr ⟨_, _, rfl⟩⟩
                  case false =>
                    go_wp2
                    go_roundg (gk - 1)
                    case measure => omega
                    case rel => exact ⟨m + 1, by omega, by go_num, HK4.out.grow HG.out⟩
              · have e1 := D1.out
                have e1 := HK4.out.le.cell e1
                have hx1 := X1.out.oneU
                have hsz := HK4.out.le.size
                obtain ⟨xs, ho, hpa⟩ := HK4.out.own
                have HO := Lib.hid ho
                have HPA := Lib.hid hpa
                clear ho hpa
                go_wp2_with ((at_builtin; refine wpList_append_lies _ rfl _ _ 47 rfl w.heap.size 104 i0 (.agg #[.slice none 0 0, .slice none 0 0]) 2 48 Tryz.underlying47 hi0 hz0 hz1 hz2 rfl (by decide) _ _ _ rfl (HO.out.alloc _) ⟨wr.heap.size, 0, none⟩ 1 1 [.slice Ax ds[i].2.1.length cx, .slice none 0 0] rfl rfl ?c1 ?c2 ?c3 ?c4 ?c5 ?c6 (wr.heap.size + 1) ?c7 ?_))
                case c1 => exact World.news_of_block (heap_alloc_new wr _)
                case c2 => intro u hu; simp only [List.mem_cons, List.mem_nil_iff, or_false] at hu; rcases hu with rfl | rfl <;> rfl
                case c3 => omega
                case c4 => unfold maxLen; omega
                case c5 => omega
                case c6 => simp; omega
                case c7 => simp
                intro g2 cap2 w2 hown2 hgrow2 hat2 hlt2
                have HK2 : Hid (KeyR w (ks ++ [(ds[i].2.1, [])]) (.slice (some ⟨g2, 0, none⟩) (ks.length + 1) cap2) w2) := Lib.hid (
                  KeyR.app (z := (ds[i].2.1, [])) HK4.out.le HO.out HPA.out X1.out (Bv.nil w) hown2 hgrow2)
                clear hown2 hgrow2 hat2 hlt2 e1
                go_wp2
                go_roundg (go - 1)
                case measure => have := HGK.out; omega
                case rel => exact ⟨i + 1, by omega, by go_num, _, by have := HKS.out; simp; omega, HK2.out⟩
        · obtain ⟨v12, W12, hrun12, hout12, hle12⟩ := app_all HA.out hl HK3.out.le 47
          have HSD : Hid (SD w v12 l (.slice none 0 0) [] W12) := Lib.hid ⟨hle12, hout12, ⟨[], World.ownsRow_nil _ _ _ _, rfl, fun j hj => by simp at hj⟩, fun g _ e => by simp [Value.ownBlock] at e⟩
          clear hout12 hle12
          go_wp2_with (at_builtin; refine wpList_append_run rfl _ _ 47 rfl _ _ rfl rfl v12 W12 hrun12 ?_)
          go_wp2
          clear hrun12
          go_loopg [12, 13, 14] (ds.length) (fun n so sv i wx => ∃ k : Nat, n + k = ds.length ∧ i = .int .i64 k ∧ SD w so (actsK l (ds.take k)).1 sv (actsK l (ds.take k)).2 wx ∧ Hid (DK (actsK l (ds.take k)).1) ∧ Hid ((actsK l (ds.take k)).1.length ≤ 10000 + k))
          case atStart => exact ⟨0, by omega, rfl, HSD.out, HDL, Lib.hid (by have : (actsK l (ds.take 0)).1 = l := rfl; rw [this]; omega)⟩
          case round =>
            rename World => wx
            obtain ⟨k, hn, rfl, hdw, HDK, HLL⟩ := hrel
            have HW := Lib.hid hdw
            have HN2 : gk + k ≤ ds.length ∧ ds.length ≤ gk + k := by omega
            clear hn hdw
            by_cases hlt2 : k < ds.length
            · obtain ⟨g, o, rfl, x, y, d0, d1, d2, X, Y⟩ := HD.out.at_ hlt2
              have e1 := HW.out.le.cell d1
              have HT : Hid (actsK l (ds.take (k + 1)) = ((actK (actsK l (ds.take k)).1 ds[k]).1, (actsK l (ds.take k)).2 ++ [(actK (actsK l (ds.take k)).1 ds[k]).2])) := Lib.hid (by rw [List.take_succ_eq_append_getElem hlt2, actsK_snoc])
              have HTN := Lib.hid (actsK_len l ds k (by omega))
              obtain ⟨Ax, cx, rfl⟩ := X.out.form
              obtain ⟨Ay, cy, rfl⟩ := Y.out.form
              generalize actsK l (ds.take k) = st0 at HW HT HTN HDK HLL
              obtain ⟨l0, ts⟩ := st0
              generalize ds[k] = dd at *
              obtain ⟨op, K, V⟩ := dd
              dsimp only at *
              have hL0 : l0.length ≤ 20000 := by have := HLL.out; omega
              have HKQ : Hid (Kq (fun _ => True) wx u12 l0) := Lib.hid (by obtain ⟨xs, h1, h2⟩ := HW.out.out; exact Kq.of_owr h1 h2 HW.out.le (by omega))
              obtain ⟨A12, c12, rfl⟩ : ∃ A c, u12 = .slice A l0.length c := by obtain ⟨A, c, e, _⟩ := HKQ.out; exact ⟨A, c, e⟩
              have HL0 := Lib.hid hL0
              have HWA := Lib.hid (HW.out.le.alloc (Obj.cells #[.slice none 0 0, .slice none 0 0] 104))
              have a0 := HWA.out.cell d0
              have a1 := HWA.out.cell d1
              have a2 := HWA.out.cell d2
              clear d0 d1 d2
              go_wp2_with fail
              refine (at_c (fun _ => True) wx _ _ l0 K HKQ.out (X.out.le HW.out.le)).mono ?_
              rintro e w3 ⟨rfl, rfl⟩
              have HX0 := Lib.hid (SDX.start HW.out)
              obtain ⟨kz, hkz⟩ : ∃ z, kInt l0 K = z := ⟨_, rfl⟩
              rw [hkz]
              have HKZ := Lib.hid hkz
              clear hkz
              go_upto_block 8 with fail
              have HA0 := Lib.hid a0
              have HA1 := Lib.hid a1
              have HA2 := Lib.hid a2
              clear a0 a1 a2 e1
              generalize hW0 : wx.alloc (Obj.cells #[.slice none 0 0, .slice none 0 0] 104) = W0 at *
              have a1 := HA1.out
              have a2 := HA2.out
              go_cut [12] from 102 to 194 (fun s12 wc => Hid (SDX w wx.heap.size s12 (actK l0 (op, K, V)).1 u13 ts (actK l0 (op, K, V)).2.1 (actK l0 (op, K, V)).2.2 wc))
              case first =>
                rcases kInt_range l0 K with ⟨j, hj, hjl, hjk⟩ | hno
                · obtain rfl : kz = (j : Int) := HKZ.out.symm.trans hj
                  have HF := Lib.hid (fnd_kInt hj hjl)
                  have HJ : Hid (kInt l0 K = (j : Int)) := Lib.hid hj
                  have HJK := Lib.hid hjk
                  have hj0 : decide (0 ≤ (j : Int)) = true := decide_eq_true (by omega)
                  have hj1 : (j : Int) ≤ 20000 := by omega
                  obtain ⟨xs, how, hpa⟩ := HX0.out.sd.out
                  obtain ⟨g2, c2, hv, hnc, hgb⟩ := how.at_ (show 0 < l0.length by omega)
                  injection hv with hv1 _ hv2
                  subst hv1
                  subst hv2
                  obtain ⟨X1, Y1, p1, p2, P1, P2⟩ := hpa.2 j hjl
                  have q1 := (how.cellAt (j * 2) (by omega)).trans p1
                  have q2 := (how.cellAt (j * 2 + 1) (by omega)).trans p2
                  have q3 := how.frozenAt (j * 2 + 1)
                  have HOW := Lib.hid how
                  have HPA := Lib.hid hpa
                  have HP2 := Lib.hid P2
                  obtain ⟨AY, cY, rfl⟩ := P2.form
                  clear hj hjk how hpa p1 p2 P1 P2 q1 hgb
                  by_cases t0 : op = 0
                  · have f0 : (op == 0) = true := by simp [t0]
                    have HA : Hid (actK l0 (op, K, V) = (l0.set j (K, V), ([], []))) := Lib.hid (by unfold actK; rw [if_pos t0, addKV_set j HJ.out hjl])
                    have HX1 : Hid (SDX w wx.heap.size (.slice (some ⟨g2, 0, none⟩) l0.length c12) (l0.set j (K, V)) u13 ts [] [] (W0.setCell ⟨g2, j * 2 + 1, none⟩ (.slice Ay V.length cy))) := Lib.hid (HX0.out.put rfl hjl Y.out HJK.out)
                    clear t0 HF HJ
                    go_wp2
                    go_meet
                    case rel => rw [HA.out]; exact HX1
                  have f0 : (op == 0) = false := by simpa using t0
                  by_cases t1 : op = 1
                  · have f1 : (op == 1) = true := by simp [t1]
                    have HA : Hid (actK l0 (op, K, V) = (l0.eraseIdx j, ([], []))) := Lib.hid (by unfold actK; rw [if_neg t0, if_pos t1, rm_dk HDK.out hjl HJK.out])
                    obtain ⟨v2, w2, hrun, o1, o2, o3⟩ := (HOW.out.le ((Le.refl W0).drew)).del (HX0.out.grow ((Le.refl W0).drew)).sd.le.size hjl HPA.out.one (by omega) 47
                    have HX1 : Hid (SDX w wx.heap.size v2 (l0.eraseIdx j) u13 ts [] [] w2) := Lib.hid ((HX0.out.grow (Le.refl W0).drew).app (by rw [List.length_eraseIdx, if_pos hjl]; exact o1) (HPA.out.del hjl) o2 o3)
                    obtain ⟨Aq, hAq⟩ : ∃ A : Addr, (if c12 = j + 1 then (some (⟨g2, 0, none⟩ : Addr)) else some ⟨g2, (j + 1) * 2, none⟩) = some A := by split <;> exact ⟨_, rfl⟩
                    rw [hAq] at hrun
                    have HRUN := Lib.hid hrun
                    have hjc : j + 1 ≤ c12 := by omega
                    have hjc2 : j ≤ c12 := by omega
                    have hjn : j + 1 ≤ l0.length := by omega
                    have hwr : IntKind.i64.wrap ((j : Int) + 1) = (j : Int) + 1 := IntWalk.i64_in _ (by omega)
                    have hp1 : (0 : Int) ≤ (j : Int) + 1 := by omega
                    have hp2 : (j : Int) + 1 ≤ (l0.length : Int) := by omega
                    have hp3 : ((j : Int) + 1).toNat = j + 1 := by omega
                    clear t0 t1 HF HJ hrun o1 o2 o3 q2 q3
                    go_upto_region 32 with fail
                    go_region_law (refine step_append_run rfl (.tmp 145) (.tmp 149) _ rfl (.slice (some ⟨g2, 0, none⟩) j j) (.slice (some Aq) (l0.length - (j + 1)) (c12 - (j + 1))) (by simp [Act.eval, Act.put]) (by simp [Act.eval, Act.put]) v2 w2 HRUN.out ?_)
                    all_goals
                      go_wp2
                      go_meet
                      case rel => rw [HA.out]; exact HX1
                  have f1 : (op == 1) = false := by simpa using t1
                  by_cases t2 : op = 2
                  · have f2 : (op == 2) = true := by simp [t2]
                    have HA : Hid (actK l0 (op, K, V) = (l0, ([49], l0[j].2))) := Lib.hid (by unfold actK; rw [if_neg t0, if_neg t1, if_pos t2, HF.out]; rfl)
                    have hxb := (HX0.out.grow ((Le.refl W0).alloc (Obj.cells #[.int .u8 49] 5 (1, 2)))).xc
                    obtain ⟨xn1, xA1, xc1, xn2, xA2, xc2, hxb, _, _⟩ := hxb
                    have z0 := frozen_cells hxb 0
                    have z1 : (W0.alloc (Obj.cells #[.int .u8 49] 5 (1, 2))).cell? ⟨wx.heap.size, 0, none⟩ = some (.slice xA1 xn1 xc1) := cell_cells hxb 0
                    have HXK := Lib.hid (HX0.out.setk)
                    clear t0 t1 t2 hxb
                    go_upto_region 36 with fail
                    clear z0 z1 q2 q3 a1 a2
                    generalize (W0.alloc (Obj.cells #[.int .u8 49] 5 (1, 2))).setCell ⟨wx.heap.size, 0, none⟩ (.slice (some ⟨W0.heap.size, 0, none⟩) 1 1) = W1 at HXK ⊢
                    obtain ⟨xn3, xA3, xc3, xn4, xA4, xc4, hxb2, _, _⟩ := HXK.out.xc
                    have z0 := frozen_cells hxb2 1
                    have z1 : W1.cell? ⟨wx.heap.size, 1, none⟩ = some (.slice xA4 xn4 xc4) := cell_cells hxb2 1
                    obtain ⟨ys, how1, hpa1⟩ := HXK.out.sd.out
                    obtain ⟨X3, Y3, r1, r2, R1, R2⟩ := hpa1.2 j hjl
                    have r3 := (how1.cellAt (j * 2 + 1) (by omega)).trans r2
                    obtain ⟨AY3, cY3, rfl⟩ := R2.form
                    have HX1 := Lib.hid (HXK.out.setv R2)
                    clear hxb2 how1 hpa1 r1 r2 R1 R2
                    go_wp2
                    go_meet
                    case rel => rw [HA.out]; exact HX1
                  have f2 : (op == 2) = false := by simpa using t2
                  by_cases t3 : op = 3
                  · have f3 : (op == 3) = true := by simp [t3]
                    have f4 : (op == 4) = false := by simp [t3]
                    have HA : Hid (actK l0 (op, K, V) = (l0, ([], l0[j].2))) := Lib.hid (by unfold actK; rw [if_neg t0, if_neg t1, if_neg t2, if_pos t3, HF.out]; rfl)
                    obtain ⟨xn3, xA3, xc3, xn4, xA4, xc4, hxb2, _, _⟩ := HX0.out.xc
                    have z0 := frozen_cells hxb2 1
                    have z1 : W0.cell? ⟨wx.heap.size, 1, none⟩ = some (.slice xA4 xn4 xc4) := cell_cells hxb2 1
                    have HX1 := Lib.hid (HX0.out.setv HP2.out)
                    clear t0 t1 t2 t3 hxb2
                    go_wp2
                    go_meet
                    case rel => rw [HA.out]; exact HX1
                  have f3 : (op == 3) = false := by simpa using t3
                  by_cases t4 : op = 4
                  · have f4 : (op == 4) = true := by simp [t4]
                    have HA : Hid (actK l0 (op, K, V) = (l0, ([49], []))) := Lib.hid (by unfold actK; rw [if_neg t0, if_neg t1, if_neg t2, if_neg t3, if_pos t4, HF.out]; rfl)
                    have hxb := (HX0.out.grow ((Le.refl W0).alloc (Obj.cells #[.int .u8 49] 5 (1, 2)))).xc
                    obtain ⟨xn1, xA1, xc1, xn2, xA2, xc2, hxb, _, _⟩ := hxb
                    have z0 := frozen_cells hxb 0
                    have z1 : (W0.alloc (Obj.cells #[.int .u8 49] 5 (1, 2))).cell? ⟨wx.heap.size, 0, none⟩ = some (.slice xA1 xn1 xc1) := cell_cells hxb 0
                    have HXK := Lib.hid (HX0.out.setk)
                    clear t0 t1 t2 t3 t4 hxb
                    go_upto_region 35 with fail
                    clear z0 z1
                    generalize (W0.alloc (Obj.cells #[.int .u8 49] 5 (1, 2))).setCell ⟨wx.heap.size, 0, none⟩ (.slice (some ⟨W0.heap.size, 0, none⟩) 1 1) = W1 at HXK ⊢
                    go_wp2
                    go_meet
                    case rel => rw [HA.out]; exact HXK
                  have f4 : (op == 4) = false := by simpa using t4
                  have HA : Hid (actK l0 (op, K, V) = (l0, ([], []))) := Lib.hid (by unfold actK; rw [if_neg t0, if_neg t1, if_neg t2, if_neg t3, if_neg t4])
                  clear t0 t1 t2 t3 t4
                  go_wp2
                  go_meet
                  case rel => rw [HA.out]; exact HX0
                · obtain rfl : kz = -1 := HKZ.out.symm.trans hno
                  have HF : Hid (fnd l0 K = none) := Lib.hid (by
                    have h := kInt_fnd l0 K
                    rw [hno] at h
                    cases hf : fnd l0 K with
                    | none => rfl
                    | some v => rw [hf] at h; simp at h)
                  have HNO := Lib.hid hno
                  clear hno
                  obtain ⟨xs, how, hpa⟩ := HX0.out.sd.out
                  have HOW := Lib.hid how
                  have HPA := Lib.hid hpa
                  clear how hpa
                  by_cases t0 : op = 0
                  · have f0 : (op == 0) = true := by simp [t0]
                    have HA : Hid (actK l0 (op, K, V) = (l0 ++ [(K, V)], ([], []))) := Lib.hid (by unfold actK; rw [if_pos t0, addKV_new HNO.out])
                    have hle1 : Le W0 (W0.drew.alloc (Obj.cells #[.slice Ax K.length cx, .slice Ay V.length cy] 104)) := ((Le.refl W0).drew).alloc _
                    have HXD := HX0.out.grow hle1
                    obtain ⟨v2, w2, hrun, o1, o2, o3⟩ := (HOW.out.le hle1).app HXD.sd.le.size ⟨W0.heap.size, 0, none⟩ 1 1 [.slice Ax K.length cx, .slice Ay V.length cy] rfl (World.news_of_block (heap_alloc_new W0.drew _)) (by intro u hu; simp only [List.mem_cons, List.mem_nil_iff, or_false] at hu; rcases hu with rfl | rfl <;> rfl) (by omega) (by omega) 47
                    have HX1 : Hid (SDX w wx.heap.size v2 (l0 ++ [(K, V)]) u13 ts [] [] w2) := Lib.hid (HXD.app (by rw [List.length_append]; exact o1) (HPA.out.snoc X.out Y.out) o2 o3)
                    have HRUN := Lib.hid hrun
                    clear t0 HF HNO hrun o1 o2 o3 HXD hle1
                    go_upto_region 30 with fail
                    go_region_law (refine step_append_run rfl (.tmp 121) (.tmp 133) _ rfl (.slice A12 l0.length c12) (.slice (some ⟨W0.heap.size, 0, none⟩) 1 1) (by simp [Act.eval, Act.put]) (by simp [Act.eval, Act.put]) v2 w2 HRUN.out ?_)
                    all_goals
                      go_wp2
                      go_meet
                      case rel => rw [HA.out]; exact HX1
                  have f0 : (op == 0) = false := by simpa using t0
                  by_cases t1 : op = 1
                  · have f1 : (op == 1) = true := by simp [t1]
                    have f2 : (op == 2) = false := by simp [t1]
                    have f3 : (op == 3) = false := by simp [t1]
                    have f4 : (op == 4) = false := by simp [t1]
                    have HA : Hid (actK l0 (op, K, V) = (l0, ([], []))) := Lib.hid (by unfold actK; rw [if_neg t0, if_pos t1, rm_none HNO.out])
                    clear t0 t1
                    go_wp2
                    go_meet
                    case rel => rw [HA.out]; exact HX0
                  have f1 : (op == 1) = false := by simpa using t1
                  by_cases t3 : op = 3
                  · have f3 : (op == 3) = true := by simp [t3]
                    have f2 : (op == 2) = false := by simp [t3]
                    have f4 : (op == 4) = false := by simp [t3]
                    have HA : Hid (actK l0 (op, K, V) = (l0, ([], V))) := Lib.hid (by unfold actK; rw [if_neg t0, if_neg t1, if_neg (by omega), if_pos t3, HF.out]; rfl)
                    obtain ⟨xn3, xA3, xc3, xn4, xA4, xc4, hxb2, _, _⟩ := HX0.out.xc
                    have z0 := frozen_cells hxb2 1
                    have z1 : W0.cell? ⟨wx.heap.size, 1, none⟩ = some (.slice xA4 xn4 xc4) := cell_cells hxb2 1
                    have HX1 := Lib.hid (HX0.out.setv Y.out)
                    clear t0 t1 t3 hxb2
                    go_wp2
                    go_meet
                    case rel => rw [HA.out]; exact HX1
                  have f3 : (op == 3) = false := by simpa using t3
                  have HA : Hid (actK l0 (op, K, V) = (l0, ([], []))) := Lib.hid (by unfold actK; rw [if_neg t0, if_neg t1, if_neg t3, HF.out]; split <;> (try split) <;> rfl)
                  clear t0 t1 t3
                  obtain ⟨b2, f2⟩ : ∃ b, (op == 2) = b := ⟨_, rfl⟩
                  obtain ⟨b4, f4⟩ : ∃ b, (op == 4) = b := ⟨_, rfl⟩
                  cases b2 <;> cases b4
                  all_goals
                    go_wp2
                    go_meet
                    case rel => rw [HA.out]; exact HX0
              have HXC := Lib.hid hcut.out
              clear hcut HX0 HA0 HA1 HA2 a1 a2
              rename World => w5
              obtain ⟨xn1, xA1, xc1, xn2, xA2, xc2, hxb, hxk, hxv⟩ := HXC.out.xc
              obtain ⟨ws, hws, hwc⟩ := HXC.out.sd.told
              have HWS := Lib.hid hws
              have HWC := Lib.hid hwc
              have HBK := Lib.hid hxk
              have HBV := Lib.hid hxv
              have x0 : w5.cell? ⟨wx.heap.size, 0, none⟩ = some (.slice xA1 xn1 xc1) := cell_cells hxb 0
              have x1 : w5.cell? ⟨wx.heap.size, 1, none⟩ = some (.slice xA2 xn2 xc2) := cell_cells hxb 1
              have hsz5 := HXC.out.sd.le.size
              have htn : ts.length ≤ 20000 := by have := HTN.out; omega
              have hrow := own_row' hws
              have HNE : Hid (∀ g, u12.ownBlock = some g → u13.ownBlock ≠ some g) := Lib.hid HXC.out.sd.ne
              obtain ⟨A13, n13, c13, rfl⟩ : ∃ A n c, u13 = .slice A n c := by
                rcases hws.2 with ⟨e, _⟩ | ⟨g, cap, cur, e, _⟩
                · exact ⟨none, 0, 0, e⟩
                · exact ⟨_, _, _, e⟩
              clear hxb hxk hxv hws hwc
              go_wp2_with (at_builtin; refine wpList_append_lies _ rfl _ _ 47 rfl w.heap.size 104 i0 (.agg #[.slice none 0 0, .slice none 0 0]) 2 48 Tryz.underlying47 hi0 hz0 hz1 hz2 rfl (by decide) _ _ _ rfl (HWS.out.alloc _) ⟨w5.heap.size, 0, none⟩ 1 1 [.slice xA1 xn1 xc1, .slice xA2 xn2 xc2] rfl rfl ?c1 ?c2 ?c3 ?c4 ?c5 ?c6 (w5.heap.size + 1) ?c7 ?_)
              case c1 => exact World.news_of_block (heap_alloc_new w5 _)
              case c2 => intro u hu; simp only [List.mem_cons, List.mem_nil_iff, or_false] at hu; rcases hu with rfl | rfl <;> rfl
              case c3 => omega
              case c4 => unfold maxLen; omega
              case c5 => omega
              case c6 => simp; omega
              case c7 => simp
              intro g2 cap2 w6 hown2 hgrow2 hat2 hlt2'
              have hkeep : ∀ (g : Nat) (cur : Array Value) (fz : Nat × Nat), w5.heap[g]? = some (.cells cur 5 fz) → w6.heap[g]? = w5.heap[g]? := by
                intro g cur fz hg
                have hlt := lt_of_heap hg
                refine (hgrow2.block g (by simp; omega) ?_).trans (Below.heap_alloc _ _ _ hlt)
                intro e
                obtain ⟨_, c', fz', h⟩ := hrow g e.symm
                rw [hg] at h
                injection h with h
                injection h with _ h
                exact absurd h (by decide)
              have HSD6 : Hid (SD w u12 (actK l0 (op, K, V)).1 (.slice (some ⟨g2, 0, none⟩) (ts.length + 1) cap2) (ts ++ [(actK l0 (op, K, V)).2]) w6) := Lib.hid (by
                obtain ⟨xs, ho, hp⟩ := HXC.out.sd.out
                refine ⟨Below.grown' (HXC.out.sd.le.alloc _) hgrow2 (Nat.le_refl _) (fun g hg => (hrow g hg).1), ⟨xs, (ho.le ((Le.refl w5).alloc _)).kept hgrow2 ?_, hp⟩, ⟨_, by rw [List.length_append]; exact hown2, (HWC.out.snoc HBK.out HBV.out (z := (actK l0 (op, K, V)).2)).keep hkeep⟩, ?_⟩
                · cases hq : u12.ownBlock with
                  | none => exact .inl rfl
                  | some g => exact .inr (fun e => HNE.out g hq e.symm)
                · intro g hg e
                  injection e with e
                  subst e
                  rcases hat2 with h | h
                  · exact HNE.out g2 hg h
                  · obtain ⟨_, c, fz, hc⟩ := ho.row g2 hg
                    have := lt_of_heap hc
                    omega)
              have HD2 := Lib.hid (dk_act HDK.out (op, K, V))
              have HL2 : Hid ((actK l0 (op, K, V)).1.length ≤ 10000 + (k + 1)) := Lib.hid (by have h1 := actK_len l0 (op, K, V); have := HLL.out; omega)
              clear hown2 hgrow2 hat2 hlt2' hrow hkeep x0 x1
              go_wp2
              go_roundg (gk - 1)
              case measure => omega
              case rel => exact ⟨k + 1, by omega, by go_num, by rw [HT.out]; exact HSD6.out, by rw [HT.out]; exact HD2, by rw [HT.out]; exact HL2⟩
            · have e : ds.take k = ds := List.take_of_length_le (by omega)
              have HWF := Lib.hid HW.out
              rw [e] at HWF HLL
              have HTN := Lib.hid (actK_tot l ds)
              have HKA : Hid (Kq (fun _ => True) wx u12 (actsK l ds).1) := Lib.hid (by
                obtain ⟨xs, h1, h2⟩ := HWF.out.out
                exact Kq.of_owr h1 h2 HWF.out.le (by have := HLL.out; omega))
              have HKB : Hid (Kq (fun _ => True) wx u13 (actsK l ds).2) := Lib.hid (by
                obtain ⟨ws, h1, h2⟩ := HWF.out.told
                exact Kq.of_row h1 (h2.pall HWF.out.le) (Le.refl _) (by have := HTN.out; omega))
              clear e HW
              go_wp2
              go_returns
              exact ⟨HWF.out.le, .inl ⟨_, _, rfl, HDL.out, HKA.out, HKB.out⟩⟩
end Go.Proofs.YtgelnjcjpkklbaaGreatDoor
