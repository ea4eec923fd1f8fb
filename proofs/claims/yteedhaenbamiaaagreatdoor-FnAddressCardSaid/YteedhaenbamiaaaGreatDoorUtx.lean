/- Contract: the laws' uriText (printed by gen_utx.py). -/
import Derived.Test.YteedhaenbamiaaaGreatDoorGd
import Derived.Test.YteedhaenbamiaaaGreatDoorApg
import Derived.Test.YteedhaenbamiaaaGreatDoorFnPE
set_option linter.unusedVariables false
set_option linter.unusedSimpArgs false
namespace Go.Proofs.YteedhaenbamiaaaGreatDoor
open Go.RowKit

def ux5S (b : Nat) (g : Option Nat) (base : Nat) (old lv : Value) (T X : Tx) : Nat → Value → World → Prop
  | 1, v, _ => v = .pointer (some ⟨b, 0, none⟩)
  | 3, v, _ => v = old
  | 21, v, _ => v = old
  | 22, v, w => BvN g w v [58]
  | 23, v, w => OwnB base w v (T ++ [58])
  | 24, v, _ => v = .pointer (some ⟨b, 5, none⟩)
  | 25, v, _ => v = lv
  | _, _, _ => True
theorem ux5S_le (b : Nat) (g : Option Nat) (base : Nat) (old lv : Value) (T X : Tx) (t : Nat) (v : Value) (w w' : World) (k : Le w w') (h : ux5S b g base old lv T X t v w) : ux5S b g base old lv T X t v w' := by
  unfold ux5S at h ⊢
  split at h <;> first | exact h | exact BvN.le h k | exact OwnB.le h k
theorem ux5S_gr (b : Nat) (g : Option Nat) (base : Nat) (old lv : Value) (T X : Tx) (t : Nat) (v : Value) (w w' : World) (k : w.grownBy w' g) (ht : some 23 ≠ some t) (h : ux5S b g base old lv T X t v w) : ux5S b g base old lv T X t v w' := by
  unfold ux5S at h ⊢
  split at h <;> first | exact h | exact BvN.grown h k | exact absurd rfl ht
def ux9S (b : Nat) (g : Option Nat) (base : Nat) (old lv : Value) (T X : Tx) : Nat → Value → World → Prop
  | 1, v, _ => v = .pointer (some ⟨b, 0, none⟩)
  | 3, v, _ => v = old
  | 41, v, _ => v = old
  | 42, v, w => BvN g w v [59]
  | 43, v, w => OwnB base w v (T ++ [59])
  | 44, v, _ => v = .pointer (some ⟨b, 8, none⟩)
  | 45, v, _ => v = lv
  | 46, v, w => BvN g w v X
  | _, _, _ => True
theorem ux9S_le (b : Nat) (g : Option Nat) (base : Nat) (old lv : Value) (T X : Tx) (t : Nat) (v : Value) (w w' : World) (k : Le w w') (h : ux9S b g base old lv T X t v w) : ux9S b g base old lv T X t v w' := by
  unfold ux9S at h ⊢
  split at h <;> first | exact h | exact BvN.le h k | exact OwnB.le h k
theorem ux9S_gr (b : Nat) (g : Option Nat) (base : Nat) (old lv : Value) (T X : Tx) (t : Nat) (v : Value) (w w' : World) (k : w.grownBy w' g) (ht : some 43 ≠ some t) (h : ux9S b g base old lv T X t v w) : ux9S b g base old lv T X t v w' := by
  unfold ux9S at h ⊢
  split at h <;> first | exact h | exact BvN.grown h k | exact absurd rfl ht
def ux11S (b : Nat) (g : Option Nat) (base : Nat) (old lv : Value) (T X : Tx) : Nat → Value → World → Prop
  | 1, v, _ => v = .pointer (some ⟨b, 0, none⟩)
  | 3, v, _ => v = old
  | 52, v, _ => v = old
  | 53, v, w => BvN g w v [63]
  | 54, v, w => OwnB base w v (T ++ [63])
  | 55, v, _ => v = .pointer (some ⟨b, 9, none⟩)
  | 56, v, _ => v = lv
  | 57, v, w => BvN g w v X
  | _, _, _ => True
theorem ux11S_le (b : Nat) (g : Option Nat) (base : Nat) (old lv : Value) (T X : Tx) (t : Nat) (v : Value) (w w' : World) (k : Le w w') (h : ux11S b g base old lv T X t v w) : ux11S b g base old lv T X t v w' := by
  unfold ux11S at h ⊢
  split at h <;> first | exact h | exact BvN.le h k | exact OwnB.le h k
theorem ux11S_gr (b : Nat) (g : Option Nat) (base : Nat) (old lv : Value) (T X : Tx) (t : Nat) (v : Value) (w w' : World) (k : w.grownBy w' g) (ht : some 54 ≠ some t) (h : ux11S b g base old lv T X t v w) : ux11S b g base old lv T X t v w' := by
  unfold ux11S at h ⊢
  split at h <;> first | exact h | exact BvN.grown h k | exact absurd rfl ht
/-- the text so far -/
structure UtI (w W0 : World) (T : Tx) (v : Value) (wr : World) : Prop where
  le : Le W0 wr
  own : OwnB W0.heap.size wr v T
set_option maxRecDepth 8000 in
set_option maxHeartbeats 8000000 in
theorem lUriText_c (w : World) (x : UV) (u : PU) (hx : Uq (fun _ => True) w x u) (hz : SzU u) :
    Calls Tryz.prog 22 #[x.val] w fun e w' => ∃ v, e = .returned v ∧ OwnB w.heap.size w' v (lwText u) ∧ Le w w' := by
  have HX := Lib.hid hx
  have HZ := Lib.hid hz
  obtain ⟨Ascheme, cscheme, escheme⟩ := hx.scheme.1.form
  obtain ⟨Araw, craw, eraw⟩ := hx.raw.1.form
  obtain ⟨Auser, cuser, euser⟩ := hx.user.1.form
  obtain ⟨Apass, cpass, epass⟩ := hx.pass.1.form
  obtain ⟨Ahost, chost, ehost⟩ := hx.host.1.form
  obtain ⟨Aps, cps, eps⟩ : ∃ A c, x.ps = .slice A u.ps.length c := by obtain ⟨A, c, e, _⟩ := hx.ps; exact ⟨A, c, e⟩
  obtain ⟨Ahs, chs, ehs⟩ : ∃ A c, x.hs = .slice A u.hs.length c := by obtain ⟨A, c, e, _⟩ := hx.hs; exact ⟨A, c, e⟩
  have hval : x.val = .agg #[.slice Ascheme u.scheme.length cscheme, .slice Araw u.raw.length craw, .bool x.wild, .bool x.slash, .slice Auser u.user.length cuser, .slice Apass u.pass.length cpass, .slice Ahost u.host.length chost, .int .i64 x.port, .slice Aps u.ps.length cps, .slice Ahs u.hs.length chs] := by
    unfold UV.val; rw [escheme, eraw, euser, epass, ehost, eps, ehs]
  have HF : Hid (Bv w (.slice Ascheme u.scheme.length cscheme) u.scheme ∧ Bv w (.slice Auser u.user.length cuser) u.user ∧ Bv w (.slice Apass u.pass.length cpass) u.pass ∧ Bv w (.slice Ahost u.host.length chost) u.host ∧ Kq (fun _ => True) w (.slice Aps u.ps.length cps) u.ps ∧ Kq (fun _ => True) w (.slice Ahs u.hs.length chs) u.hs) := Lib.hid (by
    rw [← escheme, ← euser, ← epass, ← ehost, ← eps, ← ehs]
    exact ⟨hx.scheme.1, hx.user.1, hx.pass.1, hx.host.1, hx.ps, hx.hs⟩)
  have HPT : Hid (x.port = u.port) := Lib.hid hx.port
  rw [hval]
  clear hval hx escheme eraw euser epass ehost eps ehs hz HX
  go_enter Tryz.func22, Tryz.ntmps22
  go_upto_region 1 with fail
  have HB0 := Lib.hid (heap_alloc_new w (Obj.cells #[.slice Ascheme u.scheme.length cscheme, .slice Araw u.raw.length craw, .bool x.wild, .bool x.slash, .slice Auser u.user.length cuser, .slice Apass u.pass.length cpass, .slice Ahost u.host.length chost, .int .i64 x.port, .slice Aps u.ps.length cps, .slice Ahs u.hs.length chs] 32))
  have HL0 : Hid (Le w (w.alloc (Obj.cells #[.slice Ascheme u.scheme.length cscheme, .slice Araw u.raw.length craw, .bool x.wild, .bool x.slash, .slice Auser u.user.length cuser, .slice Apass u.pass.length cpass, .slice Ahost u.host.length chost, .int .i64 x.port, .slice Aps u.ps.length cps, .slice Ahs u.hs.length chs] 32))) := Lib.hid ((Le.refl w).alloc _)
  generalize w.alloc (Obj.cells #[.slice Ascheme u.scheme.length cscheme, .slice Araw u.raw.length craw, .bool x.wild, .bool x.slash, .slice Auser u.user.length cuser, .slice Apass u.pass.length cpass, .slice Ahost u.host.length chost, .int .i64 x.port, .slice Aps u.ps.length cps, .slice Ahs u.hs.length chs] 32) = W0 at HB0 HL0 ⊢
  generalize Value.agg #[.slice Ascheme u.scheme.length cscheme, .slice Araw u.raw.length craw, .bool x.wild, .bool x.slash, .slice Auser u.user.length cuser, .slice Apass u.pass.length cpass, .slice Ahost u.host.length chost, .int .i64 x.port, .slice Aps u.ps.length cps, .slice Ahs u.hs.length chs] = ag
  have HBX : Hid (∀ wr, Le W0 wr → wr.cell? ⟨w.heap.size, 0, none⟩ = some (.slice Ascheme u.scheme.length cscheme) ∧ wr.cell? ⟨w.heap.size, 4, none⟩ = some (.slice Auser u.user.length cuser) ∧ wr.cell? ⟨w.heap.size, 5, none⟩ = some (.slice Apass u.pass.length cpass) ∧ wr.cell? ⟨w.heap.size, 6, none⟩ = some (.slice Ahost u.host.length chost) ∧ wr.cell? ⟨w.heap.size, 7, none⟩ = some (.int .i64 u.port) ∧ wr.cell? ⟨w.heap.size, 8, none⟩ = some (.slice Aps u.ps.length cps) ∧ wr.cell? ⟨w.heap.size, 9, none⟩ = some (.slice Ahs u.hs.length chs)) := Lib.hid (fun wr h => by
    have hb := h.heap HB0.out
    rw [HPT.out] at hb
    exact ⟨cell_cells hb 0, cell_cells hb 4, cell_cells hb 5, cell_cells hb 6, cell_cells hb 7, cell_cells hb 8, cell_cells hb 9⟩)
  have y0 := (HBX.out W0 (Le.refl W0)).1
  have hb58 : Bv (W0.alloc (Obj.cells #[.int .u8 58] 5)) (.slice (some ⟨W0.heap.size, 0, none⟩) 1 1) [58] := bv_lit W0 [58] (by decide) (0, 0)
  have hsl := sl_two _ _ _ _ _ (HF.out.1.le (HL0.out.alloc _)) hb58
  obtain ⟨W2, hW2, hle4⟩ : ∃ W2, W2 = (W0.alloc (Obj.cells #[.int .u8 58] 5)).alloc (Obj.cells #[.slice Ascheme u.scheme.length cscheme, .slice (some ⟨W0.heap.size, 0, none⟩) 1 1] 22) ∧ Le W0 W2 := ⟨_, rfl, ((Le.refl W0).alloc _).alloc _⟩
  have HS1 : Hid (Sl W2 W2 (.slice (some ⟨W0.heap.size + 1, 0, none⟩) 2 2) [u.scheme, [58]]) := Lib.hid (by rw [hW2]; have := hsl; rw [show (W0.alloc (Obj.cells #[.int .u8 58] 5)).heap.size = W0.heap.size + 1 from by simp] at this; exact this)
  have HL2 := Lib.hid hle4
  clear hsl hle4
  subst hW2
  clear hb58
  go_wp2_with fail
  refine (joined_c _ _ _ HS1.out (by have := HZ.out.scheme; simp only [List.flatten_cons, List.flatten_nil, List.length_append, List.length_cons, List.length_nil]; omega)).mono ?_
  rintro e w1 ⟨v1, rfl, hown1, hle1⟩
  have HU1 : Hid (UtI w W0 (u.scheme ++ [58]) v1 w1) := Lib.hid ⟨HL2.out.trans hle1, by
    have h := World.ownsRow.mono hown1 (base' := W0.heap.size) HL2.out.size
    simpa [OwnB] using h⟩
  obtain ⟨n1, A1, c1, rfl⟩ : ∃ n A c, v1 = .slice A n c := by
    rcases hown1.2 with ⟨e, _⟩ | ⟨g, cap, cur, e, _⟩
    · exact ⟨0, none, 0, e⟩
    · exact ⟨_, _, _, e⟩
  clear hown1 hle1 y0 HS1
  obtain ⟨y0, y4, y5, y6, y7, y8, y9⟩ := HBX.out w1 HU1.out.le
  go_upto_if 12 with fail
  obtain ⟨bu, hbu⟩ : ∃ b, decide (0 < u.user.length) = b := ⟨_, rfl⟩
  have HBU : Hid (isB bu (¬ u.user = [])) := Lib.hid (by
    rw [← hbu]; unfold isB
    rw [decide_eq_true_eq, List.length_pos_iff])
  rw [hbu]
  clear hbu
  go_cut [3] from 13 to 29 (fun s3 wc => UtI w W0 (u.scheme ++ 58 :: lwUser u) s3 wc)
  case first =>
    cases bu
    case false =>
      have HE : Hid (u.scheme ++ 58 :: lwUser u = u.scheme ++ [58]) := Lib.hid (by
        have h := HBU.out
        unfold isB at h
        unfold lwUser
        rw [if_pos (Classical.not_not.1 (fun hh => by have := h.2 hh; cases this))])
      clear HBU
      go_wp2
      go_meet
      case rel => rw [HE.out]; exact HU1.out
    case true =>
      have HBF := Lib.hid (HF.out.2.1.le (HL0.out.trans HU1.out.le))
      have HO1 := Lib.hid HU1.out.own
      have HSZ := Lib.hid HU1.out.le.size
      have HLN : Hid ((u.scheme ++ [58]).length + u.user.length ≤ 1000000) := Lib.hid (by have := HZ.out.scheme; have := HZ.out.user; simp only [List.length_append, List.length_cons, List.length_nil]; omega)
      go_wp2_with (at_builtin; refine wpList_append_bv rfl (.tmp 13) (.tmp 15) rfl (base := W0.heap.size) rfl rfl HO1.out HBF.out (by have := HLN.out; omega) HSZ.out ?_)
      intro v2 w2 hown2 hgrow2
      have HU2 : Hid (UtI w W0 (u.scheme ++ 58 :: u.user) v2 w2) := Lib.hid ⟨Below.grown' HU1.out.le hgrow2 (Nat.le_refl _) (fun g hg => (own_row' HO1.out g hg).1), hown2⟩
      obtain ⟨n2, A2, c2, rfl⟩ : ∃ n A c, v2 = .slice A n c := by
        rcases hown2.2 with ⟨e, _⟩ | ⟨g, cap, cur, e, _⟩
        · exact ⟨0, none, 0, e⟩
        · exact ⟨_, _, _, e⟩
      clear hown2 hgrow2 y0 y4 y5 y6 y7 y8 y9
      obtain ⟨y0, y4, y5, y6, y7, y8, y9⟩ := HBX.out w2 HU2.out.le
      go_upto_if 20 with fail
      obtain ⟨bp, hbp⟩ : ∃ b, decide (0 < u.pass.length) = b := ⟨_, rfl⟩
      have HBP : Hid (isB bp (¬ u.pass = [])) := Lib.hid (by
        rw [← hbp]; unfold isB
        rw [decide_eq_true_eq, List.length_pos_iff])
      rw [hbp]
      clear hbp
      go_cut [3] from 21 to 26 (fun s3 wc => UtI w W0 (u.scheme ++ 58 :: (u.user ++ lwPass u)) s3 wc)
      case first =>
        cases bp
        case false =>
          have HE : Hid (u.scheme ++ 58 :: (u.user ++ lwPass u) = u.scheme ++ 58 :: u.user) := Lib.hid (by
            have h := HBP.out
            unfold isB at h
            unfold lwPass
            rw [if_pos (Classical.not_not.1 (fun hh => by have := h.2 hh; cases this)), List.append_nil])
          clear HBP
          go_wp2
          go_meet
          case rel => rw [HE.out]; exact HU2.out
        case true =>
          generalize hT5 : u.scheme ++ 58 :: u.user = T5 at HU2
          have HT5 := Lib.hid hT5
          have HLT5 : Hid (T5.length ≤ 1000000 ∧ u.pass.length ≤ 65536) := Lib.hid (by have := HZ.out.scheme; have := HZ.out.user; have := HZ.out.pass; rw [← hT5]; simp only [List.length_append, List.length_cons]; omega)
          have HO5 := Lib.hid HU2.out.own
          have HL5 := Lib.hid HU2.out.le
          have HP5 : Hid (u.pass ≠ []) := Lib.hid (by have h := HBP.out; unfold isB at h; exact h.1 rfl)
          clear hT5 HBP
          go_upto_region 5 with fail
          have hm5 : (Tryz.prog).follows .mixedOrders = true := by kernel_rfl
          refine G3.wp_region_grow_tail (ux5S w.heap.size (Value.ownBlock (.slice A2 n2 c2)) W0.heap.size (.slice A2 n2 c2) (.slice Apass u.pass.length cpass) (T5) (u.pass)) (apG W0 (.slice A2 n2 c2) (T5)) 60 5 [21, 22, 23, 24, 25] hm5 (by kernel_rfl) rfl rfl ⟨HL5.out.drew, HO5.out.le (Le.refl _).drew⟩ ?hold5 ?hs5 ?hend5
          case hold5 =>
            intro t ht
            simp only [List.mem_cons, List.mem_nil_iff, or_false, not_or] at ht
            unfold ux5S
            split <;> first | rfl | trivial | (exfalso; simp at ht)
          case hs5 =>
            simp only [List.take_succ_cons, List.take_zero]
            refine ⟨?_, ?_, ?_, ?_, ?_, trivial⟩
            · refine GrowStep.det ?_
              intro a W hg hop
              have h1 : a.eval (.tmp 3) = (.slice A2 n2 c2) := (hop 3 (by simp [Op.operands, Call.operands]))
              refine ⟨(.slice A2 n2 c2), ?_, rfl⟩
              simp only [execOp, h1]
              go_simp
            · refine GrowStep.le ?_ ?_ ?_ ?_
              · exact fun t v w1 w2 k h => ux5S_le _ _ _ _ _ _ _ t v w1 w2 k h
              · exact fun _ _ _ _ h => h
              · exact fun w1 w2 k h => apG_le h k
              intro a W hg hop
              refine ⟨.slice (some ⟨W.heap.size, 0, none⟩) 1 1, W.alloc (Obj.cells #[.int .u8 58] 5), ?_, (Le.refl W).alloc _, ?_⟩
              · simp only [execOp]
                go_simp
              · exact BvN.new (w0 := W) (bv_lit W [58] (by decide) (0, 0)) (fun k hk => by simp only [Value.ownBlock, Option.some.injEq] at hk; omega) hg.own.lt
            · refine GrowStep.append (.tmp 21) (.tmp 22) 22 rfl ?_
              intro a W hg hop
              have h1 : a.eval (.tmp 21) = (.slice A2 n2 c2) := (hop 21 (by simp [Op.operands, Call.operands]))
              have h2 : BvN (Value.ownBlock (.slice A2 n2 c2)) W (a.eval (.tmp 22)) [58] := (hop 22 (by simp [Op.operands, Call.operands]))
              obtain ⟨v', w', q, k1, k2, k3⟩ := run_append_keep hg.own h2.1 (by have := HLT5.out; simp only [List.length_cons, List.length_nil] at this ⊢; omega) hg.le.size 22
              refine ⟨v', w', by rw [h1]; exact q, ⟨Below.grown' hg.le k2 (Nat.le_refl _) (fun g hh => (own_row' hg.own g hh).1), k3⟩, fun t u ht h => ux5S_gr _ _ _ _ _ _ _ t u _ _ k2 ht h, fun _ _ h => h, k1⟩
            · refine GrowStep.det ?_
              intro a W hg hop
              have h1 : a.eval (.tmp 1) = .pointer (some ⟨w.heap.size, 0, none⟩) := (hop 1 (by simp [Op.operands, Call.operands]))
              refine ⟨.pointer (some ⟨w.heap.size, 5, none⟩), ?_, rfl⟩
              simp only [execOp, h1]
              go_simp
            · refine GrowStep.det ?_
              intro a W hg hop
              have h1 : a.eval (.tmp 24) = .pointer (some ⟨w.heap.size, 5, none⟩) := (hop 24 (by simp [Op.operands, Call.operands]))
              have h2 : W.cell? ⟨w.heap.size, 5, none⟩ = some (.slice Apass u.pass.length cpass) := (HBX.out W hg.le).2.2.1
              refine ⟨.slice Apass u.pass.length cpass, ?_, rfl⟩
              simp only [execOp, h1]
              go_simp
          case hend5 =>
            intro v wz hg hS
            have s2 : OwnB W0.heap.size wz (v 23) (T5 ++ [58]) := hS 23 (by decide)
            have s4 : v 25 = (.slice Apass u.pass.length cpass) := hS 25 (by decide)
            have s5 : Bv wz (.slice Apass u.pass.length cpass) (u.pass) := HF.out.2.2.1.le (HL0.out.trans hg.le)
            obtain ⟨ns2, As2, cs2, es2⟩ := s2.shape
            rw [es2] at s2
            have HS2 := Lib.hid s2
            have HS5 := Lib.hid s5
            have HLZ := Lib.hid hg.le
            have HLEN : Hid ((T5 ++ [58]).length + (u.pass).length ≤ 140737488355328) := Lib.hid (by have := HLT5.out; simp only [List.length_append, List.length_cons, List.length_nil]; omega)
            clear hS hg s2 s5
            simp only [putsL, Act.put, List.setIfInBounds_toArray, List.set_cons_zero, List.set_cons_succ, List.drop_succ_cons, List.drop_zero]
            rw [es2]
            rw [s4]
            clear es2 s4
            go_wp2_with (at_builtin; refine wpList_append_bv rfl (.tmp 23) (.tmp 25) rfl (base := W0.heap.size) rfl rfl HS2.out HS5.out HLEN.out HLZ.out.size ?_)
            intro vz wz2 hownz hgrowz
            have HOZ := Lib.hid hownz
            have HLZ2 : Hid (Le W0 wz2) := Lib.hid (Below.grown' HLZ.out hgrowz (Nat.le_refl _) (fun g hg => (own_row' HS2.out g hg).1))
            clear hownz hgrowz
            go_wp2
            go_meet
            case rel => exact ⟨HLZ2.out, by
              have e : u.scheme ++ 58 :: (u.user ++ lwPass u) = T5 ++ 58 :: u.pass := by
                unfold lwPass
                rw [if_neg HP5.out, ← HT5.out]
                simp
              rw [e]; exact HOZ.out⟩
      have HU3 := Lib.hid hcut
      obtain ⟨n3, A3, c3, rfl⟩ : ∃ n A c, u3 = .slice A n c := by
        rcases hcut.own.2 with ⟨e, _⟩ | ⟨g, cap, cur, e, _⟩
        · exact ⟨0, none, 0, e⟩
        · exact ⟨_, _, _, e⟩
      clear hcut
      have hb64 : Bv (wc.alloc (Obj.cells #[.int .u8 64] 5)) (.slice (some ⟨wc.heap.size, 0, none⟩) 1 1) [64] := bv_lit wc [64] (by decide) (0, 0)
      have HB64 := Lib.hid hb64
      have HO3 := Lib.hid (HU3.out.own.le ((Le.refl wc).alloc (Obj.cells #[.int .u8 64] 5)))
      have HL3 := Lib.hid (HU3.out.le.alloc (Obj.cells #[.int .u8 64] 5))
      have HLN3 : Hid ((u.scheme ++ 58 :: (u.user ++ lwPass u)).length ≤ 1000000) := Lib.hid (by
        have h1 := HZ.out.scheme
        have h2 := HZ.out.user
        have h3 := HZ.out.pass
        unfold lwPass
        split <;> simp only [List.length_append, List.length_cons, List.length_nil] <;> omega)
      clear hb64
      go_wp2_with (at_builtin; refine wpList_append_bv rfl (.tmp 27) (.tmp 28) rfl (base := W0.heap.size) rfl rfl HO3.out HB64.out (by have := HLN3.out; simp only [List.length_cons, List.length_nil]; omega) HL3.out.size ?_)
      intro v4 w4 hown4 hgrow4
      have HU4 : Hid (UtI w W0 (u.scheme ++ 58 :: lwUser u) v4 w4) := Lib.hid ⟨Below.grown' HL3.out hgrow4 (Nat.le_refl _) (fun g hg => (own_row' HO3.out g hg).1), by
        have e : u.scheme ++ 58 :: lwUser u = u.scheme ++ 58 :: (u.user ++ (lwPass u ++ [64])) := by
          have h := HBU.out
          unfold isB at h
          unfold lwUser
          rw [if_neg (h.1 rfl)]
        rw [e]; exact hown4⟩
      clear hown4 hgrow4
      go_wp2
      go_meet
      case rel => exact HU4.out
  have HU4 := Lib.hid hcut
  obtain ⟨n4, A4, c4, rfl⟩ : ∃ n A c, u3 = .slice A n c := by
    rcases hcut.own.2 with ⟨e, _⟩ | ⟨g, cap, cur, e, _⟩
    · exact ⟨0, none, 0, e⟩
    · exact ⟨_, _, _, e⟩
  clear hcut HU1 HBU y0 y4 y5 y6 y7 y8 y9
  obtain ⟨y0, y4, y5, y6, y7, y8, y9⟩ := HBX.out wc HU4.out.le
  obtain ⟨np, hnp⟩ : ∃ np : Nat, u.port = (np : Int) := ⟨u.port.toNat, by have := HZ.out.lo; omega⟩
  have HNP : Hid (u.port.toNat = np ∧ np ≤ 65535) := Lib.hid ⟨by omega, by have := HZ.out.hi; omega⟩
  rw [hnp] at y7
  clear y0 y4 y5 y8 y9
  have HHB := Lib.hid (HF.out.2.2.2.1.le (HL0.out.trans HU4.out.le))
  go_wp2_with fail
  refine (hostText_c wc _ u.host np HHB.out (by have := HZ.out.host; omega) HNP.out.2).mono ?_
  rintro e w5 ⟨v5, rfl, hb5, hle5⟩
  have HU5 : Hid (UtI w W0 (u.scheme ++ 58 :: lwUser u) (.slice A4 n4 c4) w5) := Lib.hid ⟨HU4.out.le.trans hle5, HU4.out.own.le hle5⟩
  have HB5 := Lib.hid hb5
  obtain ⟨A5, c5, rfl⟩ := hb5.form
  clear hb5 hle5
  have HLN5 : Hid ((u.scheme ++ 58 :: lwUser u).length ≤ 1000000 ∧ (hostT u.host np).length ≤ 1000000) := Lib.hid (by
    have h1 := HZ.out.scheme
    have h2 := HZ.out.user
    have h3 := HZ.out.pass
    have h4 := HZ.out.host
    have h5 := itoa_len np HNP.out.2
    refine ⟨?_, ?_⟩
    · unfold lwUser lwPass
      split
      · simp only [List.length_append, List.length_cons, List.length_nil]; omega
      · split <;> simp only [List.length_append, List.length_cons, List.length_nil] <;> omega
    · unfold hostT
      split
      · omega
      · simp only [List.length_append, List.length_cons]; omega)
  generalize (hostT u.host np).length = nh at HB5 ⊢
  have HO5 := Lib.hid HU5.out.own
  go_wp2_with (at_builtin; refine wpList_append_bv rfl (.tmp 30) (.tmp 35) rfl (base := W0.heap.size) rfl rfl HO5.out HB5.out (by have := HLN5.out; omega) HU5.out.le.size ?_)
  intro v6 w6 hown6 hgrow6
  have HU6 : Hid (UtI w W0 (u.scheme ++ 58 :: (lwUser u ++ hostT u.host np)) v6 w6) := Lib.hid ⟨Below.grown' HU5.out.le hgrow6 (Nat.le_refl _) (fun g hg => (own_row' HO5.out g hg).1), by simpa using hown6⟩
  obtain ⟨n6, A6, c6, rfl⟩ : ∃ n A c, v6 = .slice A n c := by
    rcases hown6.2 with ⟨e, _⟩ | ⟨g, cap, cur, e, _⟩
    · exact ⟨0, none, 0, e⟩
    · exact ⟨_, _, _, e⟩
  clear hown6 hgrow6 y6 y7
  obtain ⟨_, _, _, _, _, y8, y9⟩ := HBX.out w6 HU6.out.le
  go_upto_if 40 with fail
  obtain ⟨bq, hbq⟩ : ∃ b, decide (0 < u.ps.length) = b := ⟨_, rfl⟩
  have HBQ : Hid (isB bq (¬ u.ps = [])) := Lib.hid (by
    rw [← hbq]; unfold isB
    rw [decide_eq_true_eq, List.length_pos_iff])
  rw [hbq]
  clear hbq
  go_cut [3] from 41 to 47 (fun s3 wc => UtI w W0 (u.scheme ++ 58 :: (lwUser u ++ (hostT u.host np ++ lwP u.ps 59 59))) s3 wc)
  case first =>
    cases bq
    case false =>
      have HE : Hid (u.scheme ++ 58 :: (lwUser u ++ (hostT u.host np ++ lwP u.ps 59 59)) = u.scheme ++ 58 :: (lwUser u ++ hostT u.host np)) := Lib.hid (by
        have h := HBQ.out
        unfold isB at h
        unfold lwP
        rw [if_pos (Classical.not_not.1 (fun hh => by have := h.2 hh; cases this)), List.append_nil])
      clear HBQ
      go_wp2
      go_meet
      case rel => rw [HE.out]; exact HU6.out
    case true =>
      generalize hT9 : u.scheme ++ 58 :: (lwUser u ++ hostT u.host np) = T9 at HU6
      have HT9 := Lib.hid hT9
      have HLT9 : Hid (T9.length ≤ 3000000 ∧ (ptP u.ps 59 u.ps.length).length ≤ 1099511627776) := Lib.hid (by
        have h1 := HLN5.out.1
        have h2 := HLN5.out.2
        refine ⟨?_, Nat.le_trans (HZ.out.ps _ (Nat.le_refl _)) (by decide)⟩
        rw [← hT9]
        simp only [List.length_append, List.length_cons] at h1 h2 ⊢
        omega)
      have HO9 := Lib.hid HU6.out.own
      have HL9 := Lib.hid HU6.out.le
      have HP9 : Hid (u.ps ≠ []) := Lib.hid (by have h := HBQ.out; unfold isB at h; exact h.1 rfl)
      clear hT9 HBQ
      go_upto_region 9 with fail
      have hm9 : (Tryz.prog).follows .mixedOrders = true := by kernel_rfl
      refine G3.wp_region_grow_tail (ux9S w.heap.size (Value.ownBlock (.slice A6 n6 c6)) W0.heap.size (.slice A6 n6 c6) (.slice Aps u.ps.length cps) (T9) (ptP u.ps 59 u.ps.length)) (apG W0 (.slice A6 n6 c6) (T9)) 60 6 [41, 42, 43, 44, 45, 46] hm9 (by kernel_rfl) rfl rfl ⟨HL9.out.drew, HO9.out.le (Le.refl _).drew⟩ ?hold9 ?hs9 ?hend9
      case hold9 =>
        intro t ht
        simp only [List.mem_cons, List.mem_nil_iff, or_false, not_or] at ht
        unfold ux9S
        split <;> first | rfl | trivial | (exfalso; simp at ht)
      case hs9 =>
        simp only [List.take_succ_cons, List.take_zero]
        refine ⟨?_, ?_, ?_, ?_, ?_, ?_, trivial⟩
        · refine GrowStep.det ?_
          intro a W hg hop
          have h1 : a.eval (.tmp 3) = (.slice A6 n6 c6) := (hop 3 (by simp [Op.operands, Call.operands]))
          refine ⟨(.slice A6 n6 c6), ?_, rfl⟩
          simp only [execOp, h1]
          go_simp
        · refine GrowStep.le ?_ ?_ ?_ ?_
          · exact fun t v w1 w2 k h => ux9S_le _ _ _ _ _ _ _ t v w1 w2 k h
          · exact fun _ _ _ _ h => h
          · exact fun w1 w2 k h => apG_le h k
          intro a W hg hop
          refine ⟨.slice (some ⟨W.heap.size, 0, none⟩) 1 1, W.alloc (Obj.cells #[.int .u8 59] 5), ?_, (Le.refl W).alloc _, ?_⟩
          · simp only [execOp]
            go_simp
          · exact BvN.new (w0 := W) (bv_lit W [59] (by decide) (0, 0)) (fun k hk => by simp only [Value.ownBlock, Option.some.injEq] at hk; omega) hg.own.lt
        · refine GrowStep.append (.tmp 41) (.tmp 42) 22 rfl ?_
          intro a W hg hop
          have h1 : a.eval (.tmp 41) = (.slice A6 n6 c6) := (hop 41 (by simp [Op.operands, Call.operands]))
          have h2 : BvN (Value.ownBlock (.slice A6 n6 c6)) W (a.eval (.tmp 42)) [59] := (hop 42 (by simp [Op.operands, Call.operands]))
          obtain ⟨v', w', q, k1, k2, k3⟩ := run_append_keep hg.own h2.1 (by have := HLT9.out; simp only [List.length_cons, List.length_nil] at this ⊢; omega) hg.le.size 22
          refine ⟨v', w', by rw [h1]; exact q, ⟨Below.grown' hg.le k2 (Nat.le_refl _) (fun g hh => (own_row' hg.own g hh).1), k3⟩, fun t u ht h => ux9S_gr _ _ _ _ _ _ _ t u _ _ k2 ht h, fun _ _ h => h, k1⟩
        · refine GrowStep.det ?_
          intro a W hg hop
          have h1 : a.eval (.tmp 1) = .pointer (some ⟨w.heap.size, 0, none⟩) := (hop 1 (by simp [Op.operands, Call.operands]))
          refine ⟨.pointer (some ⟨w.heap.size, 8, none⟩), ?_, rfl⟩
          simp only [execOp, h1]
          go_simp
        · refine GrowStep.det ?_
          intro a W hg hop
          have h1 : a.eval (.tmp 44) = .pointer (some ⟨w.heap.size, 8, none⟩) := (hop 44 (by simp [Op.operands, Call.operands]))
          have h2 : W.cell? ⟨w.heap.size, 8, none⟩ = some (.slice Aps u.ps.length cps) := (HBX.out W hg.le).2.2.2.2.2.1
          refine ⟨.slice Aps u.ps.length cps, ?_, rfl⟩
          simp only [execOp, h1]
          go_simp
        · refine GrowStep.call ?_ ?_ ?_ ?_
          · exact fun t v w1 w2 k h => ux9S_le _ _ _ _ _ _ _ t v w1 w2 k h
          · exact fun _ _ _ _ h => h
          · exact fun w1 w2 k h => apG_le h k
          intro a W hg hop
          have h1 : a.eval (.tmp 45) = (.slice Aps u.ps.length cps) := (hop 45 (by simp [Op.operands, Call.operands]))
          have h1' : a.tmps[45]?.getD undef = (.slice Aps u.ps.length cps) := by simpa [Act.eval] using h1
          refine ⟨62, #[.slice Aps u.ps.length cps, .int .u8 59], ?_, (pText_c (.slice Aps u.ps.length cps) u.ps 59 W (HF.out.2.2.2.2.1.le (HL0.out.trans hg.le)) (fun k hk => by have := HZ.out.ps k hk; omega) HZ.out.pm).mono ?_⟩
          · simp only [execOp, h1]
            go_simp
          · rintro e w' ⟨v', rfl, hown, hle⟩
            exact ⟨_, rfl, hle, BvN.new (hown.bv (by have := HLT9.out.2; omega)) (fun k hk => (own_row' hown k hk).1) hg.own.lt⟩
      case hend9 =>
        intro v wz hg hS
        have s2 : OwnB W0.heap.size wz (v 43) (T9 ++ [59]) := hS 43 (by decide)
        have s5 : Bv wz (v 46) (ptP u.ps 59 u.ps.length) := (hS 46 (by decide) : BvN _ wz (v 46) (ptP u.ps 59 u.ps.length)).1
        obtain ⟨ns2, As2, cs2, es2⟩ := s2.shape
        rw [es2] at s2
        obtain ⟨ms5, As5, cs5, es5⟩ : ∃ m A c, v 46 = .slice A m c := by obtain ⟨A, c, e⟩ := s5.form; exact ⟨_, A, c, e⟩
        rw [es5] at s5
        have HS2 := Lib.hid s2
        have HS5 := Lib.hid s5
        have HLZ := Lib.hid hg.le
        have HLEN : Hid ((T9 ++ [59]).length + (ptP u.ps 59 u.ps.length).length ≤ 140737488355328) := Lib.hid (by have := HLT9.out; simp only [List.length_append, List.length_cons, List.length_nil]; omega)
        clear hS hg s2 s5
        simp only [putsL, Act.put, List.setIfInBounds_toArray, List.set_cons_zero, List.set_cons_succ, List.drop_succ_cons, List.drop_zero]
        rw [es2]
        rw [es5]
        clear es2 es5
        go_wp2_with (at_builtin; refine wpList_append_bv rfl (.tmp 43) (.tmp 46) rfl (base := W0.heap.size) rfl rfl HS2.out HS5.out HLEN.out HLZ.out.size ?_)
        intro vz wz2 hownz hgrowz
        have HOZ := Lib.hid hownz
        have HLZ2 : Hid (Le W0 wz2) := Lib.hid (Below.grown' HLZ.out hgrowz (Nat.le_refl _) (fun g hg => (own_row' HS2.out g hg).1))
        clear hownz hgrowz
        go_wp2
        go_meet
        case rel => exact ⟨HLZ2.out, by
          have e : u.scheme ++ 58 :: (lwUser u ++ (hostT u.host np ++ lwP u.ps 59 59)) = T9 ++ 59 :: ptP u.ps 59 u.ps.length := by
            unfold lwP
            rw [if_neg HP9.out, ← HT9.out]
            simp
          rw [e]; exact HOZ.out⟩
  have HU7 := Lib.hid hcut
  obtain ⟨n7, A7, c7, rfl⟩ := hcut.own.shape
  clear hcut y8 y9 HU6
  obtain ⟨_, _, _, _, _, _, y9⟩ := HBX.out wc HU7.out.le
  go_upto_if 51 with fail
  obtain ⟨br, hbr⟩ : ∃ b, decide (0 < u.hs.length) = b := ⟨_, rfl⟩
  have HBR : Hid (isB br (¬ u.hs = [])) := Lib.hid (by
    rw [← hbr]; unfold isB
    rw [decide_eq_true_eq, List.length_pos_iff])
  rw [hbr]
  clear hbr
  rename World => w7
  go_cut [3] from 52 to 58 (fun s3 wc => UtI w W0 (u.scheme ++ 58 :: (lwUser u ++ (hostT u.host np ++ (lwP u.ps 59 59 ++ lwP u.hs 63 38)))) s3 wc)
  case first =>
    cases br
    case false =>
      have HE : Hid (u.scheme ++ 58 :: (lwUser u ++ (hostT u.host np ++ (lwP u.ps 59 59 ++ lwP u.hs 63 38))) = u.scheme ++ 58 :: (lwUser u ++ (hostT u.host np ++ lwP u.ps 59 59))) := Lib.hid (by
        have h := HBR.out
        unfold isB at h
        have e : lwP u.hs 63 38 = [] := by
          unfold lwP
          rw [if_pos (Classical.not_not.1 (fun hh => by have := h.2 hh; cases this))]
        rw [e, List.append_nil])
      clear HBR
      go_wp2
      go_meet
      case rel => rw [HE.out]; exact HU7.out
    case true =>
      generalize hT11 : u.scheme ++ 58 :: (lwUser u ++ (hostT u.host np ++ lwP u.ps 59 59)) = T11 at HU7
      have HT11 := Lib.hid hT11
      have HLT11 : Hid (T11.length ≤ 1099512000000 + 3000000 ∧ (ptP u.hs 38 u.hs.length).length ≤ 1099511627776) := Lib.hid (by
        have h1 := HLN5.out.1
        have h2 := HLN5.out.2
        have h3 : (lwP u.ps 59 59).length ≤ 1099511627777 := by have := HZ.out.ps _ (Nat.le_refl _); unfold lwP; split <;> simp only [List.length_cons, List.length_nil] <;> omega
        refine ⟨?_, Nat.le_trans (HZ.out.hs _ (Nat.le_refl _)) (by decide)⟩
        rw [← hT11]
        simp only [List.length_append, List.length_cons] at h1 h2 ⊢
        omega)
      have HO11 := Lib.hid HU7.out.own
      have HL11 := Lib.hid HU7.out.le
      have HP11 : Hid (u.hs ≠ []) := Lib.hid (by have h := HBR.out; unfold isB at h; exact h.1 rfl)
      clear hT11 HBR
      go_upto_region 11 with fail
      have hm11 : (Tryz.prog).follows .mixedOrders = true := by kernel_rfl
      refine G3.wp_region_grow_tail (ux11S w.heap.size (Value.ownBlock (.slice A7 n7 c7)) W0.heap.size (.slice A7 n7 c7) (.slice Ahs u.hs.length chs) (T11) (ptP u.hs 38 u.hs.length)) (apG W0 (.slice A7 n7 c7) (T11)) 60 6 [52, 53, 54, 55, 56, 57] hm11 (by kernel_rfl) rfl rfl ⟨HL11.out.drew, HO11.out.le (Le.refl _).drew⟩ ?hold11 ?hs11 ?hend11
      case hold11 =>
        intro t ht
        simp only [List.mem_cons, List.mem_nil_iff, or_false, not_or] at ht
        unfold ux11S
        split <;> first | rfl | trivial | (exfalso; simp at ht)
      case hs11 =>
        simp only [List.take_succ_cons, List.take_zero]
        refine ⟨?_, ?_, ?_, ?_, ?_, ?_, trivial⟩
        · refine GrowStep.det ?_
          intro a W hg hop
          have h1 : a.eval (.tmp 3) = (.slice A7 n7 c7) := (hop 3 (by simp [Op.operands, Call.operands]))
          refine ⟨(.slice A7 n7 c7), ?_, rfl⟩
          simp only [execOp, h1]
          go_simp
        · refine GrowStep.le ?_ ?_ ?_ ?_
          · exact fun t v w1 w2 k h => ux11S_le _ _ _ _ _ _ _ t v w1 w2 k h
          · exact fun _ _ _ _ h => h
          · exact fun w1 w2 k h => apG_le h k
          intro a W hg hop
          refine ⟨.slice (some ⟨W.heap.size, 0, none⟩) 1 1, W.alloc (Obj.cells #[.int .u8 63] 5), ?_, (Le.refl W).alloc _, ?_⟩
          · simp only [execOp]
            go_simp
          · exact BvN.new (w0 := W) (bv_lit W [63] (by decide) (0, 0)) (fun k hk => by simp only [Value.ownBlock, Option.some.injEq] at hk; omega) hg.own.lt
        · refine GrowStep.append (.tmp 52) (.tmp 53) 22 rfl ?_
          intro a W hg hop
          have h1 : a.eval (.tmp 52) = (.slice A7 n7 c7) := (hop 52 (by simp [Op.operands, Call.operands]))
          have h2 : BvN (Value.ownBlock (.slice A7 n7 c7)) W (a.eval (.tmp 53)) [63] := (hop 53 (by simp [Op.operands, Call.operands]))
          obtain ⟨v', w', q, k1, k2, k3⟩ := run_append_keep hg.own h2.1 (by have := HLT11.out; simp only [List.length_cons, List.length_nil] at this ⊢; omega) hg.le.size 22
          refine ⟨v', w', by rw [h1]; exact q, ⟨Below.grown' hg.le k2 (Nat.le_refl _) (fun g hh => (own_row' hg.own g hh).1), k3⟩, fun t u ht h => ux11S_gr _ _ _ _ _ _ _ t u _ _ k2 ht h, fun _ _ h => h, k1⟩
        · refine GrowStep.det ?_
          intro a W hg hop
          have h1 : a.eval (.tmp 1) = .pointer (some ⟨w.heap.size, 0, none⟩) := (hop 1 (by simp [Op.operands, Call.operands]))
          refine ⟨.pointer (some ⟨w.heap.size, 9, none⟩), ?_, rfl⟩
          simp only [execOp, h1]
          go_simp
        · refine GrowStep.det ?_
          intro a W hg hop
          have h1 : a.eval (.tmp 55) = .pointer (some ⟨w.heap.size, 9, none⟩) := (hop 55 (by simp [Op.operands, Call.operands]))
          have h2 : W.cell? ⟨w.heap.size, 9, none⟩ = some (.slice Ahs u.hs.length chs) := (HBX.out W hg.le).2.2.2.2.2.2
          refine ⟨.slice Ahs u.hs.length chs, ?_, rfl⟩
          simp only [execOp, h1]
          go_simp
        · refine GrowStep.call ?_ ?_ ?_ ?_
          · exact fun t v w1 w2 k h => ux11S_le _ _ _ _ _ _ _ t v w1 w2 k h
          · exact fun _ _ _ _ h => h
          · exact fun w1 w2 k h => apG_le h k
          intro a W hg hop
          have h1 : a.eval (.tmp 56) = (.slice Ahs u.hs.length chs) := (hop 56 (by simp [Op.operands, Call.operands]))
          have h1' : a.tmps[56]?.getD undef = (.slice Ahs u.hs.length chs) := by simpa [Act.eval] using h1
          refine ⟨62, #[.slice Ahs u.hs.length chs, .int .u8 38], ?_, (pText_c (.slice Ahs u.hs.length chs) u.hs 38 W (HF.out.2.2.2.2.2.le (HL0.out.trans hg.le)) (fun k hk => by have := HZ.out.hs k hk; omega) HZ.out.hm).mono ?_⟩
          · simp only [execOp, h1]
            go_simp
          · rintro e w' ⟨v', rfl, hown, hle⟩
            exact ⟨_, rfl, hle, BvN.new (hown.bv (by have := HLT11.out.2; omega)) (fun k hk => (own_row' hown k hk).1) hg.own.lt⟩
      case hend11 =>
        intro v wz hg hS
        have s2 : OwnB W0.heap.size wz (v 54) (T11 ++ [63]) := hS 54 (by decide)
        have s5 : Bv wz (v 57) (ptP u.hs 38 u.hs.length) := (hS 57 (by decide) : BvN _ wz (v 57) (ptP u.hs 38 u.hs.length)).1
        obtain ⟨ns2, As2, cs2, es2⟩ := s2.shape
        rw [es2] at s2
        obtain ⟨ms5, As5, cs5, es5⟩ : ∃ m A c, v 57 = .slice A m c := by obtain ⟨A, c, e⟩ := s5.form; exact ⟨_, A, c, e⟩
        rw [es5] at s5
        have HS2 := Lib.hid s2
        have HS5 := Lib.hid s5
        have HLZ := Lib.hid hg.le
        have HLEN : Hid ((T11 ++ [63]).length + (ptP u.hs 38 u.hs.length).length ≤ 140737488355328) := Lib.hid (by have := HLT11.out; simp only [List.length_append, List.length_cons, List.length_nil]; omega)
        clear hS hg s2 s5
        simp only [putsL, Act.put, List.setIfInBounds_toArray, List.set_cons_zero, List.set_cons_succ, List.drop_succ_cons, List.drop_zero]
        rw [es2]
        rw [es5]
        clear es2 es5
        go_wp2_with (at_builtin; refine wpList_append_bv rfl (.tmp 54) (.tmp 57) rfl (base := W0.heap.size) rfl rfl HS2.out HS5.out HLEN.out HLZ.out.size ?_)
        intro vz wz2 hownz hgrowz
        have HOZ := Lib.hid hownz
        have HLZ2 : Hid (Le W0 wz2) := Lib.hid (Below.grown' HLZ.out hgrowz (Nat.le_refl _) (fun g hg => (own_row' HS2.out g hg).1))
        clear hownz hgrowz
        go_wp2
        go_meet
        case rel => exact ⟨HLZ2.out, by
          have e : u.scheme ++ 58 :: (lwUser u ++ (hostT u.host np ++ (lwP u.ps 59 59 ++ lwP u.hs 63 38))) = T11 ++ 63 :: ptP u.hs 38 u.hs.length := by
            rw [← HT11.out]
            conv => lhs; unfold lwP
            rw [if_neg HP11.out]
            unfold lwP
            simp
          rw [e]; exact HOZ.out⟩
  have HU8 := Lib.hid hcut
  obtain ⟨n8, A8, c8, rfl⟩ := hcut.own.shape
  clear hcut
  have HEND : Hid (lwText u = u.scheme ++ 58 :: (lwUser u ++ (hostT u.host np ++ (lwP u.ps 59 59 ++ lwP u.hs 63 38)))) := Lib.hid (by unfold lwText; rw [HNP.out.1])
  go_wp2
  go_ret
  refine ⟨_, rfl, ?_, HL0.out.trans HU8.out.le⟩
  rw [HEND.out]
  exact World.ownsRow.mono HU8.out.own (base' := w.heap.size) HL0.out.size
end Go.Proofs.YteedhaenbamiaaaGreatDoor
