/- Contracts: Raw, place, the thin package's ParseUri. -/
import Derived.Test.YtbdeohmdpkkpdaaGreatDoorKv
import Derived.Test.YtbdeohmdpkkpdaaGreatDoorParse6
set_option linter.unusedVariables false
set_option linter.unusedSimpArgs false
namespace Go.Proofs.YtbdeohmdpkkpdaaGreatDoor
open Go.RowKit

theorem raw_c (w : World) (b : Nat) (s : ByteArray) (h : w.cell? ⟨b, 1, none⟩ = some (.string s)) :
    Calls Tryz.prog 118 #[.pointer (some ⟨b, 0, none⟩)] w fun e w' => e = .returned (.string s) ∧ w' = w := by
  go_enter Tryz.func118, Tryz.ntmps118
  go_wp2
  go_ret
  exact ⟨rfl, rfl⟩

def UV.row (x : UV) : Array Value := #[x.scheme, x.raw, .bool x.wild, .bool x.slash, x.user, x.pass, x.host, .int .i64 x.port, x.ps, x.hs]
theorem Bq.one {φ : Nat → Prop} {w : World} {v : Value} {l : Tx} (h : Bq φ w v l) : v.oneCell' = true := by obtain ⟨⟨A, c, rfl, _⟩, _⟩ := h; rfl
theorem Kq.one {φ : Nat → Prop} {w : World} {v : Value} {l : KVs} (h : Kq φ w v l) : v.oneCell' = true := by obtain ⟨A, c, rfl, _⟩ := h; rfl
theorem Uq.one {φ : Nat → Prop} {w : World} {x : UV} {u : PU} (h : Uq φ w x u) : x.row.all (·.oneCell') = true := by
  unfold UV.row
  simp only [List.all_toArray, List.all_cons, List.all_nil, h.scheme.one, h.raw.one, h.user.one, h.pass.one, h.host.one, h.ps.one, h.hs.one, Bool.and_true, Bool.true_and]
  rfl
theorem uri_size : ((Tryz.prog).info? 78).map (·.size) = some 10 := by kernel_rfl
theorem kp_setRow (w : World) (g : Nat) (cs : Array Value) : Kp g w (w.setRow g cs) := ⟨rfl, rfl, rfl, by simp, fun k _ hb => setRow_other w g k cs (fun e => hb (by rw [e]))⟩
/-- what is known of place's slots: b is the argument's block, b + 1 the result's -/
def plS (b : Nat) (u : PU) (pv hv : Value) : Nat → Value → World → Prop
  | 1, v, _ => v = .pointer (some ⟨b, 0, none⟩)
  | 2, v, _ => v = .pointer (some ⟨b + 1, 0, none⟩)
  | 3, v, _ => v = .pointer (some ⟨b, 0, none⟩)
  | 4, v, _ => v = .string (st u.scheme)
  | 5, v, w => Bq (b + 2 ≤ ·) w v u.scheme
  | 6, v, _ => v = .string (st u.raw)
  | 7, v, w => Bq (b + 2 ≤ ·) w v u.raw
  | 8, v, _ => v = .pointer (some ⟨b, 2, none⟩)
  | 9, v, _ => v = .bool u.wild
  | 10, v, _ => v = .pointer (some ⟨b, 3, none⟩)
  | 11, v, _ => v = .bool u.slash
  | 12, v, _ => v = .pointer (some ⟨b, 4, none⟩)
  | 13, v, _ => v = .string (st u.user)
  | 14, v, w => Bq (b + 2 ≤ ·) w v u.user
  | 15, v, _ => v = .pointer (some ⟨b, 5, none⟩)
  | 16, v, _ => v = .string (st u.pass)
  | 17, v, w => Bq (b + 2 ≤ ·) w v u.pass
  | 18, v, _ => v = .pointer (some ⟨b, 6, none⟩)
  | 19, v, _ => v = .string (st u.host)
  | 20, v, w => Bq (b + 2 ≤ ·) w v u.host
  | 21, v, _ => v = .pointer (some ⟨b, 7, none⟩)
  | 22, v, _ => v = .int .i64 u.port
  | 23, v, _ => v = .pointer (some ⟨b, 8, none⟩)
  | 24, v, _ => v = pv
  | 25, v, w => Kq (b + 2 ≤ ·) w v u.ps
  | 26, v, _ => v = .pointer (some ⟨b, 9, none⟩)
  | 27, v, _ => v = hv
  | 28, v, w => Kq (b + 2 ≤ ·) w v u.hs
  | 29, v, w => ∃ x : UV, v = x.val ∧ Uq (b + 2 ≤ ·) w x u
  | _, _, _ => True
theorem plS_le (b : Nat) (u : PU) (pv hv : Value) (t : Nat) (v : Value) (w w' : World) (k : Le w w') (h : plS b u pv hv t v w) : plS b u pv hv t v w' := by
  unfold plS at h ⊢
  split at h <;> first | exact h | exact h.le k | skip
  · obtain ⟨x, e, h⟩ := h; exact ⟨x, e, h.le k⟩
theorem plS_far (b : Nat) (u : PU) (pv hv : Value) (t : Nat) (v : Value) (w w' : World) (k : ∀ g, b + 2 ≤ g → g < w.heap.size → w'.heap[g]? = w.heap[g]?) (h : plS b u pv hv t v w) : plS b u pv hv t v w' := by
  unfold plS at h ⊢
  split at h <;> first | exact h | exact h.keep k | skip
  · obtain ⟨x, e, h⟩ := h; exact ⟨x, e, h.keep k⟩
def plZ (b : Nat) (u : PU) (j : Nat) (w : World) : Prop := ∃ x : UV, w.heap[b + 1]? = some (.cells #[x.scheme, x.raw, .bool x.wild, .bool x.slash, x.user, x.pass, x.host, .int .i64 x.port, x.ps, x.hs] 78 (0, 0)) ∧ Uq (b + 2 ≤ ·) w x u
theorem plZ_le (b : Nat) (u : PU) (j : Nat) (w w' : World) (k : Le w w') (h : plZ b u j w) : plZ b u j w' := by
  obtain ⟨x, e, h⟩ := h; exact ⟨x, k.heap e, h.le k⟩
/-- the block of the argument lies there -/
def plG (w0 : World) (b : Nat) (u : PU) (pv hv : Value) (w : World) : Prop :=
  Kp (b + 1) w0 w ∧ w.heap[b]? = some (.cells (u.cells pv hv) 128 (0, 0)) ∧ (∃ cs, cs.size = 10 ∧ w.heap[b + 1]? = some (.cells cs 78 (0, 0)))
theorem plG_le {w0 : World} {b : Nat} {u : PU} {pv hv : Value} (w w' : World) (k : Le w w') (h : plG w0 b u pv hv w) : plG w0 b u pv hv w' := by
  obtain ⟨h1, h2, cs, h3, h4⟩ := h
  exact ⟨h1.le k, k.heap h2, cs, h3, k.heap h4⟩

theorem plG_sz {w0 : World} {b : Nat} {u : PU} {pv hv : Value} {w : World} (h : plG w0 b u pv hv w) : b + 2 ≤ w.heap.size := by
  obtain ⟨_, _, cs, _, h4⟩ := h
  have := lt_of_heap h4
  omega

set_option maxHeartbeats 4000000 in
theorem place_c (w : World) (u : PU) (pv hv : Value) (hp : Hp w pv u.ps) (hh : Hp w hv u.hs) (sm : u.small) :
    Calls Tryz.prog 94 #[.agg (u.cells pv hv)] w fun e w' => ∃ x : UV, e = .returned x.val ∧ Uq (w.heap.size ≤ ·) w' x u ∧ Le w w' := by
  have HP := Lib.hid hp
  have HH := Lib.hid hh
  have HS := Lib.hid sm
  clear hp hh sm
  go_enter Tryz.func94, Tryz.ntmps94
  go_wp2
  have hSl := plS_le w.heap.size u pv hv
  have hZl := plZ_le w.heap.size u
  have hGl := plG_le (w0 := (w.alloc (Obj.cells (u.cells pv hv) 128)).alloc (Obj.cells #[.slice none 0 0, .slice none 0 0, .bool false, .bool false, .slice none 0 0, .slice none 0 0, .slice none 0 0, .int .i64 0, .slice none 0 0, .slice none 0 0] 78)) (b := w.heap.size) (u := u) (pv := pv) (hv := hv)
  have hm : (Tryz.prog).follows .mixedOrders = true := by kernel_rfl
  refine wp_region_grow (plS w.heap.size u pv hv) (plZ w.heap.size u) (plG ((w.alloc (Obj.cells (u.cells pv hv) 128)).alloc (Obj.cells #[.slice none 0 0, .slice none 0 0, .bool false, .bool false, .slice none 0 0, .slice none 0 0, .slice none 0 0, .int .i64 0, .slice none 0 0, .slice none 0 0] 78)) w.heap.size u pv hv) 30 hm (by kernel_rfl) rfl rfl ?hG [0, 1, 2] (by kernel_rfl) ?hold ?hs ?hend
  case hG =>
    exact ⟨(Kp.refl _ _).le (Le.refl _).drew, heap_alloc2_old w _ _, _, by rfl, heap_alloc2_new w _ _⟩
  case hold =>
    intro t ht
    simp only [List.mem_cons, List.mem_nil_iff, or_false] at ht
    rcases ht with rfl | rfl | rfl
    · exact trivial
    · rfl
    · rfl
  case hs =>
    refine ⟨?_, ?_, ?_, ?_, ?_, ?_, ?_, ?_, ?_, ?_, ?_, ?_, ?_, ?_, ?_, ?_, ?_, ?_, ?_, ?_, ?_, ?_, ?_, ?_, ?_, ?_, ?_, ?_, trivial⟩
    · refine GrowStep.det ?_
      intro a W hg hop
      have h1 : a.eval (.tmp 1) = .pointer (some ⟨w.heap.size, 0, none⟩) := hop 1 (by simp [Op.operands, Call.operands])
      refine ⟨.pointer (some ⟨w.heap.size, 0, none⟩), ?_, rfl⟩
      simp only [execOp, h1]
      go_simp
    · refine GrowStep.det ?_
      intro a W hg hop
      have h1 : a.eval (.tmp 3) = .pointer (some ⟨w.heap.size, 0, none⟩) := hop 3 (by simp [Op.operands, Call.operands])
      have h2 : W.cell? ⟨w.heap.size, 0, none⟩ = some (.string (st u.scheme)) := cell_cells hg.2.1 0
      refine ⟨.string (st u.scheme), ?_, rfl⟩
      simp only [execOp, h1]
      go_simp
    · refine GrowStep.le ?_ ?_ ?_ ?_
      · exact hSl
      · exact hZl
      · exact hGl
      intro a W hg hop
      have h1 : a.eval (.tmp 4) = .string (st u.scheme) := hop 4 (by simp [Op.operands, Call.operands])
      obtain ⟨B, c, W1, q, le1, bt⟩ := conv_mk (base := w.heap.size + 2) W (st u.scheme) (plG_sz hg) (by have := HS.out; unfold PU.small at this; rw [st_size]; omega)
      rw [bs_st] at bt
      refine ⟨_, W1, ?_, le1, ⟨bt.1, fun g h => (bt.2 g h).1⟩⟩
      simp only [execOp, h1]
      go_simp
    · refine GrowStep.call ?_ ?_ ?_ ?_
      · exact hSl
      · exact hZl
      · exact hGl
      intro a W hg hop
      have h1 : a.eval (.tmp 1) = .pointer (some ⟨w.heap.size, 0, none⟩) := hop 1 (by simp [Op.operands, Call.operands])
      have h1' : a.tmps[1]?.getD undef = .pointer (some ⟨w.heap.size, 0, none⟩) := by simpa [Act.eval] using h1
      have h2 : W.cell? ⟨w.heap.size, 1, none⟩ = some (.string (st u.raw)) := cell_cells hg.2.1 1
      refine ⟨118, #[.pointer (some ⟨w.heap.size, 0, none⟩)], ?_, (raw_c W _ _ h2).mono ?_⟩
      · simp only [execOp, h1]
        go_simp
      · rintro e w' ⟨rfl, rfl⟩
        exact ⟨_, rfl, Le.refl _, rfl⟩
    · refine GrowStep.le ?_ ?_ ?_ ?_
      · exact hSl
      · exact hZl
      · exact hGl
      intro a W hg hop
      have h1 : a.eval (.tmp 6) = .string (st u.raw) := hop 6 (by simp [Op.operands, Call.operands])
      obtain ⟨B, c, W1, q, le1, bt⟩ := conv_mk (base := w.heap.size + 2) W (st u.raw) (plG_sz hg) (by have := HS.out; unfold PU.small at this; rw [st_size]; omega)
      rw [bs_st] at bt
      refine ⟨_, W1, ?_, le1, ⟨bt.1, fun g h => (bt.2 g h).1⟩⟩
      simp only [execOp, h1]
      go_simp
    · refine GrowStep.det ?_
      intro a W hg hop
      have h1 : a.eval (.tmp 1) = .pointer (some ⟨w.heap.size, 0, none⟩) := hop 1 (by simp [Op.operands, Call.operands])
      refine ⟨.pointer (some ⟨w.heap.size, 2, none⟩), ?_, rfl⟩
      simp only [execOp, h1]
      go_simp
    · refine GrowStep.det ?_
      intro a W hg hop
      have h1 : a.eval (.tmp 8) = .pointer (some ⟨w.heap.size, 2, none⟩) := hop 8 (by simp [Op.operands, Call.operands])
      have h2 : W.cell? ⟨w.heap.size, 2, none⟩ = some (.bool u.wild) := cell_cells hg.2.1 2
      refine ⟨.bool u.wild, ?_, rfl⟩
      simp only [execOp, h1]
      go_simp
    · refine GrowStep.det ?_
      intro a W hg hop
      have h1 : a.eval (.tmp 1) = .pointer (some ⟨w.heap.size, 0, none⟩) := hop 1 (by simp [Op.operands, Call.operands])
      refine ⟨.pointer (some ⟨w.heap.size, 3, none⟩), ?_, rfl⟩
      simp only [execOp, h1]
      go_simp
    · refine GrowStep.det ?_
      intro a W hg hop
      have h1 : a.eval (.tmp 10) = .pointer (some ⟨w.heap.size, 3, none⟩) := hop 10 (by simp [Op.operands, Call.operands])
      have h2 : W.cell? ⟨w.heap.size, 3, none⟩ = some (.bool u.slash) := cell_cells hg.2.1 3
      refine ⟨.bool u.slash, ?_, rfl⟩
      simp only [execOp, h1]
      go_simp
    · refine GrowStep.det ?_
      intro a W hg hop
      have h1 : a.eval (.tmp 1) = .pointer (some ⟨w.heap.size, 0, none⟩) := hop 1 (by simp [Op.operands, Call.operands])
      refine ⟨.pointer (some ⟨w.heap.size, 4, none⟩), ?_, rfl⟩
      simp only [execOp, h1]
      go_simp
    · refine GrowStep.det ?_
      intro a W hg hop
      have h1 : a.eval (.tmp 12) = .pointer (some ⟨w.heap.size, 4, none⟩) := hop 12 (by simp [Op.operands, Call.operands])
      have h2 : W.cell? ⟨w.heap.size, 4, none⟩ = some (.string (st u.user)) := cell_cells hg.2.1 4
      refine ⟨.string (st u.user), ?_, rfl⟩
      simp only [execOp, h1]
      go_simp
    · refine GrowStep.le ?_ ?_ ?_ ?_
      · exact hSl
      · exact hZl
      · exact hGl
      intro a W hg hop
      have h1 : a.eval (.tmp 13) = .string (st u.user) := hop 13 (by simp [Op.operands, Call.operands])
      obtain ⟨B, c, W1, q, le1, bt⟩ := conv_mk (base := w.heap.size + 2) W (st u.user) (plG_sz hg) (by have := HS.out; unfold PU.small at this; rw [st_size]; omega)
      rw [bs_st] at bt
      refine ⟨_, W1, ?_, le1, ⟨bt.1, fun g h => (bt.2 g h).1⟩⟩
      simp only [execOp, h1]
      go_simp
    · refine GrowStep.det ?_
      intro a W hg hop
      have h1 : a.eval (.tmp 1) = .pointer (some ⟨w.heap.size, 0, none⟩) := hop 1 (by simp [Op.operands, Call.operands])
      refine ⟨.pointer (some ⟨w.heap.size, 5, none⟩), ?_, rfl⟩
      simp only [execOp, h1]
      go_simp
    · refine GrowStep.det ?_
      intro a W hg hop
      have h1 : a.eval (.tmp 15) = .pointer (some ⟨w.heap.size, 5, none⟩) := hop 15 (by simp [Op.operands, Call.operands])
      have h2 : W.cell? ⟨w.heap.size, 5, none⟩ = some (.string (st u.pass)) := cell_cells hg.2.1 5
      refine ⟨.string (st u.pass), ?_, rfl⟩
      simp only [execOp, h1]
      go_simp
    · refine GrowStep.le ?_ ?_ ?_ ?_
      · exact hSl
      · exact hZl
      · exact hGl
      intro a W hg hop
      have h1 : a.eval (.tmp 16) = .string (st u.pass) := hop 16 (by simp [Op.operands, Call.operands])
      obtain ⟨B, c, W1, q, le1, bt⟩ := conv_mk (base := w.heap.size + 2) W (st u.pass) (plG_sz hg) (by have := HS.out; unfold PU.small at this; rw [st_size]; omega)
      rw [bs_st] at bt
      refine ⟨_, W1, ?_, le1, ⟨bt.1, fun g h => (bt.2 g h).1⟩⟩
      simp only [execOp, h1]
      go_simp
    · refine GrowStep.det ?_
      intro a W hg hop
      have h1 : a.eval (.tmp 1) = .pointer (some ⟨w.heap.size, 0, none⟩) := hop 1 (by simp [Op.operands, Call.operands])
      refine ⟨.pointer (some ⟨w.heap.size, 6, none⟩), ?_, rfl⟩
      simp only [execOp, h1]
      go_simp
    · refine GrowStep.det ?_
      intro a W hg hop
      have h1 : a.eval (.tmp 18) = .pointer (some ⟨w.heap.size, 6, none⟩) := hop 18 (by simp [Op.operands, Call.operands])
      have h2 : W.cell? ⟨w.heap.size, 6, none⟩ = some (.string (st u.host)) := cell_cells hg.2.1 6
      refine ⟨.string (st u.host), ?_, rfl⟩
      simp only [execOp, h1]
      go_simp
    · refine GrowStep.le ?_ ?_ ?_ ?_
      · exact hSl
      · exact hZl
      · exact hGl
      intro a W hg hop
      have h1 : a.eval (.tmp 19) = .string (st u.host) := hop 19 (by simp [Op.operands, Call.operands])
      obtain ⟨B, c, W1, q, le1, bt⟩ := conv_mk (base := w.heap.size + 2) W (st u.host) (plG_sz hg) (by have := HS.out; unfold PU.small at this; rw [st_size]; omega)
      rw [bs_st] at bt
      refine ⟨_, W1, ?_, le1, ⟨bt.1, fun g h => (bt.2 g h).1⟩⟩
      simp only [execOp, h1]
      go_simp
    · refine GrowStep.det ?_
      intro a W hg hop
      have h1 : a.eval (.tmp 1) = .pointer (some ⟨w.heap.size, 0, none⟩) := hop 1 (by simp [Op.operands, Call.operands])
      refine ⟨.pointer (some ⟨w.heap.size, 7, none⟩), ?_, rfl⟩
      simp only [execOp, h1]
      go_simp
    · refine GrowStep.det ?_
      intro a W hg hop
      have h1 : a.eval (.tmp 21) = .pointer (some ⟨w.heap.size, 7, none⟩) := hop 21 (by simp [Op.operands, Call.operands])
      have h2 : W.cell? ⟨w.heap.size, 7, none⟩ = some (.int .i64 u.port) := cell_cells hg.2.1 7
      refine ⟨.int .i64 u.port, ?_, rfl⟩
      simp only [execOp, h1]
      go_simp
    · refine GrowStep.det ?_
      intro a W hg hop
      have h1 : a.eval (.tmp 1) = .pointer (some ⟨w.heap.size, 0, none⟩) := hop 1 (by simp [Op.operands, Call.operands])
      refine ⟨.pointer (some ⟨w.heap.size, 8, none⟩), ?_, rfl⟩
      simp only [execOp, h1]
      go_simp
    · refine GrowStep.det ?_
      intro a W hg hop
      have h1 : a.eval (.tmp 23) = .pointer (some ⟨w.heap.size, 8, none⟩) := hop 23 (by simp [Op.operands, Call.operands])
      have h2 : W.cell? ⟨w.heap.size, 8, none⟩ = some (pv) := cell_cells hg.2.1 8
      refine ⟨pv, ?_, rfl⟩
      simp only [execOp, h1]
      go_simp
    · refine GrowStep.call ?_ ?_ ?_ ?_
      · exact hSl
      · exact hZl
      · exact hGl
      intro a W hg hop
      have h1 : a.eval (.tmp 24) = pv := hop 24 (by simp [Op.operands, Call.operands])
      have h1' : a.tmps[24]?.getD undef = pv := by simpa [Act.eval] using h1
      refine ⟨69, #[pv], ?_, (pairs_c W pv u.ps (HP.out.of_blocks ?_)).mono ?_⟩
      · simp only [execOp, h1]
        go_simp
      · intro g cur fz hgg
        have hlt := lt_of_heap hgg
        exact (hg.1.block g (by simp; omega) (by intro e; injection e with e; omega)).trans ((Below.heap_alloc _ _ _ (by simp; omega)).trans (Below.heap_alloc _ _ _ hlt))
      · rintro e w' ⟨v', rfl, hk, hle⟩
        exact ⟨v', rfl, hle, hk.imp fun g h => Nat.le_trans (plG_sz hg) h⟩
    · refine GrowStep.det ?_
      intro a W hg hop
      have h1 : a.eval (.tmp 1) = .pointer (some ⟨w.heap.size, 0, none⟩) := hop 1 (by simp [Op.operands, Call.operands])
      refine ⟨.pointer (some ⟨w.heap.size, 9, none⟩), ?_, rfl⟩
      simp only [execOp, h1]
      go_simp
    · refine GrowStep.det ?_
      intro a W hg hop
      have h1 : a.eval (.tmp 26) = .pointer (some ⟨w.heap.size, 9, none⟩) := hop 26 (by simp [Op.operands, Call.operands])
      have h2 : W.cell? ⟨w.heap.size, 9, none⟩ = some (hv) := cell_cells hg.2.1 9
      refine ⟨hv, ?_, rfl⟩
      simp only [execOp, h1]
      go_simp
    · refine GrowStep.call ?_ ?_ ?_ ?_
      · exact hSl
      · exact hZl
      · exact hGl
      intro a W hg hop
      have h1 : a.eval (.tmp 27) = hv := hop 27 (by simp [Op.operands, Call.operands])
      have h1' : a.tmps[27]?.getD undef = hv := by simpa [Act.eval] using h1
      refine ⟨69, #[hv], ?_, (pairs_c W hv u.hs (HH.out.of_blocks ?_)).mono ?_⟩
      · simp only [execOp, h1]
        go_simp
      · intro g cur fz hgg
        have hlt := lt_of_heap hgg
        exact (hg.1.block g (by simp; omega) (by intro e; injection e with e; omega)).trans ((Below.heap_alloc _ _ _ (by simp; omega)).trans (Below.heap_alloc _ _ _ hlt))
      · rintro e w' ⟨v', rfl, hk, hle⟩
        exact ⟨v', rfl, hle, hk.imp fun g h => Nat.le_trans (plG_sz hg) h⟩
    · refine GrowStep.det ?_
      intro a W hg hop
      have k5 : Bq (w.heap.size + 2 ≤ ·) W (a.eval (.tmp 5)) u.scheme := hop 5 (by simp [Op.operands, Call.operands])
      have k7 : Bq (w.heap.size + 2 ≤ ·) W (a.eval (.tmp 7)) u.raw := hop 7 (by simp [Op.operands, Call.operands])
      have k9 : a.eval (.tmp 9) = .bool u.wild := hop 9 (by simp [Op.operands, Call.operands])
      have k11 : a.eval (.tmp 11) = .bool u.slash := hop 11 (by simp [Op.operands, Call.operands])
      have k14 : Bq (w.heap.size + 2 ≤ ·) W (a.eval (.tmp 14)) u.user := hop 14 (by simp [Op.operands, Call.operands])
      have k17 : Bq (w.heap.size + 2 ≤ ·) W (a.eval (.tmp 17)) u.pass := hop 17 (by simp [Op.operands, Call.operands])
      have k20 : Bq (w.heap.size + 2 ≤ ·) W (a.eval (.tmp 20)) u.host := hop 20 (by simp [Op.operands, Call.operands])
      have k22 : a.eval (.tmp 22) = .int .i64 u.port := hop 22 (by simp [Op.operands, Call.operands])
      have k25 : Kq (w.heap.size + 2 ≤ ·) W (a.eval (.tmp 25)) u.ps := hop 25 (by simp [Op.operands, Call.operands])
      have k28 : Kq (w.heap.size + 2 ≤ ·) W (a.eval (.tmp 28)) u.hs := hop 28 (by simp [Op.operands, Call.operands])
      obtain ⟨A5, n5, c5, e5⟩ : ∃ A n c, a.eval (.tmp 5) = .slice A n c := by obtain ⟨⟨A, c, e, _⟩, _⟩ := k5; exact ⟨A, _, c, e⟩
      rw [e5] at k5
      have d5 : a.tmps[5]?.getD undef = .slice A5 n5 c5 := by simpa [Act.eval] using e5
      obtain ⟨A7, n7, c7, e7⟩ : ∃ A n c, a.eval (.tmp 7) = .slice A n c := by obtain ⟨⟨A, c, e, _⟩, _⟩ := k7; exact ⟨A, _, c, e⟩
      rw [e7] at k7
      have d7 : a.tmps[7]?.getD undef = .slice A7 n7 c7 := by simpa [Act.eval] using e7
      obtain ⟨A14, n14, c14, e14⟩ : ∃ A n c, a.eval (.tmp 14) = .slice A n c := by obtain ⟨⟨A, c, e, _⟩, _⟩ := k14; exact ⟨A, _, c, e⟩
      rw [e14] at k14
      have d14 : a.tmps[14]?.getD undef = .slice A14 n14 c14 := by simpa [Act.eval] using e14
      obtain ⟨A17, n17, c17, e17⟩ : ∃ A n c, a.eval (.tmp 17) = .slice A n c := by obtain ⟨⟨A, c, e, _⟩, _⟩ := k17; exact ⟨A, _, c, e⟩
      rw [e17] at k17
      have d17 : a.tmps[17]?.getD undef = .slice A17 n17 c17 := by simpa [Act.eval] using e17
      obtain ⟨A20, n20, c20, e20⟩ : ∃ A n c, a.eval (.tmp 20) = .slice A n c := by obtain ⟨⟨A, c, e, _⟩, _⟩ := k20; exact ⟨A, _, c, e⟩
      rw [e20] at k20
      have d20 : a.tmps[20]?.getD undef = .slice A20 n20 c20 := by simpa [Act.eval] using e20
      obtain ⟨A25, n25, c25, e25⟩ : ∃ A n c, a.eval (.tmp 25) = .slice A n c := by obtain ⟨A, c, e, _⟩ := k25; exact ⟨A, _, c, e⟩
      rw [e25] at k25
      have d25 : a.tmps[25]?.getD undef = .slice A25 n25 c25 := by simpa [Act.eval] using e25
      obtain ⟨A28, n28, c28, e28⟩ : ∃ A n c, a.eval (.tmp 28) = .slice A n c := by obtain ⟨A, c, e, _⟩ := k28; exact ⟨A, _, c, e⟩
      rw [e28] at k28
      have d28 : a.tmps[28]?.getD undef = .slice A28 n28 c28 := by simpa [Act.eval] using e28
      have d9 : a.tmps[9]?.getD undef = .bool u.wild := by simpa [Act.eval] using k9
      have d11 : a.tmps[11]?.getD undef = .bool u.slash := by simpa [Act.eval] using k11
      have d22 : a.tmps[22]?.getD undef = .int .i64 u.port := by simpa [Act.eval] using k22
      refine ⟨_, ?_, ⟨⟨.slice A5 n5 c5, .slice A7 n7 c7, u.wild, u.slash, .slice A14 n14 c14, .slice A17 n17 c17, .slice A20 n20 c20, u.port, .slice A25 n25 c25, .slice A28 n28 c28⟩, rfl, ⟨k5, k7, rfl, rfl, k14, k17, k20, rfl, k25, k28⟩⟩⟩
      clear k5 k7 k9 k11 k14 k17 k20 k22 k25 k28 e5 e7 e14 e17 e20 e25 e28
      simp only [execOp]
      go_simp
      rfl
    · refine GrowStep.store ?_ rfl
      intro a W hg hop
      have h1 : a.eval (.tmp 2) = .pointer (some ⟨w.heap.size + 1, 0, none⟩) := hop 2 (by simp [Op.operands])
      obtain ⟨x, h2, hx⟩ : ∃ x : UV, a.eval (.tmp 29) = x.val ∧ Uq (w.heap.size + 2 ≤ ·) W x u := hop 29 (by simp [Op.operands])
      obtain ⟨h3, h4, cs, h5, h6⟩ := hg
      have hk := kp_setRow W (w.heap.size + 1) x.row
      have hfar : ∀ g, w.heap.size + 2 ≤ g → g < W.heap.size → (W.setRow (w.heap.size + 1) x.row).heap[g]? = W.heap[g]? := fun g hg _ => setRow_other W _ g _ (by omega)
      refine ⟨W.setRow (w.heap.size + 1) x.row, ?_, ⟨h3.trans hk, (setRow_other W _ _ _ (by omega)).trans h4, x.row, rfl, setRow_heap W _ _ _ _ _ h6⟩, fun t v hv => plS_far _ _ _ _ t v W _ hfar hv, ?_, x, setRow_heap W _ _ _ _ _ h6, hx.keep hfar⟩
      · have hs := run_storeVar_row (P := Tryz.prog) W (w.heap.size + 1) 78 78 cs x.row h6 uri_size h5 hx.one
        simp only [execOp, h1, h2, UV.val, Instr.storeAt, Instr.sureAddr, Sem.run_bind, Sem.run_pure, Result.andThen]
        rw [show #[x.scheme, x.raw, .bool x.wild, .bool x.slash, x.user, x.pass, x.host, .int .i64 x.port, x.ps, x.hs] = x.row from rfl, hs]
      · intro j _ ⟨y, e1, e2⟩
        exact ⟨x, setRow_heap W _ _ _ _ _ h6, hx.keep hfar⟩
  case hend =>
    intro a' w' hg hd hn hS hZ
    obtain ⟨x, hx1, hx2⟩ := hZ 27 _ rfl rfl
    have h2 : a'.eval (.tmp 2) = .pointer (some ⟨w.heap.size + 1, 0, none⟩) := hS 2 (by decide)
    have HG := Lib.hid hg
    clear hS hZ hg
    go_wp2
    refine bodyPost_ret (results_cell_row rfl _ _ (w.heap.size + 1) 78 _ (0, 0) _ h2 hx1 Tryz.underlying78 rfl uri_size) hd ?_
    refine ⟨x, rfl, hx2.imp fun g h => by omega, ?_⟩
    refine ⟨HG.out.1.os, HG.out.1.tape, HG.out.1.output, by have := HG.out.1.size; simp at this; omega, fun k hk => ?_⟩
    exact (HG.out.1.block k (by simp; omega) (by intro e; injection e with e; omega)).trans ((Below.heap_alloc _ _ _ (by simp; omega)).trans (Below.heap_alloc _ _ _ hk))
end Go.Proofs.YtbdeohmdpkkpdaaGreatDoor
