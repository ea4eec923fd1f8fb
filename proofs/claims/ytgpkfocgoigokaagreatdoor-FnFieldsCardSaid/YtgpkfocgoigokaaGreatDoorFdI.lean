/- Contracts: the package's search in a text, its splitter. -/
import Derived.Test.YtgpkfocgoigokaaGreatDoorFdS
import Derived.Test.YtgpkfocgoigokaaGreatDoorPlace
import Derived.Test.YtgpkfocgoigokaaGreatDoorShB
import Derived.Lib.BufferKept
import Derived.Laws.Cover4
import Derived.Deep.Cut
import Derived.Deep.CutBlock
set_option linter.unusedVariables false
set_option linter.unusedSimpArgs false
namespace Go.Proofs.YtgpkfocgoigokaaGreatDoor
open Go.RowKit

def ZxPost (t : ByteArray) (w : World) (e : Ending) (w' : World) : Prop := ∃ z : Int, e = .returned (.int .i64 z) ∧ -1 ≤ z ∧ z ≤ 2 ∧ (∀ c, bs t = [c] → decide (0 ≤ z) = blk c) ∧ w = w'
theorem one_ext {t : ByteArray} {c : UInt8} (h : bs t = [c]) : t = ⟨#[c]⟩ := by
  cases t with
  | mk d =>
    cases d with
    | mk l =>
      have : l = [c] := h
      subst this
      rfl
set_option maxRecDepth 4000 in
set_option maxHeartbeats 4000000 in
theorem zzIx_c (t : ByteArray) (w : World) (hs : t.size ≤ 1099511627776) : Calls Tryz.prog 43 #[.string ⟨#[32, 9]⟩, .string t] w (ZxPost t w) := by
  have hsz : (⟨#[32, 9]⟩ : ByteArray).size = 2 := rfl
  go_enter Tryz.func43, Tryz.ntmps43
  go_wp2
  go_loopg [5] (3) (fun m iv wr => ∃ k : Nat, m + k = 3 ∧ iv = .int .i64 k ∧ wr = w ∧ Hid (∀ c, bs t = [c] → (0 < k → c ≠ 32) ∧ (1 < k → c ≠ 9)))
  case atStart => exact ⟨0, by omega, rfl, rfl, Lib.hid (fun c _ => ⟨fun h => absurd h (by decide), fun h => absurd h (by decide)⟩)⟩
  case round =>
    obtain ⟨k, hm, rfl, rfl, HK⟩ := hrel
    have hk : k ≤ 3 := by omega
    have HM : gk + k ≤ 3 ∧ 3 ≤ gk + k := by omega
    by_cases hle : k + t.size ≤ 2
    · have hle' : (k : Int) + t.size ≤ 2 := by omega
      obtain ⟨u, hu⟩ : ∃ u : ByteArray, u = (⟨#[32, 9]⟩ : ByteArray).extract k (k + t.size) := ⟨_, rfl⟩
      have hsl : ∀ W, (Instr.slice 9 (.string ⟨#[32, 9]⟩) (some (.int .i64 (k : Int))) (some (.int .i64 ((k : Int) + t.size))) none).run Tryz.prog W = .ok (.string u) W := fun W => by
        rw [hu]
        have e0 : (0 : Int) ≤ (k : Int) + t.size := by omega
        have e1 : (k : Int) ≤ (k : Int) + t.size := by omega
        have e2 : ((k : Int) + t.size).toNat = k + t.size := by omega
        go_simp
      have hone : ∀ c, bs t = [c] → (u.toList = t.toList ↔ ((k = 0 ∧ c = 32) ∨ (k = 1 ∧ c = 9))) := fun c hc => by
        have ht := one_ext hc
        subst ht
        have hz : (⟨#[c]⟩ : ByteArray).size = 1 := rfl
        rw [hz] at hle hu
        rw [hu, Lib.toList_data, Lib.toList_data]
        have hk2 : k = 0 ∨ k = 1 := by omega
        rcases hk2 with rfl | rfl
        · have e : ((⟨#[32, 9]⟩ : ByteArray).extract 0 (0 + 1)).data.toList = [32] := by decide
          rw [e]
          simp [eq_comm]
        · have e : ((⟨#[32, 9]⟩ : ByteArray).extract 1 (1 + 1)).data.toList = [9] := by decide
          rw [e]
          simp [eq_comm]
      have HONE := Lib.hid hone
      clear hu hm hone
      by_cases heq : u.toList = t.toList
      · have HE := Lib.hid heq
        have he : (u.toList == t.toList) = true := by simpa using heq
        have HZ : Hid (∀ c, bs t = [c] → decide ((0 : Int) ≤ (k : Int)) = blk c) := Lib.hid (fun c hc => by
          have h := (HONE.out c hc).1 HE.out
          rw [decide_eq_true (by omega)]
          rcases h with ⟨_, rfl⟩ | ⟨_, rfl⟩ <;> rfl)
        clear heq
        go_wp2
        go_ret
        exact ⟨k, rfl, by omega, by omega, HZ.out, rfl⟩
      · have HE := Lib.hid heq
        have he : (u.toList == t.toList) = false := by simpa using heq
        have HK2 : Hid (∀ c, bs t = [c] → (0 < k + 1 → c ≠ 32) ∧ (1 < k + 1 → c ≠ 9)) := Lib.hid (fun c hc => by
          have h := HONE.out c hc
          have h1 := HK.out c hc
          have hz : t.size = 1 := by rw [one_ext hc]; rfl
          refine ⟨fun _ => ?_, fun h2 => ?_⟩
          · by_cases hk0 : k = 0
            · intro e; exact HE.out (h.2 (.inl ⟨hk0, e⟩))
            · exact h1.1 (by omega)
          · by_cases hk1 : k = 1
            · intro e; exact HE.out (h.2 (.inr ⟨hk1, e⟩))
            · omega)
        have hk3 : k ≤ 2 := by omega
        clear heq
        go_wp2
        go_roundg (3 - (k + 1))
        case measure => omega
        case rel => exact ⟨k + 1, by omega, by go_num, rfl, HK2⟩
    · have hle' : decide ((k : Int) + t.size ≤ 2) = false := decide_eq_false (by omega)
      have HZ : Hid (∀ c, bs t = [c] → decide ((0 : Int) ≤ -1) = blk c) := Lib.hid (fun c hc => by
        have hz : t.size = 1 := by rw [one_ext hc]; rfl
        have h := HK.out c hc
        have h1 := h.1 (by omega)
        have h2 := h.2 (by omega)
        simp [blk, h1, h2])
      clear hm
      go_wp2
      go_ret
      exact ⟨-1, rfl, by omega, by omega, HZ.out, rfl⟩
def ZcPost (t : ByteArray) (w : World) (e : Ending) (w' : World) : Prop := ∃ q, e = .returned (.bool q) ∧ (∀ c, bs t = [c] → q = blk c) ∧ w = w'
theorem zzCont_c (t : ByteArray) (w : World) (hs : t.size ≤ 1099511627776) : Calls Tryz.prog 31 #[.string ⟨#[32, 9]⟩, .string t] w (ZcPost t w) := by
  go_enter Tryz.func31, Tryz.ntmps31
  go_wp2_with fail
  refine (zzIx_c t w hs).mono ?_
  rintro e w' ⟨z, rfl, h1, h2, hz, rfl⟩
  have HZ := Lib.hid hz
  clear hz
  obtain ⟨q, hq⟩ : ∃ q, decide (0 ≤ z) = q := ⟨_, rfl⟩
  have HQ := Lib.hid hq
  go_wp2
  go_ret
  refine ⟨_, rfl, fun c hc => ?_, rfl⟩
  rw [← HZ.out c hc]
  simp [HQ.out]

theorem bufSide {T e E : TypeId} {B b : Nat} {cs : List Value} {w w' : World} {row : Option Nat} (h : Lib.IsBuffer T e B b cs w) (hg : w.grownBy w' row) (hr : ∀ g, row = some g → ∃ c fz, w.heap[g]? = some (.cells c E fz)) (h1 : E ≠ T) (h2 : E ≠ e) : Lib.IsBuffer T e B b cs w' := by
  obtain ⟨hB, v, lr, hb, hown, hne⟩ := h
  refine ⟨hB, v, lr, ?_, hown.kept hg ?_, hne⟩
  · rw [hg.block b (lt_of_heap hb) (fun e1 => ?_)]
    · exact hb
    · obtain ⟨c, fz, e2⟩ := hr b e1.symm
      rw [hb] at e2
      injection e2 with e2
      injection e2 with _ e2
      exact h1 e2.symm
  · cases hv : v.ownBlock with
    | none => exact .inl rfl
    | some g =>
      refine .inr fun e1 => ?_
      obtain ⟨_, c, fz, e2⟩ := own_row' hown g hv
      obtain ⟨c', fz', e3⟩ := hr g e1.symm
      rw [e2] at e3
      injection e3 with e3
      injection e3 with _ e3
      exact h2 e3.symm
theorem str_info : ((Tryz.prog).info? 9).map (fun i => (i.zero, i.size, i.bytes)) = some (some (.string ⟨#[]⟩), 1, 16) := by kernel_rfl
theorem enc_ascii (x : UInt8) (h : x.toNat < 128) : Utf8.encode (x.toNat : Int) = ⟨#[x]⟩ := by
  have hv : Utf8.valid (x.toNat : Int) = true := by simp [Utf8.valid]; omega
  unfold Utf8.encode
  simp only [hv, if_true, Int.toNat_natCast]
  rw [if_pos (by omega)]
  simp
theorem own_others {w w' : World} {base : Nat} {E e : TypeId} {b : Nat} {v : Value} {n : Nat} {xs : List Value} (h : w.ownsRow base E 1 v n xs) (hk : Lib.OthersKept e (some b) w w') (hE : E ≠ e) (hb : ∀ g, v.ownBlock = some g → g ≠ b) : w'.ownsRow base E 1 v n xs := by
  refine ⟨h.1, ?_⟩
  rcases h.2 with hn | ⟨g, cap, cur, rfl, h1, h2, h3⟩
  · exact .inl hn
  · exact .inr ⟨g, cap, cur, rfl, h1, hk g _ h2 (fun e1 => hb g rfl (Option.some.inj e1)) (fun c fz e1 => by injection e1 with _ e1; exact hE e1), h3⟩
theorem own_ne_buf {T e E : TypeId} {B b base : Nat} {cs : List Value} {w : World} {v : Value} {n : Nat} {xs : List Value} (h : w.ownsRow base E 1 v n xs) (hb : Lib.IsBuffer T e B b cs w) (hE : E ≠ T) : ∀ g, v.ownBlock = some g → g ≠ b := by
  rintro g hg rfl
  obtain ⟨_, c, fz, e1⟩ := own_row' h g hg
  obtain ⟨_, v', lr, e2, _⟩ := hb
  rw [e1] at e2
  injection e2 with e2
  injection e2 with _ e2
  exact hE e2
theorem fdP_step {c : UInt8} {r cur : Tx} {ins : Bool} {res : List Tx} : fdP (c :: r) cur ins res = if blk c = true then fdP r (if ins = true then [] else cur) false (if ins = true then res ++ [cur] else res) else fdP r (cur ++ [c]) true res := rfl
theorem iterAt_grown (w : World) (k : Nat) (s : ByteArray) (p : Nat) : w.grownBy (w.iterAt k s p) (some k) :=
  ⟨rfl, rfl, rfl, by rw [Lib.iterAt_size]; exact Nat.le_refl _, fun i _ hi => Lib.iterAt_other w k i s p (fun e => hi (by rw [e]))⟩
/-- where the splitter stands -/
structure SpI (w : World) (s : ByteArray) (p : Nat) (ins : Bool) (cur : Tx) (res : List Tx) (rv : Value) (wr : World) : Prop where
  le : Le w wr
  it : wr.heap[w.heap.size + 2]? = some (.stringIter s p)
  buf : Lib.IsBuffer 91 5 w.heap.size w.heap.size (Lib.byteCells cur) wr
  own : wr.ownsRow w.heap.size 9 1 rv res.length (res.map fun t => Value.string (st t))
  curl : cur.length ≤ 4 * p
  resl : res.length ≤ p
  run : (∀ x ∈ bs s, x.toNat < 128) → fdP (bs s) [] true [] = fdP ((bs s).drop p) cur ins res
  emp : ins = false → cur = []
  resw : ∀ t ∈ res, t.length ≤ 4 * s.size
def SpPost (s : ByteArray) (w : World) (e : Ending) (w' : World) : Prop :=
  ∃ (v : Value) (res : List Tx), e = .returned v ∧ Le w w' ∧ w'.ownsRow w.heap.size 9 1 v res.length (res.map fun t => Value.string (st t)) ∧ res.length ≤ s.size + 1 ∧ (∀ t ∈ res, t.length ≤ 4 * s.size) ∧ ((∀ x ∈ bs s, x.toNat < 128) → res = fdP (bs s) [] true [])
set_option maxRecDepth 8000 in
set_option maxHeartbeats 8000000 in
theorem split_c (s : ByteArray) (w : World) (hs : s.size ≤ 1099511627000) : Calls Tryz.prog 21 #[.string s] w (SpPost s w) := by
  obtain ⟨i0, hi0, hz0, hz1, hz2⟩ := info_parts str_info
  have hmk : ∀ W, (Instr.makeSlice 44 (.int .i64 0) (.int .i64 0)).run Tryz.prog W = .ok (.slice (some ⟨W.heap.size, 0, none⟩) 0 0) (W.alloc (.cells #[] 9)) := fun W => by
    have h := run_makeSlice (P := Tryz.prog) (w := W) 44 9 i0 _ Tryz.underlying44 hi0 hz0 .i64 .i64 0 0 (by decide) (by decide) (by simp) (by simp) (by decide)
    rw [hz1] at h
    rw [show madeCells (Value.string ⟨#[]⟩).cells (Int.toNat 0 * 1) = #[] from by kernel_rfl] at h
    exact h
  have hB0 := Lib.fresh_isBuffer 91 5 w
  have h0 : ((w.alloc (.cells #[.slice none 0 0, .int .i64 0, .int .i8 0] 91)).alloc (.cells #[] 9)).heap.size = w.heap.size + 2 := by simp
  have hI0 : SpI w s 0 true [] [] (.slice (some ⟨(w.alloc (.cells #[.slice none 0 0, .int .i64 0, .int .i8 0] 91)).heap.size, 0, none⟩) 0 0) (((w.alloc (.cells #[.slice none 0 0, .int .i64 0, .int .i8 0] 91)).alloc (.cells #[] 9)).iter s 0) := by
    refine ⟨(((Le.refl w).alloc _).alloc _).alloc _, ?_, ((hB0.alloc _).alloc _), ?_, by simp, by simp, fun _ => rfl, by simp, by simp⟩
    · have h5 := World.iter_heap ((w.alloc (.cells #[.slice none 0 0, .int .i64 0, .int .i8 0] 91)).alloc (.cells #[] 9)) s 0
      rw [h0] at h5
      exact h5
    · exact own_le (World.ownsRow_made (w.alloc (.cells #[.slice none 0 0, .int .i64 0, .int .i8 0] 91)) #[] 0 (by simp) (by simp [maxLen]) (by simp)) ((Le.refl _).alloc _)
  have HI0 := Lib.hid hI0
  clear hB0 hI0
  go_enter Tryz.func21, Tryz.ntmps21
  have hsz1 : (w.alloc (Obj.cells #[.slice none 0 0, .int .i64 0, .int .i8 0] 91)).heap.size = w.heap.size + 1 := by simp
  rw [hsz1] at HI0
  go_upto_block 0 with fail
  generalize (((w.alloc (Obj.cells #[.slice none 0 0, .int .i64 0, .int .i8 0] 91)).alloc (Obj.cells #[] 9)).iter s 0) = W0 at HI0 ⊢
  clear hmk h0 hsz1
  go_wp2
  go_loopg [4, 5] (s.size) (fun m iv rv wr => ∃ (p : Nat) (ins : Bool) (cur : Tx) (res : List Tx), m + p = s.size ∧ iv = .bool ins ∧ SpI w s p ins cur res rv wr)
  case atStart => exact ⟨0, true, [], [], by omega, rfl, HI0.out⟩
  case round =>
    obtain ⟨p, ins, cur, res, hm, rfl, hI⟩ := hrel
    have HI := Lib.hid hI
    have HM : gk + p ≤ s.size ∧ s.size ≤ gk + p := by omega
    have hIt := hI.it
    clear hm hI
    by_cases hp : p < s.size
    · obtain ⟨c, d, W1, hnext, hstep, hit1, hW1⟩ := next_step (P := Tryz.prog) hIt hp
      have HST := Lib.hid hstep
      have HIT1 := Lib.hid hit1
      have HB1 : Hid (Lib.IsBuffer 91 5 w.heap.size w.heap.size (Lib.byteCells cur) W1) := Lib.hid (by rw [hW1]; exact HI.out.buf.iterAt hIt _)
      have HL1 : Hid (Le w W1) := Lib.hid (by rw [hW1]; exact HI.out.le.iterAt (by omega) s _)
      have HO1 : Hid (W1.ownsRow w.heap.size 9 1 u5 res.length (res.map fun t => Value.string (st t))) := Lib.hid (by
        rw [hW1]
        refine HI.out.own.kept (iterAt_grown _ _ _ _) ?_
        cases hv : u5.ownBlock with
        | none => exact .inl rfl
        | some g =>
          refine .inr fun e1 => ?_
          obtain ⟨_, c', fz, e2⟩ := own_row' HI.out.own g hv
          injection e1 with e1
          subst e1
          rw [hIt] at e2
          cases e2)
      have hc0 : 0 ≤ c := hstep.2.2.1
      have hc1 : c ≤ 1114111 := hstep.2.2.2.1
      clear hstep hit1 hW1
      have HT4 := Lib.hid (encode_size_le c)
      have HTA : Hid ((∀ x ∈ bs s, x.toNat < 128) → ∃ h : p < (bs s).length, bs (Utf8.encode c) = [(bs s)[p]] ∧ d = 1) := Lib.hid (fun ha => by
        obtain ⟨h1, h2, _, _, h5⟩ := HST.out
        rcases h5 with ⟨h', e1, e2, e3⟩ | ⟨e1, e2⟩
        · refine ⟨h', ?_, e2⟩
          rw [e1, enc_ascii _ (ha _ (List.getElem_mem h'))]
          rfl
        · have hp' : p < (bs s).length := by rw [bs_len]; exact hp
          have h6 := e2 p hp' (Nat.le_refl _) (by omega)
          have := ha _ (List.getElem_mem hp')
          omega)
      go_upto_region 8 with fail
      generalize Utf8.encode c = t at HT4 HTA ⊢
      clear hnext
      go_wp2_with fail
      refine (zzCont_c t W1 (by have := HT4.out; omega)).mono ?_
      rintro e w' ⟨q, rfl, hq, rfl⟩
      have HQ := Lib.hid hq
      clear hq
      have HD := Lib.hid HST.out.2.1
      have HD1 := Lib.hid HST.out.1
      cases q
      case false =>
        -- a sign more
        have hlim : (Lib.byteCells cur).length + t.size ≤ 140737488355328 := by rw [Lib.byteCells_length]; have := HI.out.curl; have := HT4.out; omega
        have hBw : w.heap.size ≤ W1.heap.size := HL1.out.size
        have HRUN : Hid (SpI w s p ins cur res u5 wr → (∀ x ∈ bs s, x.toNat < 128) → fdP (bs s) [] true [] = fdP ((bs s).drop (p + d)) (cur ++ bs t) true res) := Lib.hid (fun hI ha => by
          obtain ⟨h', e1, e2⟩ := HTA.out ha
          have hb := HQ.out _ e1
          rw [hI.run ha, List.drop_eq_getElem_cons h', fdP_step, if_neg (by rw [← hb]; simp), e1, e2])
        go_wp2_with fail
        refine (Tryz.Buffer_WriteString_k w.heap.size w.heap.size _ t W1 HB1.out hBw (Lib.byteCells_one _) hlim).mono ?_
        rintro e W2 ⟨rfl, hb2, hbl2, hok2⟩
        have HN : Hid (SpI w s (p + d) true (cur ++ bs t) res u5 W2) := Lib.hid (by
          refine ⟨Below.trans HL1.out hbl2, hok2.iter HIT1.out (HB1.out.ne_iter HIT1.out), ?_, own_others HO1.out hok2 (by decide) (own_ne_buf HO1.out HB1.out (by decide)), ?_, by have := HI.out.resl; omega, HRUN.out HI.out, by simp, HI.out.resw⟩
          · rw [← Lib.byteCells_append] at hb2
            exact hb2
          · have h1 := HI.out.curl
            have h2 := HT4.out
            have h3 := bs_len t
            have h4 := HD1.out
            rw [List.length_append, h3]
            omega)
        clear hb2 hbl2 hok2 hlim hBw
        have hd := HD.out
        have hd1 := HD1.out
        go_wp2
        go_roundg (s.size - (p + d))
        case measure => omega
        case rel => exact ⟨p + d, true, cur ++ bs t, res, by omega, rfl, HN.out⟩
      case true =>
        cases ins
        case false =>
          have HN : Hid (SpI w s (p + d) false [] res u5 W1) := Lib.hid (by
            have he := HI.out.emp rfl
            refine ⟨HL1.out, HIT1.out, by rw [← he]; exact HB1.out, HO1.out, by simp, by have := HI.out.resl; omega, fun ha => ?_, fun _ => rfl, HI.out.resw⟩
            obtain ⟨h', e1, e2⟩ := HTA.out ha
            have hb := HQ.out _ e1
            rw [HI.out.run ha, List.drop_eq_getElem_cons h', fdP_step, if_pos hb.symm, if_neg (by simp), if_neg (by simp), he, e2])
          have hd := HD.out
          have hd1 := HD1.out
          go_wp2
          go_roundg (s.size - (p + d))
          case measure => omega
          case rel => exact ⟨p + d, false, [], res, by omega, rfl, HN.out⟩
        case true =>
          go_wp2_with fail
          refine (Tryz.Buffer_String w.heap.size w.heap.size cur W1 HB1.out).mono ?_
          rintro e W2 ⟨rfl, n2, rfl⟩
          have HIT2 : Hid ((W1.drewN n2).heap[w.heap.size + 2]? = some (.stringIter s (p + d))) := Lib.hid HIT1.out
          have HB2 := Lib.hid (HB1.out.drewN n2)
          have HL2 : Hid (Le w (W1.drewN n2)) := Lib.hid (HL1.out.drewN n2)
          have HO2 : Hid ((W1.drewN n2).ownsRow w.heap.size 9 1 u5 res.length (res.map fun t => Value.string (st t))) := Lib.hid HO1.out
          clear HB1 HL1 HO1 HIT1
          generalize W1.drewN n2 = W2 at HIT2 HB2 HL2 HO2 ⊢
          have hresl := HI.out.resl
          have hszw := HL2.out.size
          go_wp2_with (at_builtin; refine wpList_append_lies _ rfl _ _ 44 rfl w.heap.size 9 i0 (.string ⟨#[]⟩) 1 16 Tryz.underlying44 hi0 hz0 hz1 hz2 rfl (by decide) _ _ _ rfl (HO2.out.alloc _) ⟨W2.heap.size, 0, none⟩ 1 1 [.string ⟨cur.toArray⟩] rfl rfl ?c1 ?c2 ?c3 ?c4 ?c5 ?c6 (W2.heap.size + 1) ?c7 ?_)
          case c1 => exact World.news_of_block (heap_alloc_new W2 _)
          case c2 => intro u hu; simp only [List.mem_cons, List.mem_nil_iff, or_false] at hu; subst hu; rfl
          case c3 => omega
          case c4 => unfold maxLen; omega
          case c5 => omega
          case c6 => simp; omega
          case c7 => simp
          intro g3 cap3 W3 hown3 hgrow3 hat3 hlt3
          have hle3 : Le W2 (W2.alloc (Obj.cells #[.string ⟨cur.toArray⟩] 9)) := (Le.refl W2).alloc _
          have hrow : ∀ g, u5.ownBlock = some g → ∃ c fz, (W2.alloc (Obj.cells #[.string ⟨cur.toArray⟩] 9)).heap[g]? = some (.cells c 9 fz) := fun g hg => (own_row' (HO2.out.alloc _) g hg).2
          have HB3 := Lib.hid (bufSide (HB2.out.alloc (Obj.cells #[.string ⟨cur.toArray⟩] 9)) hgrow3 hrow (by decide) (by decide))
          have HIT3 : Hid (W3.heap[w.heap.size + 2]? = some (.stringIter s (p + d))) := Lib.hid (by
            have h1 := hle3.heap HIT2.out
            rw [hgrow3.block _ (lt_of_heap h1) (fun e1 => ?_)]
            · exact h1
            · obtain ⟨c', fz, e2⟩ := hrow _ e1.symm
              rw [h1] at e2
              cases e2)
          have HL3 : Hid (Le w W3) := Lib.hid (Below.grown' (HL2.out.alloc _) hgrow3 (Nat.le_refl _) (fun g hg => (own_row' HO2.out g hg).1))
          have HO3 : Hid (W3.ownsRow w.heap.size 9 1 (.slice (some ⟨g3, 0, none⟩) (res.length + 1) cap3) (res ++ [cur]).length ((res ++ [cur]).map fun t => Value.string (st t))) := Lib.hid (by rw [List.length_append, List.map_append]; exact hown3)
          clear hown3 hgrow3 hat3 hlt3 hle3 hrow HB2 HO2 HL2 HIT2
          go_wp2_with fail
          refine (Tryz.Buffer_Reset_k w.heap.size w.heap.size _ W3 HB3.out).mono ?_
          rintro e W4 ⟨rfl, hb4, hbl4, hok4⟩
          have HN : Hid (SpI w s (p + d) false [] (res ++ [cur]) (.slice (some ⟨g3, 0, none⟩) (res.length + 1) cap3) W4) := Lib.hid (by
            refine ⟨Below.trans HL3.out hbl4, hok4.iter HIT3.out (HB3.out.ne_iter HIT3.out), hb4, own_others HO3.out hok4 (by decide) (own_ne_buf HO3.out HB3.out (by decide)), by simp, by have := HD1.out; rw [List.length_append]; simp only [List.length_cons, List.length_nil]; omega, fun ha => ?_, fun _ => rfl, fun t ht => ?_⟩
            rotate_left
            · rw [List.mem_append] at ht
              rcases ht with ht | ht
              · exact HI.out.resw t ht
              · obtain rfl : t = cur := by simpa using ht
                have := HI.out.curl
                have := HD.out
                omega
            obtain ⟨h', e1, e2⟩ := HTA.out ha
            have hb := HQ.out _ e1
            rw [HI.out.run ha, List.drop_eq_getElem_cons h', fdP_step, if_pos hb.symm, if_pos rfl, if_pos rfl, e2])
          clear hb4 hbl4 hok4
          have hd := HD.out
          have hd1 := HD1.out
          go_wp2
          go_roundg (s.size - (p + d))
          case measure => omega
          case rel => exact ⟨p + d, false, [], res ++ [cur], by omega, rfl, HN.out⟩
    · have hps : p = s.size := by omega
      have hnext : ∀ ty, (Instr.next (.pointer (some ⟨w.heap.size + 2, 0, none⟩)) true ty).run Tryz.prog wr = _ := fun ty => Lib.run_next_end_at wr (w.heap.size + 2) s p ty hIt hp
      have HEND : Hid ((∀ x ∈ bs s, x.toNat < 128) → fdP (bs s) [] true [] = if cur = [] then res else res ++ [cur]) := Lib.hid (fun ha => by
        rw [HI.out.run ha, hps, ← bs_len s, List.drop_length]
        rfl)
      have hcl := HI.out.curl
      have hrl := HI.out.resl
      have HBW := Lib.hid HI.out.buf
      have HLW := Lib.hid HI.out.le
      have HOW := Lib.hid HI.out.own
      have HRL : Hid (∀ t ∈ res, t.length ≤ 4 * s.size) := Lib.hid HI.out.resw
      have hbc : (Lib.byteCells cur).length = cur.length := Lib.byteCells_length cur
      clear hIt HI
      go_wp2_with fail
      refine (Tryz.Buffer_Len w.heap.size w.heap.size _ wr HBW.out).mono ?_
      rintro e W2 ⟨rfl, n2, rfl⟩
      rw [hbc]
      have HB2 := Lib.hid (HBW.out.drewN n2)
      have HL2 : Hid (Le w (wr.drewN n2)) := Lib.hid (HLW.out.drewN n2)
      have HO2 : Hid ((wr.drewN n2).ownsRow w.heap.size 9 1 u5 res.length (res.map fun t => Value.string (st t))) := Lib.hid HOW.out
      clear hnext hbc HBW HLW HOW
      generalize wr.drewN n2 = W2 at HB2 HL2 HO2 ⊢
      by_cases hc0 : cur = []
      · have hwl : decide ((0 : Int) < (cur.length : Int)) = false := decide_eq_false (by rw [hc0]; simp)
        have hwl2 : cur.length = 0 := by rw [hc0]; rfl
        have HE : Hid ((∀ x ∈ bs s, x.toNat < 128) → res = fdP (bs s) [] true []) := Lib.hid (fun ha => by rw [HEND.out ha, if_pos hc0])
        clear hc0
        go_wp2
        go_ret
        exact ⟨_, res, rfl, HL2.out, HO2.out, by omega, HRL.out, HE.out⟩
      · have hwl0 : 0 < cur.length := List.length_pos_iff.2 hc0
        have hwl : decide ((0 : Int) < (cur.length : Int)) = true := decide_eq_true (by omega)
        have HE : Hid ((∀ x ∈ bs s, x.toNat < 128) → res ++ [cur] = fdP (bs s) [] true []) := Lib.hid (fun ha => by rw [HEND.out ha, if_neg hc0])
        clear hc0
        go_wp2_with fail
        refine (Tryz.Buffer_String w.heap.size w.heap.size cur W2 HB2.out).mono ?_
        rintro e W3 ⟨rfl, n3, rfl⟩
        have HL3 : Hid (Le w (W2.drewN n3)) := Lib.hid (HL2.out.drewN n3)
        have HO3 : Hid ((W2.drewN n3).ownsRow w.heap.size 9 1 u5 res.length (res.map fun t => Value.string (st t))) := Lib.hid HO2.out
        clear HB2 HL2 HO2
        generalize W2.drewN n3 = W3 at HL3 HO3 ⊢
        have hszw := HL3.out.size
        go_wp2_with (at_builtin; refine wpList_append_lies _ rfl _ _ 44 rfl w.heap.size 9 i0 (.string ⟨#[]⟩) 1 16 Tryz.underlying44 hi0 hz0 hz1 hz2 rfl (by decide) _ _ _ rfl (HO3.out.alloc _) ⟨W3.heap.size, 0, none⟩ 1 1 [.string ⟨cur.toArray⟩] rfl rfl ?c1 ?c2 ?c3 ?c4 ?c5 ?c6 (W3.heap.size + 1) ?c7 ?_)
        case c1 => exact World.news_of_block (heap_alloc_new W3 _)
        case c2 => intro u hu; simp only [List.mem_cons, List.mem_nil_iff, or_false] at hu; subst hu; rfl
        case c3 => omega
        case c4 => unfold maxLen; omega
        case c5 => omega
        case c6 => simp; omega
        case c7 => simp
        intro g4 cap4 W4 hown4 hgrow4 hat4 hlt4
        have HL4 : Hid (Le w W4) := Lib.hid (Below.grown' (HL3.out.alloc _) hgrow4 (Nat.le_refl _) (fun g hg => (own_row' HO3.out g hg).1))
        have HO4 : Hid (W4.ownsRow w.heap.size 9 1 (.slice (some ⟨g4, 0, none⟩) (res.length + 1) cap4) (res ++ [cur]).length ((res ++ [cur]).map fun t => Value.string (st t))) := Lib.hid (by rw [List.length_append, List.map_append]; exact hown4)
        have HRL2 : Hid (∀ t ∈ res ++ [cur], t.length ≤ 4 * s.size) := Lib.hid (fun t ht => by
          rw [List.mem_append] at ht
          rcases ht with ht | ht
          · exact HRL.out t ht
          · obtain rfl : t = cur := by simpa using ht
            rw [hps] at hcl
            exact hcl)
        have hrl2 : (res ++ [cur]).length ≤ s.size + 1 := by rw [List.length_append]; simp only [List.length_cons, List.length_nil]; omega
        have HRL3 := Lib.hid hrl2
        clear hown4 hgrow4 hat4 hlt4 hrl2
        go_wp2
        go_ret
        exact ⟨_, res ++ [cur], rfl, HL4.out, HO4.out, HRL3.out, HRL2.out, HE.out⟩
end Go.Proofs.YtgpkfocgoigokaaGreatDoor
