/- From a row's condition to the walks: what the listed variables hold, a slice of bytes that came in; and back: the frame behind the call. -/
import Derived.Test.YtgpkfocgoigokaaGreatDoorLaid
import Derived.Test.YtgpkfocgoigokaaGreatDoorCards
import Derived.Test.YtgpkfocgoigokaaGreatDoorTie
import Derived.WalkKit
import Derived.ProofKit
import Derived.OpenShut
import Derived.LaidMore
import Derived.Lib.LaidU8
import Derived.Stop.LaidErr
import Derived.Stop.Joined
import Derived.Deep.DeepHandedRow
set_option linter.unusedVariables false
set_option linter.unusedSimpArgs false
namespace Go.Proofs.YtgpkfocgoigokaaGreatDoor
open Go.ChangeShapes Go.WideShapes Go.ChangeAt Go.RowKit

theorem knob : ownKnob Tryz.prog.godebug = none := by kernel_rfl
theorem laidOutR : laidOutB Tryz.prog = true := by kernel_rfl

/-! ### the listed variables -/
theorem gPow : Tryz.prog.globalNamed "internal/strconv.uint64pow10" = some 2 := by kernel_rfl
theorem yPow : (Tryz.prog.globals[2]?).map (·.type) = some 172 := by kernel_rfl
theorem cPow : Tryz.prog.cellsOf 172 = 20 := by kernel_rfl
theorem cU64 : Tryz.prog.cellsOf 153 = 1 := by kernel_rfl
theorem cU8 : Tryz.prog.cellsOf 5 = 1 := by kernel_rfl
theorem bU8 : Tryz.prog.bytesOf 5 = 1 := by kernel_rfl
theorem pow_is : (Rows.laid_internal_strconv_uint64pow10 : DataW Unit) = Lib.tabData .u64 Lib.pow10Tab := by
  unfold Rows.laid_internal_strconv_uint64pow10 Lib.tabData Lib.pow10Tab
  rfl
theorem pow_of {W : World} (h : Lib.VarReads Tryz.prog W "internal/strconv.uint64pow10" Rows.laid_internal_strconv_uint64pow10) : Lib.TabIs Tryz.prog W "internal/strconv.uint64pow10" .u64 Lib.pow10Tab := by
  obtain ⟨g, t, cs, fuel, p, hg, hty, hvar, hd⟩ := h
  obtain rfl := Option.some.inj (gPow.symm.trans hg)
  obtain rfl := Option.some.inj (yPow.symm.trans hty)
  rw [pow_is] at hd
  have := Lib.cells_of_tab Tryz.underlying172 Tryz.underlying153 cU64 cPow hd
  unfold Lib.TabIs
  rw [hvar, ← this]
theorem row_es (u : TypeId) (h : Tryz.prog.typeName? 3 u = some "*errors.errorString") : u = 96 :=
  typeName_ptr_named (nm := "errors.errorString") (by rw [show "*" ++ "errors.errorString" = "*errors.errorString" from rfl]; kernel_rfl) (by kernel_rfl) (by decide) u (by rw [show "*" ++ "errors.errorString" = "*errors.errorString" from rfl]; exact h)
theorem cEs : Tryz.prog.cellsOf 98 = 1 := by kernel_rfl
theorem cStr : Tryz.prog.cellsOf 9 = 1 := by kernel_rfl
theorem gSyn : Tryz.prog.globalNamed "strconv.ErrSyntax" = some 7 := by kernel_rfl
theorem ySyn : (Tryz.prog.globals[7]?).map (·.type) = some 51 := by kernel_rfl
theorem gRng : Tryz.prog.globalNamed "strconv.ErrRange" = some 8 := by kernel_rfl
theorem yRng : (Tryz.prog.globals[8]?).map (·.type) = some 51 := by kernel_rfl
theorem gz0 : Tryz.prog.globalNamed "net/netip.z0" = some 3 := by kernel_rfl
theorem yz0 : (Tryz.prog.globals[3]?).map (·.type) = some 165 := by kernel_rfl
theorem gz4 : Tryz.prog.globalNamed "net/netip.z4" = some 9 := by kernel_rfl
theorem yz4 : (Tryz.prog.globals[9]?).map (·.type) = some 165 := by kernel_rfl
theorem gz6 : Tryz.prog.globalNamed "net/netip.z6noz" = some 10 := by kernel_rfl
theorem yz6 : (Tryz.prog.globals[10]?).map (·.type) = some 165 := by kernel_rfl
theorem cHan : Tryz.prog.cellsOf 165 = 1 := by kernel_rfl
theorem cDet : Tryz.prog.cellsOf 183 = 2 := by kernel_rfl
theorem cPtr : Tryz.prog.cellsOf 163 = 1 := by kernel_rfl
theorem cBool : Tryz.prog.cellsOf 4 = 1 := by kernel_rfl
theorem list1 {l : List Value} (h : l.length = 1) : ∃ v, l = [v] := by
  match l, h with
  | [v], _ => exact ⟨v, rfl⟩
theorem list2 {l : List Value} (h : l.length = 2) : ∃ v u, l = [v, u] := by
  match l, h with
  | [v, u], _ => exact ⟨v, u, rfl⟩
theorem st_nil {s : ByteArray} (h : s.data.toList = []) : s = st [] := by rw [← st_bs s]; unfold bs; rw [h]
/-- a handle's pointer -/
theorem han_of {W : World} {n : String} {g : Nat} {d : DataW Unit} (hg0 : Tryz.prog.globalNamed n = some g) (hy0 : (Tryz.prog.globals[g]?).map (·.type) = some 165)
    (h : Lib.VarReads Tryz.prog W n d) : ∃ v y fuel, W.cell? ⟨g, 0, none⟩ = some v ∧ d = .agg [y.1] ∧ DataW.trod (fun _ => ()) Tryz.prog W 0 (fun _ => true) false fuel 163 [v] = some y := by
  obtain ⟨g', t, cs, fuel, p, hg, hty, hvar, hd⟩ := h
  obtain rfl := Option.some.inj (hg0.symm.trans hg)
  obtain rfl := Option.some.inj (hy0.symm.trans hty)
  obtain ⟨y0, n, hx, hlen, h0⟩ := ChangeShapes.trod_struct1 Tryz.underlying165 hd
  rw [cHan] at hlen
  obtain ⟨l⟩ := cs
  obtain ⟨v, rfl⟩ := list1 hlen
  refine ⟨v, y0, n, ?_, ?_, ?_⟩
  · simpa using World.var?_cell hg0 hvar 0
  · injection hx
  · have e : ([v].drop 0).take (Tryz.prog.cellsOf 163) = [v] := by rw [cPtr]; rfl
    rw [← e]; exact h0
theorem z0_of {W : World} (h : Lib.VarReads Tryz.prog W "net/netip.z0" Rows.laid_net_netip_z0) : W.cell? ⟨3, 0, none⟩ = some (.pointer none) := by
  obtain ⟨v, y, fuel, hc, hd, hf⟩ := han_of gz0 yz0 h
  rcases DataW.trod_pointer Tryz.underlying163 hf with ⟨hcs, _⟩ | ⟨a, cs', y', n, _, hcs, hx, _, _⟩
  · injection hcs with e; rw [hc, e]
  · exfalso
    rw [hx] at hd
    unfold Rows.laid_net_netip_z0 at hd
    injection hd with hd
    injection hd with hd
    cases hd
theorem zb_of {W : World} {n : String} {g : Nat} {b : Bool} (hg0 : Tryz.prog.globalNamed n = some g) (hy0 : (Tryz.prog.globals[g]?).map (·.type) = some 165)
    (h : Lib.VarReads Tryz.prog W n (.agg [.ptr (.agg [.lit (.bool b), .lit (.string [])])])) : ∃ k o, W.cell? ⟨g, 0, none⟩ = some (.pointer (some ⟨k, o, none⟩)) ∧ W.cell? ⟨k, o, none⟩ = some (.bool b) ∧ W.cell? ⟨k, o + 1, none⟩ = some (.string (st [])) := by
  obtain ⟨v, y, fuel, hc, hd, hf⟩ := han_of hg0 hy0 h
  rcases DataW.trod_pointer Tryz.underlying163 hf with ⟨_, hx⟩ | ⟨a, cs', y', n, _, hcs, hx, hcells, hy⟩
  · exfalso
    rw [hx] at hd
    injection hd with hd
    injection hd with hd
    cases hd
  · injection hcs with e
    subst e
    rw [hx] at hd
    injection hd with hd
    injection hd with hd _
    injection hd with hd
    rw [cDet] at hcells
    obtain ⟨_, hl', hc'⟩ := World.cells?_some hcells
    obtain ⟨y0, y1, n', hx2, _, h0, h1⟩ := ChangeShapes.trod_struct2 Tryz.underlying183 hy
    rw [hx2] at hd
    injection hd with hd
    injection hd with e0 e1
    injection e1 with e1 _
    obtain ⟨c0, c1, rfl⟩ := list2 hl'
    have t0 : ([c0, c1].drop 0).take (Tryz.prog.cellsOf 4) = [c0] := by rw [cBool]; rfl
    have t1 : ([c0, c1].drop 1).take (Tryz.prog.cellsOf 9) = [c1] := by rw [cStr]; rfl
    have h0' : DataW.trod (fun _ => ()) Tryz.prog W 0 (fun _ => true) false n' 4 [c0] = some y0 := by rw [← t0]; exact h0
    have h1' : DataW.trod (fun _ => ()) Tryz.prog W 0 (fun _ => true) false n' 9 [c1] = some y1 := by rw [← t1]; exact h1
    obtain ⟨b', hb, hb2⟩ := DataW.trod_bool Tryz.underlying4 h0'
    obtain ⟨s, hs, hs2, _⟩ := DataW.trod_string Tryz.underlying9 h1'
    injection hb with hb
    injection hs with hs
    subst hb; subst hs
    rw [hb2] at e0
    rw [hs2] at e1
    injection e0 with e0
    injection e0 with e0
    injection e1 with e1
    injection e1 with e1
    have k0 := hc' 0 (by omega)
    have k1 := hc' 1 (by omega)
    have hsp := World.cell?_spot k0
    obtain ⟨kb, ko, spot⟩ := a
    have hspot : spot = none := by simpa [Addr.add] using hsp
    subst hspot
    refine ⟨kb, ko, hc, ?_, ?_⟩
    · have := k0; rw [add_plain] at this; rw [e0]; simpa using this
    · have := k1; rw [add_plain] at this; rw [← st_nil e1.symm]; simpa using this
theorem white_is : (Rows.laid_unicode_White_Space : DataW Unit) = Lib.whiteData := by
  unfold Rows.laid_unicode_White_Space Lib.whiteData
  rfl
theorem white_of {W : World} (h : Lib.VarReads Tryz.prog W "unicode.White_Space" Rows.laid_unicode_White_Space) : Lib.WhiteTab 4 W := by
  rw [white_is] at h
  exact whiteTab_of_reads Tryz.lays199 ⟨by kernel_rfl, by kernel_rfl, by kernel_rfl, by kernel_rfl, by kernel_rfl, by kernel_rfl, by kernel_rfl, by kernel_rfl⟩ h
theorem sen_of {W : World} {n : String} {g : Nat} {text : List UInt8} {r : List (String × DataW Unit)} (h : laidMet Tryz.prog ((n, .iface "*errors.errorString" (.ptr (.agg [.lit (.string text)]))) :: r) W)
    (hg : Tryz.prog.globalNamed n = some g) (hy : (Tryz.prog.globals[g]?).map (·.type) = some 51) : ∃ tp p, W.var? Tryz.prog n = some #[.iface tp p] := by
  obtain ⟨a, s, hv, _⟩ := laid_sentinel h hg hy Tryz.underlying51 row_es Tryz.underlying96 Tryz.underlying98 rfl rfl Tryz.underlying9 cEs cStr
  exact ⟨_, _, hv⟩
/-- what a row's list gives the walks -/
theorem laid_of {W : World} {lst r1 r2 : List (String × DataW Unit)} (h : laidMet Tryz.prog lst W)
    (hp : ("internal/strconv.uint64pow10", Rows.laid_internal_strconv_uint64pow10) ∈ lst) (hw : ("unicode.White_Space", Rows.laid_unicode_White_Space) ∈ lst)
    (h0 : ("net/netip.z0", Rows.laid_net_netip_z0) ∈ lst) (h4 : ("net/netip.z4", Rows.laid_net_netip_z4) ∈ lst) (h6 : ("net/netip.z6noz", Rows.laid_net_netip_z6noz) ∈ lst)
    (hr : laidMet Tryz.prog (("strconv.ErrRange", Rows.laid_strconv_ErrRange) :: r1) W) (hs : laidMet Tryz.prog (("strconv.ErrSyntax", Rows.laid_strconv_ErrSyntax) :: r2) W) : Laid W where
  pow := pow_of (Lib.laidMet.reads h hp)
  syn := sen_of hs gSyn ySyn
  rng := sen_of hr gRng yRng
  white := white_of (Lib.laidMet.reads h hw)
  z0 := z0_of (Lib.laidMet.reads h h0)
  z4 := zb_of gz4 yz4 (Lib.laidMet.reads h h4)
  z6 := zb_of gz6 yz6 (Lib.laidMet.reads h h6)

/-! ### a slice of bytes that came in -/
section
variable {H : Type} {enc : TypeId × Value → H}
theorem u8_wf {z : Int} (h : (Lit.int .u8 z).wf = true) : 0 ≤ z ∧ z ≤ 255 := by
  have e1 : IntKind.u8.min = 0 := rfl
  have e2 : IntKind.u8.max = 255 := rfl
  simpa [Lit.wf, e1, e2] using h
theorem open_bv {W : World} {held : Bool} {fuel : Nat} {v : Value} {x : DataW H × List MemPlace} (hf : DataW.trod enc Tryz.prog W 0 (fun _ => true) held fuel 22 [v] = some x)
    (hw : (x.1.weights Tryz.prog 22).all (· ≤ reachBytes) = true) : ∃ l, Bv W v l := by
  rcases open_ints Tryz.underlying22 Tryz.underlying5 cU8 hf with ⟨hcs, hx⟩ | ⟨a, len, cap, zs, hcs, _, hl, hm, hz, hx, hcell, hwz⟩
  · injection hcs with e
    subst e
    exact ⟨[], Bv.nil W⟩
  · injection hcs with e
    subst e
    simp only [if_true] at hz
    have hlen : zs.length * 1 ≤ reachBytes := by
      rw [hx] at hw
      have h1 := List.all_eq_true.1 hw (((lits (H := H) .u8 (zs.take len)).length + (lits (H := H) .u8 (zs.drop len)).length) * Tryz.prog.bytesOf 5) (by simp [DataW.weights, Tryz.underlying22])
      simp only [lits, List.length_map, List.length_take, List.length_drop, bU8, decide_eq_true_eq] at h1
      omega
    have hr : reachBytes = 140737488351232 := rfl
    have hmx : maxLen = 9223372036854775807 := rfl
    refine ⟨(zs.take len).map fun z => UInt8.ofNat z.toNat, some a, cap, ?_, ?_, ?_, ?_, ?_⟩
    · rw [List.length_map, List.length_take, Nat.min_eq_left (by omega)]
    · rw [List.length_map, List.length_take]; omega
    · omega
    · rw [List.length_map, List.length_take]; omega
    · intro h0
      rw [List.length_map, List.length_take] at h0
      have hpos : 0 < zs.length := by omega
      obtain ⟨b, o, spot⟩ := a
      have hspot : spot = none := by simpa [Addr.add] using World.cell?_spot (hcell 0 hpos)
      subst hspot
      refine ⟨b, o, rfl, fun j hj => ?_⟩
      rw [List.length_map, List.length_take] at hj
      have hj' : j < zs.length := by omega
      have hc := hcell j hj'
      rw [add_plain] at hc
      have hz2 := u8_wf (hwz zs[j] (List.getElem_mem hj'))
      rw [hc]
      have hg : zs.getD j 0 = zs[j] := by simp [List.getD, List.getElem?_eq_getElem hj']
      rw [hg]
      have he : ((zs.take len).map fun z => UInt8.ofNat z.toNat)[j]'(by rw [List.length_map, List.length_take]; omega) = UInt8.ofNat zs[j].toNat := by simp
      rw [he]
      have hn : zs[j].toNat < 256 := by omega
      have : ((UInt8.ofNat zs[j].toNat).toNat : Int) = zs[j] := by
        have e1 : (UInt8.ofNat zs[j].toNat).toNat = zs[j].toNat % 256 := by simp
        rw [e1, Nat.mod_eq_of_lt hn]
        omega
      rw [this]

/-! ### behind the call -/
theorem trodAll_stays : ∀ {ts : List TypeId} (hts : ∀ t ∈ ts, Tryz.prog.readableRec t = true ∧ t < Tryz.prog.types.size) {vs : List Value} {ds : List (DataW H)} {p : List MemPlace} {W W' : World}
    (h : DataW.TrodAll enc Tryz.prog W 0 (fun _ => true) true ts vs ds p) (hb : Le W W') (hlt : ∀ x ∈ p, x.block < W.heap.size) (sp : Nat → Bool) (hsp : ∀ x ∈ p, sp x.block = true), DataW.TrodAll enc Tryz.prog W' 0 sp true ts vs ds p
  | [], _, vs, ds, p, W, W', h, _, _, _, _ => by
    obtain ⟨rfl, rfl, rfl⟩ := trodAll_nil h
    exact trodAll_mk0
  | t :: ts, hts, vs, ds, p, W, W', h, hb, hlt, sp, hsp => by
    obtain ⟨v, vs', d, ds', p1, q1, rfl, rfl, rfl, h1, h2⟩ := trodAll_cons h
    exact trodAll_cons_mk (WideElems.Trod_stays laidOutR (hts t (List.mem_cons_self ..)).1 (hts t (List.mem_cons_self ..)).2 h1 (fun x hx => hb.same (hlt x (List.mem_append_left _ hx))) (fun x hx => hsp x (List.mem_append_left _ hx)))
      (trodAll_stays (fun t' ht' => hts t' (List.mem_cons_of_mem _ ht')) h2 hb (fun x hx => hlt x (List.mem_append_right _ hx)) sp (fun x hx => hsp x (List.mem_append_right _ hx)))
set_option maxRecDepth 100000 in
/-- the law's end: true; each argument reads as it did; nothing that was there has turned -/
theorem post_true {f : Func} {s : ChangeSpec} {W W' : World} {args : Array Value} {ds gs : List (DataW H)} {before : List MemPlace}
    (hW : DataW.Whole enc Tryz.prog f.params.toList s.vars false W args.toList ds gs before) (hv : s.vars = []) (hr : f.resultTypes = #[4])
    (hs : s.fn H ds = { results := [.lit (.bool true)], args := ds }) (hts : ∀ t ∈ f.params.toList, Tryz.prog.readableRec t = true ∧ t < Tryz.prog.types.size) (hb : Le W W') :
    s.post enc Tryz.prog f false true false false W args (.bool true) W' := by
  have hW' := hW
  obtain ⟨p, q, hA, hV, rfl, hz, hn⟩ := hW
  rw [hv] at hV
  obtain ⟨rfl, rfl⟩ := trodVars_none hV
  have hlt : ∀ x ∈ p ++ [], x.block < W.heap.size := fun x hx => by simpa using hW'.lt x hx
  have hlt' : ∀ x ∈ p, x.block < W.heap.size := fun x hx => hlt x (List.mem_append_left _ hx)
  have hres : ∀ (b : Nat) (sp : Nat → Bool) (hd : Bool), DataW.TrodAll enc Tryz.prog W' b sp hd f.resultTypes.toList ((Value.bool true).resultList f.resultTypes.size) (s.fn H (ds ++ [])).results [] := by
    intro b sp hd
    rw [List.append_nil, hs, hr]
    exact trodAll_mk1 (shut_bool Tryz.underlying4 true)
  have hargs : ∀ sp : Nat → Bool, (∀ x ∈ p ++ [], sp x.block = true) → DataW.TrodAll enc Tryz.prog W' 0 sp true f.params.toList args.toList (s.fn H (ds ++ [])).args p := by
    intro sp hsp
    rw [List.append_nil, hs]
    exact trodAll_stays hts hA hb hlt' sp (fun x hx => hsp x (List.mem_append_left _ hx))
  have hvars : ∀ sp : Nat → Bool, DataW.TrodVars enc Tryz.prog W' sp s.vars (s.fn H (ds ++ [])).vars [] := by
    intro sp
    rw [List.append_nil, hs, hv]
    rfl
  refine ⟨ds, [], p ++ [], [], p, [], hW', hres _ _ _, hargs _ (fun x hx => by simpa using hlt x hx), hvars _, World.keptBut_mono (fun x hx => ⟨hx, Or.inr (List.mem_append.1 hx)⟩) (hb.frame (· ∈ p ++ [])), fun _ => ?_⟩
  have hok : Value.okWide Tryz.prog W' .any 0 4 (.bool true) := okWide_bool_mk Tryz.underlying4 true
  have hok1 := ok_one (P := Tryz.prog) (W' := W') (f := f) (v := .bool true) (t := 4) hr rfl hok
  refine ⟨hok1, _, _, ([] ++ p) ++ [], ⟨[] ++ p, [], trodAll_append (hargs _ (fun _ _ => rfl)) (hres _ _ _), hvars _, rfl, ?_, ?_⟩, ?_⟩
  · intro b off hp
    have hin : MemPlace.cell b off ∈ p ++ [] := by simpa using hp
    rw [hb.frozen (hlt _ hin)]
    exact hz b off hin
  · intro ha; cases ha
  · intro x hx _
    simpa using hx
end
end Go.Proofs.YtgpkfocgoigokaaGreatDoor
