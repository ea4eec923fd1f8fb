/- The statement's proof. -/
import Derived.Test.YtainljmnhocbgaaGreatDoorOpen
import Derived.Test.YtainljmnhocbgaaGreatDoorFnUA
set_option linter.unusedVariables false
set_option linter.unusedSimpArgs false
namespace Go.Proofs.YtainljmnhocbgaaGreatDoor.fnUriApart
open Go.ChangeShapes Go.WideShapes Go.ChangeAt Go.RowKit

theorem laid_in {W : World} (h : laidMetH Tryz.prog Rows.fnUriApartRow.laid W) : Laid W := by
  rw [MakeChecks.laidMetH_plain _ _ _ (by kernel_rfl)] at h
  exact laid_of h (.tail _ (.tail _ (.head _))) (.tail _ (.tail _ (.tail _ (.tail _ (.tail _ (.head _)))))) (.tail _ (.tail _ (.tail _ (.tail _ (.tail _ (.tail _ (.tail _ (.tail _ (.head _)))))))))
    (.tail _ (.tail _ (.tail _ (.tail _ (.tail _ (.tail _ (.head _))))))) (.tail _ (.tail _ (.tail _ (.tail _ (.tail _ (.tail _ (.tail _ (.head _)))))))) (h.tail.tail.tail) (h.tail.tail.tail.tail)
theorem params : Tryz.f4.params.toList = [26, 26] := by kernel_rfl
theorem types_ok : ∀ t ∈ Tryz.f4.params.toList, Tryz.prog.readableRec t = true ∧ t < Tryz.prog.types.size := by
  rw [params]
  intro t ht
  simp only [List.mem_cons, List.mem_nil_iff, or_false] at ht
  rcases ht with rfl | rfl <;> exact ⟨by kernel_rfl, of_decide_eq_true (by kernel_rfl)⟩
set_option maxRecDepth 100000 in
theorem contract (H : Type) (enc : TypeId × Value → H) (W : World) (base : Nat) (args : Array Value) (ds gs : List (DataW H)) (before : List MemPlace)
    (hval : ∀ (j : Nat) t v, Tryz.f4.params[j]? = some t → args[j]? = some v → Value.okWide Tryz.prog W .any base t v)
    (hW : DataW.Whole enc Tryz.prog Tryz.f4.params.toList Rows.fnUriApartSpec.vars false W args.toList ds gs before)
    (hz : (DataW.weightsEach Tryz.prog (Tryz.f4.params.toList ++ (OpenSpec.ofChange Rows.fnUriApartSpec).bare.plain.varTypes Tryz.prog) (ds ++ gs)).all (· ≤ reachBytes) = true)
    (hL : laidMetH Tryz.prog Rows.fnUriApartRow.laid W) :
    Calls Tryz.prog 4 args W fun e W' => ∃ v, e = .returned v ∧ Rows.fnUriApartSpec.post enc Tryz.prog Tryz.f4 false true false false W args v W' := by
  have hW' := hW
  obtain ⟨p, q, hA, hV, rfl, hfz, hnd⟩ := hW
  rw [params] at hA hz
  obtain ⟨v0, vs0, d0, ds0, p0, q0, ha0, rfl, rfl, h0, r0⟩ := trodAll_cons hA
  obtain ⟨v1, vs1, d1, ds1, p1, q1, ha1, rfl, rfl, h1, r1⟩ := trodAll_cons r0
  obtain ⟨ra, rfl, rfl⟩ := trodAll_nil r1
  have hargs : args.toList = [v0, v1] := by rw [ha0, ha1, ra]
  obtain rfl : args = #[v0, v1] := by cases args; simp_all
  have hw0 : (d0.weights Tryz.prog 26).all (· ≤ reachBytes) = true := by
    refine List.all_eq_true.2 fun n hn => ?_
    exact List.all_eq_true.1 hz n (DataW.weights_mem_each (j := 0) rfl rfl n hn)
  have hk0 := hval 0 26 v0 (by kernel_rfl) rfl
  have hw1 : (d1.weights Tryz.prog 26).all (· ≤ reachBytes) = true := by
    refine List.all_eq_true.2 fun n hn => ?_
    exact List.all_eq_true.1 hz n (DataW.weights_mem_each (j := 1) rfl rfl n hn)
  have hk1 := hval 1 26 v1 (by kernel_rfl) rfl
  obtain ⟨x0, l0, rfl, hl0⟩ := open_uq hk0 h0 hw0
  obtain ⟨x1, l1, rfl, hl1⟩ := open_uq hk1 h1 hw1
  refine (fnUriApart_c W x0 x1 l0 l1 hl0 hl1 (laid_in hL)).mono ?_
  rintro e W' ⟨rfl, hle⟩
  exact ⟨_, rfl, post_true hW' rfl (by kernel_rfl) rfl types_ok hle⟩
/-- a start that fits: what the program's own initialisers leave, the table of handles empty -/
noncomputable def start (os : Os) : World :=
  { World.doorLaid Tryz.prog 93 os with heap := (World.doorLaid Tryz.prog 93 os).heap.setIfInBounds (Tryz.prog.globals.size + 1) (.map #[] 0) }
theorem door_met (os : Os) (args : Array Value) : laidMetH Tryz.prog Rows.fnUriApartRow.laid ((start os).forCall (fun _ _ => 0) ⟨#[], args, []⟩).memory :=
  laidMetH_of_parts3 (fuel := 8) (laidMet_of_run' 8 (by kernel_rfl) (by kernel_rfl)) (by kernel_rfl) (by kernel_rfl)
set_option maxRecDepth 100000 in
theorem lifted (os : Os) (started : os.Started) (H : Type) (enc : TypeId × Value → H) :
    ReturnsInHanded {} Tryz.checked os 4 .any (fun w args => (Rows.fnUriApartSpec.pre enc Tryz.prog Tryz.f4 [] false w args ∧ laidMetH Tryz.prog Rows.fnUriApartRow.laid w) ∧ sizedMet enc Tryz.prog Tryz.f4 (OpenSpec.ofChange Rows.fnUriApartSpec) false w args)
      (Rows.fnUriApartSpec.post enc Tryz.prog Tryz.f4 false true false false) := by
  refine returnsInHanded_of_change_and (C := Tryz.checked) (X := fun w _ => laidMetH Tryz.prog Rows.fnUriApartRow.laid w) (fun _ _ _ hh h => h.of_heap hh) knob started (by kernel_rfl) Tryz.func4
    (ChangeSpec.witness_shaped (enc := enc) (C := Tryz.checked) (os := os) (X := fun w _ => laidMetH Tryz.prog Rows.fnUriApartRow.laid w) false (start os) #[.agg #[.slice none 0 0, .slice none 0 0, .bool false, .bool false, .slice none 0 0, .slice none 0 0, .slice none 0 0, .int .i64 0, .slice none 0 0, .slice none 0 0], .agg #[.slice none 0 0, .slice none 0 0, .bool false, .bool false, .slice none 0 0, .slice none 0 0, .slice none 0 0, .int .i64 0, .slice none 0 0, .slice none 0 0]] 8 rfl (World.shaped_of_RefB (by kernel_rfl) (by kernel_rfl)) (by kernel_rfl) (by kernel_rfl) (by kernel_rfl) (door_met os _)) ?_
  intro W base args ds gs before hval hW _ hz hL _
  exact contract H enc W base args ds gs before hval hW hz hL
theorem said : Rows.FnUriApartSaid :=
  OpenClaim.holds_of_wide 4 Tryz.f4 rfl rfl rfl rfl rfl rfl rfl ⟨rfl, rfl, rfl, rfl, rfl⟩ rfl rfl rfl rfl rfl (by kernel_rfl) Tryz.func4 (by kernel_rfl)
    (of_decide_eq_true (by kernel_rfl)) (by unfold Func.isWrapper; first | (rw [if_pos (by decide +kernel)]; kernel_rfl) | (rw [if_neg (by decide +kernel)]; exact ⟨rfl, rfl⟩))
    (fun os started H enc _ => lifted os started H enc)
theorem plain (f : FuncId) (fn : Func) (hf : Tryz.pinned.checked.prog.funcNamed "pub-hailwright/laws.FnUriApart" = some f) (hfn : Tryz.pinned.checked.prog.funcs[f]? = some fn) :
    true = Tryz.pinned.checked.prog.looks [] ∧ ∀ (j : Nat) t, fn.params[j]? = some t → Tryz.pinned.checked.prog.wantsStandIn t = false := by
  obtain rfl : f = 4 := Option.some.inj ((show Tryz.prog.funcNamed "pub-hailwright/laws.FnUriApart" = some 4 by kernel_rfl).symm.trans hf) |>.symm
  obtain rfl : fn = Tryz.f4 := (Option.some.inj (Tryz.func4.symm.trans hfn)).symm
  refine ⟨by kernel_rfl, fun j t ht => ?_⟩
  have hm : t ∈ Tryz.f4.params.toList := by simpa using Array.mem_of_getElem? ht
  rw [params] at hm
  simp only [List.mem_cons, List.mem_nil_iff, or_false] at hm
  rcases hm with rfl | rfl <;> exact (show Tryz.prog.wantsStandIn _ = false by kernel_rfl)
/-- the card -/
theorem card : Rows.FnUriApartCardSaid :=
  Claim7.holds_tied_plain_at .later [] _ _ _ _ said (fun _ h => by cases h) (by kernel_rfl) (fun _ h => by cases h) fnUriApart_row_tie rfl ⟨rfl, rfl⟩ (by kernel_rfl) rfl plain (by kernel_rfl)
#print axioms card
end Go.Proofs.YtainljmnhocbgaaGreatDoor.fnUriApart
