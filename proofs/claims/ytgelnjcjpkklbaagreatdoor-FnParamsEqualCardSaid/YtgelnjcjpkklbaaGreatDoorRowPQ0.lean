/- The statement's proof. -/
import Derived.Test.YtgelnjcjpkklbaaGreatDoorOpen
import Derived.Test.YtgelnjcjpkklbaaGreatDoorOpi
import Derived.Test.YtgelnjcjpkklbaaGreatDoorFnPQ
set_option linter.unusedVariables false
set_option linter.unusedSimpArgs false
namespace Go.Proofs.YtgelnjcjpkklbaaGreatDoor.fnParamsEqual
open Go.ChangeShapes Go.WideShapes Go.ChangeAt Go.RowKit

theorem laid_in {W : World} (h : laidMetH Tryz.prog Rows.fnParamsEqualRow.laid W) : Laid W := by
  rw [MakeChecks.laidMetH_plain _ _ _ (by kernel_rfl)] at h
  exact laid_of h (.tail _ (.tail _ (.head _))) (.tail _ (.tail _ (.tail _ (.tail _ (.tail _ (.head _)))))) (.tail _ (.tail _ (.tail _ (.tail _ (.tail _ (.tail _ (.tail _ (.tail _ (.head _)))))))))
    (.tail _ (.tail _ (.tail _ (.tail _ (.tail _ (.tail _ (.head _))))))) (.tail _ (.tail _ (.tail _ (.tail _ (.tail _ (.tail _ (.tail _ (.head _)))))))) (h.tail.tail.tail) (h.tail.tail.tail.tail)
theorem params : Tryz.f10.params.toList = [23, 23, 3] := by kernel_rfl
theorem types_ok : ∀ t ∈ Tryz.f10.params.toList, Tryz.prog.readableRec t = true ∧ t < Tryz.prog.types.size := by
  rw [params]
  intro t ht
  simp only [List.mem_cons, List.mem_nil_iff, or_false] at ht
  rcases ht with rfl | rfl | rfl <;> exact ⟨by kernel_rfl, of_decide_eq_true (by kernel_rfl)⟩
set_option maxRecDepth 100000 in
theorem contract (H : Type) (enc : TypeId × Value → H) (W : World) (base : Nat) (args : Array Value) (ds gs : List (DataW H)) (before : List MemPlace)
    (hval : ∀ (j : Nat) t v, Tryz.f10.params[j]? = some t → args[j]? = some v → Value.okWide Tryz.prog W .any base t v)
    (hW : DataW.Whole enc Tryz.prog Tryz.f10.params.toList Rows.fnParamsEqualSpec.vars false W args.toList ds gs before)
    (hz : (DataW.weightsEach Tryz.prog (Tryz.f10.params.toList ++ (OpenSpec.ofChange Rows.fnParamsEqualSpec).bare.plain.varTypes Tryz.prog) (ds ++ gs)).all (· ≤ reachBytes) = true)
    (hL : laidMetH Tryz.prog Rows.fnParamsEqualRow.laid W) :
    Calls Tryz.prog 10 args W fun e W' => ∃ v, e = .returned v ∧ Rows.fnParamsEqualSpec.post enc Tryz.prog Tryz.f10 false true false false W args v W' := by
  have hW' := hW
  obtain ⟨p, q, hA, hV, rfl, hfz, hnd⟩ := hW
  rw [params] at hA hz
  obtain ⟨v0, vs0, d0, ds0, p0, q0, ha0, rfl, rfl, h0, r0⟩ := trodAll_cons hA
  obtain ⟨v1, vs1, d1, ds1, p1, q1, ha1, rfl, rfl, h1, r1⟩ := trodAll_cons r0
  obtain ⟨v2, vs2, d2, ds2, p2, q2, ha2, rfl, rfl, h2, r2⟩ := trodAll_cons r1
  obtain ⟨ra, rfl, rfl⟩ := trodAll_nil r2
  have hargs : args.toList = [v0, v1, v2] := by rw [ha0, ha1, ha2, ra]
  obtain rfl : args = #[v0, v1, v2] := by cases args; simp_all
  have hw0 : (d0.weights Tryz.prog 23).all (· ≤ reachBytes) = true := by
    refine List.all_eq_true.2 fun n hn => ?_
    exact List.all_eq_true.1 hz n (DataW.weights_mem_each (j := 0) rfl rfl n hn)
  have hk0 := hval 0 23 v0 (by kernel_rfl) rfl
  have hw1 : (d1.weights Tryz.prog 23).all (· ≤ reachBytes) = true := by
    refine List.all_eq_true.2 fun n hn => ?_
    exact List.all_eq_true.1 hz n (DataW.weights_mem_each (j := 1) rfl rfl n hn)
  have hk1 := hval 1 23 v1 (by kernel_rfl) rfl
  have hw2 : (d2.weights Tryz.prog 3).all (· ≤ reachBytes) = true := by
    refine List.all_eq_true.2 fun n hn => ?_
    exact List.all_eq_true.1 hz n (DataW.weights_mem_each (j := 2) rfl rfl n hn)
  have hk2 := hval 2 3 v2 (by kernel_rfl) rfl
  obtain ⟨a0, n0, c0, rfl⟩ := okWide_slice Tryz.underlying23 hk0
  obtain ⟨fuel0, hf0⟩ := h0
  obtain ⟨l0, hl0⟩ := open_kw (x := (d0, p0)) hf0 hw0
  obtain ⟨a1, n1, c1, rfl⟩ := okWide_slice Tryz.underlying23 hk1
  obtain ⟨fuel1, hf1⟩ := h1
  obtain ⟨l1, hl1⟩ := open_kw (x := (d1, p1)) hf1 hw1
  obtain ⟨l2, rfl, rfl, rfl, hl2⟩ := open_int Tryz.underlying3 hk2 h2
  refine (fnParamsEqual_c W _ _ l0 l1 l2 hl0 hl1 hl2 (laid_in hL)).mono ?_
  rintro e W' ⟨rfl, hle⟩
  exact ⟨_, rfl, post_true hW' rfl (by kernel_rfl) rfl types_ok hle⟩
/-- a start that fits: what the program's own initialisers leave, the table of handles empty -/
noncomputable def start (os : Os) : World :=
  { World.doorLaid Tryz.prog 93 os with heap := (World.doorLaid Tryz.prog 93 os).heap.setIfInBounds (Tryz.prog.globals.size + 1) (.map #[] 0) }
theorem door_met (os : Os) (args : Array Value) : laidMetH Tryz.prog Rows.fnParamsEqualRow.laid ((start os).forCall (fun _ _ => 0) ⟨#[], args, []⟩).memory :=
  laidMetH_of_parts3 (fuel := 8) (laidMet_of_run' 8 (by kernel_rfl) (by kernel_rfl)) (by kernel_rfl) (by kernel_rfl)
set_option maxRecDepth 100000 in
theorem lifted (os : Os) (started : os.Started) (H : Type) (enc : TypeId × Value → H) :
    ReturnsInHanded {} Tryz.checked os 10 .any (fun w args => (Rows.fnParamsEqualSpec.pre enc Tryz.prog Tryz.f10 [] false w args ∧ laidMetH Tryz.prog Rows.fnParamsEqualRow.laid w) ∧ sizedMet enc Tryz.prog Tryz.f10 (OpenSpec.ofChange Rows.fnParamsEqualSpec) false w args)
      (Rows.fnParamsEqualSpec.post enc Tryz.prog Tryz.f10 false true false false) := by
  refine returnsInHanded_of_change_and (C := Tryz.checked) (X := fun w _ => laidMetH Tryz.prog Rows.fnParamsEqualRow.laid w) (fun _ _ _ hh h => h.of_heap hh) knob started (by kernel_rfl) Tryz.func10
    (ChangeSpec.witness_shaped (enc := enc) (C := Tryz.checked) (os := os) (X := fun w _ => laidMetH Tryz.prog Rows.fnParamsEqualRow.laid w) false (start os) #[.slice none 0 0, .slice none 0 0, .int .i64 0] 8 rfl (World.shaped_of_RefB (by kernel_rfl) (by kernel_rfl)) (by kernel_rfl) (by kernel_rfl) (by kernel_rfl) (door_met os _)) ?_
  intro W base args ds gs before hval hW _ hz hL _
  exact contract H enc W base args ds gs before hval hW hz hL
theorem jf0 : (Rows.fnParamsEqualRow.inPlace == Tryz.pinned.checked.prog.inPlace 10) = true := by kernel_rfl
theorem jf1 : (Rows.fnParamsEqualRow.unfollowed == Tryz.pinned.checked.prog.unfollowed 10) = true := by kernel_rfl
theorem jf2 : (Rows.fnParamsEqualRow.recurses == Tryz.pinned.checked.prog.recurses 10) = true := by kernel_rfl
theorem jf3 : (Rows.fnParamsEqualRow.named == Tryz.pinned.checked.prog.varsNamed 10) = true := by kernel_rfl
theorem joined : joinedFacts Tryz.pinned.checked.prog 10 Tryz.f10 Rows.fnParamsEqualSpec Rows.fnParamsEqualRow = true := by
  unfold joinedFacts
  simp only [jf0, jf1, jf2, jf3, Bool.and_true]
  kernel_rfl
end Go.Proofs.YtgelnjcjpkklbaaGreatDoor.fnParamsEqual
