/- The statement's proof. -/
import Derived.Test.YteedhaenbamiaaaGreatDoorOpen
import Derived.Test.YteedhaenbamiaaaGreatDoorOpi
import Derived.Test.YteedhaenbamiaaaGreatDoorFnAD
import Derived.Test.YteedhaenbamiaaaGreatDoorRwA
set_option linter.unusedVariables false
set_option linter.unusedSimpArgs false
namespace Go.Proofs.YteedhaenbamiaaaGreatDoor.fnAddress
open Go.ChangeShapes Go.WideShapes Go.ChangeAt Go.RowKit

theorem laid_in {W : World} (h : laidMetH Tryz.prog Rows.fnAddressRow.laid W) : LaidA W := by
  rw [MakeChecks.laidMetH_plain _ _ _ (by kernel_rfl)] at h
  exact ⟨laid_of h (.tail _ (.tail _ (.head _))) (.tail _ (.tail _ (.tail _ (.tail _ (.tail _ (.tail _ (.head _))))))) (.tail _ (.tail _ (.tail _ (.tail _ (.tail _ (.tail _ (.tail _ (.tail _ (.tail _ (.tail _ (.head _))))))))))) (.tail _ (.tail _ (.tail _ (.tail _ (.tail _ (.tail _ (.tail _ (.tail _ (.head _))))))))) (.tail _ (.tail _ (.tail _ (.tail _ (.tail _ (.tail _ (.tail _ (.tail _ (.tail _ (.head _)))))))))) (h.tail.tail.tail.tail) (h.tail.tail.tail.tail.tail), asc_of (Lib.laidMet.reads h (.tail _ (.tail _ (.tail _ (.tail _ (.tail _ (.tail _ (.tail _ (.head _))))))))), utf8t_of (Lib.laidMet.reads h (.tail _ (.tail _ (.tail _ (.tail _ (.tail _ (.tail _ (.tail _ (.tail _ (.tail _ (.tail _ (.tail _ (.head _))))))))))))) (Lib.laidMet.reads h (.tail _ (.tail _ (.tail _ (.head _)))))⟩
theorem params : Tryz.f6.params.toList = [22, 32, 30, 3] := by kernel_rfl
theorem types_ok : ∀ t ∈ Tryz.f6.params.toList, Tryz.prog.readableRec t = true ∧ t < Tryz.prog.types.size := by
  rw [params]
  intro t ht
  simp only [List.mem_cons, List.mem_nil_iff, or_false] at ht
  rcases ht with rfl | rfl | rfl | rfl <;> exact ⟨by kernel_rfl, of_decide_eq_true (by kernel_rfl)⟩
set_option maxRecDepth 100000 in
theorem contract (H : Type) (enc : TypeId × Value → H) (W : World) (base : Nat) (args : Array Value) (ds gs : List (DataW H)) (before : List MemPlace)
    (hval : ∀ (j : Nat) t v, Tryz.f6.params[j]? = some t → args[j]? = some v → Value.okWide Tryz.prog W .any base t v)
    (hW : DataW.Whole enc Tryz.prog Tryz.f6.params.toList Rows.fnAddressSpec.vars false W args.toList ds gs before)
    (hz : (DataW.weightsEach Tryz.prog (Tryz.f6.params.toList ++ (OpenSpec.ofChange Rows.fnAddressSpec).bare.plain.varTypes Tryz.prog) (ds ++ gs)).all (· ≤ reachBytes) = true)
    (hL : laidMetH Tryz.prog Rows.fnAddressRow.laid W) :
    Calls Tryz.prog 6 args W fun e W' => ∃ v, e = .returned v ∧ Rows.fnAddressSpec.post enc Tryz.prog Tryz.f6 false true false false W args v W' := by
  have hW' := hW
  obtain ⟨p, q, hA, hV, rfl, hfz, hnd⟩ := hW
  rw [params] at hA hz
  obtain ⟨v0, vs0, d0, ds0, p0, q0, ha0, rfl, rfl, h0, r0⟩ := trodAll_cons hA
  obtain ⟨v1, vs1, d1, ds1, p1, q1, ha1, rfl, rfl, h1, r1⟩ := trodAll_cons r0
  obtain ⟨v2, vs2, d2, ds2, p2, q2, ha2, rfl, rfl, h2, r2⟩ := trodAll_cons r1
  obtain ⟨v3, vs3, d3, ds3, p3, q3, ha3, rfl, rfl, h3, r3⟩ := trodAll_cons r2
  obtain ⟨ra, rfl, rfl⟩ := trodAll_nil r3
  have hargs : args.toList = [v0, v1, v2, v3] := by rw [ha0, ha1, ha2, ha3, ra]
  obtain rfl : args = #[v0, v1, v2, v3] := by cases args; simp_all
  have hw0 : (d0.weights Tryz.prog 22).all (· ≤ reachBytes) = true := by
    refine List.all_eq_true.2 fun n hn => ?_
    exact List.all_eq_true.1 hz n (DataW.weights_mem_each (j := 0) rfl rfl n hn)
  have hk0 := hval 0 22 v0 (by kernel_rfl) rfl
  have hw1 : (d1.weights Tryz.prog 32).all (· ≤ reachBytes) = true := by
    refine List.all_eq_true.2 fun n hn => ?_
    exact List.all_eq_true.1 hz n (DataW.weights_mem_each (j := 1) rfl rfl n hn)
  have hk1 := hval 1 32 v1 (by kernel_rfl) rfl
  have hw2 : (d2.weights Tryz.prog 30).all (· ≤ reachBytes) = true := by
    refine List.all_eq_true.2 fun n hn => ?_
    exact List.all_eq_true.1 hz n (DataW.weights_mem_each (j := 2) rfl rfl n hn)
  have hk2 := hval 2 30 v2 (by kernel_rfl) rfl
  have hw3 : (d3.weights Tryz.prog 3).all (· ≤ reachBytes) = true := by
    refine List.all_eq_true.2 fun n hn => ?_
    exact List.all_eq_true.1 hz n (DataW.weights_mem_each (j := 3) rfl rfl n hn)
  have hk3 := hval 3 3 v3 (by kernel_rfl) rfl
  obtain ⟨a0, n0, c0, rfl⟩ := okWide_slice Tryz.underlying22 hk0
  obtain ⟨fuel0, hf0⟩ := h0
  obtain ⟨l0, hl0⟩ := open_bv (x := (d0, p0)) hf0 hw0
  obtain ⟨x1, l1, rfl, hl1⟩ := open_uq hk1 h1 hw1
  obtain ⟨a2, n2, c2, rfl⟩ := okWide_slice Tryz.underlying30 hk2
  obtain ⟨fuel2, hf2⟩ := h2
  obtain ⟨l2, hl2⟩ := open_kw (x := (d2, p2)) hf2 hw2
  obtain ⟨l3, rfl, rfl, rfl, hl3⟩ := open_int Tryz.underlying3 hk3 h3
  refine (fnAddress_c W _ x1 _ l0 l1 l2 l3 hl0 hl1 hl2 hl3 (laid_in hL)).mono ?_
  rintro e W' ⟨rfl, hle⟩
  exact ⟨_, rfl, post_true hW' rfl (by kernel_rfl) rfl types_ok hle⟩
theorem met1 (os : Os) (args : Array Value) : (DataW.laidRun Tryz.prog ((startA os).forCall (fun _ _ => 0) ⟨#[], args, []⟩).memory 8 ((Rows.fnAddressRow.laid.filter fun x => x.2.handleName?.isNone).map (·.1))).map (·.1) = some (Rows.fnAddressRow.laid.filter fun x => x.2.handleName?.isNone) := by kernel_rfl
theorem met2 (os : Os) (args : Array Value) : (DataW.laidRun Tryz.prog ((startA os).forCall (fun _ _ => 0) ⟨#[], args, []⟩).memory 8 ((Rows.fnAddressRow.laid.filter fun x => x.2.handleName?.isNone).map (·.1))).map (fun x => ndB x.2 0) = some true := by kernel_rfl
theorem met5 (os : Os) (args : Array Value) : (DataW.laidRun Tryz.prog ((startA os).forCall (fun _ _ => 0) ⟨#[], args, []⟩).memory 8 ((Rows.fnAddressRow.laid.filter fun x => x.2.handleName?.isNone).map (·.1))).map (fun x => laidRowsB Tryz.prog ((startA os).forCall (fun _ _ => 0) ⟨#[], args, []⟩).memory x.2) = some true := by kernel_rfl
theorem met3 (os : Os) (args : Array Value) : (Rows.fnAddressRow.laid.filter fun x => x.2.handleName?.isSome && x.2.funcsIn?.isNone).all (handleAtB Tryz.prog ((startA os).forCall (fun _ _ => 0) ⟨#[], args, []⟩).memory) = true := by kernel_rfl
theorem met4 (os : Os) (args : Array Value) : funcsRun Tryz.prog ((startA os).forCall (fun _ _ => 0) ⟨#[], args, []⟩).memory 8 ((funcsListed Rows.fnAddressRow.laid).map (·.1)) = some ((funcsListed Rows.fnAddressRow.laid).map (·.2.funcsOut)) := by kernel_rfl
theorem door_met (os : Os) (args : Array Value) : laidMetH Tryz.prog Rows.fnAddressRow.laid ((startA os).forCall (fun _ _ => 0) ⟨#[], args, []⟩).memory :=
  laidMetH_of_parts3 (fuel := 8) (laidMet_nd 8 (met1 os args) (met2 os args) (met5 os args)) (met3 os args) (met4 os args)
set_option maxRecDepth 100000 in
theorem lifted (os : Os) (started : os.Started) (H : Type) (enc : TypeId × Value → H) :
    ReturnsInHanded {} Tryz.checked os 6 .any (fun w args => (Rows.fnAddressSpec.pre enc Tryz.prog Tryz.f6 [] false w args ∧ laidMetH Tryz.prog Rows.fnAddressRow.laid w) ∧ sizedMet enc Tryz.prog Tryz.f6 (OpenSpec.ofChange Rows.fnAddressSpec) false w args)
      (Rows.fnAddressSpec.post enc Tryz.prog Tryz.f6 false true false false) := by
  refine returnsInHanded_of_change_and (C := Tryz.checked) (X := fun w _ => laidMetH Tryz.prog Rows.fnAddressRow.laid w) (fun _ _ _ hh h => h.of_heap hh) knob started (by kernel_rfl) Tryz.func6
    (ChangeSpec.witness_shaped (enc := enc) (C := Tryz.checked) (os := os) (X := fun w _ => laidMetH Tryz.prog Rows.fnAddressRow.laid w) false (startA os) #[.slice none 0 0, .agg #[.slice none 0 0, .slice none 0 0, .bool false, .bool false, .slice none 0 0, .slice none 0 0, .slice none 0 0, .int .i64 0, .slice none 0 0, .slice none 0 0], .slice none 0 0, .int .i64 0] 8 rfl (World.shaped_of_RefB (by kernel_rfl) (by kernel_rfl)) (by kernel_rfl) (by kernel_rfl) (by kernel_rfl) (door_met os _)) ?_
  intro W base args ds gs before hval hW _ hz hL _
  exact contract H enc W base args ds gs before hval hW hz hL
theorem jf0 : (Rows.fnAddressRow.inPlace == Tryz.pinned.checked.prog.inPlace 6) = true := by kernel_rfl
theorem jf1 : (Rows.fnAddressRow.unfollowed == Tryz.pinned.checked.prog.unfollowed 6) = true := by kernel_rfl
theorem jf2 : (Rows.fnAddressRow.recurses == Tryz.pinned.checked.prog.recurses 6) = true := by kernel_rfl
theorem jf3 : (Rows.fnAddressRow.named == Tryz.pinned.checked.prog.varsNamed 6) = true := by kernel_rfl
theorem joined : joinedFacts Tryz.pinned.checked.prog 6 Tryz.f6 Rows.fnAddressSpec Rows.fnAddressRow = true := by
  unfold joinedFacts
  simp only [jf0, jf1, jf2, jf3, Bool.and_true]
  kernel_rfl
end Go.Proofs.YteedhaenbamiaaaGreatDoor.fnAddress
