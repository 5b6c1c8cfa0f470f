/-
  The law FnBigBezout holds for every input: it returns true, and its arguments read as before.
-/
import Derived.Test.YtacbllkmcldniaaGreatDoorLaw4
import Derived.Test.YtacbllkmcldniaaGreatDoorRowKit
import Derived.Test.YtacbllkmcldniaaGreatDoorFa4
import Derived.Test.YtacbllkmcldniaaGreatDoorFb4
import Derived.Test.YtacbllkmcldniaaGreatDoorFc4
set_option linter.unusedSimpArgs false
set_option linter.unusedVariables false
/-
  The law FnBigBezout holds for every input: it returns true, and its arguments read as before. Condition: the package variables are as the text of the program lays them.
-/
namespace Go.Proofs.YtacbllkmcldniaaGreatDoor
open Go.ChangeShapes Go.ChangeMaps Go.WideShapes Go.ChangeAt Go.WideElems Go.RowKit
set_option maxHeartbeats 400000
set_option maxRecDepth 100000

theorem laid_eq4 : Rows.fnBigBezoutRow.laid = Rows.fnBigCompareRow.laid := rfl
theorem lifted4 (os : Os) (started : os.Started) (H : Type) (enc : TypeId × Value → H) :
    ReturnsInHanded {} Tryz.checked os 4 .any (fun w args => (Rows.fnBigBezoutSpec.pre enc Tryz.prog Tryz.f4 [] false w args ∧ laidMetH Tryz.prog Rows.fnBigBezoutRow.laid w) ∧ sizedMet enc Tryz.prog Tryz.f4 (OpenSpec.ofChange Rows.fnBigBezoutSpec) false w args)
      (Rows.fnBigBezoutSpec.post enc Tryz.prog Tryz.f4 false true false false) := by
  refine returnsInHanded_of_change_and (C := Tryz.checked) (X := fun w _ => laidMetH Tryz.prog Rows.fnBigBezoutRow.laid w) (fun _ _ _ hh h => h.of_heap hh) own started (by kernel_rfl) Tryz.func4
    (ChangeSpec.witness_shaped (enc := enc) (C := Tryz.checked) (os := os) (X := fun w _ => laidMetH Tryz.prog Rows.fnBigBezoutRow.laid w) false (World.doorLaid Tryz.prog 400 os) #[.string ⟨#[]⟩, .string ⟨#[]⟩] 8 rfl (door_shaped os _) (by kernel_rfl) (by kernel_rfl) (by kernel_rfl) (by rw [laid_eq4]; exact door_met os _)) ?_
  intro W base args ds gs before hval0 hW _ _ hL _
  have hval : ∀ (j : Nat) t v, Tryz.f4.params[j]? = some t → args[j]? = some v → Value.okWide Tryz.prog W .any base t v := hval0
  have hW' := hW
  obtain ⟨p, q, hA0, hV, rfl, hfz, hnd⟩ := hW
  have hA : DataW.TrodAll enc Tryz.prog W 0 (fun _ => true) true Tryz.f4.params.toList args.toList ds p := hA0
  rw [Tryz.params4] at hA hval
  obtain ⟨v0, v1, d0, d1, p0, p1, rfl, rfl, rfl, h0, h1⟩ := trodAll_two hA
  obtain ⟨rfl, rfl⟩ := trodVars_none hV
  obtain ⟨a, rfl, rfl, rfl, wa⟩ := open_string Tryz.underlying9 (hval 0 9 v0 rfl rfl) h0
  obtain ⟨b, rfl, rfl, rfl, wb⟩ := open_string Tryz.underlying9 (hval 1 9 v1 rfl rfl) h1
  rw [laid_eq4] at hL
  have hG : Glob W := glob_of_laid hL
  clear hA0 hval0
  simp only [List.append_nil] at hW'
  refine (law4 a b W hG (by unfold maxLen at wa; omega) (by unfold maxLen at wb; omega)).mono fun e W' ⟨he, hw⟩ => ?_
  subst he
  exact ⟨_, rfl, post_of_below (pa := []) (pv := []) hW' (fun _ _ _ => trodAll_mk1 (shut_bool Tryz.underlying4 _)) (fun sp _ => trodAll_mk2 (shut_string Tryz.underlying9 wa) (shut_string Tryz.underlying9 wb)) (fun _ _ => rfl) rfl (hw.below (fun _ _ h => h)) (ok_one (by kernel_rfl) rfl (okWide_bool_mk Tryz.underlying4 _))⟩

theorem facts4 : joinedFacts Tryz.pinned.checked.prog 4 Tryz.f4 Rows.fnBigBezoutSpec Rows.fnBigBezoutRow = true := by
  unfold joinedFacts
  rw [f4_inPlace, f4_unfollowed, f4_recurses, f4_named]
  kernel_rfl
theorem fnBigBezout_holds : Rows.FnBigBezoutSaid :=
  OpenClaim.holds_of_wide 4 Tryz.f4 rfl rfl rfl rfl rfl rfl rfl ⟨rfl, rfl, rfl, rfl, rfl⟩ rfl rfl rfl rfl rfl (by kernel_rfl) Tryz.func4 facts4
    (of_decide_eq_true (by kernel_rfl)) (by unfold Func.isWrapper; first | (rw [if_pos (by decide +kernel)]; kernel_rfl) | (rw [if_neg (by decide +kernel)]; exact ⟨rfl, rfl⟩))
    (fun os started H enc _ => lifted4 os started H enc)

theorem card4 : Rows.FnBigBezoutCardSaid :=
  Claim7.holds_tied_plain_at .later [] [.data, .data, .sentinel, .sentinel, .sentinel, .data, .data, .data, .data, .data] true (true, "71d9d33acf8f25ae85008959926334cc9b95db1af76cb41861a174f407db859f") true
    fnBigBezout_holds (fun _ h => by cases h) f4_wf (fun _ h => by cases h) fnBigBezout_row_tie rfl ⟨rfl, rfl⟩ p_mainIs rfl
    (fun f fn hf hfn => by
      obtain rfl : f = 4 := Option.some.inj ((show Tryz.prog.funcNamed "pub-gyrfalcon/laws.FnBigBezout" = some 4 by kernel_rfl).symm.trans hf) |>.symm
      obtain rfl : fn = Tryz.f4 := (Option.some.inj (Tryz.func4.symm.trans hfn)).symm
      exact ⟨p_looks, fun j t ht => by
        rw [Tryz.params4] at ht
        have hm : t ∈ [9, 9] := by simpa using Array.mem_of_getElem? ht
        have hall : ([9, 9].all fun u => !Tryz.prog.wantsStandIn u) = true := by kernel_rfl
        exact (show Tryz.prog.wantsStandIn t = false by simpa using List.all_eq_true.1 hall t hm)⟩)
    f4_goes
#print axioms card4
end Go.Proofs.YtacbllkmcldniaaGreatDoor
