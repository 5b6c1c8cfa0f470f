/-
  The law FnBigMade holds for every int64 and every uint64: the numbers made of them have the texts that the reference gives. Condition: the package variables are as the text of the program lays them.
-/
import Derived.Test.YtacbllkmcldniaaGreatDoorMadeA
import Derived.Test.YtacbllkmcldniaaGreatDoorRowKit
import Derived.Test.YtacbllkmcldniaaGreatDoorFa8
import Derived.Test.YtacbllkmcldniaaGreatDoorFb8
import Derived.Test.YtacbllkmcldniaaGreatDoorFc8
set_option linter.unusedSimpArgs false
set_option linter.unusedVariables false
/-
  The law FnBigMade holds for every input: it returns true, and its arguments read as before. Condition: the package variables are as the text of the program lays them.
-/
namespace Go.Proofs.YtacbllkmcldniaaGreatDoor
open Go.ChangeShapes Go.ChangeMaps Go.WideShapes Go.ChangeAt Go.WideElems Go.RowKit
set_option maxHeartbeats 400000
set_option maxRecDepth 100000

theorem laid_eq8 : Rows.fnBigMadeRow.laid = Rows.fnBigCompareRow.laid := rfl
theorem lifted8 (os : Os) (started : os.Started) (H : Type) (enc : TypeId × Value → H) :
    ReturnsInHanded {} Tryz.checked os 8 .any (fun w args => (Rows.fnBigMadeSpec.pre enc Tryz.prog Tryz.f8 [] false w args ∧ laidMetH Tryz.prog Rows.fnBigMadeRow.laid w) ∧ sizedMet enc Tryz.prog Tryz.f8 (OpenSpec.ofChange Rows.fnBigMadeSpec) false w args)
      (Rows.fnBigMadeSpec.post enc Tryz.prog Tryz.f8 false true false false) := by
  refine returnsInHanded_of_change_and (C := Tryz.checked) (X := fun w _ => laidMetH Tryz.prog Rows.fnBigMadeRow.laid w) (fun _ _ _ hh h => h.of_heap hh) own started (by kernel_rfl) Tryz.func8
    (ChangeSpec.witness_shaped (enc := enc) (C := Tryz.checked) (os := os) (X := fun w _ => laidMetH Tryz.prog Rows.fnBigMadeRow.laid w) false (World.doorLaid Tryz.prog 400 os) #[.int .i64 0, .int .u64 0] 8 rfl (door_shaped os _) (by kernel_rfl) (by kernel_rfl) (by kernel_rfl) (by rw [laid_eq8]; exact door_met os _)) ?_
  intro W base args ds gs before hval0 hW _ _ hL _
  have hval : ∀ (j : Nat) t v, Tryz.f8.params[j]? = some t → args[j]? = some v → Value.okWide Tryz.prog W .any base t v := hval0
  have hW' := hW
  obtain ⟨p, q, hA0, hV, rfl, hfz, hnd⟩ := hW
  have hA : DataW.TrodAll enc Tryz.prog W 0 (fun _ => true) true Tryz.f8.params.toList args.toList ds p := hA0
  rw [Tryz.params8] at hA hval
  obtain ⟨v0, v1, d0, d1, p0, p1, rfl, rfl, rfl, h0, h1⟩ := trodAll_two hA
  obtain ⟨rfl, rfl⟩ := trodVars_none hV
  obtain ⟨a, rfl, rfl, rfl, wa⟩ := open_int Tryz.underlying2 (hval 0 2 v0 rfl rfl) h0
  obtain ⟨b, rfl, rfl, rfl, wb⟩ := open_int Tryz.underlying49 (hval 1 49 v1 rfl rfl) h1
  rw [laid_eq8] at hL
  have hG : Glob W := glob_of_laid hL
  clear hA0 hval0
  simp only [List.append_nil] at hW'
  have e1 : IntKind.i64.min = -9223372036854775808 := by decide +kernel
  have e2 : IntKind.i64.max = 9223372036854775807 := by decide +kernel
  have e3 : IntKind.u64.min = 0 := by decide +kernel
  have e4 : IntKind.u64.max = 18446744073709551615 := by decide +kernel
  have wa' := wa
  have wb' := wb
  simp [Lit.wf, e1, e2] at wa'
  simp [Lit.wf, e3, e4] at wb'
  obtain ⟨u, rfl⟩ := Int.eq_ofNat_of_zero_le (show 0 ≤ b by omega)
  refine (law8 a u W hG (by omega) (by omega) (by unfold W64; omega)).mono fun e W' ⟨he, hw⟩ => ?_
  subst he
  exact ⟨_, rfl, post_of_below (pa := []) (pv := []) hW' (fun _ _ _ => trodAll_mk1 (shut_bool Tryz.underlying4 _)) (fun sp _ => trodAll_mk2 (shut_int Tryz.underlying2 wa) (shut_int Tryz.underlying49 wb)) (fun _ _ => rfl) rfl (hw.below (fun _ _ h => h)) (ok_one (by kernel_rfl) rfl (okWide_bool_mk Tryz.underlying4 _))⟩

theorem facts8 : joinedFacts Tryz.pinned.checked.prog 8 Tryz.f8 Rows.fnBigMadeSpec Rows.fnBigMadeRow = true := by
  unfold joinedFacts
  rw [f8_inPlace, f8_unfollowed, f8_recurses, f8_named]
  kernel_rfl
theorem fnBigMade_holds : Rows.FnBigMadeSaid :=
  OpenClaim.holds_of_wide 8 Tryz.f8 rfl rfl rfl rfl rfl rfl rfl ⟨rfl, rfl, rfl, rfl, rfl⟩ rfl rfl rfl rfl rfl (by kernel_rfl) Tryz.func8 facts8
    (of_decide_eq_true (by kernel_rfl)) (by unfold Func.isWrapper; first | (rw [if_pos (by decide +kernel)]; kernel_rfl) | (rw [if_neg (by decide +kernel)]; exact ⟨rfl, rfl⟩))
    (fun os started H enc _ => lifted8 os started H enc)

theorem card8 : Rows.FnBigMadeCardSaid :=
  Claim7.holds_tied_plain_at .later [] [.data, .data, .sentinel, .sentinel, .sentinel, .data, .data, .data, .data, .data] true (true, "71d9d33acf8f25ae85008959926334cc9b95db1af76cb41861a174f407db859f") true
    fnBigMade_holds (fun _ h => by cases h) f8_wf (fun _ h => by cases h) fnBigMade_row_tie rfl ⟨rfl, rfl⟩ p_mainIs rfl
    (fun f fn hf hfn => by
      obtain rfl : f = 8 := Option.some.inj ((show Tryz.prog.funcNamed "pub-gyrfalcon/laws.FnBigMade" = some 8 by kernel_rfl).symm.trans hf) |>.symm
      obtain rfl : fn = Tryz.f8 := (Option.some.inj (Tryz.func8.symm.trans hfn)).symm
      exact ⟨p_looks, fun j t ht => by
        rw [Tryz.params8] at ht
        have hm : t ∈ [2, 49] := by simpa using Array.mem_of_getElem? ht
        have hall : ([2, 49].all fun u => !Tryz.prog.wantsStandIn u) = true := by kernel_rfl
        exact (show Tryz.prog.wantsStandIn t = false by simpa using List.all_eq_true.1 hall t hm)⟩)
    f8_goes
#print axioms card8
end Go.Proofs.YtacbllkmcldniaaGreatDoor
