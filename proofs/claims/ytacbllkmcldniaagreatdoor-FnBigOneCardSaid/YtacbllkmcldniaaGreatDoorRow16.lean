/-
  The law FnBigOne holds for every input: it returns true, and its arguments read as before.
-/
import Derived.Test.YtacbllkmcldniaaGreatDoorOneE
import Derived.Test.YtacbllkmcldniaaGreatDoorRowKit
import Derived.Test.YtacbllkmcldniaaGreatDoorFa16
import Derived.Test.YtacbllkmcldniaaGreatDoorFb16
import Derived.Test.YtacbllkmcldniaaGreatDoorFc16
set_option linter.unusedSimpArgs false
set_option linter.unusedVariables false
/-
  The law FnBigOne holds for every input: it returns true, and its arguments read as before. Condition: the package variables are as the text of the program lays them.
-/
namespace Go.Proofs.YtacbllkmcldniaaGreatDoor
open Go.ChangeShapes Go.ChangeMaps Go.WideShapes Go.ChangeAt Go.WideElems Go.RowKit
set_option maxHeartbeats 400000
set_option maxRecDepth 100000

theorem laid_eq16 : Rows.fnBigOneRow.laid = Rows.fnBigCompareRow.laid := rfl
theorem lifted16 (os : Os) (started : os.Started) (H : Type) (enc : TypeId × Value → H) :
    ReturnsInHanded {} Tryz.checked os 16 .any (fun w args => (Rows.fnBigOneSpec.pre enc Tryz.prog Tryz.f16 [] false w args ∧ laidMetH Tryz.prog Rows.fnBigOneRow.laid w) ∧ sizedMet enc Tryz.prog Tryz.f16 (OpenSpec.ofChange Rows.fnBigOneSpec) false w args)
      (Rows.fnBigOneSpec.post enc Tryz.prog Tryz.f16 false true false false) := by
  refine returnsInHanded_of_change_and (C := Tryz.checked) (X := fun w _ => laidMetH Tryz.prog Rows.fnBigOneRow.laid w) (fun _ _ _ hh h => h.of_heap hh) own started (by kernel_rfl) Tryz.func16
    (ChangeSpec.witness_shaped (enc := enc) (C := Tryz.checked) (os := os) (X := fun w _ => laidMetH Tryz.prog Rows.fnBigOneRow.laid w) false (World.doorLaid Tryz.prog 400 os) #[.int .u8 0, .string ⟨#[]⟩, .bool false] 8 rfl (door_shaped os _) (by kernel_rfl) (by kernel_rfl) (by kernel_rfl) (by rw [laid_eq16]; exact door_met os _)) ?_
  intro W base args ds gs before hval0 hW _ _ hL _
  have hval : ∀ (j : Nat) t v, Tryz.f16.params[j]? = some t → args[j]? = some v → Value.okWide Tryz.prog W .any base t v := hval0
  have hW' := hW
  obtain ⟨p, q, hA0, hV, rfl, hfz, hnd⟩ := hW
  have hA : DataW.TrodAll enc Tryz.prog W 0 (fun _ => true) true Tryz.f16.params.toList args.toList ds p := hA0
  rw [Tryz.params16] at hA hval
  obtain ⟨v0, v1, v2, d0, d1, d2, p0, p1, p2, rfl, rfl, rfl, h0, h1, h2⟩ := trodAll_three hA
  obtain ⟨rfl, rfl⟩ := trodVars_none hV
  obtain ⟨a, rfl, rfl, rfl, wa⟩ := open_int Tryz.underlying5 (hval 0 5 v0 rfl rfl) h0
  obtain ⟨b, rfl, rfl, rfl, wb⟩ := open_string Tryz.underlying9 (hval 1 9 v1 rfl rfl) h1
  obtain ⟨c, rfl, rfl, rfl⟩ := open_bool Tryz.underlying4 (hval 2 4 v2 rfl rfl) h2
  rw [laid_eq16] at hL
  have hG : Glob W := glob_of_laid hL
  clear hA0 hval0
  simp only [List.append_nil] at hW'
  have e5 : IntKind.u8.min = 0 := by decide +kernel
  have e6 : IntKind.u8.max = 255 := by decide +kernel
  have wa' := wa
  simp [Lit.wf, e5, e6] at wa'
  obtain ⟨u, rfl⟩ := Int.eq_ofNat_of_zero_le (show 0 ≤ a by omega)
  refine (law16 u b c W hG (by omega) (by unfold maxLen at wb; omega)).mono fun e W' ⟨he, hw⟩ => ?_
  subst he
  exact ⟨_, rfl, post_of_below (pa := []) (pv := []) hW' (fun _ _ _ => trodAll_mk1 (shut_bool Tryz.underlying4 _)) (fun sp _ => trodAll_mk3 (shut_int Tryz.underlying5 wa) (shut_string Tryz.underlying9 wb) (shut_bool Tryz.underlying4 _)) (fun _ _ => rfl) rfl (hw.below (fun _ _ h => h)) (ok_one (by kernel_rfl) rfl (okWide_bool_mk Tryz.underlying4 _))⟩

theorem facts16 : joinedFacts Tryz.pinned.checked.prog 16 Tryz.f16 Rows.fnBigOneSpec Rows.fnBigOneRow = true := by
  unfold joinedFacts
  rw [f16_inPlace, f16_unfollowed, f16_recurses, f16_named]
  kernel_rfl
theorem fnBigOne_holds : Rows.FnBigOneSaid :=
  OpenClaim.holds_of_wide 16 Tryz.f16 rfl rfl rfl rfl rfl rfl rfl ⟨rfl, rfl, rfl, rfl, rfl⟩ rfl rfl rfl rfl rfl (by kernel_rfl) Tryz.func16 facts16
    (of_decide_eq_true (by kernel_rfl)) (by unfold Func.isWrapper; first | (rw [if_pos (by decide +kernel)]; kernel_rfl) | (rw [if_neg (by decide +kernel)]; exact ⟨rfl, rfl⟩))
    (fun os started H enc _ => lifted16 os started H enc)

theorem card16 : Rows.FnBigOneCardSaid :=
  Claim7.holds_tied_plain_at .later [] [.data, .data, .sentinel, .sentinel, .sentinel, .data, .data, .data, .data, .data] true (true, "71d9d33acf8f25ae85008959926334cc9b95db1af76cb41861a174f407db859f") true
    fnBigOne_holds (fun _ h => by cases h) f16_wf (fun _ h => by cases h) fnBigOne_row_tie rfl ⟨rfl, rfl⟩ p_mainIs rfl
    (fun f fn hf hfn => by
      obtain rfl : f = 16 := Option.some.inj ((show Tryz.prog.funcNamed "pub-gyrfalcon/laws.FnBigOne" = some 16 by kernel_rfl).symm.trans hf) |>.symm
      obtain rfl : fn = Tryz.f16 := (Option.some.inj (Tryz.func16.symm.trans hfn)).symm
      exact ⟨p_looks, fun j t ht => by
        rw [Tryz.params16] at ht
        have hm : t ∈ [5, 9, 4] := by simpa using Array.mem_of_getElem? ht
        have hall : ([5, 9, 4].all fun u => !Tryz.prog.wantsStandIn u) = true := by kernel_rfl
        exact (show Tryz.prog.wantsStandIn t = false by simpa using List.all_eq_true.1 hall t hm)⟩)
    f16_goes
#print axioms card16
end Go.Proofs.YtacbllkmcldniaaGreatDoor
