/-
  The law FnBigPower holds for every input: it returns true, and its arguments read as before.
-/
import Derived.Test.YtacbllkmcldniaaGreatDoorLawP
import Derived.Test.YtacbllkmcldniaaGreatDoorRowKit
import Derived.Test.YtacbllkmcldniaaGreatDoorFa12
import Derived.Test.YtacbllkmcldniaaGreatDoorFb12
import Derived.Test.YtacbllkmcldniaaGreatDoorFc12
set_option linter.unusedSimpArgs false
set_option linter.unusedVariables false
/-
  The law FnBigPower holds for every input: it returns true, and its arguments read as before. Condition: the package variables are as the text of the program lays them.
-/
namespace Go.Proofs.YtacbllkmcldniaaGreatDoor
open Go.ChangeShapes Go.ChangeMaps Go.WideShapes Go.ChangeAt Go.WideElems Go.RowKit
set_option maxHeartbeats 400000
set_option maxRecDepth 100000

theorem laid_eq12 : Rows.fnBigPowerRow.laid = Rows.fnBigCompareRow.laid := rfl
theorem lifted12 (os : Os) (started : os.Started) (H : Type) (enc : TypeId × Value → H) :
    ReturnsInHanded {} Tryz.checked os 12 .any (fun w args => (Rows.fnBigPowerSpec.pre enc Tryz.prog Tryz.f12 [] false w args ∧ laidMetH Tryz.prog Rows.fnBigPowerRow.laid w) ∧ sizedMet enc Tryz.prog Tryz.f12 (OpenSpec.ofChange Rows.fnBigPowerSpec) false w args)
      (Rows.fnBigPowerSpec.post enc Tryz.prog Tryz.f12 false true false false) := by
  refine returnsInHanded_of_change_and (C := Tryz.checked) (X := fun w _ => laidMetH Tryz.prog Rows.fnBigPowerRow.laid w) (fun _ _ _ hh h => h.of_heap hh) own started (by kernel_rfl) Tryz.func12
    (ChangeSpec.witness_shaped (enc := enc) (C := Tryz.checked) (os := os) (X := fun w _ => laidMetH Tryz.prog Rows.fnBigPowerRow.laid w) false (World.doorLaid Tryz.prog 400 os) #[.string ⟨#[]⟩, .int .u32 0, .string ⟨#[]⟩] 8 rfl (door_shaped os _) (by kernel_rfl) (by kernel_rfl) (by kernel_rfl) (by rw [laid_eq12]; exact door_met os _)) ?_
  intro W base args ds gs before hval0 hW _ _ hL _
  have hval : ∀ (j : Nat) t v, Tryz.f12.params[j]? = some t → args[j]? = some v → Value.okWide Tryz.prog W .any base t v := hval0
  have hW' := hW
  obtain ⟨p, q, hA0, hV, rfl, hfz, hnd⟩ := hW
  have hA : DataW.TrodAll enc Tryz.prog W 0 (fun _ => true) true Tryz.f12.params.toList args.toList ds p := hA0
  rw [Tryz.params12] at hA hval
  obtain ⟨v0, v1, v2, d0, d1, d2, p0, p1, p2, rfl, rfl, rfl, h0, h1, h2⟩ := trodAll_three hA
  obtain ⟨rfl, rfl⟩ := trodVars_none hV
  obtain ⟨a, rfl, rfl, rfl, wa⟩ := open_string Tryz.underlying9 (hval 0 9 v0 rfl rfl) h0
  obtain ⟨b, rfl, rfl, rfl, wb⟩ := open_int Tryz.underlying68 (hval 1 68 v1 rfl rfl) h1
  obtain ⟨c, rfl, rfl, rfl, wc⟩ := open_string Tryz.underlying9 (hval 2 9 v2 rfl rfl) h2
  rw [laid_eq12] at hL
  have hG : Glob W := glob_of_laid hL
  clear hA0 hval0
  simp only [List.append_nil] at hW'
  have e5 : IntKind.u32.min = 0 := by decide +kernel
  have e6 : IntKind.u32.max = 4294967295 := by decide +kernel
  have wb' := wb
  simp [Lit.wf, e5, e6] at wb'
  obtain ⟨u, rfl⟩ := Int.eq_ofNat_of_zero_le (show 0 ≤ b by omega)
  refine (law12 a u c W hG (by unfold maxLen at wa; omega) (by omega) (by unfold maxLen at wc; omega)).mono fun e W' ⟨he, hw⟩ => ?_
  subst he
  exact ⟨_, rfl, post_of_below (pa := []) (pv := []) hW' (fun _ _ _ => trodAll_mk1 (shut_bool Tryz.underlying4 _)) (fun sp _ => trodAll_mk3 (shut_string Tryz.underlying9 wa) (shut_int Tryz.underlying68 wb) (shut_string Tryz.underlying9 wc)) (fun _ _ => rfl) rfl (hw.below (fun _ _ h => h)) (ok_one (by kernel_rfl) rfl (okWide_bool_mk Tryz.underlying4 _))⟩

theorem facts12 : joinedFacts Tryz.pinned.checked.prog 12 Tryz.f12 Rows.fnBigPowerSpec Rows.fnBigPowerRow = true := by
  unfold joinedFacts
  rw [f12_inPlace, f12_unfollowed, f12_recurses, f12_named]
  kernel_rfl
theorem fnBigPower_holds : Rows.FnBigPowerSaid :=
  OpenClaim.holds_of_wide 12 Tryz.f12 rfl rfl rfl rfl rfl rfl rfl ⟨rfl, rfl, rfl, rfl, rfl⟩ rfl rfl rfl rfl rfl (by kernel_rfl) Tryz.func12 facts12
    (of_decide_eq_true (by kernel_rfl)) (by unfold Func.isWrapper; first | (rw [if_pos (by decide +kernel)]; kernel_rfl) | (rw [if_neg (by decide +kernel)]; exact ⟨rfl, rfl⟩))
    (fun os started H enc _ => lifted12 os started H enc)

theorem card12 : Rows.FnBigPowerCardSaid :=
  Claim7.holds_tied_plain_at .later [] [.data, .data, .sentinel, .sentinel, .sentinel, .data, .data, .data, .data, .data] true (true, "71d9d33acf8f25ae85008959926334cc9b95db1af76cb41861a174f407db859f") true
    fnBigPower_holds (fun _ h => by cases h) f12_wf (fun _ h => by cases h) fnBigPower_row_tie rfl ⟨rfl, rfl⟩ p_mainIs rfl
    (fun f fn hf hfn => by
      obtain rfl : f = 12 := Option.some.inj ((show Tryz.prog.funcNamed "pub-gyrfalcon/laws.FnBigPower" = some 12 by kernel_rfl).symm.trans hf) |>.symm
      obtain rfl : fn = Tryz.f12 := (Option.some.inj (Tryz.func12.symm.trans hfn)).symm
      exact ⟨p_looks, fun j t ht => by
        rw [Tryz.params12] at ht
        have hm : t ∈ [9, 68, 9] := by simpa using Array.mem_of_getElem? ht
        have hall : ([9, 68, 9].all fun u => !Tryz.prog.wantsStandIn u) = true := by kernel_rfl
        exact (show Tryz.prog.wantsStandIn t = false by simpa using List.all_eq_true.1 hall t hm)⟩)
    f12_goes
#print axioms card12
end Go.Proofs.YtacbllkmcldniaaGreatDoor
