/-
  The law FnBigBytes holds for every input: it returns true, and its arguments read as before.
-/
import Derived.Test.YtacbllkmcldniaaGreatDoorBytesD
import Derived.Test.YtacbllkmcldniaaGreatDoorRowKit
import Derived.Test.YtacbllkmcldniaaGreatDoorRawB
import Derived.Test.YtacbllkmcldniaaGreatDoorFa14
import Derived.Test.YtacbllkmcldniaaGreatDoorFb14
import Derived.Test.YtacbllkmcldniaaGreatDoorFc14
set_option linter.unusedSimpArgs false
set_option linter.unusedVariables false
/-
  The law FnBigBytes holds for every input: it returns true, and its arguments read as before. Condition: the package variables are as the text of the program lays them.
-/
namespace Go.Proofs.YtacbllkmcldniaaGreatDoor
open Go.ChangeShapes Go.ChangeMaps Go.WideShapes Go.ChangeAt Go.WideElems Go.RowKit
set_option maxHeartbeats 400000
set_option maxRecDepth 100000

theorem laidOut14 : laidOutB Tryz.prog = true := by kernel_rfl
theorem laid_eq14 : Rows.fnBigBytesRow.laid = Rows.fnBigCompareRow.laid := rfl
theorem lifted14 (os : Os) (started : os.Started) (H : Type) (enc : TypeId × Value → H) :
    ReturnsInHanded {} Tryz.checked os 14 .any (fun w args => (Rows.fnBigBytesSpec.pre enc Tryz.prog Tryz.f14 [] false w args ∧ laidMetH Tryz.prog Rows.fnBigBytesRow.laid w) ∧ sizedMet enc Tryz.prog Tryz.f14 (OpenSpec.ofChange Rows.fnBigBytesSpec) false w args)
      (Rows.fnBigBytesSpec.post enc Tryz.prog Tryz.f14 false true false false) := by
  refine returnsInHanded_of_change_and (C := Tryz.checked) (X := fun w _ => laidMetH Tryz.prog Rows.fnBigBytesRow.laid w) (fun _ _ _ hh h => h.of_heap hh) own started (by kernel_rfl) Tryz.func14
    (ChangeSpec.witness_shaped (enc := enc) (C := Tryz.checked) (os := os) (X := fun w _ => laidMetH Tryz.prog Rows.fnBigBytesRow.laid w) false (World.doorLaid Tryz.prog 400 os) #[.string ⟨#[]⟩, .int .u8 0, .slice none 0 0] 8 rfl (door_shaped os _) (by kernel_rfl) (by kernel_rfl) (by kernel_rfl) (by rw [laid_eq14]; exact door_met os _)) ?_
  intro W base args ds gs before hval0 hW _ _ hL _
  have hval : ∀ (j : Nat) t v, Tryz.f14.params[j]? = some t → args[j]? = some v → Value.okWide Tryz.prog W .any base t v := hval0
  have hW' := hW
  obtain ⟨p, q, hA0, hV, rfl, hfz, hnd⟩ := hW
  have hA : DataW.TrodAll enc Tryz.prog W 0 (fun _ => true) true Tryz.f14.params.toList args.toList ds p := hA0
  rw [Tryz.params14] at hA hval
  obtain ⟨v0, v1, v2, d0, d1, d2, p0, p1, p2, rfl, rfl, rfl, h0, h1, h2⟩ := trodAll_three hA
  obtain ⟨rfl, rfl⟩ := trodVars_none hV
  obtain ⟨a, rfl, rfl, rfl, wa⟩ := open_string Tryz.underlying9 (hval 0 9 v0 rfl rfl) h0
  obtain ⟨b, rfl, rfl, rfl, wb⟩ := open_int Tryz.underlying5 (hval 1 5 v1 rfl rfl) h1
  obtain ⟨a2, n2, c2, rfl⟩ := okWide_slice Tryz.underlying22 (hval 2 22 v2 rfl rfl)
  obtain ⟨c, hxs, hxc, hB, _, hxr, _⟩ := opened_bytes Tryz.underlying22 Tryz.underlying5 (by kernel_rfl) h2
  rw [laid_eq14] at hL
  have hG : Glob W := glob_of_laid hL
  clear hA0 hval0
  simp only [List.append_nil, List.nil_append] at hW'
  have e5 : IntKind.u8.min = 0 := by decide +kernel
  have e6 : IntKind.u8.max = 255 := by decide +kernel
  have wb' := wb
  simp [Lit.wf, e5, e6] at wb'
  obtain ⟨u, rfl⟩ := Int.eq_ofNat_of_zero_le (show 0 ≤ b by omega)
  have hlt : ∀ y ∈ p2, y.block < W.heap.size := fun y hy => by simpa using hW'.lt y hy
  obtain ⟨hraw, hrawl⟩ := bs_of_bytesIn hxs hxc hB hxr
  refine (law14 a u a2 n2 c2 _ W hG (by unfold maxLen at wa; omega) (by omega) hraw hrawl).mono fun e W' ⟨he, hw⟩ => ?_
  subst he
  exact ⟨_, rfl, post_of_below (pa := p2) (pv := []) hW' (fun _ _ _ => trodAll_mk1 (shut_bool Tryz.underlying4 _)) (fun sp hsp => trodAll_mk3 (shut_string Tryz.underlying9 wa) (shut_int Tryz.underlying5 wb) (Go.WideElems.Trod_stays laidOut14 (by kernel_rfl) (of_decide_eq_true (by kernel_rfl)) h2 (fun x hx => (hw.below (fun _ _ h => h)).same (hlt x hx)) (fun x hx => hsp x hx))) (fun _ _ => rfl) (List.append_nil _).symm (hw.below (fun _ _ h => h)) (ok_one (by kernel_rfl) rfl (okWide_bool_mk Tryz.underlying4 _))⟩

theorem facts14 : joinedFacts Tryz.pinned.checked.prog 14 Tryz.f14 Rows.fnBigBytesSpec Rows.fnBigBytesRow = true := by
  unfold joinedFacts
  rw [f14_inPlace, f14_unfollowed, f14_recurses, f14_named]
  kernel_rfl
theorem fnBigBytes_holds : Rows.FnBigBytesSaid :=
  OpenClaim.holds_of_wide 14 Tryz.f14 rfl rfl rfl rfl rfl rfl rfl ⟨rfl, rfl, rfl, rfl, rfl⟩ rfl rfl rfl rfl rfl (by kernel_rfl) Tryz.func14 facts14
    (of_decide_eq_true (by kernel_rfl)) (by unfold Func.isWrapper; first | (rw [if_pos (by decide +kernel)]; kernel_rfl) | (rw [if_neg (by decide +kernel)]; exact ⟨rfl, rfl⟩))
    (fun os started H enc _ => lifted14 os started H enc)

theorem card14 : Rows.FnBigBytesCardSaid :=
  Claim7.holds_tied_plain_at .later [] [.data, .data, .sentinel, .sentinel, .sentinel, .data, .data, .data, .data, .data] true (true, "71d9d33acf8f25ae85008959926334cc9b95db1af76cb41861a174f407db859f") true
    fnBigBytes_holds (fun _ h => by cases h) f14_wf (fun _ h => by cases h) fnBigBytes_row_tie rfl ⟨rfl, rfl⟩ p_mainIs rfl
    (fun f fn hf hfn => by
      obtain rfl : f = 14 := Option.some.inj ((show Tryz.prog.funcNamed "pub-gyrfalcon/laws.FnBigBytes" = some 14 by kernel_rfl).symm.trans hf) |>.symm
      obtain rfl : fn = Tryz.f14 := (Option.some.inj (Tryz.func14.symm.trans hfn)).symm
      exact ⟨p_looks, fun j t ht => by
        rw [Tryz.params14] at ht
        have hm : t ∈ [9, 5, 22] := by simpa using Array.mem_of_getElem? ht
        have hall : ([9, 5, 22].all fun u => !Tryz.prog.wantsStandIn u) = true := by kernel_rfl
        exact (show Tryz.prog.wantsStandIn t = false by simpa using List.all_eq_true.1 hall t hm)⟩)
    f14_goes
#print axioms card14
end Go.Proofs.YtacbllkmcldniaaGreatDoor
