/- Parts of the proofs over the numbers of any length: Made. -/
import Derived.Test.YtacbllkmcldniaaGreatDoorIntA
set_option linter.unusedSimpArgs false
set_option linter.unusedVariables false
namespace Go.Proofs
open Go.RowKit
set_option maxHeartbeats 400000
set_option linter.unusedVariables false
set_option linter.unusedSimpArgs false
set_option maxRecDepth 100000

theorem newBigInt97 (x : Int) (w : World) (h1 : -9223372036854775808 ≤ x) (h2 : x < 9223372036854775808) :
    Calls Tryz.prog 97 #[.int .i64 x] w fun e w' => e = .returned (.pointer (some ⟨w.heap.size, 0, none⟩)) ∧ IntAt w' w.heap.size 105 x ∧ Keeps (fun _ => False) w w' := by
  have H := hid (w96 ⟨w.heap.size, 0, none⟩ x (w.alloc (.cells #[.bool false, .slice none 0 0] 105)) (IntRes (w.alloc (.cells #[.bool false, .slice none 0 0] 105)) w.heap.size 105 none 0 x)
    ((setInt64_163 w.heap.size 105 0 none 0 0 x _ (intS_new w 105) h1 h2).mono (fun e w' ⟨he, hr⟩ => ⟨⟨_, he⟩, hr⟩)))
  go_enter Tryz.func97, Tryz.ntmps97
  go_wp2_with fail
  refine H.out.mono ?_
  rintro e w1 ⟨rfl, a, l, c, h3, h4, h5⟩
  have H3 := hid h3; have H4 := hid h4; have H5 := hid h5
  clear h3 h4 h5 H
  go_wp2_with fail
  go_ret
  refine ⟨rfl, ⟨a, l, c, H3.out.row, H3.out.rd⟩, ((Keeps.refl _ w).alloc _).fresh H5.out ?_⟩
  rintro i (rfl | ⟨o, ho⟩)
  · exact Nat.le_refl _
  · cases ho

theorem mathBigInt99 (px tx : Nat) (x : Int) (ax : Option Addr) (lx cx : Nat) (w : World) (hx : IntS w px tx x ax lx cx) (hlx : lx ≤ 400000) :
    Calls Tryz.prog 99 #[.pointer (some ⟨px, 0, none⟩)] w fun e w' => e = .returned (.pointer (some ⟨w.heap.size, 0, none⟩)) ∧ (∃ a c, IntS w' w.heap.size 103 x a lx c ∧ Into w none 0 a c) ∧ Keeps (fun _ => False) w w' := by
  have hk0 : Keeps (fun _ => False) w (w.alloc (.cells #[.bool false, .slice none 0 0] 103)) := (Keeps.refl _ w).alloc _
  have hne : w.heap.size ≠ px := by have := hx.row.lt; omega
  have H := hid (set160_other w.heap.size px 103 tx 0 x none ax 0 0 lx cx _ (intS_new w 103) (hx.keep hk0 (fun h => h) (fun _ _ h => h)) hne (fun k hk => by obtain ⟨o, ho⟩ := hk; cases ho) hlx)
  have HL := hid hx.rd.length
  clear hx
  go_enter Tryz.func99, Tryz.ntmps99
  go_wp2_with fail
  refine H.out.mono ?_
  rintro e w1 ⟨rfl, a, l, c, h3, h4, h5⟩
  have H3 := hid h3; have H4 := hid h4; have H5 := hid h5
  clear h3 h4 h5 H
  go_wp2_with fail
  go_ret
  have hl : l = lx := by rw [← H3.out.rd.length, ← HL.out]
  subst hl
  refine ⟨rfl, ⟨a, c, H3.out, H4.out.mono (by simp)⟩, ((Keeps.refl _ w).alloc _).fresh H5.out ?_⟩
  rintro i (rfl | ⟨o, ho⟩)
  · exact Nat.le_refl _
  · cases ho
end Go.Proofs
