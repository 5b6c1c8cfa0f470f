/- Parts of the proofs over the numbers of any length: Not. -/
import Derived.Test.YtacbllkmcldniaaGreatDoorShiftA
import Derived.Test.YtacbllkmcldniaaGreatDoorIntA
set_option linter.unusedSimpArgs false
set_option linter.unusedVariables false
namespace Go.Proofs
open Go.RowKit
set_option maxHeartbeats 1000000
set_option linter.unusedVariables false
set_option linter.unusedSimpArgs false
set_option maxRecDepth 100000

theorem words_len_zero (N : Nat) : (words N).length = 0 ↔ N = 0 := by
  constructor
  · intro h
    by_cases h0 : N = 0
    · exact h0
    · exact absurd h (by have := words_mono (show 1 ≤ N by omega); rw [words_one] at this; simp at this; omega)
  · rintro rfl
    rw [words_zero]; rfl

/-- Neg, by what Set does. -/
theorem neg183_of (pz px tz : Nat) (x : Int) (az : Option Addr) (cz : Nat) (w : World)
    (h : Calls Tryz.prog 160 #[.pointer (some ⟨pz, 0, none⟩), .pointer (some ⟨px, 0, none⟩)] w fun e w' => e = .returned (.pointer (some ⟨pz, 0, none⟩)) ∧ IntRes w pz tz az cz x w') :
    Calls Tryz.prog 183 #[.pointer (some ⟨pz, 0, none⟩), .pointer (some ⟨px, 0, none⟩)] w fun e w' => e = .returned (.pointer (some ⟨pz, 0, none⟩)) ∧ IntRes w pz tz az cz (-x) w' := by
  have H := hid h
  clear h
  go_enter Tryz.func183, Tryz.ntmps183
  go_wp2_with fail
  refine H.out.mono ?_
  rintro e w1 ⟨rfl, a, l, c, hI, hin, hk⟩
  obtain ⟨z1, z2, z3, z4⟩ := hI.row.facts
  have hl := hI.rd.length
  have HI := hid hI; have HN := hid hin; have HK := hid hk
  have hwl := words_len_zero x.natAbs
  rcases Int.lt_trichotomy x 0 with hx | hx | hx
  · rw [decide_eq_true hx] at z1
    have t1 : decide (0 < l) = true := by simp; omega
    have t2 : decide ((0 : Int) < (l : Int)) = true := by simp; omega
    have HX := hid hx
    clear hI hin hk hl hwl hx H
    go_wp2_with fail
    go_ret
    exact ⟨rfl, IntRes.sign HI.out.row HI.out.rd HN.out HK.out (by have := HX.out; simp; omega) (by omega)⟩
  · have t1 : decide (0 < l) = false := by simp; omega
    have t2 : decide ((0 : Int) < (l : Int)) = false := by simp; omega
    have HX := hid hx
    clear hI hin hk hl hwl hx H
    go_wp2_with fail
    go_ret
    exact ⟨rfl, IntRes.sign HI.out.row HI.out.rd HN.out HK.out (by have := HX.out; simp; omega) (by omega)⟩
  · rw [decide_eq_false (show ¬ x < 0 by omega)] at z1
    have t1 : decide (0 < l) = true := by simp; omega
    have t2 : decide ((0 : Int) < (l : Int)) = true := by simp; omega
    have HX := hid hx
    clear hI hin hk hl hwl hx H
    go_wp2_with fail
    go_ret
    exact ⟨rfl, IntRes.sign HI.out.row HI.out.rd HN.out HK.out (by have := HX.out; simp; omega) (by omega)⟩

/-- Abs, by what Set does. -/
theorem abs184_of (pz px tz : Nat) (x : Int) (az : Option Addr) (cz : Nat) (w : World)
    (h : Calls Tryz.prog 160 #[.pointer (some ⟨pz, 0, none⟩), .pointer (some ⟨px, 0, none⟩)] w fun e w' => e = .returned (.pointer (some ⟨pz, 0, none⟩)) ∧ IntRes w pz tz az cz x w') :
    Calls Tryz.prog 184 #[.pointer (some ⟨pz, 0, none⟩), .pointer (some ⟨px, 0, none⟩)] w fun e w' => e = .returned (.pointer (some ⟨pz, 0, none⟩)) ∧ IntRes w pz tz az cz (x.natAbs : Int) w' := by
  have H := hid h
  clear h
  go_enter Tryz.func184, Tryz.ntmps184
  go_wp2_with fail
  refine H.out.mono ?_
  rintro e w1 ⟨rfl, a, l, c, hI, hin, hk⟩
  obtain ⟨z1, z2, z3, z4⟩ := hI.row.facts
  have HI := hid hI; have HN := hid hin; have HK := hid hk
  clear hI hin hk H
  go_wp2_with fail
  go_ret
  exact ⟨rfl, IntRes.sign HI.out.row HI.out.rd HN.out HK.out (by simp) (by omega)⟩

theorem not185 (pz px tz tx : Nat) (z x : Int) (az ax : Option Addr) (lz cz lx cx : Nat) (w : World) (hz : IntS w pz tz z az lz cz) (hx : IntS w px tx x ax lx cx)
    (hax : SoA az lz cz ax lx cx) (hlx : lx ≤ 100000) :
    Calls Tryz.prog 185 #[.pointer (some ⟨pz, 0, none⟩), .pointer (some ⟨px, 0, none⟩)] w fun e w' => e = .returned (.pointer (some ⟨pz, 0, none⟩)) ∧ IntRes w pz tz az cz (-x - 1) w' := by
  have Hz := hid hz; have Hx := hid hx
  obtain ⟨z1, z2, z3, z4⟩ := hz.row.facts
  obtain ⟨x1, x2, _, _⟩ := hx.row.facts
  have HOne := hid (natOne_any w.drew)
  have hS : Hid (∀ w', Keeps (InB az) w w' → (w'.cell? ⟨pz, 0, none⟩ = some (.bool (decide (z < 0))) ∧ w'.cell? ⟨pz, 1, none⟩ = some (.slice az lz cz) ∧ w'.frozen? ⟨pz, 0, none⟩ = false ∧ w'.frozen? ⟨pz, 1, none⟩ = false) ∧ w'.cell? ⟨px, 1, none⟩ = some (.slice ax lx cx)) := hid (fun w' hk => ⟨hz.row.after hk (hz.rd.not_row hz.row), (hx.row.after hk (hz.rd.not_row hx.row)).2.1⟩)
  have HK0 : Hid (Keeps (fun _ => False) w w.drew) := hid (Keeps.refl _ w).drew
  have hlz := hz.rd.len_le
  by_cases hneg : x < 0
  · rw [decide_eq_true hneg] at x1
    have HSub : Hid (∀ w1 b, Rd w1 (some ⟨b, 0, none⟩) 1 1 (words 1) → w.heap.size ≤ b → Keeps (fun _ => False) w w1 → Calls Tryz.prog 197 #[.slice az lz cz, .slice ax lx cx, .slice (some ⟨b, 0, none⟩) 1 1] w1 (NatRes w az cz (x.natAbs - 1))) :=
      hid (fun w1 b h1 h2 h3 => sub_one hz.rd hx.rd hax.al (by omega) (by omega) h1 h2 h3)
    have Hneg := hid hneg
    clear hz hx hax hneg hlz
    go_enter Tryz.func185, Tryz.ntmps185
    go_upto_region 2 with fail
    go_region_law (first
      | (go_simp; go_at_call 202; (with_reducible refine HOne.out.mono ?_); rintro e w1 ⟨b, rfl, h1, h2, h3⟩; have H1 := hid h1; have H2 := hid (show w.heap.size ≤ b from h2); have HK1 := hid (HK0.out.trans h3); obtain ⟨⟨y1, y2, y3, y4⟩, y5⟩ := hS.out _ HK1.out.any; clear h1 h2 h3)
      | (go_simp; go_at_call 197; (with_reducible refine (HSub.out _ _ H1.out H2.out HK1.out).mono ?_); rintro e w2 ⟨ra, rl, rc, rfl, h1, h2, h3⟩; have HR := hid h1; have HI := hid h2; have HK := hid h3; obtain ⟨⟨v1, v2, v3, v4⟩, v5⟩ := hS.out _ HK.out; clear h1 h2 h3))
    all_goals go_wp2_with fail
    all_goals go_ret
    all_goals exact ⟨rfl, IntRes.both (HK.out.row Hz.out.row (Hz.out.rd.not_row Hz.out.row)) HR.out HI.out (HK.out.mono (fun i _ h => .inr h)) (by have := Hneg.out; simp; omega) (by have := Hneg.out; omega)⟩
  · rw [decide_eq_false hneg] at x1
    have HAdd : Hid (∀ w1 b, Rd w1 (some ⟨b, 0, none⟩) 1 1 (words 1) → w.heap.size ≤ b → Keeps (fun _ => False) w w1 → Calls Tryz.prog 195 #[.slice az lz cz, .slice ax lx cx, .slice (some ⟨b, 0, none⟩) 1 1] w1 (NatRes w az cz (x.natAbs + 1))) :=
      hid (fun w1 b h1 h2 h3 => add_one hz.rd hx.rd hax.al (by omega) h1 h2 h3)
    have Hneg := hid hneg
    clear hz hx hax hneg hlz
    go_enter Tryz.func185, Tryz.ntmps185
    go_upto_region 5 with fail
    go_region_law (first
      | (go_simp; go_at_call 202; (with_reducible refine HOne.out.mono ?_); rintro e w1 ⟨b, rfl, h1, h2, h3⟩; have H1 := hid h1; have H2 := hid (show w.heap.size ≤ b from h2); have HK1 := hid (HK0.out.trans h3); obtain ⟨⟨y1, y2, y3, y4⟩, y5⟩ := hS.out _ HK1.out.any; clear h1 h2 h3)
      | (go_simp; go_at_call 195; (with_reducible refine (HAdd.out _ _ H1.out H2.out HK1.out).mono ?_); rintro e w2 ⟨ra, rl, rc, rfl, h1, h2, h3⟩; have HR := hid h1; have HI := hid h2; have HK := hid h3; obtain ⟨⟨v1, v2, v3, v4⟩, v5⟩ := hS.out _ HK.out; clear h1 h2 h3))
    all_goals go_wp2_with fail
    all_goals go_ret
    all_goals exact ⟨rfl, IntRes.both (HK.out.row Hz.out.row (Hz.out.rd.not_row Hz.out.row)) HR.out HI.out (HK.out.mono (fun i _ h => .inr h)) (by have := Hneg.out; simp; omega) (by have := Hneg.out; omega)⟩
end Go.Proofs
