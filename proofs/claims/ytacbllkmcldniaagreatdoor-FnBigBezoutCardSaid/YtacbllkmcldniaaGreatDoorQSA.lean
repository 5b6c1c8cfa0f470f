/- Parts of the proofs over the numbers of any length: QS. -/
import Derived.Test.YtacbllkmcldniaaGreatDoorBaseD
set_option linter.unusedSimpArgs false
set_option linter.unusedVariables false
namespace Go.Proofs
open Go.RowKit
set_option maxHeartbeats 1000000
set_option linter.unusedVariables false
set_option linter.unusedSimpArgs false
set_option maxRecDepth 100000

theorem quo_sign (x y : Int) : decide (x.tdiv y < 0) = (decide (x.natAbs / y.natAbs ≠ 0) && (decide (x < 0) != decide (y < 0))) := by
  have h : (x.tdiv y).natAbs = x.natAbs / y.natAbs := Int.natAbs_tdiv x y
  by_cases h0 : x.natAbs / y.natAbs = 0
  · have h1 : x.tdiv y = 0 := Int.natAbs_eq_zero.mp (by rw [h]; exact h0)
    rw [h1]; simp [h0]
  · have hx0 : x ≠ 0 := by rintro rfl; simp at h0
    have hy0 : y ≠ 0 := by rintro rfl; simp at h0
    have hne : x.tdiv y ≠ 0 := fun h1 => h0 (by rw [← h, h1]; rfl)
    have hs := Int.sign_tdiv x y
    by_cases hx : x < 0 <;> by_cases hy : y < 0
    · have : 0 ≤ x.tdiv y := by
        have := Int.tdiv_nonneg (a := -x) (b := -y) (by omega) (by omega)
        rwa [Int.neg_tdiv, Int.tdiv_neg, Int.neg_neg] at this
      rw [decide_eq_false (show ¬ x.tdiv y < 0 by omega)]; simp [hx, hy]
    · have : 0 ≤ (-x).tdiv y := Int.tdiv_nonneg (by omega) (by omega)
      rw [Int.neg_tdiv] at this
      rw [decide_eq_true (show x.tdiv y < 0 by omega)]; simp [hx, hy, h0]
    · have : 0 ≤ x.tdiv (-y) := Int.tdiv_nonneg (by omega) (by omega)
      rw [Int.tdiv_neg] at this
      rw [decide_eq_true (show x.tdiv y < 0 by omega)]; simp [hx, hy, h0]
    · have : 0 ≤ x.tdiv y := Int.tdiv_nonneg (by omega) (by omega)
      rw [decide_eq_false (show ¬ x.tdiv y < 0 by omega)]; simp [hx, hy]

/-- Where arrays lie apart or are one. -/
theorem al_of {pz px : Nat} {az ax : Option Addr} {cz cx : Nat} (h : pz ≠ px → ∀ k, InB az k → ¬ InB ax k) (k : pz = px → az = ax ∧ cz = cx) : Al az cz ax cx := by
  by_cases e : pz = px
  · obtain ⟨h1, h2⟩ := k e
    subst h1; subst h2
    exact Al.refl _ _
  · exact Al.of_ne (h e)

theorem rem_sign (x y : Int) : decide (x.tmod y < 0) = (decide (x.natAbs % y.natAbs ≠ 0) && decide (x < 0)) := by
  have h : (x.tmod y).natAbs = x.natAbs % y.natAbs := Int.natAbs_tmod x y
  by_cases h0 : x.natAbs % y.natAbs = 0
  · have h1 : x.tmod y = 0 := Int.natAbs_eq_zero.mp (by rw [h]; exact h0)
    rw [h1]; simp [h0]
  · by_cases hx : x < 0
    · have h2 : 0 ≤ (-x).tmod y := Int.tmod_nonneg y (by omega)
      rw [Int.neg_tmod] at h2
      rw [decide_eq_true (show x.tmod y < 0 by omega)]; simp [h0, hx]
    · have h2 : 0 ≤ x.tmod y := Int.tmod_nonneg y (by omega)
      rw [decide_eq_false (show ¬ x.tmod y < 0 by omega)]; simp [hx]

/-- Quotient and rest of numbers that lie apart. -/
def QRes (w : World) (pz pr tz tr : Nat) (az : Option Addr) (cz : Nat) (ar : Option Addr) (cr : Nat) (q r : Int) (e : Ending) (w' : World) : Prop :=
  e = .returned (.tuple #[.pointer (some ⟨pz, 0, none⟩), .pointer (some ⟨pr, 0, none⟩)]) ∧ ∃ qa ql qc ra rl rc, IntS w' pz tz q qa ql qc ∧ IntS w' pr tr r ra rl rc ∧ Into w az cz qa qc ∧ Into w ar cr ra rc ∧ (∀ k, InB qa k → ¬ InB ra k) ∧ Keeps (fun k => k = pz ∨ InB az k ∨ k = pr ∨ InB ar k) w w'

theorem Into.newer {w : World} {a : Option Addr} {c : Nat} (h : Into w none 0 a c) : ∀ k, InB a k → w.heap.size ≤ k := fun k hk =>
  (h.inB hk).elim (fun h => by obtain ⟨o, ho⟩ := h; cases ho) id

end Go.Proofs
