/- Parts of the proofs over the numbers of any length: Lehm2. -/
import Derived.Test.YtacbllkmcldniaaGreatDoorLehm
set_option linter.unusedSimpArgs false
set_option linter.unusedVariables false
namespace Go.Proofs
set_option linter.unusedVariables false

/-- The rows' determinant. -/
def LDet (u1 u2 v1 v2 : Nat) (e : Bool) : Prop := (u1 : Int) * v2 - (u2 : Int) * v1 = if e then -1 else 1
theorem LDet.start : LDet 1 0 0 1 false := by unfold LDet; rfl
theorem LDet.step {u1 u2 v1 v2 : Nat} {e : Bool} (h : LDet u1 u2 v1 v2 e) (q : Nat) : LDet u2 (u1 + q * u2) v2 (v1 + q * v2) (!e) := by
  unfold LDet at *
  push_cast
  cases e <;> simp only [Bool.not_false, Bool.not_true, if_true, Bool.false_eq_true, if_false] at * <;> grind
theorem LDet.back {u0 u1 v0 v1 : Nat} {e : Bool} (h : LDet u0 u1 v0 v1 (!e)) (A B : Int) :
    A = v1 * rowv (!e) u0 v0 A B + v0 * rowv e u1 v1 A B ∧ B = u1 * rowv (!e) u0 v0 A B + u0 * rowv e u1 v1 A B := by
  unfold LDet at h
  cases e <;> simp only [rowv, Bool.not_false, Bool.not_true, if_true, Bool.false_eq_true, if_false] at * <;> exact ⟨by grind, by grind⟩
theorem gcd_unimod {A B C D : Int} {a b c d p q r s : Int} (h1 : C = a * A + b * B) (h2 : D = c * A + d * B) (h3 : A = p * C + q * D) (h4 : B = r * C + s * D) : Int.gcd C D = Int.gcd A B := by
  apply Nat.dvd_antisymm
  · apply Int.dvd_gcd
    · rw [h3]; exact Int.dvd_add (Int.dvd_mul_of_dvd_right (Int.gcd_dvd_left ..)) (Int.dvd_mul_of_dvd_right (Int.gcd_dvd_right ..))
    · rw [h4]; exact Int.dvd_add (Int.dvd_mul_of_dvd_right (Int.gcd_dvd_left ..)) (Int.dvd_mul_of_dvd_right (Int.gcd_dvd_right ..))
  · apply Int.dvd_gcd
    · rw [h1]; exact Int.dvd_add (Int.dvd_mul_of_dvd_right (Int.gcd_dvd_left ..)) (Int.dvd_mul_of_dvd_right (Int.gcd_dvd_right ..))
    · rw [h2]; exact Int.dvd_add (Int.dvd_mul_of_dvd_right (Int.gcd_dvd_left ..)) (Int.dvd_mul_of_dvd_right (Int.gcd_dvd_right ..))
theorem rowv_lin (e : Bool) (u v : Nat) (A B : Int) : rowv e u v A B = (if e then -(u : Int) else u) * A + (if e then (v : Int) else -v) * B := by
  cases e <;> simp only [rowv, if_true, Bool.false_eq_true, if_false] <;> grind
/-- The two new numbers have the same divisors. -/
theorem LDet.gcd {u0 u1 v0 v1 : Nat} {e : Bool} (h : LDet u0 u1 v0 v1 (!e)) (A B : Int) : Int.gcd (rowv (!e) u0 v0 A B) (rowv e u1 v1 A B) = Int.gcd A B :=
  gcd_unimod (rowv_lin _ _ _ _ _) (rowv_lin _ _ _ _ _) (h.back A B).1 (h.back A B).2

/-! The root. -/
/-- s is x's root, cut off. -/
def IsRoot (x s : Nat) : Prop := s * s ≤ x ∧ x < (s + 1) * (s + 1)
theorem IsRoot.unique {x s t : Nat} (h : IsRoot x s) (k : IsRoot x t) : s = t := by
  have key : ∀ {s t : Nat}, IsRoot x s → IsRoot x t → s ≤ t := by
    intro s t h k
    rcases Nat.lt_or_ge t s with hlt | hge
    · have : (t + 1) * (t + 1) ≤ s * s := Nat.mul_le_mul hlt hlt
      have := h.1; have := k.2; omega
    · exact hge
  exact Nat.le_antisymm (key h k) (key k h)
theorem exists_root (x : Nat) : ∃ s, IsRoot x s := by
  induction x with
  | zero => exact ⟨0, by simp [IsRoot]⟩
  | succ x ih =>
    obtain ⟨s, h1, h2⟩ := ih
    by_cases h : x + 1 < (s + 1) * (s + 1)
    · exact ⟨s, by omega, h⟩
    · refine ⟨s + 1, by omega, ?_⟩
      have : (s + 1 + 1) * (s + 1 + 1) = (s + 1) * (s + 1) + 2 * s + 3 := by grind
      omega
/-- A step of Newton's from above. -/
theorem root_step {x s z : Nat} (h : IsRoot x s) (hz : s ≤ z) (hp : 0 < z) : s ≤ (x / z + z) / 2 := by
  have : 2 * s ≤ x / z + z := by
    by_cases h2 : 2 * s ≤ z
    · exact Nat.le_trans h2 (Nat.le_add_left _ _)
    · have h3 : 2 * s - z ≤ x / z := by
        rw [Nat.le_div_iff_mul_le hp]
        have h4 : (2 * s - z) * z ≤ s * s := by
          obtain ⟨d, rfl⟩ : ∃ d, z = s + d := ⟨z - s, by omega⟩
          have : 2 * s - (s + d) = s - d := by omega
          rw [this]
          obtain ⟨c, rfl⟩ : ∃ c, s = d + c := ⟨s - d, by omega⟩
          rw [show d + c - d = c by omega]
          have : (d + c) * (d + c) = c * (d + c + d) + d * d := by grind
          omega
        exact Nat.le_trans h4 h.1
      generalize x / z = t at *
      omega
  generalize x / z = t at *
  omega
theorem root_done {x s z : Nat} (h : IsRoot x s) (hz : s ≤ z) (hp : 0 < z) (hd : z ≤ (x / z + z) / 2) : z = s := by
  have h1 : z ≤ x / z := by generalize x / z = t at *; omega
  have h2 : z * z ≤ x := (Nat.le_div_iff_mul_le hp).1 h1
  rcases Nat.lt_or_ge s z with hlt | hge
  · have : (s + 1) * (s + 1) ≤ z * z := Nat.mul_le_mul hlt hlt
    have := h.2; omega
  · omega
end Go.Proofs
