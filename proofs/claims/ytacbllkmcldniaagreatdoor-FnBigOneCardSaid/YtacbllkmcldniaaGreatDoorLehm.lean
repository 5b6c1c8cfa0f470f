/- Parts of the proofs over the numbers of any length: Lehm. -/
import Derived.Test.YtacbllkmcldniaaGreatDoorBaseA
set_option linter.unusedSimpArgs false
set_option linter.unusedVariables false
namespace Go.Proofs
set_option linter.unusedVariables false

/-- A row of the two factors: what it makes of A and B. -/
def rowv (odd : Bool) (u v : Nat) (A B : Int) : Int := if odd then (v : Int) * B - u * A else (u : Int) * A - v * B

/-- The state of the simulation at the head of its loop. -/
structure Lh (a0 b0 a1 a2 u1 u2 v1 v2 : Nat) (e : Bool) : Prop where
  r1 : (a1 : Int) = rowv e u1 v1 a0 b0
  r2 : (a2 : Int) = rowv (!e) u2 v2 a0 b0
  d1 : a1 * v2 + a2 * v1 = a0
  d2 : a1 * u2 + a2 * u1 = b0
  vpos : 1 ≤ v2
  uv : u2 ≤ v2
  uv1 : e = true → u1 ≤ v1
  st : e = false → u1 ≤ v1 ∨ (u1 = 1 ∧ v1 = 0 ∧ u2 = 0 ∧ v2 = 1)
  le : a2 ≤ a1

theorem Lh.start {a0 b0 : Nat} (h : b0 ≤ a0) : Lh a0 b0 a0 b0 1 0 0 1 false :=
  ⟨by simp [rowv], by simp [rowv], by omega, by omega, by omega, by omega, (fun h => by cases h), fun _ => .inr ⟨rfl, rfl, rfl, rfl⟩, h⟩

theorem Lh.step {a0 b0 a1 a2 u1 u2 v1 v2 : Nat} {e : Bool} (h : Lh a0 b0 a1 a2 u1 u2 v1 v2 e) (hc : v2 ≤ a2) :
    Lh a0 b0 a2 (a1 % a2) u2 (u1 + a1 / a2 * u2) v2 (v1 + a1 / a2 * v2) (!e) := by
  obtain ⟨r1, r2, d1, d2, vp, uv, uv1, st, le⟩ := h
  have hp : 0 < a2 := by omega
  have hq : 1 ≤ a1 / a2 := (Nat.le_div_iff_mul_le hp).2 (by omega)
  have hd := Nat.div_add_mod a1 a2
  have hm := Nat.mod_lt a1 hp
  generalize a1 / a2 = q at *
  generalize a1 % a2 = r at *
  have hz : (r : Int) = a1 - a2 * q := by
    have : (a1 : Int) = a2 * q + r := by rw [← hd]; push_cast; rfl
    omega
  refine ⟨r2, ?_, ?_, ?_, ?_, ?_, ?_, ?_, by omega⟩
  · rw [hz, r1, r2]
    cases e <;> simp only [rowv, Bool.not_true, Bool.not_false, if_true, Bool.false_eq_true, if_false] <;> push_cast <;> grind
  · rw [← d1, ← hd]; grind
  · rw [← d2, ← hd]; grind
  · have : 1 * 1 ≤ q * v2 := Nat.mul_le_mul hq vp
    omega
  · have h1 : q * u2 ≤ q * v2 := Nat.mul_le_mul_left _ uv
    cases e with
    | true => have := uv1 rfl; omega
    | false =>
      rcases st rfl with h | ⟨rfl, rfl, rfl, rfl⟩
      · omega
      · omega
  · intro _; exact uv
  · intro _; exact .inl uv
/-- No word runs over. -/
theorem Lh.bounds {a0 b0 a1 a2 u1 u2 v1 v2 : Nat} {e : Bool} (h : Lh a0 b0 a1 a2 u1 u2 v1 v2 e) (hc : v2 ≤ a2) :
    v1 + v2 ≤ a0 ∧ u1 + a1 / a2 * u2 ≤ a0 ∧ v1 + a1 / a2 * v2 ≤ a0 := by
  have h' := h.step hc
  obtain ⟨r1, r2, d1, d2, vp, uv, uv1, st, le⟩ := h
  have hp : 0 < a2 := by omega
  have hv : a2 * (v1 + a1 / a2 * v2) ≤ a0 := by have := h'.d1; omega
  have h1 : 1 * (v1 + a1 / a2 * v2) ≤ a2 * (v1 + a1 / a2 * v2) := Nat.mul_le_mul_right _ hp
  have hq : 1 ≤ a1 / a2 := (Nat.le_div_iff_mul_le hp).2 (by omega)
  have h2 : 1 * v2 ≤ a1 / a2 * v2 := Nat.mul_le_mul_right _ hq
  have := h'.uv
  omega

/-- Where the test holds the rows make numbers of the whole A and B, in order. -/
theorem Lh.good {a0 b0 a1 a2 u1 u2 v1 v2 : Nat} {e : Bool} (h : Lh a0 b0 a1 a2 u1 u2 v1 v2 e) (hc : v2 ≤ a2) (hc2 : v1 + v2 ≤ a1 - a2)
    {A B K α β : Int} (hA : A = a0 * K + α) (hB : B = b0 * K + β) (hα : 0 ≤ α) (hα' : α < K) (hβ : 0 ≤ β) (hβ' : β < K) :
    0 ≤ rowv (!e) u2 v2 A B ∧ rowv (!e) u2 v2 A B < rowv e u1 v1 A B := by
  obtain ⟨r1, r2, d1, d2, vp, uv, uv1, st, le⟩ := h
  have lin : ∀ (o : Bool) (u v : Nat), rowv o u v A B = rowv o u v a0 b0 * K + rowv o u v α β := by
    intro o u v
    subst hA; subst hB
    cases o <;> simp only [rowv, if_true, Bool.false_eq_true, if_false] <;> grind
  rw [lin, lin, ← r1, ← r2]
  have mul_nn : ∀ {x y : Int}, 0 ≤ x → 0 ≤ y → 0 ≤ x * y := fun h k => Int.mul_nonneg h k
  have k1 : ∀ n : Nat, 0 ≤ (n : Int) * α ∧ (n : Int) * α ≤ n * K := fun n => ⟨mul_nn (by omega) hα, Int.mul_le_mul_of_nonneg_left (by omega) (by omega)⟩
  have k2 : ∀ n : Nat, 0 ≤ (n : Int) * β ∧ (n : Int) * β ≤ n * K := fun n => ⟨mul_nn (by omega) hβ, Int.mul_le_mul_of_nonneg_left (by omega) (by omega)⟩
  have sβ : ((v2 : Nat) : Int) * β < v2 * K := Int.mul_lt_mul_of_pos_left hβ' (by omega)
  have e1 : (a1 : Int) * K - a2 * K - v1 * K - v2 * K = ((a1 - a2 - v1 - v2 : Nat) : Int) * K := by
    rw [show ((a1 - a2 - v1 - v2 : Nat) : Int) = a1 - a2 - v1 - v2 by omega]; grind
  have e2 : (a2 : Int) * K - v2 * K = ((a2 - v2 : Nat) : Int) * K := by
    rw [show ((a2 - v2 : Nat) : Int) = a2 - v2 by omega]; grind
  have e3 : (v2 : Int) * K - u2 * K = ((v2 - u2 : Nat) : Int) * K := by
    rw [show ((v2 - u2 : Nat) : Int) = v2 - u2 by omega]; grind
  have hK : 0 < K := by omega
  have p1 : 0 ≤ ((a1 - a2 - v1 - v2 : Nat) : Int) * K := mul_nn (by omega) (by omega)
  have p2 : 0 ≤ ((a2 - v2 : Nat) : Int) * K := mul_nn (by omega) (by omega)
  have p3 : 0 ≤ ((v2 - u2 : Nat) : Int) * K := mul_nn (by omega) (by omega)
  have q1 := k1 u1; have q2 := k1 u2; have q3 := k2 v1; have q4 := k2 v2
  cases e with
  | false =>
    simp only [rowv, Bool.not_false, if_true, Bool.false_eq_true, if_false]
    omega
  | true =>
    have hu := uv1 rfl
    have e4 : (v1 : Int) * K - u1 * K = ((v1 - u1 : Nat) : Int) * K := by
      rw [show ((v1 - u1 : Nat) : Int) = v1 - u1 by omega]; grind
    have p4 : 0 ≤ ((v1 - u1 : Nat) : Int) * K := mul_nn (by omega) (by omega)
    have sα : u2 = 0 ∨ ((u2 : Nat) : Int) * α < u2 * K := by
      by_cases h0 : u2 = 0
      · exact .inl h0
      · exact .inr (Int.mul_lt_mul_of_pos_left hα' (by omega))
    have vK : (0 : Int) < v2 * K := Int.mul_pos (by omega) hK
    simp only [rowv, Bool.not_true, if_true, Bool.false_eq_true, if_false]
    rcases sα with h0 | h0
    · subst h0
      simp only [Int.ofNat_zero, Int.zero_mul] at *
      omega
    · omega
end Go.Proofs
