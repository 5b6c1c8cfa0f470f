/- Parts of the proofs over the numbers of any length: Lehm5. -/
import Derived.Test.YtacbllkmcldniaaGreatDoorGcdA
set_option linter.unusedSimpArgs false
set_option linter.unusedVariables false
namespace Go.Proofs
set_option maxHeartbeats 400000
set_option linter.unusedVariables false

theorem word_at (N k : Nat) : (words N).getD k 0 = N / W64 ^ k % W64 := by
  induction k generalizing N with
  | zero =>
    by_cases h : N = 0
    · subst h; rw [words_zero]; simp
    · rw [words_pos h]; simp
  | succ k ih =>
    by_cases h : N = 0
    · subst h; rw [words_zero]; simp
    · rw [words_pos h, List.getD_cons_succ, ih, Nat.div_div_eq_div_mul, ← Nat.pow_succ']
/-- What is cut off of a number so that a word is left. -/
def topK (n h : Nat) : Nat := W64 ^ (n - 2) * 2 ^ (64 - h)
theorem topK_pos (n h : Nat) : 0 < topK n h := Nat.mul_pos (Nat.pow_pos W64_pos) (Nat.two_pow_pos _)
theorem top_word {N n h : Nat} (hN : N < W64 ^ n) (hn : 2 ≤ n) (hh : h ≤ 63) : N / topK n h = (words N).getD (n - 1) 0 * 2 ^ h + (words N).getD (n - 2) 0 / 2 ^ (64 - h) := by
  obtain ⟨k, rfl⟩ : ∃ k, n = k + 2 := ⟨n - 2, by omega⟩
  rw [word_at, word_at, show k + 2 - 1 = k + 1 by omega, show k + 2 - 2 = k by omega]
  have h1 : N / W64 ^ (k + 1) < W64 := by
    rw [Nat.div_lt_iff_lt_mul (Nat.pow_pos W64_pos), ← Nat.pow_succ']
    exact hN
  rw [Nat.mod_eq_of_lt h1]
  unfold topK
  rw [show k + 2 - 2 = k by omega, ← Nat.div_div_eq_div_mul]
  rw [show N / W64 ^ (k + 1) = N / W64 ^ k / W64 by rw [Nat.div_div_eq_div_mul, ← Nat.pow_succ]]
  generalize N / W64 ^ k = x
  have hW : W64 = 2 ^ (64 - h) * 2 ^ h := by rw [← Nat.pow_add, show 64 - h + h = 64 by omega]; rfl
  have hd := Nat.div_add_mod x W64
  generalize x / W64 = a at *
  generalize x % W64 = b at *
  rw [← hd, hW, show 2 ^ (64 - h) * 2 ^ h * a = 2 ^ (64 - h) * (a * 2 ^ h) by rw [Nat.mul_assoc, Nat.mul_comm a], Nat.mul_add_div (Nat.two_pow_pos _)]
theorem top_lt {N n h : Nat} (hN : N < W64 ^ n) (hn : 2 ≤ n) (hh : h ≤ 63) (ht : (words N).getD (n - 1) 0 * 2 ^ h < W64) : N / topK n h < W64 := by
  rw [top_word hN hn hh]
  have h1 : (words N).getD (n - 2) 0 < W64 := (words_words N).getD _
  have hW : W64 = 2 ^ (64 - h) * 2 ^ h := by rw [← Nat.pow_add, show 64 - h + h = 64 by omega]; rfl
  have h2 : (words N).getD (n - 2) 0 / 2 ^ (64 - h) < 2 ^ h := by
    rw [Nat.div_lt_iff_lt_mul (Nat.two_pow_pos _), Nat.mul_comm, ← hW]; exact h1
  generalize (words N).getD (n - 1) 0 = t at *
  generalize (words N).getD (n - 2) 0 / 2 ^ (64 - h) = r at *
  rw [hW] at ht ⊢
  have h3 : t < 2 ^ (64 - h) := Nat.lt_of_mul_lt_mul_right ht
  have h4 : (t + 1) * 2 ^ h ≤ 2 ^ (64 - h) * 2 ^ h := Nat.mul_le_mul_right _ h3
  rw [Nat.add_mul] at h4
  omega
/-- A number by its top word and what was cut off. -/
theorem top_split (N n h : Nat) : ∃ α : Int, (N : Int) = ((N / topK n h : Nat) : Int) * ((topK n h : Nat) : Int) + α ∧ 0 ≤ α ∧ α < ((topK n h : Nat) : Int) := by
  refine ⟨((N % topK n h : Nat) : Int), ?_, by omega, ?_⟩
  · have := Nat.div_add_mod N (topK n h)
    rw [Nat.mul_comm] at this
    rw [← Int.natCast_mul, ← Int.natCast_add, this]
  · have := Nat.mod_lt N (topK_pos n h)
    omega
end Go.Proofs
