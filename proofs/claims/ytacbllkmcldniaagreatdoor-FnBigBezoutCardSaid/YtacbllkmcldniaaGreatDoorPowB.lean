/- Parts of the proofs over the numbers of any length: NumTxt. -/
import Derived.Test.YtacbllkmcldniaaGreatDoorSpecA
import Derived.Test.YtacbllkmcldniaaGreatDoorBaseD
set_option linter.unusedSimpArgs false
set_option linter.unusedVariables false
namespace Go.Proofs
open Go.RowKit
set_option maxHeartbeats 400000
set_option linter.unusedVariables false
set_option linter.unusedSimpArgs false
set_option maxRecDepth 100000

theorem dval_tops (N m : Nat) : ∀ j, j ≤ m → dval (fun k => N / 10 ^ (m - 1 - k) % 10) j = N / 10 ^ (m - j) % 10 ^ j
  | 0, _ => by simp [dval, Nat.mod_one]
  | j + 1, h => by
    have ih := dval_tops N m j (by omega)
    show 10 * dval (fun k => N / 10 ^ (m - 1 - k) % 10) j + N / 10 ^ (m - 1 - j) % 10 = _
    rw [ih, show m - j = (m - (j + 1)) + 1 by omega, show m - 1 - j = m - (j + 1) by omega, Nat.pow_succ 10 (m - (j + 1)), ← Nat.div_div_eq_div_mul, show (10 : Nat) ^ (j + 1) = 10 * 10 ^ j from by rw [Nat.pow_succ, Nat.mul_comm], Nat.mod_mul]
    omega
theorem lowDigs_at (N : Nat) : ∀ m i, i < m → (lowDigs N m).getD i 0 = 48 + N / 10 ^ (m - 1 - i) % 10
  | 0, i, h => by omega
  | m + 1, 0, _ => by simp [lowDigs]
  | m + 1, i + 1, h => by
    rw [lowDigs, List.getD_cons_succ, lowDigs_at N m i (by omega), show m + 1 - 1 - (i + 1) = m - 1 - i by omega]
theorem strB_size (B : List Nat) : (strB B).size = B.length := by
  unfold strB
  rw [strOfNums_size, List.length_map]
theorem strB_get (B : List Nat) (i : Nat) (h : i < (strB B).size) (hB : B.getD i 0 < 256) : ((strB B)[i]'h).toNat = B.getD i 0 := by
  have hi : i < B.length := by rw [strB_size] at h; exact h
  show ((strB B).data[i]'_).toNat = _
  simp [strB, strOfNums, List.getD_eq_getElem?_getD, List.getElem?_eq_getElem hi] at hB ⊢
  omega
/-- The text of a number from nought on is one of digits. -/
theorem numText_of (N : Nat) (h : N < 10 ^ 200) : ∃ n d, NumText (strB (txt (decide ((N : Int) < 0)) N)) false n d ∧ (N : Int) = numZ false (dval d n) := by
  have hneg : decide ((N : Int) < 0) = false := decide_eq_false (by omega)
  rw [hneg]
  have ht : txt false N = lowDigs N (nd N) := by simp [txt, decs]
  have hp := nd_pos N
  have hl := nd_le h (by omega)
  refine ⟨nd N, fun k => N / 10 ^ (nd N - 1 - k) % 10, ⟨?_, hp, ⟨?_, fun k hk => ?_⟩, fun hh => by cases hh⟩, ?_⟩
  · rw [strB_size, ht, lowDigs_length]; exact hl
  · rw [strB_size, ht, lowDigs_length]; simp
  · have hd : N / 10 ^ (nd N - 1 - k) % 10 < 10 := Nat.mod_lt _ (by omega)
    have hs : (if false = true then 1 else 0) + k < (strB (txt false N)).size := by rw [strB_size, ht, lowDigs_length]; simpa using hk
    refine ⟨hd, hs, ?_⟩
    have hg : (txt false N).getD ((if false = true then 1 else 0) + k) 0 = 48 + N / 10 ^ (nd N - 1 - k) % 10 := by
      rw [ht]; simp only [Bool.false_eq_true, if_false, Nat.zero_add]; exact lowDigs_at N _ k hk
    rw [strB_get _ _ hs (by rw [hg]; omega), hg, Int.natCast_add]
    rfl
  · have := dval_tops N (nd N) (nd N) (Nat.le_refl _)
    rw [this, Nat.sub_self, Nat.pow_zero, Nat.div_one, Nat.mod_eq_of_lt (nd_lt N)]
    rfl
end Go.Proofs
