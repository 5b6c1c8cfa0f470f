/- Parts of the proofs over the numbers of any length: NotA. -/
import Derived.Test.YtacbllkmcldniaaGreatDoorRangeB
set_option linter.unusedSimpArgs false
set_option linter.unusedVariables false
namespace Go.Proofs
open Go.RowKit
set_option maxHeartbeats 1000000
set_option linter.unusedVariables false
set_option linter.unusedSimpArgs false
set_option maxRecDepth 100000

theorem words_len_zero (N : Nat) : (words N).length = 0 ↔ N = 0 := by
  constructor
  · intro h
    by_cases h0 : N = 0
    · exact h0
    · exact absurd h (by have := words_mono (show 1 ≤ N by omega); rw [words_one] at this; simp at this; omega)
  · rintro rfl
    rw [words_zero]; rfl
end Go.Proofs
