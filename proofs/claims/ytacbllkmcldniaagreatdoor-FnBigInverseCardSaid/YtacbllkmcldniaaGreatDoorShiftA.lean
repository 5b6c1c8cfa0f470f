/- Parts of the proofs over the numbers of any length: Pl. -/
import Derived.Test.YtacbllkmcldniaaGreatDoorBaseA
set_option linter.unusedSimpArgs false
set_option linter.unusedVariables false
namespace Go.Proofs
set_option linter.unusedVariables false

/-! Division cut off downwards. -/
theorem neg_ediv (m p : Nat) (hp : 0 < p) : (-(m : Int) - 1) / (p : Int) = -((m / p : Nat) : Int) - 1 := by
  have h := Nat.div_add_mod m p
  have hl := Nat.mod_lt m hp
  refine ((Int.ediv_emod_unique (r := (p : Int) - 1 - ((m % p : Nat) : Int)) (by omega)).2 ⟨?_, by omega, by omega⟩).1
  have h' : (p : Int) * ((m / p : Nat) : Int) + ((m % p : Nat) : Int) = (m : Int) := by exact_mod_cast h
  rw [Int.mul_sub, Int.mul_neg]
  omega
theorem nat_ediv (m p : Nat) : (m : Int) / (p : Int) = ((m / p : Nat) : Int) := by omega
end Go.Proofs
