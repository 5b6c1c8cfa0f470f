/- Parts of the proofs over the numbers of any length: DmQ. -/
import Derived.Test.YtacbllkmcldniaaGreatDoorBaseA
set_option linter.unusedSimpArgs false
set_option linter.unusedVariables false
namespace Go.Proofs

/-- Quotient and rest, the rest not below 0. -/
def dmQ (x y : Int) : Int := if x.tmod y < 0 then (if y < 0 then x.tdiv y + 1 else x.tdiv y - 1) else x.tdiv y
def dmM (x y : Int) : Int := if x.tmod y < 0 then (if y < 0 then x.tmod y - y else x.tmod y + y) else x.tmod y
end Go.Proofs
