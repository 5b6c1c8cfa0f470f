/- Parts of the proofs over the numbers of any length: Fc7. -/
import Derived.Test.YtacbllkmcldniaaGreatDoorTie
import Derived.Test.YtacbllkmcldniaaGreatDoorCards
import Derived.JoinedOf
import Derived.KernelRfl
set_option linter.unusedSimpArgs false
set_option linter.unusedVariables false
namespace Go.Proofs.YtacbllkmcldniaaGreatDoor
set_option maxRecDepth 100000
theorem f7_goes : false = Rows.fnBigInverseRow.goesBy Tryz.pinned.checked.prog := by kernel_rfl
theorem f7_wf : Rows.fnBigInverseRow.wfByText (OpenSpec.ofChange Rows.fnBigInverseSpec) = true := by kernel_rfl
end Go.Proofs.YtacbllkmcldniaaGreatDoor
