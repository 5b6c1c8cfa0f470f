/- Parts of the proofs over the numbers of any length: Fc16. -/
import Derived.Test.YtacbllkmcldniaaGreatDoorTie
import Derived.Test.YtacbllkmcldniaaGreatDoorCards
import Derived.JoinedOf
import Derived.KernelRfl
set_option linter.unusedSimpArgs false
set_option linter.unusedVariables false
namespace Go.Proofs.YtacbllkmcldniaaGreatDoor
set_option maxRecDepth 100000
theorem f16_goes : false = Rows.fnBigOneRow.goesBy Tryz.pinned.checked.prog := by kernel_rfl
theorem f16_wf : Rows.fnBigOneRow.wfByText (OpenSpec.ofChange Rows.fnBigOneSpec) = true := by kernel_rfl
end Go.Proofs.YtacbllkmcldniaaGreatDoor
