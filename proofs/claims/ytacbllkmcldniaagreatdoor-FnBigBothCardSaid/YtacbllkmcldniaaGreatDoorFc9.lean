/- Parts of the proofs over the numbers of any length: Fc9. -/
import Derived.Test.YtacbllkmcldniaaGreatDoorTie
import Derived.Test.YtacbllkmcldniaaGreatDoorCards
import Derived.JoinedOf
import Derived.KernelRfl
set_option linter.unusedSimpArgs false
set_option linter.unusedVariables false
namespace Go.Proofs.YtacbllkmcldniaaGreatDoor
set_option maxRecDepth 100000
theorem f9_goes : false = Rows.fnBigBothRow.goesBy Tryz.pinned.checked.prog := by kernel_rfl
theorem f9_wf : Rows.fnBigBothRow.wfByText (OpenSpec.ofChange Rows.fnBigBothSpec) = true := by kernel_rfl
end Go.Proofs.YtacbllkmcldniaaGreatDoor
