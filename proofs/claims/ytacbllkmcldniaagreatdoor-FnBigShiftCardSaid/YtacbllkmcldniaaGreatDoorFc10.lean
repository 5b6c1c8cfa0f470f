/- Parts of the proofs over the numbers of any length: Fc10. -/
import Derived.Test.YtacbllkmcldniaaGreatDoorTie
import Derived.Test.YtacbllkmcldniaaGreatDoorCards
import Derived.JoinedOf
import Derived.KernelRfl
set_option linter.unusedSimpArgs false
set_option linter.unusedVariables false
namespace Go.Proofs.YtacbllkmcldniaaGreatDoor
set_option maxRecDepth 100000
theorem f10_goes : false = Rows.fnBigShiftRow.goesBy Tryz.pinned.checked.prog := by kernel_rfl
theorem f10_wf : Rows.fnBigShiftRow.wfByText (OpenSpec.ofChange Rows.fnBigShiftSpec) = true := by kernel_rfl
end Go.Proofs.YtacbllkmcldniaaGreatDoor
