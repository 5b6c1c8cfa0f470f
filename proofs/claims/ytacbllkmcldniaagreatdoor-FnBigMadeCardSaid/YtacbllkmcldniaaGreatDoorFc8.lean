/- Parts of the proofs over the numbers of any length: Fc8. -/
import Derived.Test.YtacbllkmcldniaaGreatDoorTie
import Derived.Test.YtacbllkmcldniaaGreatDoorCards
import Derived.JoinedOf
import Derived.KernelRfl
set_option linter.unusedSimpArgs false
set_option linter.unusedVariables false
namespace Go.Proofs.YtacbllkmcldniaaGreatDoor
set_option maxRecDepth 100000
theorem f8_goes : false = Rows.fnBigMadeRow.goesBy Tryz.pinned.checked.prog := by kernel_rfl
theorem f8_wf : Rows.fnBigMadeRow.wfByText (OpenSpec.ofChange Rows.fnBigMadeSpec) = true := by kernel_rfl
end Go.Proofs.YtacbllkmcldniaaGreatDoor
