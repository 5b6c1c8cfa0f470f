/- Parts of the proofs over the numbers of any length: Fc13. -/
import Derived.Test.YtacbllkmcldniaaGreatDoorTie
import Derived.Test.YtacbllkmcldniaaGreatDoorCards
import Derived.JoinedOf
import Derived.KernelRfl
set_option linter.unusedSimpArgs false
set_option linter.unusedVariables false
namespace Go.Proofs.YtacbllkmcldniaaGreatDoor
set_option maxRecDepth 100000
theorem f13_goes : false = Rows.fnBigBitRow.goesBy Tryz.pinned.checked.prog := by kernel_rfl
theorem f13_wf : Rows.fnBigBitRow.wfByText (OpenSpec.ofChange Rows.fnBigBitSpec) = true := by kernel_rfl
end Go.Proofs.YtacbllkmcldniaaGreatDoor
