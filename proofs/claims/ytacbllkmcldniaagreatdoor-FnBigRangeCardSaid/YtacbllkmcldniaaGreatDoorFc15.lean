/- Parts of the proofs over the numbers of any length: Fc15. -/
import Derived.Test.YtacbllkmcldniaaGreatDoorTie
import Derived.Test.YtacbllkmcldniaaGreatDoorCards
import Derived.JoinedOf
import Derived.KernelRfl
set_option linter.unusedSimpArgs false
set_option linter.unusedVariables false
namespace Go.Proofs.YtacbllkmcldniaaGreatDoor
set_option maxRecDepth 100000
theorem f15_goes : false = Rows.fnBigRangeRow.goesBy Tryz.pinned.checked.prog := by kernel_rfl
theorem f15_wf : Rows.fnBigRangeRow.wfByText (OpenSpec.ofChange Rows.fnBigRangeSpec) = true := by kernel_rfl
end Go.Proofs.YtacbllkmcldniaaGreatDoor
