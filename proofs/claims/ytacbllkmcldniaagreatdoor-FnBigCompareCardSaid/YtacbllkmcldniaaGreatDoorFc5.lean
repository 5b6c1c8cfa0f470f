/- Parts of the proofs over the numbers of any length: Fc5. -/
import Derived.Test.YtacbllkmcldniaaGreatDoorTie
import Derived.Test.YtacbllkmcldniaaGreatDoorCards
import Derived.JoinedOf
import Derived.KernelRfl
set_option linter.unusedSimpArgs false
set_option linter.unusedVariables false
namespace Go.Proofs.YtacbllkmcldniaaGreatDoor
set_option maxRecDepth 100000
theorem f5_goes : false = Rows.fnBigCompareRow.goesBy Tryz.pinned.checked.prog := by kernel_rfl
theorem f5_wf : Rows.fnBigCompareRow.wfByText (OpenSpec.ofChange Rows.fnBigCompareSpec) = true := by kernel_rfl
end Go.Proofs.YtacbllkmcldniaaGreatDoor
