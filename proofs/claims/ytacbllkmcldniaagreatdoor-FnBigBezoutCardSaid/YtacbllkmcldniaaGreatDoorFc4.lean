/- Parts of the proofs over the numbers of any length: Fc4. -/
import Derived.Test.YtacbllkmcldniaaGreatDoorTie
import Derived.Test.YtacbllkmcldniaaGreatDoorCards
import Derived.JoinedOf
import Derived.KernelRfl
set_option linter.unusedSimpArgs false
set_option linter.unusedVariables false
namespace Go.Proofs.YtacbllkmcldniaaGreatDoor
set_option maxRecDepth 100000
theorem f4_goes : false = Rows.fnBigBezoutRow.goesBy Tryz.pinned.checked.prog := by kernel_rfl
theorem f4_wf : Rows.fnBigBezoutRow.wfByText (OpenSpec.ofChange Rows.fnBigBezoutSpec) = true := by kernel_rfl
end Go.Proofs.YtacbllkmcldniaaGreatDoor
