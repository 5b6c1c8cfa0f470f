/- Parts of the proofs over the numbers of any length: Fc17. -/
import Derived.Test.YtacbllkmcldniaaGreatDoorTie
import Derived.Test.YtacbllkmcldniaaGreatDoorCards
import Derived.JoinedOf
import Derived.KernelRfl
set_option linter.unusedSimpArgs false
set_option linter.unusedVariables false
namespace Go.Proofs.YtacbllkmcldniaaGreatDoor
set_option maxRecDepth 100000
theorem f17_goes : false = Rows.fnBigTellRow.goesBy Tryz.pinned.checked.prog := by kernel_rfl
theorem f17_wf : Rows.fnBigTellRow.wfByText (OpenSpec.ofChange Rows.fnBigTellSpec) = true := by kernel_rfl
end Go.Proofs.YtacbllkmcldniaaGreatDoor
