/- Parts of the proofs over the numbers of any length: Fc6. -/
import Derived.Test.YtacbllkmcldniaaGreatDoorTie
import Derived.Test.YtacbllkmcldniaaGreatDoorCards
import Derived.JoinedOf
import Derived.KernelRfl
set_option linter.unusedSimpArgs false
set_option linter.unusedVariables false
namespace Go.Proofs.YtacbllkmcldniaaGreatDoor
set_option maxRecDepth 100000
theorem f6_goes : false = Rows.fnBigKeptRow.goesBy Tryz.pinned.checked.prog := by kernel_rfl
theorem f6_wf : Rows.fnBigKeptRow.wfByText (OpenSpec.ofChange Rows.fnBigKeptSpec) = true := by kernel_rfl
end Go.Proofs.YtacbllkmcldniaaGreatDoor
