/- Parts of the proofs over the numbers of any length: Fc12. -/
import Derived.Test.YtacbllkmcldniaaGreatDoorTie
import Derived.Test.YtacbllkmcldniaaGreatDoorCards
import Derived.JoinedOf
import Derived.KernelRfl
set_option linter.unusedSimpArgs false
set_option linter.unusedVariables false
namespace Go.Proofs.YtacbllkmcldniaaGreatDoor
set_option maxRecDepth 100000
theorem f12_goes : false = Rows.fnBigPowerRow.goesBy Tryz.pinned.checked.prog := by kernel_rfl
theorem f12_wf : Rows.fnBigPowerRow.wfByText (OpenSpec.ofChange Rows.fnBigPowerSpec) = true := by kernel_rfl
end Go.Proofs.YtacbllkmcldniaaGreatDoor
