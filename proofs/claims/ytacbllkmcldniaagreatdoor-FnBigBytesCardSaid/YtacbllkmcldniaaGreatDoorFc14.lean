/- Parts of the proofs over the numbers of any length: Fc14. -/
import Derived.Test.YtacbllkmcldniaaGreatDoorTie
import Derived.Test.YtacbllkmcldniaaGreatDoorCards
import Derived.JoinedOf
import Derived.KernelRfl
set_option linter.unusedSimpArgs false
set_option linter.unusedVariables false
namespace Go.Proofs.YtacbllkmcldniaaGreatDoor
set_option maxRecDepth 100000
theorem f14_goes : false = Rows.fnBigBytesRow.goesBy Tryz.pinned.checked.prog := by kernel_rfl
theorem f14_wf : Rows.fnBigBytesRow.wfByText (OpenSpec.ofChange Rows.fnBigBytesSpec) = true := by kernel_rfl
end Go.Proofs.YtacbllkmcldniaaGreatDoor
