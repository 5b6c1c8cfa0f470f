/- Parts of the proofs over the numbers of any length: Fa10. -/
import Derived.Test.YtacbllkmcldniaaGreatDoorTie
import Derived.Test.YtacbllkmcldniaaGreatDoorCards
import Derived.JoinedOf
import Derived.KernelRfl
set_option linter.unusedSimpArgs false
set_option linter.unusedVariables false
namespace Go.Proofs.YtacbllkmcldniaaGreatDoor
set_option maxRecDepth 100000
theorem f10_inPlace : (Rows.fnBigShiftRow.inPlace == Tryz.pinned.checked.prog.inPlace 10) = true := by kernel_rfl
theorem f10_unfollowed : (Rows.fnBigShiftRow.unfollowed == Tryz.pinned.checked.prog.unfollowed 10) = true := by kernel_rfl
end Go.Proofs.YtacbllkmcldniaaGreatDoor
