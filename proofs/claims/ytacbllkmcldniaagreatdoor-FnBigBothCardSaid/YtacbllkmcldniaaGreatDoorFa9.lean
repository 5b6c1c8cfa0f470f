/- Parts of the proofs over the numbers of any length: Fa9. -/
import Derived.Test.YtacbllkmcldniaaGreatDoorTie
import Derived.Test.YtacbllkmcldniaaGreatDoorCards
import Derived.JoinedOf
import Derived.KernelRfl
set_option linter.unusedSimpArgs false
set_option linter.unusedVariables false
namespace Go.Proofs.YtacbllkmcldniaaGreatDoor
set_option maxRecDepth 100000
theorem f9_inPlace : (Rows.fnBigBothRow.inPlace == Tryz.pinned.checked.prog.inPlace 9) = true := by kernel_rfl
theorem f9_unfollowed : (Rows.fnBigBothRow.unfollowed == Tryz.pinned.checked.prog.unfollowed 9) = true := by kernel_rfl
end Go.Proofs.YtacbllkmcldniaaGreatDoor
