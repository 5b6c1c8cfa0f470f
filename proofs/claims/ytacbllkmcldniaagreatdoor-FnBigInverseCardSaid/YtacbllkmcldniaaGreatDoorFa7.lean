/- Parts of the proofs over the numbers of any length: Fa7. -/
import Derived.Test.YtacbllkmcldniaaGreatDoorTie
import Derived.Test.YtacbllkmcldniaaGreatDoorCards
import Derived.JoinedOf
import Derived.KernelRfl
set_option linter.unusedSimpArgs false
set_option linter.unusedVariables false
namespace Go.Proofs.YtacbllkmcldniaaGreatDoor
set_option maxRecDepth 100000
theorem f7_inPlace : (Rows.fnBigInverseRow.inPlace == Tryz.pinned.checked.prog.inPlace 7) = true := by kernel_rfl
theorem f7_unfollowed : (Rows.fnBigInverseRow.unfollowed == Tryz.pinned.checked.prog.unfollowed 7) = true := by kernel_rfl
end Go.Proofs.YtacbllkmcldniaaGreatDoor
