/- Parts of the proofs over the numbers of any length: Fa16. -/
import Derived.Test.YtacbllkmcldniaaGreatDoorTie
import Derived.Test.YtacbllkmcldniaaGreatDoorCards
import Derived.JoinedOf
import Derived.KernelRfl
set_option linter.unusedSimpArgs false
set_option linter.unusedVariables false
namespace Go.Proofs.YtacbllkmcldniaaGreatDoor
set_option maxRecDepth 100000
theorem f16_inPlace : (Rows.fnBigOneRow.inPlace == Tryz.pinned.checked.prog.inPlace 16) = true := by kernel_rfl
theorem f16_unfollowed : (Rows.fnBigOneRow.unfollowed == Tryz.pinned.checked.prog.unfollowed 16) = true := by kernel_rfl
end Go.Proofs.YtacbllkmcldniaaGreatDoor
