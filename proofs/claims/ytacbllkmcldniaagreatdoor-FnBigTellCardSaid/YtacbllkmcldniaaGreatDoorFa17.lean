/- Parts of the proofs over the numbers of any length: Fa17. -/
import Derived.Test.YtacbllkmcldniaaGreatDoorTie
import Derived.Test.YtacbllkmcldniaaGreatDoorCards
import Derived.JoinedOf
import Derived.KernelRfl
set_option linter.unusedSimpArgs false
set_option linter.unusedVariables false
namespace Go.Proofs.YtacbllkmcldniaaGreatDoor
set_option maxRecDepth 100000
theorem f17_inPlace : (Rows.fnBigTellRow.inPlace == Tryz.pinned.checked.prog.inPlace 17) = true := by kernel_rfl
theorem f17_unfollowed : (Rows.fnBigTellRow.unfollowed == Tryz.pinned.checked.prog.unfollowed 17) = true := by kernel_rfl
end Go.Proofs.YtacbllkmcldniaaGreatDoor
