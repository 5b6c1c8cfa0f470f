/- Parts of the proofs over the numbers of any length: Fa8. -/
import Derived.Test.YtacbllkmcldniaaGreatDoorTie
import Derived.Test.YtacbllkmcldniaaGreatDoorCards
import Derived.JoinedOf
import Derived.KernelRfl
set_option linter.unusedSimpArgs false
set_option linter.unusedVariables false
namespace Go.Proofs.YtacbllkmcldniaaGreatDoor
set_option maxRecDepth 100000
theorem f8_inPlace : (Rows.fnBigMadeRow.inPlace == Tryz.pinned.checked.prog.inPlace 8) = true := by kernel_rfl
theorem f8_unfollowed : (Rows.fnBigMadeRow.unfollowed == Tryz.pinned.checked.prog.unfollowed 8) = true := by kernel_rfl
end Go.Proofs.YtacbllkmcldniaaGreatDoor
