/- Parts of the proofs over the numbers of any length: Fa5. -/
import Derived.Test.YtacbllkmcldniaaGreatDoorTie
import Derived.Test.YtacbllkmcldniaaGreatDoorCards
import Derived.JoinedOf
import Derived.KernelRfl
set_option linter.unusedSimpArgs false
set_option linter.unusedVariables false
namespace Go.Proofs.YtacbllkmcldniaaGreatDoor
set_option maxRecDepth 100000
theorem f5_inPlace : (Rows.fnBigCompareRow.inPlace == Tryz.pinned.checked.prog.inPlace 5) = true := by kernel_rfl
theorem f5_unfollowed : (Rows.fnBigCompareRow.unfollowed == Tryz.pinned.checked.prog.unfollowed 5) = true := by kernel_rfl
end Go.Proofs.YtacbllkmcldniaaGreatDoor
