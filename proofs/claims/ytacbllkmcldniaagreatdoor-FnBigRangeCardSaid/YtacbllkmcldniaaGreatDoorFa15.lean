/- Parts of the proofs over the numbers of any length: Fa15. -/
import Derived.Test.YtacbllkmcldniaaGreatDoorTie
import Derived.Test.YtacbllkmcldniaaGreatDoorCards
import Derived.JoinedOf
import Derived.KernelRfl
set_option linter.unusedSimpArgs false
set_option linter.unusedVariables false
namespace Go.Proofs.YtacbllkmcldniaaGreatDoor
set_option maxRecDepth 100000
theorem f15_inPlace : (Rows.fnBigRangeRow.inPlace == Tryz.pinned.checked.prog.inPlace 15) = true := by kernel_rfl
theorem f15_unfollowed : (Rows.fnBigRangeRow.unfollowed == Tryz.pinned.checked.prog.unfollowed 15) = true := by kernel_rfl
end Go.Proofs.YtacbllkmcldniaaGreatDoor
