/- Parts of the proofs over the numbers of any length: Fa13. -/
import Derived.Test.YtacbllkmcldniaaGreatDoorTie
import Derived.Test.YtacbllkmcldniaaGreatDoorCards
import Derived.JoinedOf
import Derived.KernelRfl
set_option linter.unusedSimpArgs false
set_option linter.unusedVariables false
namespace Go.Proofs.YtacbllkmcldniaaGreatDoor
set_option maxRecDepth 100000
theorem f13_inPlace : (Rows.fnBigBitRow.inPlace == Tryz.pinned.checked.prog.inPlace 13) = true := by kernel_rfl
theorem f13_unfollowed : (Rows.fnBigBitRow.unfollowed == Tryz.pinned.checked.prog.unfollowed 13) = true := by kernel_rfl
end Go.Proofs.YtacbllkmcldniaaGreatDoor
