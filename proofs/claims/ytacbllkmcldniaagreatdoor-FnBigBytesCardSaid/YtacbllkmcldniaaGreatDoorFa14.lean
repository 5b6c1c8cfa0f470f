/- Parts of the proofs over the numbers of any length: Fa14. -/
import Derived.Test.YtacbllkmcldniaaGreatDoorTie
import Derived.Test.YtacbllkmcldniaaGreatDoorCards
import Derived.JoinedOf
import Derived.KernelRfl
set_option linter.unusedSimpArgs false
set_option linter.unusedVariables false
namespace Go.Proofs.YtacbllkmcldniaaGreatDoor
set_option maxRecDepth 100000
theorem f14_inPlace : (Rows.fnBigBytesRow.inPlace == Tryz.pinned.checked.prog.inPlace 14) = true := by kernel_rfl
theorem f14_unfollowed : (Rows.fnBigBytesRow.unfollowed == Tryz.pinned.checked.prog.unfollowed 14) = true := by kernel_rfl
end Go.Proofs.YtacbllkmcldniaaGreatDoor
