/- Parts of the proofs over the numbers of any length: Fa4. -/
import Derived.Test.YtacbllkmcldniaaGreatDoorTie
import Derived.Test.YtacbllkmcldniaaGreatDoorCards
import Derived.JoinedOf
import Derived.KernelRfl
set_option linter.unusedSimpArgs false
set_option linter.unusedVariables false
namespace Go.Proofs.YtacbllkmcldniaaGreatDoor
set_option maxRecDepth 100000
theorem f4_inPlace : (Rows.fnBigBezoutRow.inPlace == Tryz.pinned.checked.prog.inPlace 4) = true := by kernel_rfl
theorem f4_unfollowed : (Rows.fnBigBezoutRow.unfollowed == Tryz.pinned.checked.prog.unfollowed 4) = true := by kernel_rfl
end Go.Proofs.YtacbllkmcldniaaGreatDoor
