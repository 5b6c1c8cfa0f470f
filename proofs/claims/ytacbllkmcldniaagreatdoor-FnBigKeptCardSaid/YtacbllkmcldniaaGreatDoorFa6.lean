/- Parts of the proofs over the numbers of any length: Fa6. -/
import Derived.Test.YtacbllkmcldniaaGreatDoorTie
import Derived.Test.YtacbllkmcldniaaGreatDoorCards
import Derived.JoinedOf
import Derived.KernelRfl
set_option linter.unusedSimpArgs false
set_option linter.unusedVariables false
namespace Go.Proofs.YtacbllkmcldniaaGreatDoor
set_option maxRecDepth 100000
theorem f6_inPlace : (Rows.fnBigKeptRow.inPlace == Tryz.pinned.checked.prog.inPlace 6) = true := by kernel_rfl
theorem f6_unfollowed : (Rows.fnBigKeptRow.unfollowed == Tryz.pinned.checked.prog.unfollowed 6) = true := by kernel_rfl
end Go.Proofs.YtacbllkmcldniaaGreatDoor
