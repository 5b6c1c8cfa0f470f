/- Parts of the proofs over the numbers of any length: Fa12. -/
import Derived.Test.YtacbllkmcldniaaGreatDoorTie
import Derived.Test.YtacbllkmcldniaaGreatDoorCards
import Derived.JoinedOf
import Derived.KernelRfl
set_option linter.unusedSimpArgs false
set_option linter.unusedVariables false
namespace Go.Proofs.YtacbllkmcldniaaGreatDoor
set_option maxRecDepth 100000
theorem f12_inPlace : (Rows.fnBigPowerRow.inPlace == Tryz.pinned.checked.prog.inPlace 12) = true := by kernel_rfl
theorem f12_unfollowed : (Rows.fnBigPowerRow.unfollowed == Tryz.pinned.checked.prog.unfollowed 12) = true := by kernel_rfl
end Go.Proofs.YtacbllkmcldniaaGreatDoor
