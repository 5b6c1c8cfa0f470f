/- Parts of the proofs over the numbers of any length: Fb9. -/
import Derived.Test.YtacbllkmcldniaaGreatDoorTie
import Derived.Test.YtacbllkmcldniaaGreatDoorCards
import Derived.JoinedOf
import Derived.KernelRfl
set_option linter.unusedSimpArgs false
set_option linter.unusedVariables false
namespace Go.Proofs.YtacbllkmcldniaaGreatDoor
set_option maxRecDepth 100000
theorem f9_recurses : (Rows.fnBigBothRow.recurses == Tryz.pinned.checked.prog.recurses 9) = true := by kernel_rfl
theorem f9_named : (Rows.fnBigBothRow.named == Tryz.pinned.checked.prog.varsNamed 9) = true := by kernel_rfl
end Go.Proofs.YtacbllkmcldniaaGreatDoor
