/- Parts of the proofs over the numbers of any length: Fb16. -/
import Derived.Test.YtacbllkmcldniaaGreatDoorTie
import Derived.Test.YtacbllkmcldniaaGreatDoorCards
import Derived.JoinedOf
import Derived.KernelRfl
set_option linter.unusedSimpArgs false
set_option linter.unusedVariables false
namespace Go.Proofs.YtacbllkmcldniaaGreatDoor
set_option maxRecDepth 100000
theorem f16_recurses : (Rows.fnBigOneRow.recurses == Tryz.pinned.checked.prog.recurses 16) = true := by kernel_rfl
theorem f16_named : (Rows.fnBigOneRow.named == Tryz.pinned.checked.prog.varsNamed 16) = true := by kernel_rfl
end Go.Proofs.YtacbllkmcldniaaGreatDoor
