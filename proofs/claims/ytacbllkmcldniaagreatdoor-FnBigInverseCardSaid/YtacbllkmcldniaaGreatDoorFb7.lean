/- Parts of the proofs over the numbers of any length: Fb7. -/
import Derived.Test.YtacbllkmcldniaaGreatDoorTie
import Derived.Test.YtacbllkmcldniaaGreatDoorCards
import Derived.JoinedOf
import Derived.KernelRfl
set_option linter.unusedSimpArgs false
set_option linter.unusedVariables false
namespace Go.Proofs.YtacbllkmcldniaaGreatDoor
set_option maxRecDepth 100000
theorem f7_recurses : (Rows.fnBigInverseRow.recurses == Tryz.pinned.checked.prog.recurses 7) = true := by kernel_rfl
theorem f7_named : (Rows.fnBigInverseRow.named == Tryz.pinned.checked.prog.varsNamed 7) = true := by kernel_rfl
end Go.Proofs.YtacbllkmcldniaaGreatDoor
