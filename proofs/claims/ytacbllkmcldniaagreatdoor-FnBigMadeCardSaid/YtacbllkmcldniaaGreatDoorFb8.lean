/- Parts of the proofs over the numbers of any length: Fb8. -/
import Derived.Test.YtacbllkmcldniaaGreatDoorTie
import Derived.Test.YtacbllkmcldniaaGreatDoorCards
import Derived.JoinedOf
import Derived.KernelRfl
set_option linter.unusedSimpArgs false
set_option linter.unusedVariables false
namespace Go.Proofs.YtacbllkmcldniaaGreatDoor
set_option maxRecDepth 100000
theorem f8_recurses : (Rows.fnBigMadeRow.recurses == Tryz.pinned.checked.prog.recurses 8) = true := by kernel_rfl
theorem f8_named : (Rows.fnBigMadeRow.named == Tryz.pinned.checked.prog.varsNamed 8) = true := by kernel_rfl
end Go.Proofs.YtacbllkmcldniaaGreatDoor
