/- Parts of the proofs over the numbers of any length: Fb17. -/
import Derived.Test.YtacbllkmcldniaaGreatDoorTie
import Derived.Test.YtacbllkmcldniaaGreatDoorCards
import Derived.JoinedOf
import Derived.KernelRfl
set_option linter.unusedSimpArgs false
set_option linter.unusedVariables false
namespace Go.Proofs.YtacbllkmcldniaaGreatDoor
set_option maxRecDepth 100000
theorem f17_recurses : (Rows.fnBigTellRow.recurses == Tryz.pinned.checked.prog.recurses 17) = true := by kernel_rfl
theorem f17_named : (Rows.fnBigTellRow.named == Tryz.pinned.checked.prog.varsNamed 17) = true := by kernel_rfl
end Go.Proofs.YtacbllkmcldniaaGreatDoor
