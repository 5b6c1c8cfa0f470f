/- Parts of the proofs over the numbers of any length: Fb6. -/
import Derived.Test.YtacbllkmcldniaaGreatDoorTie
import Derived.Test.YtacbllkmcldniaaGreatDoorCards
import Derived.JoinedOf
import Derived.KernelRfl
set_option linter.unusedSimpArgs false
set_option linter.unusedVariables false
namespace Go.Proofs.YtacbllkmcldniaaGreatDoor
set_option maxRecDepth 100000
theorem f6_recurses : (Rows.fnBigKeptRow.recurses == Tryz.pinned.checked.prog.recurses 6) = true := by kernel_rfl
theorem f6_named : (Rows.fnBigKeptRow.named == Tryz.pinned.checked.prog.varsNamed 6) = true := by kernel_rfl
end Go.Proofs.YtacbllkmcldniaaGreatDoor
