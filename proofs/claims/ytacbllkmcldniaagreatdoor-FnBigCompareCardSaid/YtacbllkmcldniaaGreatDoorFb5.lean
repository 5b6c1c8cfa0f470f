/- Parts of the proofs over the numbers of any length: Fb5. -/
import Derived.Test.YtacbllkmcldniaaGreatDoorTie
import Derived.Test.YtacbllkmcldniaaGreatDoorCards
import Derived.JoinedOf
import Derived.KernelRfl
set_option linter.unusedSimpArgs false
set_option linter.unusedVariables false
namespace Go.Proofs.YtacbllkmcldniaaGreatDoor
set_option maxRecDepth 100000
theorem f5_recurses : (Rows.fnBigCompareRow.recurses == Tryz.pinned.checked.prog.recurses 5) = true := by kernel_rfl
theorem f5_named : (Rows.fnBigCompareRow.named == Tryz.pinned.checked.prog.varsNamed 5) = true := by kernel_rfl
end Go.Proofs.YtacbllkmcldniaaGreatDoor
