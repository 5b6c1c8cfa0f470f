/- Parts of the proofs over the numbers of any length: Fb15. -/
import Derived.Test.YtacbllkmcldniaaGreatDoorTie
import Derived.Test.YtacbllkmcldniaaGreatDoorCards
import Derived.JoinedOf
import Derived.KernelRfl
set_option linter.unusedSimpArgs false
set_option linter.unusedVariables false
namespace Go.Proofs.YtacbllkmcldniaaGreatDoor
set_option maxRecDepth 100000
theorem f15_recurses : (Rows.fnBigRangeRow.recurses == Tryz.pinned.checked.prog.recurses 15) = true := by kernel_rfl
theorem f15_named : (Rows.fnBigRangeRow.named == Tryz.pinned.checked.prog.varsNamed 15) = true := by kernel_rfl
end Go.Proofs.YtacbllkmcldniaaGreatDoor
