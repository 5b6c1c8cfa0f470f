/- Parts of the proofs over the numbers of any length: Fb10. -/
import Derived.Test.YtacbllkmcldniaaGreatDoorTie
import Derived.Test.YtacbllkmcldniaaGreatDoorCards
import Derived.JoinedOf
import Derived.KernelRfl
set_option linter.unusedSimpArgs false
set_option linter.unusedVariables false
namespace Go.Proofs.YtacbllkmcldniaaGreatDoor
set_option maxRecDepth 100000
theorem f10_recurses : (Rows.fnBigShiftRow.recurses == Tryz.pinned.checked.prog.recurses 10) = true := by kernel_rfl
theorem f10_named : (Rows.fnBigShiftRow.named == Tryz.pinned.checked.prog.varsNamed 10) = true := by kernel_rfl
end Go.Proofs.YtacbllkmcldniaaGreatDoor
