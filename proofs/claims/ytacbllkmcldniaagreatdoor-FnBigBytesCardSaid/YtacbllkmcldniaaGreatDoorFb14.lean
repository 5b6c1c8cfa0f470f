/- Parts of the proofs over the numbers of any length: Fb14. -/
import Derived.Test.YtacbllkmcldniaaGreatDoorTie
import Derived.Test.YtacbllkmcldniaaGreatDoorCards
import Derived.JoinedOf
import Derived.KernelRfl
set_option linter.unusedSimpArgs false
set_option linter.unusedVariables false
namespace Go.Proofs.YtacbllkmcldniaaGreatDoor
set_option maxRecDepth 100000
theorem f14_recurses : (Rows.fnBigBytesRow.recurses == Tryz.pinned.checked.prog.recurses 14) = true := by kernel_rfl
theorem f14_named : (Rows.fnBigBytesRow.named == Tryz.pinned.checked.prog.varsNamed 14) = true := by kernel_rfl
end Go.Proofs.YtacbllkmcldniaaGreatDoor
