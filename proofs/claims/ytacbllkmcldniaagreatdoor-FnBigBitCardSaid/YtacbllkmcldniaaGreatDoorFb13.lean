/- Parts of the proofs over the numbers of any length: Fb13. -/
import Derived.Test.YtacbllkmcldniaaGreatDoorTie
import Derived.Test.YtacbllkmcldniaaGreatDoorCards
import Derived.JoinedOf
import Derived.KernelRfl
set_option linter.unusedSimpArgs false
set_option linter.unusedVariables false
namespace Go.Proofs.YtacbllkmcldniaaGreatDoor
set_option maxRecDepth 100000
theorem f13_recurses : (Rows.fnBigBitRow.recurses == Tryz.pinned.checked.prog.recurses 13) = true := by kernel_rfl
theorem f13_named : (Rows.fnBigBitRow.named == Tryz.pinned.checked.prog.varsNamed 13) = true := by kernel_rfl
end Go.Proofs.YtacbllkmcldniaaGreatDoor
