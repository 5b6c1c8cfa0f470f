/- Parts of the proofs over the numbers of any length: Fb4. -/
import Derived.Test.YtacbllkmcldniaaGreatDoorTie
import Derived.Test.YtacbllkmcldniaaGreatDoorCards
import Derived.JoinedOf
import Derived.KernelRfl
set_option linter.unusedSimpArgs false
set_option linter.unusedVariables false
namespace Go.Proofs.YtacbllkmcldniaaGreatDoor
set_option maxRecDepth 100000
theorem f4_recurses : (Rows.fnBigBezoutRow.recurses == Tryz.pinned.checked.prog.recurses 4) = true := by kernel_rfl
theorem f4_named : (Rows.fnBigBezoutRow.named == Tryz.pinned.checked.prog.varsNamed 4) = true := by kernel_rfl
end Go.Proofs.YtacbllkmcldniaaGreatDoor
