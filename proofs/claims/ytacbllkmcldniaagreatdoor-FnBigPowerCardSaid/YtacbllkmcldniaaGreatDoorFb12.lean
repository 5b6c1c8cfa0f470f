/- Parts of the proofs over the numbers of any length: Fb12. -/
import Derived.Test.YtacbllkmcldniaaGreatDoorTie
import Derived.Test.YtacbllkmcldniaaGreatDoorCards
import Derived.JoinedOf
import Derived.KernelRfl
set_option linter.unusedSimpArgs false
set_option linter.unusedVariables false
namespace Go.Proofs.YtacbllkmcldniaaGreatDoor
set_option maxRecDepth 100000
theorem f12_recurses : (Rows.fnBigPowerRow.recurses == Tryz.pinned.checked.prog.recurses 12) = true := by kernel_rfl
theorem f12_named : (Rows.fnBigPowerRow.named == Tryz.pinned.checked.prog.varsNamed 12) = true := by kernel_rfl
end Go.Proofs.YtacbllkmcldniaaGreatDoor
