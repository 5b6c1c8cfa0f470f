/- Parts of the proofs over the numbers of any length: Looks. -/
import Derived.Test.YtacbllkmcldniaaGreatDoorTie
import Derived.Test.YtacbllkmcldniaaGreatDoorCards
import Derived.JoinedOf
import Derived.KernelRfl
set_option linter.unusedSimpArgs false
set_option linter.unusedVariables false
namespace Go.Proofs.YtacbllkmcldniaaGreatDoor
set_option maxRecDepth 100000
theorem p_looks : true = Tryz.pinned.checked.prog.looks [] := by kernel_rfl
theorem p_mainIs : Tryz.pinned.checked.prog.mainIs = some (true, "71d9d33acf8f25ae85008959926334cc9b95db1af76cb41861a174f407db859f".toList) := by kernel_rfl
end Go.Proofs.YtacbllkmcldniaaGreatDoor
