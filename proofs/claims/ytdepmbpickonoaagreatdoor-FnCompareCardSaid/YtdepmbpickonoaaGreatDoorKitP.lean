/-
  Closed facts about the program's types, for the walks.
-/
import Derived.Test.YtdepmbpickonoaaGreatDoorProg
import Derived.KernelRfl
import Derived.Test.YtdepmbpickonoaaGreatDoorKit
set_option linter.unusedSimpArgs false
set_option linter.unusedVariables false
namespace Go.Proofs.YtdepmbpickonoaaGreatDoor
theorem infoInt : (Tryz.prog.info? 3).map (fun i => (i.zero, i.size, i.bytes)) = some (some (.int .i64 0), 1, 8) := by kernel_rfl
theorem infoUint : (Tryz.prog.info? 134).map (fun i => (i.zero, i.size, i.bytes)) = some (some (.int .u64 0), 1, 8) := by kernel_rfl
theorem infoWord : (Tryz.prog.info? 143).map (fun i => (i.zero, i.size, i.bytes)) = some (some (.int .u64 0), 1, 8) := by kernel_rfl
end Go.Proofs.YtdepmbpickonoaaGreatDoor
