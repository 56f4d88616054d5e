/-
  FnCompare walked.
-/
import Derived.Test.YtdkipndepkblhaaGreatDoorBuH
set_option linter.unusedSimpArgs false
set_option linter.unusedVariables false
namespace Go.Proofs.YtdkipndepkblhaaGreatDoor
open Go.RowKit Go.Bg Dg

theorem signOf_bd (r : Rt) : -1 ≤ Rt.signOf r ∧ Rt.signOf r ≤ 1 := by
  unfold Rt.signOf
  split
  · omega
  · split <;> omega

end Go.Proofs.YtdkipndepkblhaaGreatDoor