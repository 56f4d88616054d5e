/-
  FnCompare walked.
-/
import Derived.Test.YtpfjkaelbaoedaaGreatDoorBuH
set_option linter.unusedSimpArgs false
set_option linter.unusedVariables false
namespace Go.Proofs.YtpfjkaelbaoedaaGreatDoor
open Go.RowKit Go.Bg Dg

theorem signOf_bd (r : Rt) : -1 ≤ Rt.signOf r ∧ Rt.signOf r ≤ 1 := by
  unfold Rt.signOf
  split
  · omega
  · split <;> omega

end Go.Proofs.YtpfjkaelbaoedaaGreatDoor