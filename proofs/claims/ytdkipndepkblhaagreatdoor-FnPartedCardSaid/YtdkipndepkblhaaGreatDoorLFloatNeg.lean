/-
  FnFloatNegative walked.
-/
import Derived.Test.YtdkipndepkblhaaGreatDoorOpsV
set_option linter.unusedSimpArgs false
set_option linter.unusedVariables false
namespace Go.Proofs.YtdkipndepkblhaaGreatDoor
open Go.RowKit Go.Bg Dg

theorem mrt_vrt {x : Vl} {k : Nat} (h : lratB x k = true) : mrt x = vrt x := by
  obtain ⟨h1, h2, h3, h4⟩ := lratB_parts h
  obtain ⟨h5, h6⟩ := fracB_parts h4
  unfold vrt mrt frt
  rw [← h6]

end Go.Proofs.YtdkipndepkblhaaGreatDoor