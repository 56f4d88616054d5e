/-
  FnToInt walked.
-/
import Derived.Test.YtpfjkaelbaoedaaGreatDoorBuX
import Derived.Test.YtpfjkaelbaoedaaGreatDoorBuW
import Derived.Test.YtpfjkaelbaoedaaGreatDoorBuW
set_option linter.unusedSimpArgs false
set_option linter.unusedVariables false
namespace Go.Proofs.YtpfjkaelbaoedaaGreatDoor
open Go.RowKit Go.Bg Dg

theorem numV_z {z : Int} {L : Nat} {y : Vl} (h : IsZ z L y) (hL : L ≤ 63) : NumV y (rz z) :=
  ⟨.inl ⟨isZ_kind h, by rw [isZ_sg h]⟩, Nat.le_trans (isZ_len h).1 hL, Nat.le_trans (isZ_len h).2 hL, rok_rz z⟩

end Go.Proofs.YtpfjkaelbaoedaaGreatDoor