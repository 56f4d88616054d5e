/-
  What an Int is, seen from an earlier world.
-/
import Derived.Test.YtdkipndepkblhaaGreatDoorBuJJ
import Derived.Test.YtdkipndepkblhaaGreatDoorBuKK
set_option linter.unusedSimpArgs false
set_option linter.unusedVariables false
namespace Go.Proofs.YtdkipndepkblhaaGreatDoor
open Go.RowKit Go.Bg Dg

/-- the Int at d, p, seen from an earlier world of which it is the only old thing that turned -/
theorem intIs_below {d p : Nat} {s : Bool} {R : Nat} {w W w' : World} {e : Ending} (hb : Below w.heap.size w W) (h : IntIs d p s R W e w') (hd : Strct 151 w d) : IntIs d p s R w e w' :=
  ⟨h.1, h.2.1, (UpdI.of_below hb hd).trans h.2.2⟩
end Go.Proofs.YtdkipndepkblhaaGreatDoor
