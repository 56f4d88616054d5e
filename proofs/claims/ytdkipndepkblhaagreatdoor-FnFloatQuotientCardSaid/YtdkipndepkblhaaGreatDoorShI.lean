/-
  In place: nat.rsh, nat.add of one.
-/
import Derived.Test.YtdkipndepkblhaaGreatDoorBuZ
import Derived.Test.YtdkipndepkblhaaGreatDoorBuZ
import Derived.Test.YtdkipndepkblhaaGreatDoorBuX
set_option linter.unusedSimpArgs false
set_option linter.unusedVariables false
namespace Go.Proofs.YtdkipndepkblhaaGreatDoor
open Go.RowKit Go.Bg Dg

set_option maxRecDepth 100000 in
set_option maxHeartbeats 1000000 in
theorem make_self (g nz cz n : Nat) (w : World) (hn : n ≤ cz) (hnz : nz ≤ cz) (hcm : cz ≤ 9223372036854775807) :
    Calls Tryz.prog 184 #[.slice (some ⟨g, 0, none⟩) nz cz, .int .i64 n] w fun e w' => e = .returned (.slice (some ⟨g, 0, none⟩) n cz) ∧ w = w' := by
  have hle : (n : Int) ≤ cz := by omega
  go_enter Tryz.func184, Tryz.ntmps184
  go_wp2
  go_ret
  exact ⟨rfl, rfl⟩

/-- a number in the block g, which may have turned; and nothing below B has -/
def InPlace (T : TypeId) (g c N B : Nat) (w0 : World) (e : Ending) (w' : World) : Prop :=
  ∃ n, e = .returned (.slice (some ⟨g, 0, none⟩) n c) ∧ BigN T w' (some ⟨g, 0, none⟩) n c N ∧ Below B w0 w'

end Go.Proofs.YtdkipndepkblhaaGreatDoor