/-
  An argument of sixteen bits, as it is read.
-/
import Derived.Test.YtdkipndepkblhaaGreatDoorBuA
set_option linter.unusedSimpArgs false
set_option linter.unusedVariables false
namespace Go.Proofs.YtdkipndepkblhaaGreatDoor
open Go.RowKit Go.ChangeShapes Go.WideShapes Go.Bg Dg

set_option maxRecDepth 100000 in
theorem open_u16 {H : Type} {enc : TypeId × Value → H} {w : World} {base : Nat} {spare : Nat → Bool} {held : Bool} {r : Reach} {b0 : Nat} {v : Value} {d : DataW H} {ps : List MemPlace}
    (hval : Value.okWide Tryz.prog w r b0 39 v) (h : DataW.Trod enc Tryz.prog w base spare held 39 v d ps) : ∃ n : Nat, v = .int .u16 n ∧ n < 65536 := by
  obtain ⟨n, rfl, _, _, hw⟩ := open_int Tryz.underlying39 hval h
  simp [Lit.wf, IntKind.min, IntKind.max, IntKind.bits, IntKind.signed] at hw
  exact ⟨n.toNat, by rw [Int.toNat_of_nonneg (by omega)], by omega⟩
end Go.Proofs.YtdkipndepkblhaaGreatDoor
