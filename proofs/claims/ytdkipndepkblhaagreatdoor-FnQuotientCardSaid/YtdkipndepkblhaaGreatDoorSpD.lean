/-
  The reference's fractions: Divided.
-/
import Derived.Test.YtdkipndepkblhaaGreatDoorBuC
import Derived.Test.YtdkipndepkblhaaGreatDoorBuD
import Derived.Test.YtdkipndepkblhaaGreatDoorBuH
import Derived.Test.YtdkipndepkblhaaGreatDoorBuQQ
set_option linter.unusedSimpArgs false
set_option linter.unusedVariables false
namespace Go.Bg
open Go.RowKit Dg
/-- two fractions -/
def GivesRR (q r : Rt) (L : Nat) (w : World) (e : Ending) (w' : World) : Prop :=
  ∃ s a n c a' n' c' t d m k d' m' k', e = .returned (.tuple #[.agg #[.bool s, .slice a n c, .slice a' n' c'], .agg #[.bool t, .slice d m k, .slice d' m' k']]) ∧ RtAt w' s a n c a' n' c' q L ∧ RtAt w' t d m k d' m' k' r L ∧ Below w.heap.size w w'

def Rt.quoOf (x y : Rt) : Rt := Rt.whole (!(x.neg == y.neg)) (x.num / y.num)
def Rt.remOf (x y : Rt) : Rt := Rt.whole x.neg (x.num % y.num)

theorem RtAt.set3 {w1 : World} {g L : Nat} {v0 v1 v2 : Value} {sg : Bool} {a : Option Addr} {n c : Nat} {a' : Option Addr} {n' c' : Nat} {r : Rt} (R : NoInt w1 g) (h0 : ∀ k n, v0 ≠ .int k n) (h1 : ∀ k n, v1 ≠ .int k n) (h : RtAt w1 sg a n c a' n' c' r L) :
    RtAt (((w1.setCell ⟨g, 0, none⟩ v0).setCell ⟨g, 1, none⟩ v1).setCell ⟨g, 2, none⟩ v2) sg a n c a' n' c' r L := by
  have n1 : NoInt (w1.setCell ⟨g, 0, none⟩ v0) g := R.setCell h0
  have n2 : NoInt ((w1.setCell ⟨g, 0, none⟩ v0).setCell ⟨g, 1, none⟩ v1) g := n1.setCell h1
  exact ⟨h.neg, ((h.num.setCell _ R).setCell _ n1).setCell _ n2, ((h.den.setCell _ R).setCell _ n1).setCell _ n2, h.numL, h.denL⟩

theorem NoInt.set3 {w1 : World} {s g : Nat} {v0 v1 v2 : Value} (R : NoInt w1 s) (h0 : ∀ k n, v0 ≠ .int k n) (h1 : ∀ k n, v1 ≠ .int k n) (h2 : ∀ k n, v2 ≠ .int k n) :
    NoInt (((w1.setCell ⟨g, 0, none⟩ v0).setCell ⟨g, 1, none⟩ v1).setCell ⟨g, 2, none⟩ v2) s := ((R.setCell h0).setCell h1).setCell h2
end Go.Bg
namespace Go.Proofs.YtdkipndepkblhaaGreatDoor
open Go.RowKit Go.Bg Dg

theorem sg_and' (s : Bool) (N : Nat) : sg (s && decide (0 < N)) N = sg s N := by
  by_cases h : 0 < N
  · simp [h]
  · have e : N = 0 := by omega
    subst e
    cases s <;> simp [sg]

theorem quoOf_rz (a b : Bool) (N M : Nat) : (Rt.whole a N).quoOf (Rt.whole b M) = rz ((sg a N).tdiv (sg b M)) := by
  have h := sg_quo (a && decide (0 < N)) (b && decide (0 < M)) N M
  rw [sg_and', sg_and', sg_and'] at h
  rw [← h]
  exact whole_rz _ _

theorem remOf_rz (a b : Bool) (N M : Nat) : (Rt.whole a N).remOf (Rt.whole b M) = rz ((sg a N).tmod (sg b M)) := by
  have h := sg_rem (a && decide (0 < N)) (b && decide (0 < M)) N M
  rw [sg_and', sg_and', sg_and'] at h
  rw [← h]
  exact whole_rz _ _

theorem signOf_whole {s : Bool} {N : Nat} (h : (Rt.whole s N).signOf ≠ 0) : 0 < N := by
  apply Nat.pos_of_ne_zero
  intro e
  apply h
  simp [Rt.signOf, Rt.whole, e]

theorem sg_ne {s : Bool} {N : Nat} (h : 0 < N) : sg s N ≠ 0 := by
  intro e
  have := sg_nat s N
  rw [e] at this
  simp at this
  omega
end Go.Proofs.YtdkipndepkblhaaGreatDoor
