/-
  The law on comparison, plain; and its walk.
-/
import Derived.Test.YtdepmbpickonoaaGreatDoorBigK
import Derived.Test.YtdepmbpickonoaaGreatDoorLaw2
set_option linter.unusedSimpArgs false
set_option linter.unusedVariables false
namespace Go.Bg
open Go.RowKit Dg
theorem Rt.over_one (s : Bool) (n : Nat) : Rt.over s n 1 = ⟨s && decide (0 < n), n, 1⟩ := by
  simp [Rt.over]
end Go.Bg
namespace Go.Proofs.YtdepmbpickonoaaGreatDoor
open Go.RowKit Go.Bg Dg

theorem signOf_mk (s : Bool) (n d : Nat) : Rt.signOf ⟨s && decide (0 < n), n, d⟩ = cmpZ (sg s n) 0 := by
  unfold Rt.signOf cmpZ sg
  by_cases hn : n = 0
  · subst hn; cases s <;> rfl
  · have h0 : 0 < n := by omega
    have h1 : ¬ ((n : Int) < 0) := by omega
    have h2 : (0 : Int) < n := by omega
    cases s
    · simp [h0, hn, h1, h2]
    · have h3 : -(n : Int) < 0 := by omega
      simp [h0, hn, h3]

theorem minus_whole (s t : Bool) (N M : Nat) : ∃ u n, Rt.minus (Rt.whole s N) (Rt.whole t M) = ⟨u && decide (0 < n), n, 1⟩ ∧ sg u n = sg s N - sg t M := by
  unfold Rt.minus Rt.plus Rt.negated Rt.whole
  simp only [Rt.over_one, Nat.mul_one]
  by_cases hN : 0 < N <;> by_cases hM : 0 < M
  · simp only [hN, hM, decide_true, Bool.and_true]
    cases s <;> cases t <;> simp only [Bool.not_false, Bool.not_true, if_true, if_false, Bool.true_eq_false, Bool.false_eq_true]
    · split
      · exact ⟨_, _, rfl, by simp [sg]; omega⟩
      · exact ⟨_, _, rfl, by simp [sg]; omega⟩
    · exact ⟨_, _, rfl, by simp [sg]⟩
    · exact ⟨_, _, rfl, by simp [sg]; omega⟩
    · split
      · exact ⟨_, _, rfl, by simp [sg]; omega⟩
      · exact ⟨_, _, rfl, by simp [sg]; omega⟩
  · obtain rfl : M = 0 := by omega
    exact ⟨s, N, by cases s <;> cases t <;> simp [hN], by cases s <;> cases t <;> simp [sg]⟩
  · obtain rfl : N = 0 := by omega
    exact ⟨!t, M, by cases s <;> cases t <;> simp [hM, Nat.not_le_of_lt hM, Nat.ne_of_gt hM], by cases s <;> cases t <;> simp [sg]⟩
  · obtain rfl : N = 0 := by omega
    obtain rfl : M = 0 := by omega
    exact ⟨false, 0, by cases s <;> cases t <;> rfl, by cases s <;> cases t <;> rfl⟩

theorem signOf_minus_whole (s t : Bool) (N M : Nat) : Rt.signOf (Rt.minus (Rt.whole s N) (Rt.whole t M)) = cmpZ (sg s N) (sg t M) := by
  obtain ⟨u, n, h, e⟩ := minus_whole s t N M
  rw [h, signOf_mk, e]
  unfold cmpZ
  split <;> split <;> (try split) <;> (try split) <;> omega
end Go.Proofs.YtdepmbpickonoaaGreatDoor
