/-
  constant.BinaryOp of fractions: sum, difference, quotient. PRINTED BY wip/gen_binr.py.
  impl.Binary of two fractions: the sum, the difference, the quotient. PRINTED BY wip/gen_lfloat.py.
-/
import Derived.Test.YtdkipndepkblhaaGreatDoorBuAB
import Derived.Test.YtdkipndepkblhaaGreatDoorBuZZ
import Derived.Test.YtdkipndepkblhaaGreatDoorBuII
import Derived.Test.YtdkipndepkblhaaGreatDoorBuN
import Derived.Test.YtdkipndepkblhaaGreatDoorBuJ
set_option linter.unusedSimpArgs false
set_option linter.unusedVariables false
namespace Go.Proofs.YtdkipndepkblhaaGreatDoor
open Go.RowKit Go.Bg Dg

theorem over_sg {s : Bool} {X D : Nat} {Z : Int} (h : sg (s && decide (0 < X)) X = Z) : Rt.over (decide (Z < 0)) Z.natAbs D = Rt.over s X D := by
  rw [← h, sg_neg, sg_nat]
  unfold Rt.over
  cases s <;> by_cases h0 : 0 < X <;> simp [h0]
theorem plus_over (s t : Bool) (N D M E : Nat) : Rt.over (decide (sg s (N * E) + sg t (M * D) < 0)) (sg s (N * E) + sg t (M * D)).natAbs (D * E) = Rt.plus ⟨s, N, D⟩ ⟨t, M, E⟩ := by
  unfold Rt.plus
  dsimp only
  by_cases h : s = t
  · subst h
    rw [if_pos rfl]
    exact over_sg (sum_same s _ _)
  · rw [if_neg h]
    by_cases hle : M * D ≤ N * E
    · rw [if_pos hle]
      exact over_sg (sum_other h hle)
    · rw [if_neg hle]
      have ht : (!s) = t := by cases s <;> cases t <;> simp_all
      have := sum_other' h (Nat.lt_of_not_le hle)
      rw [ht] at this
      exact over_sg this
theorem minus_over (s t : Bool) (N D M E : Nat) : Rt.over (decide (sg s (N * E) - sg t (M * D) < 0)) (sg s (N * E) - sg t (M * D)).natAbs (D * E) = Rt.minus ⟨s, N, D⟩ ⟨t, M, E⟩ := by
  unfold Rt.minus Rt.negated
  dsimp only
  rw [← plus_over]
  have h : sg (!t && decide (0 < M)) (M * D) = - sg t (M * D) := by
    rcases Nat.eq_zero_or_pos M with h0 | h0
    · subst h0; rw [Nat.zero_mul]; cases t <;> simp [sg]
    · rw [decide_eq_true h0, Bool.and_true, sg_not]
  rw [h, ← Int.sub_eq_add_neg]
theorem times_over (s t : Bool) (N D M E : Nat) : Rt.over (!(s == t)) (N * E) (M * D) = Rt.times ⟨s, N, D⟩ (Rt.upside ⟨t, M, E⟩) := by
  unfold Rt.times Rt.upside
  rw [Nat.mul_comm M D]
  rfl
end Go.Proofs.YtdkipndepkblhaaGreatDoor

set_option linter.unusedSimpArgs false
set_option linter.unusedVariables false
namespace Go.Proofs.YtdkipndepkblhaaGreatDoor
open Go.RowKit Go.Bg Dg

theorem lrat_lt2 {w : World} {x : Vl} {k : Nat} (h : VlAt w x) (hb : lratB x k = true) : (vrt x).num < W64 ^ k ∧ (vrt x).den < W64 ^ k := by
  obtain ⟨h1, h2, h3, h4⟩ := lratB_parts hb
  exact ⟨Nat.lt_of_lt_of_le (val_lt h.ws.lt) (Nat.pow_le_pow_right W64_pos h2), Nat.lt_of_lt_of_le (val_lt h.ds.lt) (Nat.pow_le_pow_right W64_pos h3)⟩
theorem madeAs_rat {x : Vl} {k : Nat} (hb : lratB x k = true) (hk : k ≤ 63) : MadeAs x (fun w v => CRat w v (vrt x)) := fun w h => by
  have nv := numV_rat hb hk
  obtain ⟨h1, h2, h3, h4⟩ := lratB_parts hb
  obtain ⟨h5, h6⟩ := fracB_parts h4
  have e : mrt x = vrt x := by
    unfold vrt mrt frt
    rw [← h6]
  have hd : 0 < val W64 x.df x.dn := by
    rcases nv.form with ⟨h, _⟩ | ⟨_, h, _⟩
    · rw [h1] at h; exact absurd h (by decide)
    · exact h
  have := madeRat_any x w h h1 (by omega) (by omega) hd
  rw [e] at this
  exact this

theorem signOf_pos {r : Rt} (h : r.signOf ≠ 0) : 0 < r.num := by
  apply Nat.pos_of_ne_zero
  intro e
  apply h
  unfold Rt.signOf
  rw [if_pos e]
theorem signOf_one {r : Rt} (h : r.signOf ≠ 0) : r.signOf = 1 ∨ r.signOf = -1 := by
  have := signOf_pos h
  unfold Rt.signOf
  rw [if_neg (by omega)]
  split
  · exact .inr rfl
  · exact .inl rfl
end Go.Proofs.YtdkipndepkblhaaGreatDoor
