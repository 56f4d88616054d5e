/-
  Contracts and lemmas: DivLP.
-/
import Derived.Test.YtececkbcinmmpaaGreatDoorM16
import Derived.Test.YtececkbcinmmpaaGreatDoorM13
set_option linter.unusedSimpArgs false
set_option linter.unusedVariables false
set_option maxRecDepth 100000
set_option maxHeartbeats 8000000
namespace Go.Bg
open Go.RowKit Dg
theorem top_word {V n : Nat} (hV : V < W64 ^ (n + 1)) : dg W64 V n = V / W64 ^ n := by
  unfold dg
  exact Nat.mod_eq_of_lt ((Nat.div_lt_iff_lt_mul (Nat.pow_pos W64_pos)).2 (by rw [← Nat.pow_succ']; exact hV))
theorem scale_fits {V n s : Nat} (hV : V < W64 ^ (n + 1)) (hs : s ≤ 64) (hy : dg W64 V n * 2 ^ s < W64) : V * 2 ^ s < W64 ^ (n + 1) := by
  rw [top_word hV] at hy
  obtain ⟨t, ht⟩ : ∃ t, s + t = 64 := ⟨64 - s, by omega⟩
  have hW : W64 = 2 ^ t * 2 ^ s := by rw [← Nat.pow_add, Nat.add_comm t, ht]; rfl
  have h1 : V / W64 ^ n < 2 ^ t := by
    have hy' : V / W64 ^ n * 2 ^ s < 2 ^ t * 2 ^ s := by rw [← hW]; exact hy
    exact Nat.lt_of_mul_lt_mul_right hy'
  have h2 : V < 2 ^ t * W64 ^ n := (Nat.div_lt_iff_lt_mul (Nat.pow_pos W64_pos)).1 h1
  have h3 : V * 2 ^ s < 2 ^ t * W64 ^ n * 2 ^ s := Nat.mul_lt_mul_of_pos_right h2 (Nat.pow_pos (by decide))
  have e : 2 ^ t * W64 ^ n * 2 ^ s = W64 ^ (n + 1) := by
    rw [Nat.mul_right_comm, ← hW, Nat.pow_succ']
  rw [← e]; exact h3
theorem scale_top {V n s : Nat} (hV : V < W64 ^ (n + 1)) (hs : V * 2 ^ s < W64 ^ (n + 1)) : dg W64 V n * 2 ^ s ≤ dg W64 (V * 2 ^ s) n := by
  rw [top_word hV, top_word hs]
  refine (Nat.le_div_iff_mul_le (Nat.pow_pos W64_pos)).2 ?_
  rw [Nat.mul_right_comm]
  exact Nat.mul_le_mul_right _ (Nat.div_mul_le_self _ _)
theorem scale_up {U k s : Nat} (hU : U < W64 ^ k) (hs : s ≤ 63) : U * 2 ^ s < W64 ^ (k + 1) ∧ dg W64 (U * 2 ^ s) k < 9223372036854775808 := by
  have h1 : U * 2 ^ s < W64 ^ k * 2 ^ s := Nat.mul_lt_mul_of_pos_right hU (Nat.pow_pos (by decide))
  have h2 : (2 : Nat) ^ s ≤ 9223372036854775808 := by
    have : (2 : Nat) ^ s ≤ 2 ^ 63 := Nat.pow_le_pow_right (by decide) hs
    simpa using this
  have h3 : W64 ^ k * 2 ^ s ≤ W64 ^ k * 9223372036854775808 := Nat.mul_le_mul_left _ h2
  have h4 : U * 2 ^ s < W64 ^ (k + 1) := by
    rw [Nat.pow_succ]
    exact Nat.lt_of_lt_of_le h1 (Nat.le_trans h3 (Nat.mul_le_mul_left _ (by unfold W64; omega)))
  refine ⟨h4, ?_⟩
  rw [top_word h4]
  exact (Nat.div_lt_iff_lt_mul (Nat.pow_pos W64_pos)).2 (by rw [Nat.mul_comm 9223372036854775808]; exact Nat.lt_of_lt_of_le h1 h3)
theorem scale_less {U V n m s : Nat} (hU : U < W64 ^ (m + (n + 1))) (hV : V * 2 ^ s < W64 ^ (n + 1)) (hs : s ≤ 63) (ht : 9223372036854775808 ≤ dg W64 (V * 2 ^ s) n) : U * 2 ^ s < V * 2 ^ s * W64 ^ (m + 1) := by
  have h1 : U * 2 ^ s < W64 ^ (m + (n + 1)) * 2 ^ s := Nat.mul_lt_mul_of_pos_right hU (Nat.pow_pos (by decide))
  have h2 : (2 : Nat) ^ s ≤ 9223372036854775808 := by
    have : (2 : Nat) ^ s ≤ 2 ^ 63 := Nat.pow_le_pow_right (by decide) hs
    simpa using this
  rw [top_word hV] at ht
  have h3 : 9223372036854775808 * W64 ^ n ≤ V * 2 ^ s := Nat.le_trans (Nat.mul_le_mul_right _ ht) (Nat.div_mul_le_self _ _)
  have h4 : 9223372036854775808 * W64 ^ n * W64 ^ (m + 1) ≤ V * 2 ^ s * W64 ^ (m + 1) := Nat.mul_le_mul_right _ h3
  have e : 9223372036854775808 * W64 ^ n * W64 ^ (m + 1) = W64 ^ (m + (n + 1)) * 9223372036854775808 := by
    rw [Nat.mul_assoc, ← Nat.pow_add, Nat.mul_comm, show n + (m + 1) = m + (n + 1) from by omega]
  rw [e] at h4
  exact Nat.lt_of_lt_of_le h1 (Nat.le_trans (Nat.mul_le_mul_left _ h2) h4)
theorem scale_div (U V s : Nat) : U * 2 ^ s / (V * 2 ^ s) = U / V := Nat.mul_div_mul_right _ _ (Nat.pow_pos (by decide))
theorem scale_mod (U V s : Nat) : U * 2 ^ s % (V * 2 ^ s) / 2 ^ s = U % V := by
  rw [Nat.mul_mod_mul_right, Nat.mul_div_cancel _ (Nat.pow_pos (by decide))]
theorem shift_out {U n s t : Nat} (hst : s + t = 64) (hU : U < W64 ^ (n + 1)) (hs : U * 2 ^ s < W64 ^ (n + 2)) : dg W64 U n / 2 ^ t = dg W64 (U * 2 ^ s) (n + 1) := by
  rw [top_word hU, top_word hs]
  have hW : W64 = 2 ^ t * 2 ^ s := by rw [← Nat.pow_add, Nat.add_comm t, hst]; rfl
  rw [Nat.pow_succ, hW, ← Nat.mul_assoc, Nat.mul_div_mul_right _ _ (Nat.pow_pos (by decide)), ← hW, Nat.div_div_eq_div_mul]
end Go.Bg
