/-
  Long division: what is left behind each digit, plain.
  Long division: the guess at a digit of U / V, from the upper words, plain.
-/
import Derived.Test.YtpfjkaelbaoedaaGreatDoorBuFF
import Derived.Test.YtpfjkaelbaoedaaGreatDoorBuO
set_option linter.unusedSimpArgs false
set_option linter.unusedVariables false
namespace Go.Bg
open Go.RowKit Dg

/-- what is left of U when the digits of U / V from k up are taken -/
def urest (B U V k : Nat) : Nat := U % (V * B ^ k)
theorem urest_lt {B U V k : Nat} (hB : 0 < B) (hV : 0 < V) : urest B U V k < V * B ^ k := Nat.mod_lt _ (Nat.mul_pos hV (Nat.pow_pos hB))
theorem urest_start {B U V k : Nat} (h : U < V * B ^ k) : urest B U V k = U := Nat.mod_eq_of_lt h
theorem urest_done (B U V : Nat) : urest B U V 0 = U % V := by unfold urest; rw [Nat.pow_zero, Nat.mul_one]
/-- the part of what is left that the next digit is taken of -/
theorem usec_lt {B U V k : Nat} (hB : 0 < B) (hV : 0 < V) : urest B U V (k + 1) / B ^ k < V * B := by
  refine (Nat.div_lt_iff_lt_mul (Nat.pow_pos hB)).2 ?_
  have := urest_lt (B := B) (U := U) (V := V) (k := k + 1) hB hV
  rw [Nat.mul_assoc, Nat.mul_comm B, ← Nat.pow_succ]; exact this
theorem usec_step {B U V k : Nat} : urest B U V k = urest B U V (k + 1) % B ^ k + urest B U V (k + 1) / B ^ k % V * B ^ k := by
  unfold urest
  have e : U % (V * B ^ k) = U % (V * B ^ (k + 1)) % (B ^ k * V) := by
    rw [Nat.pow_succ, ← Nat.mul_assoc, Nat.mul_comm (B ^ k) V, Nat.mod_mul_right_mod]
  rw [e, Nat.mod_mul, Nat.mul_comm (B ^ k)]
theorem usec_digit {B U V k : Nat} : urest B U V (k + 1) / B ^ k / V = dg B (U / V) k := by
  unfold urest dg
  rw [Nat.div_div_eq_div_mul, Nat.div_div_eq_div_mul, Nat.mul_comm (B ^ k) V, Nat.pow_succ, ← Nat.mul_assoc, Nat.mod_mul_right_div_self]
theorem dg_lo {B a x k i : Nat} (hB : 0 < B) (hi : i < k) : dg B (a % B ^ k + x * B ^ k) i = dg B a i := by
  rw [← dg_mod (a % B ^ k + x * B ^ k) hi, Nat.add_mul_mod_self_right, Nat.mod_mod, dg_mod _ hi]
theorem dg_hi {B a x k i : Nat} (hB : 0 < B) : dg B (a % B ^ k + x * B ^ k) (k + i) = dg B x i := by
  rw [← Dg.dg_div, Nat.add_mul_div_right _ _ (Nat.pow_pos hB), Nat.div_eq_of_lt (Nat.mod_lt _ (Nat.pow_pos hB)), Nat.zero_add]
/-- the rest's digits below k are as they were -/
theorem urest_lo {B U V k i : Nat} (hB : 0 < B) (hi : i < k) : dg B (urest B U V k) i = dg B (urest B U V (k + 1)) i := by
  rw [usec_step, dg_lo hB hi]
theorem urest_hi {B U V k i : Nat} (hB : 0 < B) : dg B (urest B U V k) (k + i) = dg B (urest B U V (k + 1) / B ^ k % V) i := by
  rw [usec_step, dg_hi hB]

/-- a section from which a guess times the divisor is taken: no borrow, and it is the rest -/
theorem sub_right {B n S V q : Nat} (hS : S < B ^ (n + 1)) (hV : 0 < V) (h1 : S / V ≤ q) (hle : q * V ≤ S) : q = S / V ∧ S - q * V = S % V := by
  have e : q = S / V := Nat.le_antisymm ((Nat.le_div_iff_mul_le hV).2 hle) h1
  refine ⟨e, ?_⟩
  have := Nat.div_add_mod S V
  rw [e, Nat.mul_comm]
  omega
/-- a borrow: the guess was one too great -/
theorem sub_wrong {S V q : Nat} (hV : 0 < V) (h1 : S / V ≤ q) (h2 : q ≤ S / V + 1) (hgt : S < q * V) : q = S / V + 1 ∧ ∀ M, q * V ≤ S + M → V ≤ M → S + M - q * V + V = M + S % V := by
  have hne : q ≠ S / V := fun e => by
    have := Nat.div_mul_le_self S V
    rw [← e] at this
    omega
  have e : q = S / V + 1 := by omega
  refine ⟨e, fun M hM hVM => ?_⟩
  have := Nat.div_add_mod S V
  have h3 : q * V = V * (S / V) + V := by rw [e, Nat.add_mul, Nat.one_mul, Nat.mul_comm]
  omega
theorem guess_fits {B n V q : Nat} (hV : V < B ^ n) (hq : q < B) (hB : 0 < B) : q * V < B ^ (n + 1) := by
  rw [Nat.pow_succ, Nat.mul_comm (B ^ n)]
  have h1 : q * V ≤ q * B ^ n := Nat.mul_le_mul_left _ (Nat.le_of_lt hV)
  have h2 : q * B ^ n < B * B ^ n := Nat.mul_lt_mul_of_pos_right hq (Nat.pow_pos hB)
  omega
end Go.Bg
namespace Go.Proofs.YtpfjkaelbaoedaaGreatDoor
open Go.RowKit Go.Bg Dg
/-- the borrow of the whole section -/
theorem bor_sec {n S Y M : Nat} (hS : S < W64 ^ n) (hY : Y < W64 ^ n) (hM : M = W64 ^ n) : bor (S + M) Y n = if S < Y then 1 else 0 := by
  unfold bor
  rw [hM, Nat.add_mod_right, Nat.mod_eq_of_lt hS, Nat.mod_eq_of_lt hY]
end Go.Proofs.YtpfjkaelbaoedaaGreatDoor

set_option linter.unusedSimpArgs false
set_option linter.unusedVariables false
namespace Go.Bg
open Go.RowKit Dg

/-- the upper words of a number of n words -/
theorem top_two {B V n : Nat} (hB : 0 < B) (hV : V < B ^ (n + 2)) : V = (dg B V (n + 1) * B + dg B V n) * B ^ n + V % B ^ n ∧ dg B V (n + 1) < B ∧ dg B V n < B := by
  refine ⟨?_, dg_lt hB _ _, dg_lt hB _ _⟩
  have h1 := mod_succ B V (n + 1)
  have h2 := mod_succ B V n
  rw [Nat.mod_eq_of_lt hV] at h1
  rw [h2] at h1
  rw [Nat.add_mul, Nat.mul_assoc, Nat.mul_comm B (B ^ n), ← Nat.pow_succ, Nat.mul_comm _ (B ^ (n + 1)), Nat.mul_comm _ (B ^ n)]
  omega
theorem top_three {B S n : Nat} (hB : 0 < B) (hS : S < B ^ (n + 3)) : S = ((dg B S (n + 2) * B + dg B S (n + 1)) * B + dg B S n) * B ^ n + S % B ^ n := by
  have h1 := mod_succ B S (n + 2)
  have h2 := mod_succ B S (n + 1)
  have h3 := mod_succ B S n
  rw [Nat.mod_eq_of_lt hS, h2, h3] at h1
  have e1 : (dg B S (n + 2) * B + dg B S (n + 1)) * B * B ^ n = B ^ (n + 2) * dg B S (n + 2) + B ^ (n + 1) * dg B S (n + 1) := by
    rw [Nat.mul_assoc, Nat.mul_comm B (B ^ n), ← Nat.pow_succ, Nat.add_mul, Nat.mul_assoc, Nat.mul_comm B (B ^ (n + 1)), ← Nat.pow_succ, Nat.mul_comm, Nat.mul_comm (dg B S (n + 1))]
  rw [Nat.add_mul, e1, Nat.mul_comm (dg B S n)]
  omega
/-- where the upper words are alike -/
theorem guess_alike {n S V : Nat} (hV : V < W64 ^ (n + 2)) (hS : S < V * W64) (hn : W64 ≤ 2 * dg W64 V (n + 1)) (he : dg W64 S (n + 2) = dg W64 V (n + 1)) :
    S / V ≤ W64 - 1 ∧ W64 - 1 ≤ S / V + 1 := by
  have hS3 : S < W64 ^ (n + 3) := by
    rw [Nat.pow_succ]; exact Nat.lt_of_lt_of_le hS (Nat.mul_le_mul_right _ (Nat.le_of_lt hV))
  have h1 := mod_succ W64 V (n + 1)
  rw [Nat.mod_eq_of_lt hV] at h1
  have h2 := mod_succ W64 S (n + 2)
  rw [Nat.mod_eq_of_lt hS3, he] at h2
  refine guess_top (B := W64) (P := W64 ^ (n + 1)) (h := dg W64 V (n + 1)) (y := V % W64 ^ (n + 1)) (by decide) (Nat.mod_lt _ (Nat.pow_pos W64_pos)) (by rw [Nat.mul_comm]; omega) ?_ (by rw [Nat.mul_comm]; exact hS) hn
  have e : dg W64 V (n + 1) * W64 ^ (n + 1) * W64 = W64 ^ (n + 2) * dg W64 V (n + 1) := by rw [Nat.mul_assoc, ← Nat.pow_succ, Nat.mul_comm]
  rw [e, h2]
  exact Nat.le_add_left _ _
/-- where the guess is by three words and two -/
theorem guess_three {n S V q : Nat} (hV : V < W64 ^ (n + 2)) (hS : S < V * W64) (hn : W64 ≤ 2 * dg W64 V (n + 1))
    (hq : q = ((dg W64 S (n + 2) * W64 + dg W64 S (n + 1)) * W64 + dg W64 S n) / (dg W64 V (n + 1) * W64 + dg W64 V n)) (hqB : q < W64) :
    S / V ≤ q ∧ q ≤ S / V + 1 := by
  have hS3 : S < W64 ^ (n + 3) := by
    rw [Nat.pow_succ]; exact Nat.lt_of_lt_of_le hS (Nat.mul_le_mul_right _ (Nat.le_of_lt hV))
  have hh : 0 < dg W64 V (n + 1) := by
    have : 0 < W64 := W64_pos
    omega
  have hb : W64 ≤ dg W64 V (n + 1) * W64 + dg W64 V n := by
    have : 1 * W64 ≤ dg W64 V (n + 1) * W64 := Nat.mul_le_mul_right _ hh
    omega
  exact guess_off (Nat.pow_pos W64_pos) (Nat.mod_lt _ (Nat.pow_pos W64_pos)) (Nat.mod_lt _ (Nat.pow_pos W64_pos)) (top_three W64_pos hS3) (top_two W64_pos hV).1 (by have := W64_pos; omega) hq (by omega)
/-- what is above is less -/
theorem top_le {n S V : Nat} (hV : V < W64 ^ (n + 2)) (hS : S < V * W64) : dg W64 S (n + 2) ≤ dg W64 V (n + 1) := by
  have hS3 : S < W64 ^ (n + 3) := by
    rw [Nat.pow_succ]; exact Nat.lt_of_lt_of_le hS (Nat.mul_le_mul_right _ (Nat.le_of_lt hV))
  have e1 : dg W64 S (n + 2) = S / W64 ^ (n + 2) := by
    unfold dg; exact Nat.mod_eq_of_lt ((Nat.div_lt_iff_lt_mul (Nat.pow_pos W64_pos)).2 (by rw [← Nat.pow_succ']; exact hS3))
  have e2 : dg W64 V (n + 1) = V / W64 ^ (n + 1) := by
    unfold dg; exact Nat.mod_eq_of_lt ((Nat.div_lt_iff_lt_mul (Nat.pow_pos W64_pos)).2 (by rw [← Nat.pow_succ']; exact hV))
  rw [e1, e2]
  have h1 : S / W64 ^ (n + 2) ≤ V * W64 / W64 ^ (n + 2) := Nat.div_le_div_right (Nat.le_of_lt hS)
  rw [Nat.pow_succ W64 (n + 1), Nat.mul_div_mul_right _ _ W64_pos] at h1
  rw [Nat.pow_succ W64 (n + 1)]
  exact h1
end Go.Bg
