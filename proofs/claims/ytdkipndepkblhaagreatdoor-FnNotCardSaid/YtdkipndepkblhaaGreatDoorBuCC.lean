/-
  The reference's shifts, plain.
  The reference's numbers: Shr, Shifted.
  The reference's fractions: Shifted.
-/
import Derived.Test.YtdkipndepkblhaaGreatDoorBuB
import Derived.Test.YtdkipndepkblhaaGreatDoorBuH
import Derived.Test.YtdkipndepkblhaaGreatDoorBuA
set_option linter.unusedSimpArgs false
set_option linter.unusedVariables false
namespace Go.Bg
open Go.RowKit Dg
theorem shr_two (m r : Nat) (hr : r ≤ 16) : (m % 65536 + 65536 * (m / 65536 % 65536)) / 2 ^ r % 65536 = m / 2 ^ r % 65536 := by
  have h1 : m % (65536 * 65536) = m % 65536 + 65536 * (m / 65536 % 65536) := Nat.mod_mul
  rw [← h1]
  have hp : 0 < 2 ^ r := Nat.pow_pos (by decide)
  have e : m = 2 ^ r * (65536 * (2 ^ (16 - r) * (m / (65536 * 65536)))) + m % (65536 * 65536) := by
    have h2 := Nat.div_add_mod m (65536 * 65536)
    have h3 : 2 ^ r * 2 ^ (16 - r) = 65536 := by rw [← Nat.pow_add, show r + (16 - r) = 16 from by omega]
    generalize m / (65536 * 65536) = q at *
    have h4 : 2 ^ r * (65536 * (2 ^ (16 - r) * q)) = 65536 * 65536 * q := by
      rw [Nat.mul_left_comm, ← Nat.mul_assoc (2 ^ r), h3, Nat.mul_assoc]
    omega
  conv => rhs; rw [e]
  rw [Nat.mul_add_div hp, Nat.mul_add_mod]
theorem shr_split (N n : Nat) : N / 2 ^ n = N / 65536 ^ (n / 16) / 2 ^ (n % 16) := by
  rw [Nat.div_div_eq_div_mul, show (65536 : Nat) = 2 ^ 16 from rfl, ← Nat.pow_mul, ← Nat.pow_add, show 16 * (n / 16) + n % 16 = n from by omega]
theorem shr_dig (N n j : Nat) : (dg 65536 N (n / 16 + j) + 65536 * dg 65536 N (n / 16 + j + 1)) / 2 ^ (n % 16) % 65536 = dg 65536 (N / 2 ^ n) j := by
  have h := shr_two (N / 65536 ^ (n / 16 + j)) (n % 16) (by omega)
  have e : N / 2 ^ n / 65536 ^ j = N / 65536 ^ (n / 16 + j) / 2 ^ (n % 16) := by
    rw [shr_split N n, Nat.div_div_eq_div_mul, Nat.div_div_eq_div_mul, Nat.div_div_eq_div_mul, Nat.pow_add, Nat.mul_comm (2 ^ (n % 16)), Nat.mul_assoc]
  unfold dg
  rw [e, ← h, Nat.div_div_eq_div_mul, ← Nat.pow_succ]
theorem shr_fit {N n n1 : Nat} (h : N < 65536 ^ n1) : N / 2 ^ n < 65536 ^ (n1 - n / 16) := by
  rw [shr_split]
  refine Nat.lt_of_le_of_lt (Nat.div_le_self _ _) ?_
  by_cases hq : n / 16 ≤ n1
  · refine (Nat.div_lt_iff_lt_mul (Nat.pow_pos (by decide))).2 ?_
    rw [← Nat.pow_add, show n1 - n / 16 + n / 16 = n1 from by omega]; exact h
  · rw [Nat.div_eq_of_lt (Nat.lt_of_lt_of_le h (Nat.pow_le_pow_right (by decide) (by omega)))]
    exact Nat.pow_pos (by decide)
/-- a fraction that is whole, shifted -/
def Rt.shifted (r : Rt) (left : Bool) (k : Nat) : Rt := if left then Rt.whole r.neg (r.num * 2 ^ k) else if r.neg then Rt.whole true ((r.num - 1) / 2 ^ k + 1) else Rt.whole false (r.num / 2 ^ k)
/-- an integer, shifted -/
def shz (z : Int) (left : Bool) (k : Nat) : Int := if left then z * 2 ^ k else z / 2 ^ k
theorem shr_neg {z : Int} (h : z < 0) (k : Nat) : z / 2 ^ k = -((((z.natAbs - 1) / 2 ^ k + 1 : Nat)) : Int) := by
  obtain ⟨m, rfl⟩ : ∃ m : Nat, z = Int.negSucc m := ⟨z.natAbs - 1, by omega⟩
  have hp : (0 : Int) < 2 ^ k := Int.pow_pos (by decide)
  rw [Int.negSucc_ediv m hp]
  simp [Int.natAbs_negSucc]
  rfl
theorem shr_pos {z : Int} (h : 0 ≤ z) (k : Nat) : z / 2 ^ k = ((z.natAbs / 2 ^ k : Nat) : Int) := by
  obtain ⟨m, rfl⟩ : ∃ m : Nat, z = m := ⟨z.natAbs, by omega⟩
  simp
theorem shl_abs (z : Int) (k : Nat) : (z * 2 ^ k).natAbs = z.natAbs * 2 ^ k := by
  rw [Int.natAbs_mul, Int.natAbs_pow]; rfl
theorem shl_lt (z : Int) (k : Nat) : decide (z * 2 ^ k < 0) = decide (z < 0) := by
  have hp : (0 : Int) < 2 ^ k := Int.pow_pos (by decide)
  by_cases h : z < 0
  · simp [h, Int.mul_neg_of_neg_of_pos h hp]
  · have := Int.mul_nonneg (by omega : 0 ≤ z) (Int.le_of_lt hp)
    simp [h]; omega
theorem shifted_rz (z : Int) (left : Bool) (k : Nat) : (rz z).shifted left k = rz (shz z left k) := by
  cases left
  · by_cases h : z < 0
    · have e : (rz z).neg = true := by simp [rz, h]
      show (if (rz z).neg then Rt.whole true (((rz z).num - 1) / 2 ^ k + 1) else Rt.whole false ((rz z).num / 2 ^ k)) = rz (z / 2 ^ k)
      rw [if_pos e, ← whole_abs (z / 2 ^ k), shr_neg h]
      show Rt.whole true ((z.natAbs - 1) / 2 ^ k + 1) = _
      generalize (z.natAbs - 1) / 2 ^ k = q
      rw [decide_eq_true (by omega), show (-((q + 1 : Nat) : Int)).natAbs = q + 1 from by omega]
    · have e : ¬ (rz z).neg = true := by simp [rz]; omega
      show (if (rz z).neg then Rt.whole true (((rz z).num - 1) / 2 ^ k + 1) else Rt.whole false ((rz z).num / 2 ^ k)) = rz (z / 2 ^ k)
      rw [if_neg e, ← whole_abs (z / 2 ^ k), shr_pos (by omega)]
      show Rt.whole false (z.natAbs / 2 ^ k) = _
      generalize z.natAbs / 2 ^ k = q
      rw [decide_eq_false (by omega), show ((q : Nat) : Int).natAbs = q from by omega]
  · show Rt.whole (decide (z < 0)) (z.natAbs * 2 ^ k) = rz (z * 2 ^ k)
    rw [← whole_abs (z * 2 ^ k), shl_lt, shl_abs]
theorem shz_fit {z : Int} {L B : Nat} (h : z.natAbs < 2 ^ (64 * L)) (left : Bool) {k : Nat} (hk : k ≤ 64 * B) : (shz z left k).natAbs < 2 ^ (64 * (L + B)) := by
  have h0 : (2 : Nat) ^ (64 * L) ≤ 2 ^ (64 * (L + B)) := Nat.pow_le_pow_right (by decide) (by omega)
  unfold shz
  cases left
  · rw [if_neg (by simp)]
    refine Nat.lt_of_lt_of_le ?_ h0
    by_cases hz : z < 0
    · rw [shr_neg hz]
      have := Nat.div_le_self (z.natAbs - 1) (2 ^ k)
      generalize (z.natAbs - 1) / 2 ^ k = q at *
      omega
    · rw [shr_pos (by omega)]
      have := Nat.div_le_self z.natAbs (2 ^ k)
      generalize z.natAbs / 2 ^ k = q at *
      omega
  · rw [if_pos rfl, shl_abs]
    have h1 : (2 : Nat) ^ k ≤ 2 ^ (64 * B) := Nat.pow_le_pow_right (by decide) hk
    rw [Nat.mul_add, Nat.pow_add]
    exact Nat.lt_of_lt_of_le (Nat.mul_lt_mul_of_pos_right h (Nat.pow_pos (by decide))) (Nat.mul_le_mul_left _ h1)
end Go.Bg

set_option linter.unusedSimpArgs false
set_option linter.unusedVariables false
namespace Go.Proofs.YtdkipndepkblhaaGreatDoor
open Go.RowKit Go.Bg Dg

theorem shr_cast (x y r : Nat) : (((x : Int) + 65536 * y) / 2 ^ r).tmod 65536 = (((x + 65536 * y) / 2 ^ r % 65536 : Nat) : Int) := by
  have h : 0 ≤ ((x : Int) + 65536 * y) / 2 ^ r := Int.ediv_nonneg (by omega) (Int.le_of_lt (Int.pow_pos (by decide)))
  rw [Int.tmod_eq_emod_of_nonneg h]
  simp
theorem shr_cast0 (x r : Nat) : ((x : Int) / 2 ^ r).tmod 65536 = (((x + 65536 * 0) / 2 ^ r % 65536 : Nat) : Int) := by
  have h := shr_cast x 0 r
  simpa using h

end Go.Proofs.YtdkipndepkblhaaGreatDoor

set_option linter.unusedSimpArgs false
set_option linter.unusedVariables false
namespace Go.Bg
theorem shl_fit16 {N L k : Nat} (h : N < 65536 ^ L) : N * 2 ^ k < 65536 ^ (L + k / 16 + 1) := by
  have h1 : (2 : Nat) ^ k ≤ 65536 ^ (k / 16 + 1) := by
    rw [show (65536 : Nat) = 2 ^ 16 from rfl, ← Nat.pow_mul]
    exact Nat.pow_le_pow_right (by decide) (by omega)
  rw [Nat.add_assoc, Nat.pow_add]
  exact Nat.lt_of_lt_of_le (Nat.mul_lt_mul_of_pos_right h (Nat.pow_pos (by decide))) (Nat.mul_le_mul_left _ h1)
theorem shr_fit16 {N L k : Nat} (h : N < 65536 ^ L) (m : Nat) : N / 2 ^ k < 65536 ^ (L + m) :=
  Nat.lt_of_le_of_lt (Nat.div_le_self _ _) (Nat.lt_of_lt_of_le h (Nat.pow_le_pow_right (by decide) (by omega)))
end Go.Bg
namespace Go.Proofs.YtdkipndepkblhaaGreatDoor
open Go.RowKit Go.Bg Dg

theorem small_one' (w : World) : Calls Tryz.prog 43 #[.int .i64 1] w (Gives .i64 65536 1 w) := small_any 1 w (by omega)

end Go.Proofs.YtdkipndepkblhaaGreatDoor
