/-
  Knuth's guess at a word of a quotient, plain.
  Long division: what is left behind each digit, plain.
  Long division: the guess at a digit of U / V, from the upper words, plain.
-/
import Derived.Test.YtdkipndepkblhaaGreatDoorBuEE
import Derived.Test.YtdkipndepkblhaaGreatDoorBuO
set_option linter.unusedSimpArgs false
set_option linter.unusedVariables false
namespace Go.Bg
open Go.RowKit Dg

/-- a guess at a word, by the two upper words of the divisor (h, l) and the three upper words of what is divided (u, z): q * h + r = u, and no less than what is right -/
structure Gk (B h l u z q r : Nat) : Prop where
  eq : q * h + r = u
  lo : (u * B + z) / (h * B + l) ≤ q
  hi : q < B
theorem Gk.start {B h l u z : Nat} (hB : 0 < B) (hh : 0 < h) (hl : l < B) (hz : z < B) (hu : u < h * B) : Gk B h l u z (u / h) (u % h) := by
  refine ⟨by rw [Nat.mul_comm]; exact Nat.div_add_mod _ _, ?_, (Nat.div_lt_iff_lt_mul hh).2 (by rw [Nat.mul_comm]; exact hu)⟩
  have e1 : (u * B + z) / (B * h) = u / h := by
    rw [← Nat.div_div_eq_div_mul]
    congr 1
    rw [Nat.mul_comm, Nat.mul_add_div hB, Nat.div_eq_of_lt hz, Nat.add_zero]
  rw [← e1]
  exact Nat.div_le_div_left (by rw [Nat.mul_comm]; omega) (Nat.mul_pos hB hh)
/-- the guess is too great -/
theorem Gk.down {B h l u z q r : Nat} (g : Gk B h l u z q r) (hB : 0 < B) (hh : 0 < h) (hg : r * B + z < q * l) :
    0 < q ∧ (u * B + z) / (h * B + l) ≤ q - 1 := by
  have hpos : 0 < h * B + l := Nat.lt_of_lt_of_le (Nat.mul_pos hh hB) (Nat.le_add_right _ _)
  have : (u * B + z) / (h * B + l) < q := by
    refine (Nat.div_lt_iff_lt_mul hpos).2 ?_
    rw [← g.eq, Nat.mul_add, Nat.add_mul, ← Nat.mul_assoc]
    omega
  generalize (u * B + z) / (h * B + l) = w at *
  omega
theorem Gk.next {B h l u z q r : Nat} (g : Gk B h l u z q r) (hB : 0 < B) (hh : 0 < h) (hg : r * B + z < q * l) : Gk B h l u z (q - 1) (r + h) := by
  obtain ⟨h1, h2⟩ := g.down hB hh hg
  have e := g.eq
  have := g.hi
  refine ⟨?_, h2, by omega⟩
  obtain ⟨p, rfl⟩ : ∃ p, q = p + 1 := ⟨q - 1, by omega⟩
  rw [Nat.add_mul, Nat.one_mul] at e
  rw [Nat.add_sub_cancel]
  omega
/-- no further step is wanted: by the test, or since r is no word -/
theorem Gk.right {B h l u z q r : Nat} (g : Gk B h l u z q r) (hB : 0 < B) (hh : 0 < h) (hg : q * l ≤ r * B + z) : q = (u * B + z) / (h * B + l) := by
  have hpos : 0 < h * B + l := Nat.lt_of_lt_of_le (Nat.mul_pos hh hB) (Nat.le_add_right _ _)
  refine Nat.le_antisymm ((Nat.le_div_iff_mul_le hpos).2 ?_) g.lo
  rw [← g.eq, Nat.mul_add, Nat.add_mul, ← Nat.mul_assoc]
  omega
theorem Gk.broke {B h l u z q r : Nat} (g : Gk B h l u z q r) (hB : 0 < B) (hh : 0 < h) (hl : l < B) (hr : B ≤ r) : q = (u * B + z) / (h * B + l) := by
  refine g.right hB hh ?_
  have h1 : q * l ≤ B * B := Nat.mul_le_mul (Nat.le_of_lt g.hi) (Nat.le_of_lt hl)
  have h2 : B * B ≤ r * B := Nat.mul_le_mul_right _ hr
  omega
/-- a guess by the upper parts is right or one too great: U = a * P + x, V = b * P + y, the upper parts a, b of three and two words -/
theorem guess_off {P a b x y V U q : Nat} (hP : 0 < P) (hx : x < P) (hy : y < P) (hU : U = a * P + x) (hV : V = b * P + y) (hb : 0 < b) (hq : q = a / b) (hqb : q ≤ b) :
    U / V ≤ q ∧ q ≤ U / V + 1 := by
  have hVp : 0 < V := by
    rw [hV]; exact Nat.lt_of_lt_of_le (Nat.mul_pos hb hP) (Nat.le_add_right _ _)
  have q1 : q * b ≤ a := by rw [hq]; exact Nat.div_mul_le_self _ _
  have q2 : a < q * b + b := by
    have := Nat.lt_mul_div_succ a hb
    rw [← hq, Nat.mul_add, Nat.mul_one, Nat.mul_comm b q] at this
    exact this
  constructor
  · have : U / V < q + 1 := by
      refine (Nat.div_lt_iff_lt_mul hVp).2 ?_
      have h1 : (a + 1) * P ≤ (q * b + b) * P := Nat.mul_le_mul_right _ q2
      have h2 : (q + 1) * V = (q * b + b) * P + (q + 1) * y := by rw [hV, Nat.mul_add, ← Nat.mul_assoc, Nat.add_mul q 1 b, Nat.one_mul]
      rw [Nat.add_mul a, Nat.one_mul] at h1
      rw [hU, h2]
      generalize (q * b + b) * P = m1 at *
      generalize a * P = m2 at *
      generalize (q + 1) * y = m3 at *
      omega
    exact Nat.le_of_lt_succ this
  · by_cases h0 : q = 0
    · rw [h0]; exact Nat.zero_le _
    · have : q - 1 ≤ U / V := by
        refine (Nat.le_div_iff_mul_le hVp).2 ?_
        obtain ⟨p, rfl⟩ : ∃ p, q = p + 1 := ⟨q - 1, by omega⟩
        rw [Nat.add_sub_cancel]
        have h1 : (p + 1) * b * P ≤ a * P := Nat.mul_le_mul_right _ q1
        have h2 : (p + 1) * b * P = p * b * P + b * P := by rw [Nat.add_mul, Nat.one_mul, Nat.add_mul]
        have h3 : p * V = p * b * P + p * y := by rw [hV, Nat.mul_add, ← Nat.mul_assoc]
        have h4 : p * y ≤ b * P := Nat.mul_le_mul (by omega) (Nat.le_of_lt hy)
        rw [hU, h3]
        rw [h2] at h1
        generalize p * b * P = m1 at *
        generalize b * P = m2 at *
        generalize a * P = m3 at *
        generalize p * y = m4 at *
        omega
      exact Nat.sub_le_iff_le_add.1 this
/-- the greatest word as a guess, where the upper words are alike -/
theorem guess_top {B P h y V U : Nat} (hB : 2 ≤ B) (hy : y < P) (hV : V = h * P + y) (hU : h * P * B ≤ U) (hU2 : U < B * V) (hh : B ≤ 2 * h) : U / V ≤ B - 1 ∧ B - 1 ≤ U / V + 1 := by
  have hVp : 0 < V := by
    rcases Nat.eq_zero_or_pos V with h0 | h0
    · rw [h0, Nat.mul_zero] at hU2; omega
    · exact h0
  constructor
  · have : U / V < B := (Nat.div_lt_iff_lt_mul hVp).2 hU2
    exact Nat.le_sub_one_of_lt this
  · have : B - 2 ≤ U / V := by
      refine (Nat.le_div_iff_mul_le hVp).2 ?_
      have h1 : B * V = h * P * B + y * B := by rw [hV, Nat.mul_comm B, Nat.add_mul]
      have h2 : y * B ≤ P * B := Nat.mul_le_mul_right _ (Nat.le_of_lt hy)
      have h3 : B * P ≤ 2 * h * P := Nat.mul_le_mul_right _ hh
      have h4 : 2 * h * P ≤ 2 * V := by rw [hV, Nat.mul_assoc, Nat.mul_add]; exact Nat.le_add_right _ _
      rw [Nat.mul_comm B P] at h3
      have h5 : (B - 2) * V = B * V - 2 * V := Nat.sub_mul _ _ _
      rw [h5]
      generalize B * V = m1 at *
      generalize h * P * B = m2 at *
      generalize y * B = m3 at *
      generalize P * B = m4 at *
      generalize 2 * h * P = m5 at *
      generalize (B - 2) * V = m6 at *
      omega
    generalize U / V = q at *
    omega
end Go.Bg

set_option linter.unusedSimpArgs false
set_option linter.unusedVariables false
namespace Go.Bg
open Go.RowKit Dg

/-- what is left of U when the digits of U / V from k up are taken -/
def urest (B U V k : Nat) : Nat := U % (V * B ^ k)
theorem urest_lt {B U V k : Nat} (hB : 0 < B) (hV : 0 < V) : urest B U V k < V * B ^ k := Nat.mod_lt _ (Nat.mul_pos hV (Nat.pow_pos hB))
theorem urest_start {B U V k : Nat} (h : U < V * B ^ k) : urest B U V k = U := Nat.mod_eq_of_lt h
theorem urest_done (B U V : Nat) : urest B U V 0 = U % V := by unfold urest; rw [Nat.pow_zero, Nat.mul_one]
/-- the part of what is left that the next digit is taken of -/
theorem usec_lt {B U V k : Nat} (hB : 0 < B) (hV : 0 < V) : urest B U V (k + 1) / B ^ k < V * B := by
  refine (Nat.div_lt_iff_lt_mul (Nat.pow_pos hB)).2 ?_
  have := urest_lt (B := B) (U := U) (V := V) (k := k + 1) hB hV
  rw [Nat.mul_assoc, Nat.mul_comm B, ← Nat.pow_succ]; exact this
theorem usec_step {B U V k : Nat} : urest B U V k = urest B U V (k + 1) % B ^ k + urest B U V (k + 1) / B ^ k % V * B ^ k := by
  unfold urest
  have e : U % (V * B ^ k) = U % (V * B ^ (k + 1)) % (B ^ k * V) := by
    rw [Nat.pow_succ, ← Nat.mul_assoc, Nat.mul_comm (B ^ k) V, Nat.mod_mul_right_mod]
  rw [e, Nat.mod_mul, Nat.mul_comm (B ^ k)]
theorem usec_digit {B U V k : Nat} : urest B U V (k + 1) / B ^ k / V = dg B (U / V) k := by
  unfold urest dg
  rw [Nat.div_div_eq_div_mul, Nat.div_div_eq_div_mul, Nat.mul_comm (B ^ k) V, Nat.pow_succ, ← Nat.mul_assoc, Nat.mod_mul_right_div_self]
theorem dg_lo {B a x k i : Nat} (hB : 0 < B) (hi : i < k) : dg B (a % B ^ k + x * B ^ k) i = dg B a i := by
  rw [← dg_mod (a % B ^ k + x * B ^ k) hi, Nat.add_mul_mod_self_right, Nat.mod_mod, dg_mod _ hi]
theorem dg_hi {B a x k i : Nat} (hB : 0 < B) : dg B (a % B ^ k + x * B ^ k) (k + i) = dg B x i := by
  rw [← Dg.dg_div, Nat.add_mul_div_right _ _ (Nat.pow_pos hB), Nat.div_eq_of_lt (Nat.mod_lt _ (Nat.pow_pos hB)), Nat.zero_add]
/-- the rest's digits below k are as they were -/
theorem urest_lo {B U V k i : Nat} (hB : 0 < B) (hi : i < k) : dg B (urest B U V k) i = dg B (urest B U V (k + 1)) i := by
  rw [usec_step, dg_lo hB hi]
theorem urest_hi {B U V k i : Nat} (hB : 0 < B) : dg B (urest B U V k) (k + i) = dg B (urest B U V (k + 1) / B ^ k % V) i := by
  rw [usec_step, dg_hi hB]

/-- a section from which a guess times the divisor is taken: no borrow, and it is the rest -/
theorem sub_right {B n S V q : Nat} (hS : S < B ^ (n + 1)) (hV : 0 < V) (h1 : S / V ≤ q) (hle : q * V ≤ S) : q = S / V ∧ S - q * V = S % V := by
  have e : q = S / V := Nat.le_antisymm ((Nat.le_div_iff_mul_le hV).2 hle) h1
  refine ⟨e, ?_⟩
  have := Nat.div_add_mod S V
  rw [e, Nat.mul_comm]
  omega
/-- a borrow: the guess was one too great -/
theorem sub_wrong {S V q : Nat} (hV : 0 < V) (h1 : S / V ≤ q) (h2 : q ≤ S / V + 1) (hgt : S < q * V) : q = S / V + 1 ∧ ∀ M, q * V ≤ S + M → V ≤ M → S + M - q * V + V = M + S % V := by
  have hne : q ≠ S / V := fun e => by
    have := Nat.div_mul_le_self S V
    rw [← e] at this
    omega
  have e : q = S / V + 1 := by omega
  refine ⟨e, fun M hM hVM => ?_⟩
  have := Nat.div_add_mod S V
  have h3 : q * V = V * (S / V) + V := by rw [e, Nat.add_mul, Nat.one_mul, Nat.mul_comm]
  omega
theorem guess_fits {B n V q : Nat} (hV : V < B ^ n) (hq : q < B) (hB : 0 < B) : q * V < B ^ (n + 1) := by
  rw [Nat.pow_succ, Nat.mul_comm (B ^ n)]
  have h1 : q * V ≤ q * B ^ n := Nat.mul_le_mul_left _ (Nat.le_of_lt hV)
  have h2 : q * B ^ n < B * B ^ n := Nat.mul_lt_mul_of_pos_right hq (Nat.pow_pos hB)
  omega
end Go.Bg
namespace Go.Proofs.YtdkipndepkblhaaGreatDoor
open Go.RowKit Go.Bg Dg
/-- the borrow of the whole section -/
theorem bor_sec {n S Y M : Nat} (hS : S < W64 ^ n) (hY : Y < W64 ^ n) (hM : M = W64 ^ n) : bor (S + M) Y n = if S < Y then 1 else 0 := by
  unfold bor
  rw [hM, Nat.add_mod_right, Nat.mod_eq_of_lt hS, Nat.mod_eq_of_lt hY]
end Go.Proofs.YtdkipndepkblhaaGreatDoor

set_option linter.unusedSimpArgs false
set_option linter.unusedVariables false
namespace Go.Bg
open Go.RowKit Dg

/-- the upper words of a number of n words -/
theorem top_two {B V n : Nat} (hB : 0 < B) (hV : V < B ^ (n + 2)) : V = (dg B V (n + 1) * B + dg B V n) * B ^ n + V % B ^ n ∧ dg B V (n + 1) < B ∧ dg B V n < B := by
  refine ⟨?_, dg_lt hB _ _, dg_lt hB _ _⟩
  have h1 := mod_succ B V (n + 1)
  have h2 := mod_succ B V n
  rw [Nat.mod_eq_of_lt hV] at h1
  rw [h2] at h1
  rw [Nat.add_mul, Nat.mul_assoc, Nat.mul_comm B (B ^ n), ← Nat.pow_succ, Nat.mul_comm _ (B ^ (n + 1)), Nat.mul_comm _ (B ^ n)]
  omega
theorem top_three {B S n : Nat} (hB : 0 < B) (hS : S < B ^ (n + 3)) : S = ((dg B S (n + 2) * B + dg B S (n + 1)) * B + dg B S n) * B ^ n + S % B ^ n := by
  have h1 := mod_succ B S (n + 2)
  have h2 := mod_succ B S (n + 1)
  have h3 := mod_succ B S n
  rw [Nat.mod_eq_of_lt hS, h2, h3] at h1
  have e1 : (dg B S (n + 2) * B + dg B S (n + 1)) * B * B ^ n = B ^ (n + 2) * dg B S (n + 2) + B ^ (n + 1) * dg B S (n + 1) := by
    rw [Nat.mul_assoc, Nat.mul_comm B (B ^ n), ← Nat.pow_succ, Nat.add_mul, Nat.mul_assoc, Nat.mul_comm B (B ^ (n + 1)), ← Nat.pow_succ, Nat.mul_comm, Nat.mul_comm (dg B S (n + 1))]
  rw [Nat.add_mul, e1, Nat.mul_comm (dg B S n)]
  omega
/-- where the upper words are alike -/
theorem guess_alike {n S V : Nat} (hV : V < W64 ^ (n + 2)) (hS : S < V * W64) (hn : W64 ≤ 2 * dg W64 V (n + 1)) (he : dg W64 S (n + 2) = dg W64 V (n + 1)) :
    S / V ≤ W64 - 1 ∧ W64 - 1 ≤ S / V + 1 := by
  have hS3 : S < W64 ^ (n + 3) := by
    rw [Nat.pow_succ]; exact Nat.lt_of_lt_of_le hS (Nat.mul_le_mul_right _ (Nat.le_of_lt hV))
  have h1 := mod_succ W64 V (n + 1)
  rw [Nat.mod_eq_of_lt hV] at h1
  have h2 := mod_succ W64 S (n + 2)
  rw [Nat.mod_eq_of_lt hS3, he] at h2
  refine guess_top (B := W64) (P := W64 ^ (n + 1)) (h := dg W64 V (n + 1)) (y := V % W64 ^ (n + 1)) (by decide) (Nat.mod_lt _ (Nat.pow_pos W64_pos)) (by rw [Nat.mul_comm]; omega) ?_ (by rw [Nat.mul_comm]; exact hS) hn
  have e : dg W64 V (n + 1) * W64 ^ (n + 1) * W64 = W64 ^ (n + 2) * dg W64 V (n + 1) := by rw [Nat.mul_assoc, ← Nat.pow_succ, Nat.mul_comm]
  rw [e, h2]
  exact Nat.le_add_left _ _
/-- where the guess is by three words and two -/
theorem guess_three {n S V q : Nat} (hV : V < W64 ^ (n + 2)) (hS : S < V * W64) (hn : W64 ≤ 2 * dg W64 V (n + 1))
    (hq : q = ((dg W64 S (n + 2) * W64 + dg W64 S (n + 1)) * W64 + dg W64 S n) / (dg W64 V (n + 1) * W64 + dg W64 V n)) (hqB : q < W64) :
    S / V ≤ q ∧ q ≤ S / V + 1 := by
  have hS3 : S < W64 ^ (n + 3) := by
    rw [Nat.pow_succ]; exact Nat.lt_of_lt_of_le hS (Nat.mul_le_mul_right _ (Nat.le_of_lt hV))
  have hh : 0 < dg W64 V (n + 1) := by
    have : 0 < W64 := W64_pos
    omega
  have hb : W64 ≤ dg W64 V (n + 1) * W64 + dg W64 V n := by
    have : 1 * W64 ≤ dg W64 V (n + 1) * W64 := Nat.mul_le_mul_right _ hh
    omega
  exact guess_off (Nat.pow_pos W64_pos) (Nat.mod_lt _ (Nat.pow_pos W64_pos)) (Nat.mod_lt _ (Nat.pow_pos W64_pos)) (top_three W64_pos hS3) (top_two W64_pos hV).1 (by have := W64_pos; omega) hq (by omega)
/-- what is above is less -/
theorem top_le {n S V : Nat} (hV : V < W64 ^ (n + 2)) (hS : S < V * W64) : dg W64 S (n + 2) ≤ dg W64 V (n + 1) := by
  have hS3 : S < W64 ^ (n + 3) := by
    rw [Nat.pow_succ]; exact Nat.lt_of_lt_of_le hS (Nat.mul_le_mul_right _ (Nat.le_of_lt hV))
  have e1 : dg W64 S (n + 2) = S / W64 ^ (n + 2) := by
    unfold dg; exact Nat.mod_eq_of_lt ((Nat.div_lt_iff_lt_mul (Nat.pow_pos W64_pos)).2 (by rw [← Nat.pow_succ']; exact hS3))
  have e2 : dg W64 V (n + 1) = V / W64 ^ (n + 1) := by
    unfold dg; exact Nat.mod_eq_of_lt ((Nat.div_lt_iff_lt_mul (Nat.pow_pos W64_pos)).2 (by rw [← Nat.pow_succ']; exact hV))
  rw [e1, e2]
  have h1 : S / W64 ^ (n + 2) ≤ V * W64 / W64 ^ (n + 2) := Nat.div_le_div_right (Nat.le_of_lt hS)
  rw [Nat.pow_succ W64 (n + 1), Nat.mul_div_mul_right _ _ W64_pos] at h1
  rw [Nat.pow_succ W64 (n + 1)]
  exact h1
end Go.Bg
