/-
  Lehmer's steps with leading words, plain.
  Lehmer's steps with leading words: what the leading words are, and what the steps make, plain.
  lehmerSimulate. PRINTED BY wip/gen_lehs.py.
-/
import Derived.Test.YtdkipndepkblhaaGreatDoorBuA
import Derived.Test.YtdkipndepkblhaaGreatDoorBuEE
import Derived.Test.YtdkipndepkblhaaGreatDoorBuOO
import Derived.Test.YtdkipndepkblhaaGreatDoorBuY
import Derived.Test.YtdkipndepkblhaaGreatDoorBuQQ
set_option linter.unusedSimpArgs false
set_option linter.unusedVariables false
namespace Go.Bg
open Dg

/-- the state of the simulated steps: the remainders a1, a2 of X and Y, and the factors that tell them -/
structure Lh (X Y a1 a2 u1 u2 v1 v2 : Nat) (even : Bool) : Prop where
  det : if even then u2 * v1 = u1 * v2 + 1 else u1 * v2 = u2 * v1 + 1
  ex : a1 * v2 + a2 * v1 = X
  ey : a1 * u2 + a2 * u1 = Y
  le : a2 ≤ a1
  uv : u2 ≤ v2
  st : u1 ≤ v1 ∨ (u1 = 1 ∧ v1 = 0 ∧ u2 = 0 ∧ v2 = 1)
  pos : 1 ≤ v2

theorem Lh.start {X Y : Nat} (h : Y ≤ X) : Lh X Y X Y 1 0 0 1 false := ⟨by simp, by simp, by simp, h, by omega, .inr ⟨rfl, rfl, rfl, rfl⟩, Nat.le_refl _⟩

theorem Lh.step {X Y a1 a2 u1 u2 v1 v2 : Nat} {even : Bool} (l : Lh X Y a1 a2 u1 u2 v1 v2 even) (h2 : 0 < a2) :
    Lh X Y a2 (a1 % a2) u2 (u1 + a1 / a2 * u2) v2 (v1 + a1 / a2 * v2) (!even) := by
  have hq : 1 ≤ a1 / a2 := Nat.div_pos l.le h2
  have hd := Nat.div_add_mod a1 a2
  have hr := Nat.mod_lt a1 h2
  generalize a1 / a2 = q at *
  generalize a1 % a2 = r at *
  obtain ⟨det, ex, ey, le, uv, st, pos⟩ := l
  refine ⟨?_, ?_, ?_, Nat.le_of_lt hr, ?_, .inl uv, ?_⟩
  · cases even
    · simp only [Bool.not_false, if_true, Bool.false_eq_true, if_false] at det ⊢
      grind
    · simp only [Bool.not_true, if_true, Bool.false_eq_true, if_false] at det ⊢
      grind
  · subst hd; rw [← ex]; grind
  · subst hd; rw [← ey]; grind
  · rcases st with h | ⟨h1, h2, h3, h4⟩
    · exact Nat.add_le_add h (Nat.mul_le_mul_left _ uv)
    · subst h1 h2 h3 h4; omega
  · have : 1 * 1 ≤ q * v2 := Nat.mul_le_mul hq pos
    omega

theorem Lh.v2_le {X Y a1 a2 u1 u2 v1 v2 : Nat} {even : Bool} (l : Lh X Y a1 a2 u1 u2 v1 v2 even) (h : 0 < a1) : v2 ≤ X := by
  have h1 : 1 * v2 ≤ a1 * v2 := Nat.mul_le_mul_right _ h
  have := l.ex
  omega
theorem Lh.v12_le {X Y a1 a2 u1 u2 v1 v2 : Nat} {even : Bool} (l : Lh X Y a1 a2 u1 u2 v1 v2 even) (h : 0 < a2) : v1 + v2 ≤ X := by
  have h1 : 1 * v2 ≤ a1 * v2 := Nat.mul_le_mul_right _ (Nat.lt_of_lt_of_le h l.le)
  have h2 : 1 * v1 ≤ a2 * v1 := Nat.mul_le_mul_right _ h
  have := l.ex
  omega
theorem Lh.u1_le {X Y a1 a2 u1 u2 v1 v2 : Nat} {even : Bool} (l : Lh X Y a1 a2 u1 u2 v1 v2 even) : u1 ≤ v1 + 1 := by
  rcases l.st with h | ⟨h1, h2, h3, h4⟩ <;> omega

/-- the sign of the simulated steps -/
def lsg (even : Bool) : Int := if even then -1 else 1
/-- what the factors make of two numbers that begin with X and Y -/
theorem Lh.take {X Y a1 a2 u1 u2 v1 v2 : Nat} {even : Bool} (l : Lh X Y a1 a2 u1 u2 v1 v2 even) {A B T x y : Nat} (hA : A = X * T + x) (hB : B = Y * T + y) (hx : x < T) (hy : y < T) (c1 : v2 ≤ a2) (c2 : v1 + v2 ≤ a1 - a2) (hu : u1 ≤ v1) :
    ∃ P Q : Nat, (P : Int) = lsg even * (u1 * A - v1 * B) ∧ (Q : Int) = lsg even * (v2 * B - u2 * A) ∧ Q ≤ P ∧ A = v2 * P + v1 * Q ∧ B = u2 * P + u1 * Q := by
  obtain ⟨det, ex, ey, le, uv, st, pos⟩ := l
  have m1 : v2 * T ≤ a2 * T := Nat.mul_le_mul_right _ c1
  have m2 : (v1 + v2) * T ≤ (a1 - a2) * T := Nat.mul_le_mul_right _ c2
  have m2' : (a1 - a2) * T = a1 * T - a2 * T := Nat.sub_mul _ _ _
  have m2'' : a2 * T ≤ a1 * T := Nat.mul_le_mul_right _ le
  have m3 : u2 * x ≤ v2 * T := Nat.mul_le_mul uv (Nat.le_of_lt hx)
  have m4 : v2 * y ≤ v2 * T := Nat.mul_le_mul_left _ (Nat.le_of_lt hy)
  have m5 : v1 * y ≤ v1 * T := Nat.mul_le_mul_left _ (Nat.le_of_lt hy)
  have m6 : u1 * x ≤ v1 * T := Nat.mul_le_mul hu (Nat.le_of_lt hx)
  rw [Nat.add_mul, m2'] at m2
  cases even
  · simp only [Bool.false_eq_true, if_false] at det
    have hP : v1 * y ≤ a1 * T + u1 * x := by omega
    have hQ : u2 * x ≤ a2 * T + v2 * y := by omega
    obtain ⟨P, eP⟩ : ∃ P, P + v1 * y = a1 * T + u1 * x := ⟨a1 * T + u1 * x - v1 * y, by omega⟩
    obtain ⟨Q, eQ⟩ : ∃ Q, Q + u2 * x = a2 * T + v2 * y := ⟨a2 * T + v2 * y - u2 * x, by omega⟩
    have hle : Q ≤ P := by omega
    clear m1 m2 m2' m2'' m3 m4 m5 m6 hP hQ c1 c2 hx hy le uv st pos hu
    have eA : A = v2 * P + v1 * Q := by subst hA ex; grind
    have eB : B = u2 * P + u1 * Q := by subst hB ey; grind
    refine ⟨P, Q, ?_, ?_, hle, eA, eB⟩
    · simp only [lsg, Bool.false_eq_true, if_false]
      have e1 : (A : Int) = v2 * P + v1 * Q := by exact_mod_cast eA
      have e2 : (B : Int) = u2 * P + u1 * Q := by exact_mod_cast eB
      have e3 : (u1 : Int) * v2 = u2 * v1 + 1 := by exact_mod_cast det
      rw [e1, e2]; grind
    · simp only [lsg, Bool.false_eq_true, if_false]
      have e1 : (A : Int) = v2 * P + v1 * Q := by exact_mod_cast eA
      have e2 : (B : Int) = u2 * P + u1 * Q := by exact_mod_cast eB
      have e3 : (u1 : Int) * v2 = u2 * v1 + 1 := by exact_mod_cast det
      rw [e1, e2]; grind
  · simp only [if_true] at det
    have hP : u1 * x ≤ a1 * T + v1 * y := by omega
    have hQ : v2 * y ≤ a2 * T + u2 * x := by omega
    obtain ⟨P, eP⟩ : ∃ P, P + u1 * x = a1 * T + v1 * y := ⟨a1 * T + v1 * y - u1 * x, by omega⟩
    obtain ⟨Q, eQ⟩ : ∃ Q, Q + v2 * y = a2 * T + u2 * x := ⟨a2 * T + u2 * x - v2 * y, by omega⟩
    have m7 : u2 * x ≤ v2 * T := m3
    have hle : Q ≤ P := by omega
    clear m1 m2 m2' m2'' m3 m4 m5 m6 m7 hP hQ c1 c2 hx hy le uv st pos hu
    have eA : A = v2 * P + v1 * Q := by subst hA ex; grind
    have eB : B = u2 * P + u1 * Q := by subst hB ey; grind
    refine ⟨P, Q, ?_, ?_, hle, eA, eB⟩
    · simp only [lsg, if_true]
      have e1 : (A : Int) = v2 * P + v1 * Q := by exact_mod_cast eA
      have e2 : (B : Int) = u2 * P + u1 * Q := by exact_mod_cast eB
      have e3 : (u2 : Int) * v1 = u1 * v2 + 1 := by exact_mod_cast det
      rw [e1, e2]; grind
    · simp only [lsg, if_true]
      have e1 : (A : Int) = v2 * P + v1 * Q := by exact_mod_cast eA
      have e2 : (B : Int) = u2 * P + u1 * Q := by exact_mod_cast eB
      have e3 : (u2 : Int) * v1 = u1 * v2 + 1 := by exact_mod_cast det
      rw [e1, e2]; grind

/-- the greatest common divisor is as it was, and the numbers are smaller -/
theorem lh_gcd {A B P Q u1 u2 v1 v2 : Nat} {even : Bool} (hP : (P : Int) = lsg even * (u1 * A - v1 * B)) (hQ : (Q : Int) = lsg even * (v2 * B - u2 * A)) (hA : A = v2 * P + v1 * Q) (hB : B = u2 * P + u1 * Q) : Nat.gcd P Q = Nat.gcd A B := by
  apply Nat.dvd_antisymm
  · refine Nat.dvd_gcd ?_ ?_
    · rw [hA]; exact Nat.dvd_add (Nat.dvd_trans (Nat.gcd_dvd_left _ _) (Nat.dvd_mul_left _ _)) (Nat.dvd_trans (Nat.gcd_dvd_right _ _) (Nat.dvd_mul_left _ _))
    · rw [hB]; exact Nat.dvd_add (Nat.dvd_trans (Nat.gcd_dvd_left _ _) (Nat.dvd_mul_left _ _)) (Nat.dvd_trans (Nat.gcd_dvd_right _ _) (Nat.dvd_mul_left _ _))
  · have dA : ((Nat.gcd A B : Nat) : Int) ∣ (A : Int) := Int.natCast_dvd_natCast.2 (Nat.gcd_dvd_left _ _)
    have dB : ((Nat.gcd A B : Nat) : Int) ∣ (B : Int) := Int.natCast_dvd_natCast.2 (Nat.gcd_dvd_right _ _)
    refine Nat.dvd_gcd ?_ ?_
    · refine Int.natCast_dvd_natCast.1 ?_
      rw [hP]
      exact Int.dvd_mul_of_dvd_right (Int.dvd_sub (Int.dvd_mul_of_dvd_right dA) (Int.dvd_mul_of_dvd_right dB))
    · refine Int.natCast_dvd_natCast.1 ?_
      rw [hQ]
      exact Int.dvd_mul_of_dvd_right (Int.dvd_sub (Int.dvd_mul_of_dvd_right dB) (Int.dvd_mul_of_dvd_right dA))
theorem lh_less {A B P Q u1 u2 v1 v2 : Nat} (hA : A = v2 * P + v1 * Q) (h1 : 1 ≤ v1) (h2 : 1 ≤ v2) (hB : 0 < B) : P + Q < A + B := by
  have m1 : 1 * P ≤ v2 * P := Nat.mul_le_mul_right _ h2
  have m2 : 1 * Q ≤ v1 * Q := Nat.mul_le_mul_right _ h1
  omega
end Go.Bg

set_option linter.unusedSimpArgs false
set_option linter.unusedVariables false
namespace Go.Bg
open Go.RowKit Dg

/-- the leading words of A, by s and t -/
theorem sim_top {A p s t : Nat} (hst : s + t = 64) (hA : A < W64 ^ (p + 2)) (h : dg W64 A (p + 1) * 2 ^ s < W64) :
    (dg W64 A (p + 1) * 2 ^ s % W64) ||| (dg W64 A p / 2 ^ t) = A / (W64 ^ p * 2 ^ t) ∧ A / (W64 ^ p * 2 ^ t) < W64 := by
  have hh := half hst (A / W64 ^ p)
  have e1 : A / W64 ^ p / W64 = dg W64 A (p + 1) := by
    have hl : A / W64 ^ (p + 1) < W64 := (Nat.div_lt_iff_lt_mul (Nat.pow_pos W64_pos)).2 (by rw [Nat.mul_comm, ← Nat.pow_succ]; exact hA)
    rw [Nat.div_div_eq_div_mul, ← Nat.pow_succ]
    unfold dg
    rw [Nat.mod_eq_of_lt hl]
  have hl : dg W64 A (p + 1) < W64 := dg_lt W64_pos _ _
  have e2 : A / W64 ^ p % W64 = dg W64 A p := rfl
  have hlt : A / (W64 ^ p * 2 ^ t) < W64 := by
    refine (Nat.div_lt_iff_lt_mul (Nat.mul_pos (Nat.pow_pos W64_pos) (Nat.pow_pos (by decide)))).2 ?_
    have d1 := Nat.div_add_mod (A / W64 ^ p) W64
    rw [e1] at d1
    have d2 := Nat.div_add_mod A (W64 ^ p)
    have d3 := Nat.mod_lt (A / W64 ^ p) W64_pos
    have d4 := Nat.mod_lt A (Nat.pow_pos (n := p) W64_pos)
    have d5 : dg W64 A (p + 1) + 1 ≤ 2 ^ t := by
      have : dg W64 A (p + 1) < 2 ^ t := by
        have e : W64 = 2 ^ t * 2 ^ s := by rw [← Nat.pow_add, show t + s = 64 from by omega, W64_eq]
        have h' : dg W64 A (p + 1) * 2 ^ s < 2 ^ t * 2 ^ s := by rw [← e]; exact h
        exact Nat.lt_of_mul_lt_mul_right h'
      omega
    generalize dg W64 A (p + 1) = d at *
    have d6 : A / W64 ^ p < W64 * (d + 1) := by rw [Nat.mul_add, Nat.mul_one]; omega
    have d7 : A < W64 ^ p * (W64 * (d + 1)) := by
      have : W64 ^ p * (A / W64 ^ p + 1) ≤ W64 ^ p * (W64 * (d + 1)) := Nat.mul_le_mul_left _ d6
      rw [Nat.mul_add, Nat.mul_one] at this
      omega
    refine Nat.lt_of_lt_of_le d7 ?_
    rw [Nat.mul_comm W64 (W64 ^ p * 2 ^ t), Nat.mul_assoc, Nat.mul_comm W64 (d + 1)]
    exact Nat.mul_le_mul_left _ (Nat.mul_le_mul_right _ d5)
  refine ⟨?_, hlt⟩
  rw [e1, e2, Nat.mod_eq_of_lt hl, Nat.div_div_eq_div_mul, Nat.mod_eq_of_lt hlt] at hh
  exact hh.symm
theorem sim_one {B p t : Nat} (hB : B < W64 ^ (p + 1)) : dg W64 B p / 2 ^ t = B / (W64 ^ p * 2 ^ t) := by
  rw [← Nat.div_div_eq_div_mul]
  unfold dg
  rw [Nat.mod_eq_of_lt ((Nat.div_lt_iff_lt_mul (Nat.pow_pos W64_pos)).2 (by rw [Nat.mul_comm, ← Nat.pow_succ]; exact hB))]
theorem sim_none {B p m t : Nat} (hB : B < W64 ^ m) (hm : m ≤ p) : B / (W64 ^ p * 2 ^ t) = 0 := by
  refine Nat.div_eq_of_lt (Nat.lt_of_lt_of_le hB (Nat.le_trans (Nat.pow_le_pow_right W64_pos hm) ?_))
  exact Nat.le_mul_of_pos_right _ (Nat.pow_pos (by decide))

/-- what the steps have made, if they made anything -/
def SimRes (A B u0 u1 v0 v1 : Nat) (even : Bool) : Prop :=
  u0 < W64 ∧ u1 < W64 ∧ v0 < W64 ∧ v1 < W64 ∧ (0 < v0 → 0 < u1 ∧ ∃ P Q : Nat, (P : Int) = lsg (!even) * (u0 * A - v0 * B) ∧ (Q : Int) = lsg (!even) * (v1 * B - u1 * A) ∧ Q ≤ P ∧ Nat.gcd P Q = Nat.gcd A B ∧ P + Q < A + B ∧ P ≤ A ∧ Q ≤ B)

/-- the loop's state -/
structure SimAt (X Y a1 a2 u0 u1 u2 v0 v1 v2 : Nat) (even : Bool) : Prop where
  st : Lh X Y a1 a2 u1 u2 v1 v2 even
  bx : X < W64
  lt : u0 < W64 ∧ u1 < W64 ∧ u2 < W64 ∧ v0 < W64 ∧ v1 < W64 ∧ v2 < W64 ∧ a1 < W64
  nz : (u1 = 1 ∧ v1 = 0) ∨ 0 < u2
  old : v0 = 0 ∨ (u0 ≤ v0 ∧ 0 < u1 ∧ ∃ b1 b2, Lh X Y b1 b2 u0 u1 v0 v1 (!even) ∧ v1 ≤ b2 ∧ v0 + v1 ≤ b1 - b2)

theorem SimAt.start {X Y : Nat} (hX : X < W64) (h : Y ≤ X) : SimAt X Y X Y 0 1 0 0 0 1 false :=
  ⟨Lh.start h, hX, by unfold W64 at *; omega, .inl ⟨rfl, rfl⟩, .inl rfl⟩
/-- no word overflows -/
theorem SimAt.room {X Y a1 a2 u0 u1 u2 v0 v1 v2 : Nat} {even : Bool} (h : SimAt X Y a1 a2 u0 u1 u2 v0 v1 v2 even) (c : v2 ≤ a2) : 0 < a2 ∧ a2 ≤ a1 ∧ v1 + v2 < W64 := by
  have hp := h.st.pos
  have h2 : 0 < a2 := by omega
  have := h.st.v12_le h2
  have := h.bx
  exact ⟨h2, h.st.le, by omega⟩
theorem SimAt.step {X Y a1 a2 u0 u1 u2 v0 v1 v2 : Nat} {even : Bool} (h : SimAt X Y a1 a2 u0 u1 u2 v0 v1 v2 even) (c : v2 ≤ a2) (c2 : v1 + v2 ≤ a1 - a2) :
    SimAt X Y a2 (a1 % a2) u1 u2 (u1 + a1 / a2 * u2) v1 v2 (v1 + a1 / a2 * v2) (!even) ∧ u1 + a1 / a2 * u2 < W64 ∧ v1 + a1 / a2 * v2 < W64 := by
  obtain ⟨h2, hle, -⟩ := h.room c
  have hs := h.st.step h2
  have hv := hs.v2_le h2
  have hb := h.bx
  have huv := hs.uv
  have hu : u1 + a1 / a2 * u2 < W64 := by omega
  have hv' : v1 + a1 / a2 * v2 < W64 := by omega
  have hq : 1 ≤ a1 / a2 := Nat.div_pos hle h2
  obtain ⟨l0, l1, l2, l3, l4, l5, l6⟩ := h.lt
  refine ⟨⟨hs, hb, ⟨l1, l2, hu, l4, l5, hv', by omega⟩, .inr ?_, ?_⟩, hu, hv'⟩
  · rcases h.nz with ⟨h1, _⟩ | h1
    · omega
    · have : 1 * 1 ≤ a1 / a2 * u2 := Nat.mul_le_mul hq h1
      omega
  · rcases Nat.eq_zero_or_pos v1 with h0 | h0
    · exact .inl h0
    · refine .inr ⟨?_, ?_, a1, a2, by rw [Bool.not_not]; exact h.st, c, c2⟩
      · rcases h.st.st with hst | ⟨_, hz, _, _⟩
        · exact hst
        · omega
      · rcases h.nz with ⟨_, h1⟩ | h1
        · omega
        · exact h1
theorem SimAt.done {X Y a1 a2 u0 u1 u2 v0 v1 v2 : Nat} {even : Bool} (h : SimAt X Y a1 a2 u0 u1 u2 v0 v1 v2 even) {A B T : Nat} (hA : X = A / T) (hB : Y = B / T) (hT : 0 < T) (hB0 : 0 < B) : SimRes A B u0 u1 v0 v1 even := by
  obtain ⟨l0, l1, l2, l3, l4, l5, l6⟩ := h.lt
  refine ⟨l0, l1, l3, l4, fun hv => ?_⟩
  rcases h.old with h0 | ⟨h0, hu1, b1, b2, hl, c1, c2⟩
  · omega
  · have eA : A = X * T + A % T := by rw [hA, Nat.mul_comm]; exact (Nat.div_add_mod A T).symm
    have eB : B = Y * T + B % T := by rw [hB, Nat.mul_comm]; exact (Nat.div_add_mod B T).symm
    obtain ⟨P, Q, hP, hQ, hle, e1, e2⟩ := hl.take eA eB (Nat.mod_lt _ hT) (Nat.mod_lt _ hT) c1 c2 h0
    have hg := lh_gcd hP hQ e1 e2
    have hlt := lh_less (u1 := u0) (u2 := u1) e1 hv hl.pos hB0
    have m1 : 1 * P ≤ v1 * P := Nat.mul_le_mul_right _ hl.pos
    have m2 : 1 * P ≤ u1 * P := Nat.mul_le_mul_right _ hu1
    exact ⟨hu1, P, Q, hP, hQ, hle, hg, hlt, by omega, by omega⟩
end Go.Bg

set_option linter.unusedSimpArgs false
set_option linter.unusedVariables false
namespace Go.Proofs.YtdkipndepkblhaaGreatDoor
open Go.RowKit Go.Bg Dg

/-- factors for two numbers, by their leading words -/
def SimIs (A B : Nat) (w : World) (e : Ending) (w' : World) : Prop :=
  ∃ u0 u1 v0 v1 even, e = .returned (.tuple #[.int .u64 (u0 : Nat), .int .u64 (u1 : Nat), .int .u64 (v0 : Nat), .int .u64 (v1 : Nat), .bool even]) ∧ SimRes A B u0 u1 v0 v1 even ∧ Below w.heap.size w w'

set_option maxRecDepth 100000 in
set_option maxHeartbeats 4000000 in
theorem simulate_same (ba bb ga gb n m ca cb A B : Nat) (w : World) (p0 : w.cell? ⟨ba, 1, none⟩ = some (.slice (some ⟨ga, 0, none⟩) n ca)) (q0 : w.cell? ⟨bb, 1, none⟩ = some (.slice (some ⟨gb, 0, none⟩) m cb)) (hA : NumAt .u64 W64 w (some ⟨ga, 0, none⟩) n ca A) (hB : NumAt .u64 W64 w (some ⟨gb, 0, none⟩) m cb B) (hm : 2 ≤ m) (hle : B ≤ A) (hn : n ≤ 900000) (hnm : n = m) :
    Calls Tryz.prog 229 #[.pointer (some ⟨ba, 0, none⟩), .pointer (some ⟨bb, 0, none⟩)] w (SimIs A B w) := by
  obtain ⟨p, hp⟩ : ∃ p, n = p + 2 := ⟨n - 2, by omega⟩
  obtain ⟨p1, hp1⟩ : ∃ p1, p1 = p + 1 := ⟨_, rfl⟩
  have hmb : m ≤ 900000 := by omega
  have hi1 : (n : Int) - 1 = p1 := by omega
  have hi2 : (n : Int) - 2 = p := by omega
  have l1 : (p1 : Int) < n := by omega
  have l2 : (p : Int) < n := by omega
  have hca := hA.nc
  have hcam := hA.cm
  have hcb := hB.nc
  have hcbm := hB.cm
  unfold maxLen at hcam hcbm
  have hAl : A < W64 ^ (p + 2) := by rw [← hp]; exact hA.lt
  have hB0 : 0 < B := by
    rcases hB.top with h | h
    · omega
    · exact Nat.lt_of_lt_of_le (Nat.pow_pos W64_pos) h
  have x1 := hA.cell (i := p1) (by omega)
  have x0 := hA.cell (i := p) (by omega)
  rw [Nat.zero_add] at x1 x0
  have y0' : 0 < dg W64 A p1 := by
    rw [hp1, top_word hAl]
    rcases hA.top with h | h
    · omega
    · rw [show n - 1 = p + 1 from by omega] at h
      exact Nat.div_pos h (Nat.pow_pos W64_pos)
  have yl : dg W64 A p1 < 18446744073709551616 := W64_lt (dg_lt W64_pos _ _)
  obtain ⟨hz1, hz2⟩ := lz_sum y0' (show dg W64 A p1 < W64 from yl)
  obtain ⟨hz3, hz4⟩ := lz_top y0' (show dg W64 A p1 < W64 from yl)
  have HNL := Lib.hid (fun w' => nlz_any (dg W64 A p1) y0' yl w')
  obtain ⟨s, hs⟩ : ∃ s, s = lz (dg W64 A p1) := ⟨_, rfl⟩
  rw [← hs] at hz2 hz4 HNL
  clear hs hz1 hz3
  obtain ⟨t, hst⟩ : ∃ t, s + t = 64 := ⟨64 - s, by omega⟩
  have hsub : (64 : Int) - s = t := by omega
  have ht0 : 0 < t := by omega
  obtain ⟨T, hT⟩ : ∃ T, T = W64 ^ p * 2 ^ t := ⟨_, rfl⟩
  have hT0 : 0 < T := by rw [hT]; exact Nat.mul_pos (Nat.pow_pos W64_pos) (Nat.pow_pos (by decide))
  have htA := sim_top hst hAl (by rw [← hp1]; exact hz4)
  rw [← hT, ← hp1] at htA
  have hOA := bits_orS (dg W64 A p1) (dg W64 A p) s t (dg_lt W64_pos _ _)
  rw [htA.1] at hOA
  obtain ⟨X, hX⟩ : ∃ X, X = A / T := ⟨_, rfl⟩
  rw [← hX] at hOA htA
  have hXl : X < 18446744073709551616 := htA.2
  obtain ⟨Y, hY⟩ : ∃ Y, Y = B / T := ⟨_, rfl⟩
  have hYX : Y ≤ X := by rw [hX, hY]; exact Nat.div_le_div_right hle
  have hBl : B < W64 ^ (p + 2) := by rw [← hp, hnm]; exact hB.lt
  have z1 := hB.cell (i := p1) (by omega)
  have z0 := hB.cell (i := p) (by omega)
  rw [Nat.zero_add] at z1 z0
  have hdle : dg W64 B p1 ≤ dg W64 A p1 := by
    rw [hp1, top_word hAl, top_word hBl]; exact Nat.div_le_div_right hle
  have htB := sim_top hst hBl (by rw [← hp1]; exact Nat.lt_of_le_of_lt (Nat.mul_le_mul_right _ hdle) hz4)
  rw [← hT, ← hp1] at htB
  have hOB := bits_orS (dg W64 B p1) (dg W64 B p) s t (dg_lt W64_pos _ _)
  rw [htB.1, ← hY] at hOB
  have yb1 : dg W64 B p1 < 18446744073709551616 := W64_lt (dg_lt W64_pos _ _)
  have yb0 : dg W64 B p < 18446744073709551616 := W64_lt (dg_lt W64_pos _ _)
  have ya0 : dg W64 A p < 18446744073709551616 := W64_lt (dg_lt W64_pos _ _)
  have l3 : (p1 : Int) < m := by omega
  have l4 : (p : Int) < m := by omega
  have hnm' : ((n : Int) == m) = true := by simp; omega
  have HST := Lib.hid (SimAt.start (show X < W64 from htA.2) hYX)
  have HDN := Lib.hid (fun (a1 a2 u0 u1 u2 v0 v1 v2 : Nat) (even : Bool) (h : SimAt X Y a1 a2 u0 u1 u2 v0 v1 v2 even) => h.done hX hY hT0 hB0)
  clear htA hX hY hT hT0 hB0 hle hAl hp hp1 hA hB hz4 y0'
  clear htB hBl hdle hnm
  generalize dg W64 A p1 = ax1 at *
  generalize dg W64 A p = ax0 at *
  generalize dg W64 B p1 = bx1 at *
  generalize dg W64 B p = bx0 at *
  go_enter Tryz.func229, Tryz.ntmps229
  go_wp2_with fail
  refine (HNL.out _).mono ?_
  rintro e w1 ⟨rfl, rfl⟩
  go_upto_region 5 with fail
  go_quiet (fail)
  clear x0 x1 p0 hOA
  have hb1 : Below w1.heap.size w1 (w1.drewN nq) := below_drewN (Below.refl _ _) nq
  have q1 := cell_keep q0 hb1
  have z1' := cell_keep z1 hb1
  have z0' := cell_keep z0 hb1
  clear q0 z1 z0
  generalize w1.drewN nq = W1 at *
  go_upto_region 8 with fail
  go_quiet (fail)
  have HB1 := Lib.hid (hb1.trans (below_drewN (Below.refl _ _) nq : Below w1.heap.size W1 (W1.drewN nq)))
  clear q1 z1' z0' hOB hb1
  generalize W1.drewN nq = W2 at *
  go_upto_region 11 with fail
  go_wp2
  go_loopw [4, 5, 6, 7, 8, 9, 10, 11, 12, 16, 17] (fun s4 s5 s6 s7 s8 s9 s10 s11 s12 _ _ wr => ∃ (u0 u1 v0 v1 u2 v2 a1 a2 : Nat) (even : Bool), s4 = .int .u64 u0 ∧ s5 = .int .u64 u1 ∧ s6 = .int .u64 v0 ∧ s7 = .int .u64 v1 ∧ s8 = .bool even ∧ s9 = .int .u64 a1 ∧ s10 = .int .u64 a2 ∧ s11 = .int .u64 u2 ∧ s12 = .int .u64 v2 ∧ SimAt X Y a1 a2 u0 u1 u2 v0 v1 v2 even ∧ Below w1.heap.size w1 wr)
    (fun _ _ _ _ _ _ s10 _ _ _ _ _ => (intOf s10).toNat)
  case atStart => exact ⟨0, 1, 0, 0, 0, 1, X, Y, false, rfl, rfl, rfl, rfl, rfl, rfl, rfl, rfl, rfl, HST.out, HB1.out⟩
  case round =>
    obtain ⟨u0, u1, v0, v1, u2, v2, a1, a2, even, rfl, rfl, rfl, rfl, rfl, rfl, rfl, rfl, rfl, hI, hbw⟩ := hrel
    have HI := Lib.hid hI
    have HBW := Lib.hid hbw
    have HBS := Lib.hid hbw.size
    obtain ⟨e0, e1, e2, e3, e4, e5, e6⟩ := hI.lt
    unfold W64 at e0 e1 e2 e3 e4 e5 e6
    have e7 := hI.st.le
    clear hI hbw
    by_cases c1 : v2 ≤ a2
    · have hro := HI.out.room c1
      unfold W64 at hro
      obtain ⟨f0, f1, f2⟩ := hro
      have g1 : (v2 : Int) ≤ a2 := by omega
      have g2 : IntKind.u64.wrap ((a1 : Int) - (a2 : Int)) = (a1 : Int) - a2 := by rw [IntKind.wrap_u64]; omega
      have g3 : IntKind.u64.wrap ((v1 : Int) + (v2 : Int)) = (v1 : Int) + v2 := by rw [IntKind.wrap_u64]; omega
      by_cases c2 : v1 + v2 ≤ a1 - a2
      · have g4 : (v1 : Int) + v2 ≤ (a1 : Int) - a2 := by omega
        have hS := HI.out.step c1 c2
        have HS := Lib.hid hS.1
        have hqq : a1 / a2 < 18446744073709551616 := Nat.lt_of_le_of_lt (Nat.div_le_self _ _) (by omega)
        have hrr : a1 % a2 < a2 := Nat.mod_lt _ f0
        have hz : ((a2 : Int) == 0) = false := by simp; omega
        have hz' : ¬ (a2 : Int) = 0 := by omega
        have hq1 : (a1 : Int) / (a2 : Int) = ((a1 / a2 : Nat) : Int) := by simp
        have hq2 : (a1 : Int).tdiv (a2 : Int) = ((a1 / a2 : Nat) : Int) := by rw [Int.tdiv_eq_ediv_of_nonneg (Int.natCast_nonneg _)]; simp
        have hr1 : (a1 : Int) % (a2 : Int) = ((a1 % a2 : Nat) : Int) := by simp
        have hr2 : (a1 : Int).tmod (a2 : Int) = ((a1 % a2 : Nat) : Int) := by rw [Int.tmod_eq_emod_of_nonneg (Int.natCast_nonneg _)]; simp
        have hul := hS.2.1
        have hvl := hS.2.2
        unfold W64 at hul hvl
        have hm1 : ((a1 / a2 : Nat) : Int) * (u2 : Int) = ((a1 / a2 * u2 : Nat) : Int) := by simp
        have hm2 : ((a1 / a2 : Nat) : Int) * (v2 : Int) = ((a1 / a2 * v2 : Nat) : Int) := by simp
        clear hS
        generalize a1 / a2 = q at *
        generalize a1 % a2 = r at *
        obtain ⟨qu, hqu⟩ : ∃ qu, qu = q * u2 := ⟨_, rfl⟩
        obtain ⟨qv, hqv⟩ : ∃ qv, qv = q * v2 := ⟨_, rfl⟩
        rw [← hqu] at hm1 hul HS
        rw [← hqv] at hm2 hvl HS
        clear hqu hqv
        have hw1 : IntKind.u64.wrap ((u1 : Int) + (qu : Int)) = ((u1 + qu : Nat) : Int) := by rw [IntKind.wrap_u64]; omega
        have hw2 : IntKind.u64.wrap ((v1 : Int) + (qv : Int)) = ((v1 + qv : Nat) : Int) := by rw [IntKind.wrap_u64]; omega
        have hc1 : ((u1 + qu : Nat) : Int) = (u1 : Int) + qu := by omega
        have hc2 : ((v1 + qv : Nat) : Int) = (v1 : Int) + qv := by omega
        have hd0 : ∀ k, Below w1.heap.size w1 (wr.drewN k) := fun k => HBW.out.trans (below_drewN (Below.refl _ _) k)
        have HD0 := Lib.hid hd0
        clear hd0
        go_upto_region 15 with fail
        go_quiet (fail)
        go_wp2
        go_roundw
        case rel => exact ⟨u1, u2, v1, v2, u1 + qu, v1 + qv, a2, r, !even, rfl, rfl, rfl, rfl, rfl, rfl, rfl, by simp only [hc1], by simp only [hc2], HS.out, HD0.out _⟩
        case measure => simp [intOf]; omega
      · have g4 : ¬ (v1 : Int) + v2 ≤ (a1 : Int) - a2 := by omega
        go_wp2
        exact bodyPost_ret (v := .tuple #[.int .u64 (u0 : Nat), .int .u64 (u1 : Nat), .int .u64 (v0 : Nat), .int .u64 (v1 : Nat), .bool even]) (by simp [results, Tryz.results229, go_sem]) rfl ⟨_, _, _, _, _, rfl, HDN.out _ _ _ _ _ _ _ _ _ HI.out, HBW.out⟩
    · have g1 : ¬ (v2 : Int) ≤ a2 := by omega
      go_wp2
      exact bodyPost_ret (v := .tuple #[.int .u64 (u0 : Nat), .int .u64 (u1 : Nat), .int .u64 (v0 : Nat), .int .u64 (v1 : Nat), .bool even]) (by simp [results, Tryz.results229, go_sem]) rfl ⟨_, _, _, _, _, rfl, HDN.out _ _ _ _ _ _ _ _ _ HI.out, HBW.out⟩

set_option maxRecDepth 100000 in
set_option maxHeartbeats 4000000 in
theorem simulate_one (ba bb ga gb n m ca cb A B : Nat) (w : World) (p0 : w.cell? ⟨ba, 1, none⟩ = some (.slice (some ⟨ga, 0, none⟩) n ca)) (q0 : w.cell? ⟨bb, 1, none⟩ = some (.slice (some ⟨gb, 0, none⟩) m cb)) (hA : NumAt .u64 W64 w (some ⟨ga, 0, none⟩) n ca A) (hB : NumAt .u64 W64 w (some ⟨gb, 0, none⟩) m cb B) (hm : 2 ≤ m) (hle : B ≤ A) (hn : n ≤ 900000) (hnm : n = m + 1) :
    Calls Tryz.prog 229 #[.pointer (some ⟨ba, 0, none⟩), .pointer (some ⟨bb, 0, none⟩)] w (SimIs A B w) := by
  obtain ⟨p, hp⟩ : ∃ p, n = p + 2 := ⟨n - 2, by omega⟩
  obtain ⟨p1, hp1⟩ : ∃ p1, p1 = p + 1 := ⟨_, rfl⟩
  have hmb : m ≤ 900000 := by omega
  have hi1 : (n : Int) - 1 = p1 := by omega
  have hi2 : (n : Int) - 2 = p := by omega
  have l1 : (p1 : Int) < n := by omega
  have l2 : (p : Int) < n := by omega
  have hca := hA.nc
  have hcam := hA.cm
  have hcb := hB.nc
  have hcbm := hB.cm
  unfold maxLen at hcam hcbm
  have hAl : A < W64 ^ (p + 2) := by rw [← hp]; exact hA.lt
  have hB0 : 0 < B := by
    rcases hB.top with h | h
    · omega
    · exact Nat.lt_of_lt_of_le (Nat.pow_pos W64_pos) h
  have x1 := hA.cell (i := p1) (by omega)
  have x0 := hA.cell (i := p) (by omega)
  rw [Nat.zero_add] at x1 x0
  have y0' : 0 < dg W64 A p1 := by
    rw [hp1, top_word hAl]
    rcases hA.top with h | h
    · omega
    · rw [show n - 1 = p + 1 from by omega] at h
      exact Nat.div_pos h (Nat.pow_pos W64_pos)
  have yl : dg W64 A p1 < 18446744073709551616 := W64_lt (dg_lt W64_pos _ _)
  obtain ⟨hz1, hz2⟩ := lz_sum y0' (show dg W64 A p1 < W64 from yl)
  obtain ⟨hz3, hz4⟩ := lz_top y0' (show dg W64 A p1 < W64 from yl)
  have HNL := Lib.hid (fun w' => nlz_any (dg W64 A p1) y0' yl w')
  obtain ⟨s, hs⟩ : ∃ s, s = lz (dg W64 A p1) := ⟨_, rfl⟩
  rw [← hs] at hz2 hz4 HNL
  clear hs hz1 hz3
  obtain ⟨t, hst⟩ : ∃ t, s + t = 64 := ⟨64 - s, by omega⟩
  have hsub : (64 : Int) - s = t := by omega
  have ht0 : 0 < t := by omega
  obtain ⟨T, hT⟩ : ∃ T, T = W64 ^ p * 2 ^ t := ⟨_, rfl⟩
  have hT0 : 0 < T := by rw [hT]; exact Nat.mul_pos (Nat.pow_pos W64_pos) (Nat.pow_pos (by decide))
  have htA := sim_top hst hAl (by rw [← hp1]; exact hz4)
  rw [← hT, ← hp1] at htA
  have hOA := bits_orS (dg W64 A p1) (dg W64 A p) s t (dg_lt W64_pos _ _)
  rw [htA.1] at hOA
  obtain ⟨X, hX⟩ : ∃ X, X = A / T := ⟨_, rfl⟩
  rw [← hX] at hOA htA
  have hXl : X < 18446744073709551616 := htA.2
  obtain ⟨Y, hY⟩ : ∃ Y, Y = B / T := ⟨_, rfl⟩
  have hYX : Y ≤ X := by rw [hX, hY]; exact Nat.div_le_div_right hle
  have hBl : B < W64 ^ (p + 1) := by rw [show p + 1 = m from by omega]; exact hB.lt
  have z0 := hB.cell (i := p) (by omega)
  rw [Nat.zero_add] at z0
  have htB := sim_one (t := t) hBl
  rw [← hT, ← hY] at htB
  have hOB : (dg W64 B p : Int) / 2 ^ t = (Y : Int) := by
    have : ((dg W64 B p / 2 ^ t : Nat) : Int) = (Y : Int) := by rw [htB]
    simpa using this
  have yb0 : dg W64 B p < 18446744073709551616 := W64_lt (dg_lt W64_pos _ _)
  have ya0 : dg W64 A p < 18446744073709551616 := W64_lt (dg_lt W64_pos _ _)
  have l4 : (p : Int) < m := by omega
  have hnm' : ((n : Int) == m) = false := by simp; omega
  have hnm2 : ((n : Int) == (m : Int) + 1) = true := by simp; omega
  have HST := Lib.hid (SimAt.start (show X < W64 from htA.2) hYX)
  have HDN := Lib.hid (fun (a1 a2 u0 u1 u2 v0 v1 v2 : Nat) (even : Bool) (h : SimAt X Y a1 a2 u0 u1 u2 v0 v1 v2 even) => h.done hX hY hT0 hB0)
  clear htA hX hY hT hT0 hB0 hle hAl hp hp1 hA hB hz4 y0'
  clear htB hBl hnm
  generalize dg W64 A p1 = ax1 at *
  generalize dg W64 A p = ax0 at *
  generalize dg W64 B p = bx0 at *
  go_enter Tryz.func229, Tryz.ntmps229
  go_wp2_with fail
  refine (HNL.out _).mono ?_
  rintro e w1 ⟨rfl, rfl⟩
  go_upto_region 5 with fail
  go_quiet (fail)
  clear x0 x1 p0 hOA
  have hb1 : Below w1.heap.size w1 (w1.drewN nq) := below_drewN (Below.refl _ _) nq
  have q1 := cell_keep q0 hb1
  have z0' := cell_keep z0 hb1
  clear q0 z0
  generalize w1.drewN nq = W1 at *
  have HB1 := Lib.hid hb1
  clear hb1
  go_upto_region 11 with fail
  go_wp2
  go_loopw [4, 5, 6, 7, 8, 9, 10, 11, 12, 16, 17] (fun s4 s5 s6 s7 s8 s9 s10 s11 s12 _ _ wr => ∃ (u0 u1 v0 v1 u2 v2 a1 a2 : Nat) (even : Bool), s4 = .int .u64 u0 ∧ s5 = .int .u64 u1 ∧ s6 = .int .u64 v0 ∧ s7 = .int .u64 v1 ∧ s8 = .bool even ∧ s9 = .int .u64 a1 ∧ s10 = .int .u64 a2 ∧ s11 = .int .u64 u2 ∧ s12 = .int .u64 v2 ∧ SimAt X Y a1 a2 u0 u1 u2 v0 v1 v2 even ∧ Below w1.heap.size w1 wr)
    (fun _ _ _ _ _ _ s10 _ _ _ _ _ => (intOf s10).toNat)
  case atStart => exact ⟨0, 1, 0, 0, 0, 1, X, Y, false, rfl, rfl, rfl, rfl, rfl, rfl, rfl, rfl, rfl, HST.out, HB1.out⟩
  case round =>
    obtain ⟨u0, u1, v0, v1, u2, v2, a1, a2, even, rfl, rfl, rfl, rfl, rfl, rfl, rfl, rfl, rfl, hI, hbw⟩ := hrel
    have HI := Lib.hid hI
    have HBW := Lib.hid hbw
    have HBS := Lib.hid hbw.size
    obtain ⟨e0, e1, e2, e3, e4, e5, e6⟩ := hI.lt
    unfold W64 at e0 e1 e2 e3 e4 e5 e6
    have e7 := hI.st.le
    clear hI hbw
    by_cases c1 : v2 ≤ a2
    · have hro := HI.out.room c1
      unfold W64 at hro
      obtain ⟨f0, f1, f2⟩ := hro
      have g1 : (v2 : Int) ≤ a2 := by omega
      have g2 : IntKind.u64.wrap ((a1 : Int) - (a2 : Int)) = (a1 : Int) - a2 := by rw [IntKind.wrap_u64]; omega
      have g3 : IntKind.u64.wrap ((v1 : Int) + (v2 : Int)) = (v1 : Int) + v2 := by rw [IntKind.wrap_u64]; omega
      by_cases c2 : v1 + v2 ≤ a1 - a2
      · have g4 : (v1 : Int) + v2 ≤ (a1 : Int) - a2 := by omega
        have hS := HI.out.step c1 c2
        have HS := Lib.hid hS.1
        have hqq : a1 / a2 < 18446744073709551616 := Nat.lt_of_le_of_lt (Nat.div_le_self _ _) (by omega)
        have hrr : a1 % a2 < a2 := Nat.mod_lt _ f0
        have hz : ((a2 : Int) == 0) = false := by simp; omega
        have hz' : ¬ (a2 : Int) = 0 := by omega
        have hq1 : (a1 : Int) / (a2 : Int) = ((a1 / a2 : Nat) : Int) := by simp
        have hq2 : (a1 : Int).tdiv (a2 : Int) = ((a1 / a2 : Nat) : Int) := by rw [Int.tdiv_eq_ediv_of_nonneg (Int.natCast_nonneg _)]; simp
        have hr1 : (a1 : Int) % (a2 : Int) = ((a1 % a2 : Nat) : Int) := by simp
        have hr2 : (a1 : Int).tmod (a2 : Int) = ((a1 % a2 : Nat) : Int) := by rw [Int.tmod_eq_emod_of_nonneg (Int.natCast_nonneg _)]; simp
        have hul := hS.2.1
        have hvl := hS.2.2
        unfold W64 at hul hvl
        have hm1 : ((a1 / a2 : Nat) : Int) * (u2 : Int) = ((a1 / a2 * u2 : Nat) : Int) := by simp
        have hm2 : ((a1 / a2 : Nat) : Int) * (v2 : Int) = ((a1 / a2 * v2 : Nat) : Int) := by simp
        clear hS
        generalize a1 / a2 = q at *
        generalize a1 % a2 = r at *
        obtain ⟨qu, hqu⟩ : ∃ qu, qu = q * u2 := ⟨_, rfl⟩
        obtain ⟨qv, hqv⟩ : ∃ qv, qv = q * v2 := ⟨_, rfl⟩
        rw [← hqu] at hm1 hul HS
        rw [← hqv] at hm2 hvl HS
        clear hqu hqv
        have hw1 : IntKind.u64.wrap ((u1 : Int) + (qu : Int)) = ((u1 + qu : Nat) : Int) := by rw [IntKind.wrap_u64]; omega
        have hw2 : IntKind.u64.wrap ((v1 : Int) + (qv : Int)) = ((v1 + qv : Nat) : Int) := by rw [IntKind.wrap_u64]; omega
        have hc1 : ((u1 + qu : Nat) : Int) = (u1 : Int) + qu := by omega
        have hc2 : ((v1 + qv : Nat) : Int) = (v1 : Int) + qv := by omega
        have hd0 : ∀ k, Below w1.heap.size w1 (wr.drewN k) := fun k => HBW.out.trans (below_drewN (Below.refl _ _) k)
        have HD0 := Lib.hid hd0
        clear hd0
        go_upto_region 15 with fail
        go_quiet (fail)
        go_wp2
        go_roundw
        case rel => exact ⟨u1, u2, v1, v2, u1 + qu, v1 + qv, a2, r, !even, rfl, rfl, rfl, rfl, rfl, rfl, rfl, by simp only [hc1], by simp only [hc2], HS.out, HD0.out _⟩
        case measure => simp [intOf]; omega
      · have g4 : ¬ (v1 : Int) + v2 ≤ (a1 : Int) - a2 := by omega
        go_wp2
        exact bodyPost_ret (v := .tuple #[.int .u64 (u0 : Nat), .int .u64 (u1 : Nat), .int .u64 (v0 : Nat), .int .u64 (v1 : Nat), .bool even]) (by simp [results, Tryz.results229, go_sem]) rfl ⟨_, _, _, _, _, rfl, HDN.out _ _ _ _ _ _ _ _ _ HI.out, HBW.out⟩
    · have g1 : ¬ (v2 : Int) ≤ a2 := by omega
      go_wp2
      exact bodyPost_ret (v := .tuple #[.int .u64 (u0 : Nat), .int .u64 (u1 : Nat), .int .u64 (v0 : Nat), .int .u64 (v1 : Nat), .bool even]) (by simp [results, Tryz.results229, go_sem]) rfl ⟨_, _, _, _, _, rfl, HDN.out _ _ _ _ _ _ _ _ _ HI.out, HBW.out⟩

set_option maxRecDepth 100000 in
set_option maxHeartbeats 4000000 in
theorem simulate_far (ba bb ga gb n m ca cb A B : Nat) (w : World) (p0 : w.cell? ⟨ba, 1, none⟩ = some (.slice (some ⟨ga, 0, none⟩) n ca)) (q0 : w.cell? ⟨bb, 1, none⟩ = some (.slice (some ⟨gb, 0, none⟩) m cb)) (hA : NumAt .u64 W64 w (some ⟨ga, 0, none⟩) n ca A) (hB : NumAt .u64 W64 w (some ⟨gb, 0, none⟩) m cb B) (hm : 2 ≤ m) (hle : B ≤ A) (hn : n ≤ 900000) (hnm : m + 2 ≤ n) :
    Calls Tryz.prog 229 #[.pointer (some ⟨ba, 0, none⟩), .pointer (some ⟨bb, 0, none⟩)] w (SimIs A B w) := by
  obtain ⟨p, hp⟩ : ∃ p, n = p + 2 := ⟨n - 2, by omega⟩
  obtain ⟨p1, hp1⟩ : ∃ p1, p1 = p + 1 := ⟨_, rfl⟩
  have hmb : m ≤ 900000 := by omega
  have hi1 : (n : Int) - 1 = p1 := by omega
  have hi2 : (n : Int) - 2 = p := by omega
  have l1 : (p1 : Int) < n := by omega
  have l2 : (p : Int) < n := by omega
  have hca := hA.nc
  have hcam := hA.cm
  have hcb := hB.nc
  have hcbm := hB.cm
  unfold maxLen at hcam hcbm
  have hAl : A < W64 ^ (p + 2) := by rw [← hp]; exact hA.lt
  have hB0 : 0 < B := by
    rcases hB.top with h | h
    · omega
    · exact Nat.lt_of_lt_of_le (Nat.pow_pos W64_pos) h
  have x1 := hA.cell (i := p1) (by omega)
  have x0 := hA.cell (i := p) (by omega)
  rw [Nat.zero_add] at x1 x0
  have y0' : 0 < dg W64 A p1 := by
    rw [hp1, top_word hAl]
    rcases hA.top with h | h
    · omega
    · rw [show n - 1 = p + 1 from by omega] at h
      exact Nat.div_pos h (Nat.pow_pos W64_pos)
  have yl : dg W64 A p1 < 18446744073709551616 := W64_lt (dg_lt W64_pos _ _)
  obtain ⟨hz1, hz2⟩ := lz_sum y0' (show dg W64 A p1 < W64 from yl)
  obtain ⟨hz3, hz4⟩ := lz_top y0' (show dg W64 A p1 < W64 from yl)
  have HNL := Lib.hid (fun w' => nlz_any (dg W64 A p1) y0' yl w')
  obtain ⟨s, hs⟩ : ∃ s, s = lz (dg W64 A p1) := ⟨_, rfl⟩
  rw [← hs] at hz2 hz4 HNL
  clear hs hz1 hz3
  obtain ⟨t, hst⟩ : ∃ t, s + t = 64 := ⟨64 - s, by omega⟩
  have hsub : (64 : Int) - s = t := by omega
  have ht0 : 0 < t := by omega
  obtain ⟨T, hT⟩ : ∃ T, T = W64 ^ p * 2 ^ t := ⟨_, rfl⟩
  have hT0 : 0 < T := by rw [hT]; exact Nat.mul_pos (Nat.pow_pos W64_pos) (Nat.pow_pos (by decide))
  have htA := sim_top hst hAl (by rw [← hp1]; exact hz4)
  rw [← hT, ← hp1] at htA
  have hOA := bits_orS (dg W64 A p1) (dg W64 A p) s t (dg_lt W64_pos _ _)
  rw [htA.1] at hOA
  obtain ⟨X, hX⟩ : ∃ X, X = A / T := ⟨_, rfl⟩
  rw [← hX] at hOA htA
  have hXl : X < 18446744073709551616 := htA.2
  obtain ⟨Y, hY⟩ : ∃ Y, Y = B / T := ⟨_, rfl⟩
  have hYX : Y ≤ X := by rw [hX, hY]; exact Nat.div_le_div_right hle
  have hY0 : Y = 0 := by rw [hY, hT]; exact sim_none hB.lt (by omega)
  have ya0 : dg W64 A p < 18446744073709551616 := W64_lt (dg_lt W64_pos _ _)
  have hnm' : ((n : Int) == m) = false := by simp; omega
  have hnm2 : ((n : Int) == (m : Int) + 1) = false := by simp; omega
  have HST := Lib.hid (SimAt.start (show X < W64 from htA.2) hYX)
  have HDN := Lib.hid (fun (a1 a2 u0 u1 u2 v0 v1 v2 : Nat) (even : Bool) (h : SimAt X Y a1 a2 u0 u1 u2 v0 v1 v2 even) => h.done hX hY hT0 hB0)
  clear htA hX hY hT hT0 hB0 hle hAl hp hp1 hA hB hz4 y0'
  clear hnm
  subst hY0
  generalize dg W64 A p1 = ax1 at *
  generalize dg W64 A p = ax0 at *
  go_enter Tryz.func229, Tryz.ntmps229
  go_wp2_with fail
  refine (HNL.out _).mono ?_
  rintro e w1 ⟨rfl, rfl⟩
  go_upto_region 5 with fail
  go_quiet (fail)
  clear x0 x1 p0 hOA
  have hb1 : Below w1.heap.size w1 (w1.drewN nq) := below_drewN (Below.refl _ _) nq
  generalize w1.drewN nq = W1 at *
  have HB1 := Lib.hid hb1
  clear hb1
  go_upto_region 11 with fail
  go_wp2
  go_loopw [4, 5, 6, 7, 8, 9, 10, 11, 12, 16, 17] (fun s4 s5 s6 s7 s8 s9 s10 s11 s12 _ _ wr => ∃ (u0 u1 v0 v1 u2 v2 a1 a2 : Nat) (even : Bool), s4 = .int .u64 u0 ∧ s5 = .int .u64 u1 ∧ s6 = .int .u64 v0 ∧ s7 = .int .u64 v1 ∧ s8 = .bool even ∧ s9 = .int .u64 a1 ∧ s10 = .int .u64 a2 ∧ s11 = .int .u64 u2 ∧ s12 = .int .u64 v2 ∧ SimAt X 0 a1 a2 u0 u1 u2 v0 v1 v2 even ∧ Below w1.heap.size w1 wr)
    (fun _ _ _ _ _ _ s10 _ _ _ _ _ => (intOf s10).toNat)
  case atStart => exact ⟨0, 1, 0, 0, 0, 1, X, 0, false, rfl, rfl, rfl, rfl, rfl, rfl, rfl, rfl, rfl, HST.out, HB1.out⟩
  case round =>
    obtain ⟨u0, u1, v0, v1, u2, v2, a1, a2, even, rfl, rfl, rfl, rfl, rfl, rfl, rfl, rfl, rfl, hI, hbw⟩ := hrel
    have HI := Lib.hid hI
    have HBW := Lib.hid hbw
    have HBS := Lib.hid hbw.size
    obtain ⟨e0, e1, e2, e3, e4, e5, e6⟩ := hI.lt
    unfold W64 at e0 e1 e2 e3 e4 e5 e6
    have e7 := hI.st.le
    clear hI hbw
    by_cases c1 : v2 ≤ a2
    · have hro := HI.out.room c1
      unfold W64 at hro
      obtain ⟨f0, f1, f2⟩ := hro
      have g1 : (v2 : Int) ≤ a2 := by omega
      have g2 : IntKind.u64.wrap ((a1 : Int) - (a2 : Int)) = (a1 : Int) - a2 := by rw [IntKind.wrap_u64]; omega
      have g3 : IntKind.u64.wrap ((v1 : Int) + (v2 : Int)) = (v1 : Int) + v2 := by rw [IntKind.wrap_u64]; omega
      by_cases c2 : v1 + v2 ≤ a1 - a2
      · have g4 : (v1 : Int) + v2 ≤ (a1 : Int) - a2 := by omega
        have hS := HI.out.step c1 c2
        have HS := Lib.hid hS.1
        have hqq : a1 / a2 < 18446744073709551616 := Nat.lt_of_le_of_lt (Nat.div_le_self _ _) (by omega)
        have hrr : a1 % a2 < a2 := Nat.mod_lt _ f0
        have hz : ((a2 : Int) == 0) = false := by simp; omega
        have hz' : ¬ (a2 : Int) = 0 := by omega
        have hq1 : (a1 : Int) / (a2 : Int) = ((a1 / a2 : Nat) : Int) := by simp
        have hq2 : (a1 : Int).tdiv (a2 : Int) = ((a1 / a2 : Nat) : Int) := by rw [Int.tdiv_eq_ediv_of_nonneg (Int.natCast_nonneg _)]; simp
        have hr1 : (a1 : Int) % (a2 : Int) = ((a1 % a2 : Nat) : Int) := by simp
        have hr2 : (a1 : Int).tmod (a2 : Int) = ((a1 % a2 : Nat) : Int) := by rw [Int.tmod_eq_emod_of_nonneg (Int.natCast_nonneg _)]; simp
        have hul := hS.2.1
        have hvl := hS.2.2
        unfold W64 at hul hvl
        have hm1 : ((a1 / a2 : Nat) : Int) * (u2 : Int) = ((a1 / a2 * u2 : Nat) : Int) := by simp
        have hm2 : ((a1 / a2 : Nat) : Int) * (v2 : Int) = ((a1 / a2 * v2 : Nat) : Int) := by simp
        clear hS
        generalize a1 / a2 = q at *
        generalize a1 % a2 = r at *
        obtain ⟨qu, hqu⟩ : ∃ qu, qu = q * u2 := ⟨_, rfl⟩
        obtain ⟨qv, hqv⟩ : ∃ qv, qv = q * v2 := ⟨_, rfl⟩
        rw [← hqu] at hm1 hul HS
        rw [← hqv] at hm2 hvl HS
        clear hqu hqv
        have hw1 : IntKind.u64.wrap ((u1 : Int) + (qu : Int)) = ((u1 + qu : Nat) : Int) := by rw [IntKind.wrap_u64]; omega
        have hw2 : IntKind.u64.wrap ((v1 : Int) + (qv : Int)) = ((v1 + qv : Nat) : Int) := by rw [IntKind.wrap_u64]; omega
        have hc1 : ((u1 + qu : Nat) : Int) = (u1 : Int) + qu := by omega
        have hc2 : ((v1 + qv : Nat) : Int) = (v1 : Int) + qv := by omega
        have hd0 : ∀ k, Below w1.heap.size w1 (wr.drewN k) := fun k => HBW.out.trans (below_drewN (Below.refl _ _) k)
        have HD0 := Lib.hid hd0
        clear hd0
        go_upto_region 15 with fail
        go_quiet (fail)
        go_wp2
        go_roundw
        case rel => exact ⟨u1, u2, v1, v2, u1 + qu, v1 + qv, a2, r, !even, rfl, rfl, rfl, rfl, rfl, rfl, rfl, by simp only [hc1], by simp only [hc2], HS.out, HD0.out _⟩
        case measure => simp [intOf]; omega
      · have g4 : ¬ (v1 : Int) + v2 ≤ (a1 : Int) - a2 := by omega
        go_wp2
        exact bodyPost_ret (v := .tuple #[.int .u64 (u0 : Nat), .int .u64 (u1 : Nat), .int .u64 (v0 : Nat), .int .u64 (v1 : Nat), .bool even]) (by simp [results, Tryz.results229, go_sem]) rfl ⟨_, _, _, _, _, rfl, HDN.out _ _ _ _ _ _ _ _ _ HI.out, HBW.out⟩
    · have g1 : ¬ (v2 : Int) ≤ a2 := by omega
      go_wp2
      exact bodyPost_ret (v := .tuple #[.int .u64 (u0 : Nat), .int .u64 (u1 : Nat), .int .u64 (v0 : Nat), .int .u64 (v1 : Nat), .bool even]) (by simp [results, Tryz.results229, go_sem]) rfl ⟨_, _, _, _, _, rfl, HDN.out _ _ _ _ _ _ _ _ _ HI.out, HBW.out⟩

theorem simulate_any (ba bb ga gb n m ca cb A B : Nat) (w : World) (p0 : w.cell? ⟨ba, 1, none⟩ = some (.slice (some ⟨ga, 0, none⟩) n ca)) (q0 : w.cell? ⟨bb, 1, none⟩ = some (.slice (some ⟨gb, 0, none⟩) m cb)) (hA : NumAt .u64 W64 w (some ⟨ga, 0, none⟩) n ca A) (hB : NumAt .u64 W64 w (some ⟨gb, 0, none⟩) m cb B) (hm : 2 ≤ m) (hle : B ≤ A) (hn : n ≤ 900000) :
    Calls Tryz.prog 229 #[.pointer (some ⟨ba, 0, none⟩), .pointer (some ⟨bb, 0, none⟩)] w (SimIs A B w) := by
  have hmn : m ≤ n := len_le W64_gt hB.top (Nat.lt_of_le_of_lt hle hA.lt)
  by_cases h1 : n = m
  · exact simulate_same ba bb ga gb n m ca cb A B w p0 q0 hA hB hm hle hn h1
  · by_cases h2 : n = m + 1
    · exact simulate_one ba bb ga gb n m ca cb A B w p0 q0 hA hB hm hle hn h2
    · exact simulate_far ba bb ga gb n m ca cb A B w p0 q0 hA hB hm hle hn (by omega)
end Go.Proofs.YtdkipndepkblhaaGreatDoor
