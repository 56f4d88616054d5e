/-
  Digits of natural numbers in a base: plain mathematics, no program.
  What a slice of memory reads as; small laws for the walks. No program.
  Closed facts about the program's types, for the walks.
  Big numbers in memory: their words, their sign; what a call may turn. No program.
  Fractions of the reference, plain: what its functions compute.
  The thin package's values as they lie in memory.
  More small lemmas on fractions in memory.
-/
import Derived.WalkKit
import Derived.WalkSpells
import Derived.WalkLawsBesides
import Derived.Lib.Hide
import Derived.Deep.QuietTactic
import Derived.BigQuiet
import Derived.Deep.OwnRows
import Derived.Deep.LoopGhost
import Derived.Test.YtdkipndepkblhaaGreatDoorProg
import Derived.KernelRfl
set_option linter.unusedSimpArgs false
set_option linter.unusedVariables false
namespace Dg

/-- digit i of N in base B -/
def dg (B N i : Nat) : Nat := N / B ^ i % B

theorem dg_lt {B : Nat} (hB : 0 < B) (N i : Nat) : dg B N i < B := Nat.mod_lt _ hB

theorem mod_succ (B N k : Nat) : N % B ^ (k + 1) = N % B ^ k + B ^ k * dg B N k := by
  unfold dg
  rw [Nat.pow_succ, Nat.mod_mul]

/-- n digits determine the number below B^n -/
theorem eq_of_digits {B : Nat} : ∀ {n N M : Nat}, N < B ^ n → M < B ^ n → (∀ i, i < n → dg B N i = dg B M i) → N = M := by
  intro n
  induction n with
  | zero => intro N M h1 h2 _; simp at h1 h2; omega
  | succ n ih =>
    intro N M h1 h2 h
    have a : N % B ^ n = M % B ^ n := by
      rcases Nat.eq_zero_or_pos (B ^ n) with hz | hp
      · rw [Nat.pow_succ, hz] at h1; simp at h1
      · refine ih (Nat.mod_lt _ hp) (Nat.mod_lt _ hp) fun i hi => ?_
        have hd : B ^ i ∣ B ^ n := Nat.pow_dvd_pow B (by omega)
        have : ∀ X : Nat, dg B (X % B ^ n) i = dg B X i := by
          intro X
          unfold dg
          obtain ⟨k, rfl⟩ : ∃ k, n = i + (k + 1) := ⟨n - i - 1, by omega⟩
          rw [Nat.pow_add, Nat.mod_mul_right_div_self, Nat.pow_succ, Nat.mul_comm (B ^ k) B, Nat.mod_mul_right_mod]
        rw [this, this]; exact h i (by omega)
    have b := mod_succ B N n
    have c := mod_succ B M n
    rw [Nat.mod_eq_of_lt h1, ] at b
    rw [Nat.mod_eq_of_lt h2] at c
    rw [b, c, a, h n (by omega)]

theorem dg_mod {B n i : Nat} (X : Nat) (hi : i < n) : dg B (X % B ^ n) i = dg B X i := by
  unfold dg
  obtain ⟨k, rfl⟩ : ∃ k, n = i + (k + 1) := ⟨n - i - 1, by omega⟩
  rw [Nat.pow_add, Nat.mod_mul_right_div_self, Nat.pow_succ, Nat.mul_comm (B ^ k) B, Nat.mod_mul_right_mod]

theorem dg_of_lt {B N i : Nat} (h : N < B ^ i) : dg B N i = 0 := by
  unfold dg; rw [Nat.div_eq_of_lt h]; exact Nat.zero_mod _

theorem dg_div {B : Nat} (N k i : Nat) : dg B (N / B ^ k) i = dg B N (k + i) := by
  unfold dg; rw [Nat.div_div_eq_div_mul, ← Nat.pow_add]

/-- the number of the first n values of f -/
def val (B : Nat) (f : Nat → Nat) : Nat → Nat
  | 0 => 0
  | n + 1 => val B f n + B ^ n * f n

theorem val_lt {B : Nat} {f : Nat → Nat} : ∀ {n : Nat}, (∀ i, i < n → f i < B) → val B f n < B ^ n := by
  intro n
  induction n with
  | zero => intro _; simp [val]
  | succ n ih =>
    intro h
    have a := ih fun i hi => h i (by omega)
    have b := h n (by omega)
    show val B f n + B ^ n * f n < B ^ (n + 1)
    rw [Nat.pow_succ]
    have : B ^ n * (f n + 1) ≤ B ^ n * B := Nat.mul_le_mul_left _ b
    rw [Nat.mul_add] at this
    omega

theorem dg_val {B : Nat} {f : Nat → Nat} : ∀ {n : Nat}, (∀ i, i < n → f i < B) → ∀ i, i < n → dg B (val B f n) i = f i := by
  intro n
  induction n with
  | zero => intro _ i hi; omega
  | succ n ih =>
    intro h i hi
    have a := ih fun i hi => h i (by omega)
    have hv := val_lt (n := n) fun i hi => h i (by omega)
    have hb := h n (by omega)
    show dg B (val B f n + B ^ n * f n) i = f i
    by_cases e : i = n
    · subst e
      unfold dg
      rw [Nat.add_mul_div_left _ _ (by omega), Nat.div_eq_of_lt hv, Nat.zero_add, Nat.mod_eq_of_lt hb]
    · rw [← a i (by omega), ← dg_mod (n := n) (i := i) _ (by omega), Nat.add_mul_mod_self_left, dg_mod _ (by omega)]

theorem val_dg {B : Nat} (N n : Nat) : val B (dg B N) n = N % B ^ n := by
  induction n with
  | zero => simp [val, Nat.mod_one]
  | succ n ih => rw [mod_succ]; show val B (dg B N) n + _ = _; rw [ih]

theorem val_congr {B : Nat} {f g : Nat → Nat} : ∀ {n : Nat}, (∀ i, i < n → f i = g i) → val B f n = val B g n := by
  intro n
  induction n with
  | zero => intro _; rfl
  | succ n ih => intro h; simp only [val]; rw [ih fun i hi => h i (by omega), h n (by omega)]

end Dg

namespace Dg
/-- the length without leading zeros -/
def tlen (f : Nat → Nat) : Nat → Nat
  | 0 => 0
  | n + 1 => if f n = 0 then tlen f n else n + 1

theorem tlen_le (f : Nat → Nat) (n : Nat) : tlen f n ≤ n := by
  induction n with
  | zero => exact Nat.le_refl _
  | succ n ih => simp only [tlen]; split <;> omega

theorem tlen_lt {B N : Nat} : ∀ {n : Nat}, N < B ^ n → N < B ^ tlen (dg B N) n := by
  intro n
  induction n with
  | zero => exact fun h => h
  | succ n ih =>
    intro h
    simp only [tlen]
    split
    · rename_i h0
      refine ih ?_
      have := mod_succ B N n
      rw [Nat.mod_eq_of_lt h, h0, Nat.mul_zero, Nat.add_zero] at this
      rw [this]
      refine Nat.mod_lt _ ?_
      rcases Nat.eq_zero_or_pos (B ^ n) with hz | hp
      · rw [Nat.pow_succ, hz] at h; omega
      · exact hp
    · exact h

theorem tlen_top {B N : Nat} : ∀ {n : Nat}, N < B ^ n → (tlen (dg B N) n = 0 ∨ B ^ (tlen (dg B N) n - 1) ≤ N) := by
  intro n
  induction n with
  | zero => exact fun _ => .inl rfl
  | succ n ih =>
    intro h
    simp only [tlen]
    split
    · rename_i h0
      refine ih ?_
      have := mod_succ B N n
      rw [Nat.mod_eq_of_lt h, h0, Nat.mul_zero, Nat.add_zero] at this
      rw [this]
      refine Nat.mod_lt _ ?_
      rcases Nat.eq_zero_or_pos (B ^ n) with hz | hp
      · rw [Nat.pow_succ, hz] at h; omega
      · exact hp
    · rename_i h0
      refine .inr ?_
      simp only [Nat.add_sub_cancel]
      refine Nat.le_of_not_lt fun hl => h0 (dg_of_lt hl)

/-- the length is determined by the number -/
theorem len_le {B N n k : Nat} (hB : 1 < B) (top : n = 0 ∨ B ^ (n - 1) ≤ N) (h : N < B ^ k) : n ≤ k := by
  rcases top with h0 | h1
  · omega
  · have : n - 1 < k := (Nat.pow_lt_pow_iff_right hB).1 (Nat.lt_of_le_of_lt h1 h)
    omega

theorem len_eq {B N n k : Nat} (hB : 1 < B) (top : n = 0 ∨ B ^ (n - 1) ≤ N) (h : N < B ^ n) (top' : k = 0 ∨ B ^ (k - 1) ≤ N) (h' : N < B ^ k) : n = k :=
  Nat.le_antisymm (len_le hB top h') (len_le hB top' h)

/-- one step of a sum: what is carried -/
theorem add_step {B : Nat} (hB : 0 < B) (X Y k : Nat) :
    ((X % B ^ k + Y % B ^ k) / B ^ k + dg B X k + dg B Y k) % B = dg B (X + Y) k ∧
    ((X % B ^ k + Y % B ^ k) / B ^ k + dg B X k + dg B Y k) / B = (X % B ^ (k + 1) + Y % B ^ (k + 1)) / B ^ (k + 1) := by
  have hp : 0 < B ^ k := Nat.pow_pos hB
  have e : (X % B ^ k + Y % B ^ k) / B ^ k + dg B X k + dg B Y k = (X % B ^ (k + 1) + Y % B ^ (k + 1)) / B ^ k := by
    rw [mod_succ, mod_succ]
    have : X % B ^ k + B ^ k * dg B X k + (Y % B ^ k + B ^ k * dg B Y k) = (X % B ^ k + Y % B ^ k) + B ^ k * (dg B X k + dg B Y k) := by
      rw [Nat.mul_add]; omega
    rw [this, Nat.add_mul_div_left _ _ hp]; omega
  rw [e]
  constructor
  · show dg B (X % B ^ (k + 1) + Y % B ^ (k + 1)) k = dg B (X + Y) k
    rw [← dg_mod (n := k + 1) (X % B ^ (k + 1) + Y % B ^ (k + 1)) (Nat.lt_succ_self k), ← dg_mod (n := k + 1) (X + Y) (Nat.lt_succ_self k), ← Nat.add_mod]
  · rw [Nat.div_div_eq_div_mul, ← Nat.pow_succ]

theorem add_carry_le {B : Nat} (hB : 0 < B) (X Y k : Nat) : (X % B ^ k + Y % B ^ k) / B ^ k ≤ 1 := by
  have hp : 0 < B ^ k := Nat.pow_pos hB
  have a := Nat.mod_lt X hp
  have b := Nat.mod_lt Y hp
  refine Nat.le_of_lt_succ ((Nat.div_lt_iff_lt_mul hp).2 ?_)
  omega

theorem map_range_succ {α : Type} (g : Nat → α) (k : Nat) : (List.range (k + 1)).map g = (List.range k).map g ++ [g k] := by
  rw [List.range_succ, List.map_append]; rfl
end Dg

namespace Dg
/-- one step of a difference -/
theorem sub_step {B : Nat} (hB : 0 < B) (X Y k : Nat) (h : Y ≤ X) :
    ((dg B X k : Int) - (if X % B ^ k < Y % B ^ k then 1 else 0) - dg B Y k < 0 →
      (dg B (X - Y) k : Int) = (dg B X k : Int) - (if X % B ^ k < Y % B ^ k then 1 else 0) - dg B Y k + B ∧ X % B ^ (k + 1) < Y % B ^ (k + 1)) ∧
    (¬ ((dg B X k : Int) - (if X % B ^ k < Y % B ^ k then 1 else 0) - dg B Y k < 0) →
      (dg B (X - Y) k : Int) = (dg B X k : Int) - (if X % B ^ k < Y % B ^ k then 1 else 0) - dg B Y k ∧ ¬ X % B ^ (k + 1) < Y % B ^ (k + 1)) := by
  obtain ⟨D, rfl⟩ : ∃ D, X = D + Y := ⟨X - Y, by omega⟩
  rw [Nat.add_sub_cancel]
  have key : ∀ j, (if (D + Y) % B ^ j < Y % B ^ j then 1 else 0) = (D % B ^ j + Y % B ^ j) / B ^ j := by
    intro j
    have hp : 0 < B ^ j := Nat.pow_pos hB
    have a := Nat.mod_lt D hp
    have b := Nat.mod_lt Y hp
    have c := add_carry_le hB D Y j
    have e : (D + Y) % B ^ j = (D % B ^ j + Y % B ^ j) % B ^ j := Nat.add_mod _ _ _
    have f := Nat.div_add_mod (D % B ^ j + Y % B ^ j) (B ^ j)
    rw [← e] at f
    clear e
    generalize (D % B ^ j + Y % B ^ j) / B ^ j = q at *
    generalize D % B ^ j = x at *
    generalize Y % B ^ j = y at *
    generalize (D + Y) % B ^ j = z at *
    rcases Nat.eq_zero_or_pos q with h0 | h1
    · rw [h0, Nat.mul_zero] at f
      rw [h0, if_neg (by omega)]
    · have h1 : q = 1 := by omega
      rw [h1, Nat.mul_one] at f
      rw [h1, if_pos (by omega)]
  have hs := add_step hB D Y k
  have k0 := key k
  have k1 := key (k + 1)
  have c0 := add_carry_le hB D Y k
  have c1 := add_carry_le hB D Y (k + 1)
  have f := Nat.div_add_mod ((D % B ^ k + Y % B ^ k) / B ^ k + dg B D k + dg B Y k) B
  rw [hs.1, hs.2] at f
  have dD := dg_lt hB D k
  have dX := dg_lt hB (D + Y) k
  have k0' : (if (D + Y) % B ^ k < Y % B ^ k then (1 : Int) else 0) = ((D % B ^ k + Y % B ^ k) / B ^ k : Nat) := by rw [← k0]; split <;> rfl
  rw [k0']
  generalize (D % B ^ k + Y % B ^ k) / B ^ k = c at *
  generalize (D % B ^ (k + 1) + Y % B ^ (k + 1)) / B ^ (k + 1) = c' at *
  generalize dg B D k = d at *
  generalize dg B Y k = y at *
  generalize dg B (D + Y) k = x at *
  have hc' : c' = 0 ∨ c' = 1 := by omega
  rcases hc' with rfl | rfl
  · have hn : ¬ (D + Y) % B ^ (k + 1) < Y % B ^ (k + 1) := by
      intro hh; rw [if_pos hh] at k1; omega
    exact ⟨fun hl => by omega, fun _ => ⟨by omega, hn⟩⟩
  · have hn : (D + Y) % B ^ (k + 1) < Y % B ^ (k + 1) := by
      refine Decidable.byContradiction fun hh => ?_
      rw [if_neg hh] at k1; omega
    exact ⟨fun _ => ⟨by omega, hn⟩, fun hl => by omega⟩

theorem cut_succ {B : Nat} (N k : Nat) : N / B ^ k = B * (N / B ^ (k + 1)) + dg B N k := by
  unfold dg
  rw [Nat.pow_succ, ← Nat.div_div_eq_div_mul]
  exact (Nat.div_add_mod _ _).symm

theorem lt_of_cut {B X Y k : Nat} (e : X / B ^ (k + 1) = Y / B ^ (k + 1)) (h : dg B X k < dg B Y k) : X < Y := by
  have a := cut_succ (B := B) X k
  have b := cut_succ (B := B) Y k
  rw [e] at a
  refine Nat.lt_of_not_le fun hle => ?_
  have := Nat.div_le_div_right (c := B ^ k) hle
  omega

theorem eq_of_cut {B X Y k : Nat} (e : X / B ^ (k + 1) = Y / B ^ (k + 1)) (h : dg B X k = dg B Y k) : X / B ^ k = Y / B ^ k := by
  rw [cut_succ, cut_succ (B := B) Y k, e, h]

/-- numbers of different lengths -/
theorem lt_of_len {B N M n m : Nat} (hB : 1 < B) (h : N < B ^ n) (top : m = 0 ∨ B ^ (m - 1) ≤ M) (hl : n < m) : N < M := by
  rcases top with h0 | h1
  · omega
  · exact Nat.lt_of_lt_of_le h (Nat.le_trans (Nat.pow_le_pow_right (by omega) (by omega)) h1)
end Dg

namespace Dg
/-- one step of a division by a digit, from the top -/
theorem byDigit_step {B : Nat} (hB : 0 < B) (N d k : Nat) (hd : 0 < d) :
    (N / B ^ (k + 1) % d * B + dg B N k) / d = dg B (N / d) k ∧ (N / B ^ (k + 1) % d * B + dg B N k) % d = N / B ^ k % d := by
  have h := cut_succ (B := B) N k
  have e := Nat.div_add_mod (N / B ^ (k + 1)) d
  have s : N / B ^ k = d * (B * (N / B ^ (k + 1) / d)) + (N / B ^ (k + 1) % d * B + dg B N k) := by
    rw [h]
    conv => lhs; rw [← e]
    rw [Nat.mul_add, Nat.mul_left_comm B d, Nat.mul_comm B (N / B ^ (k + 1) % d)]
    omega
  have hb : dg B N k < B := dg_lt hB _ _
  constructor
  · have t : N / d / B ^ k = B * (N / B ^ (k + 1) / d) + (N / B ^ (k + 1) % d * B + dg B N k) / d := by
      rw [Nat.div_div_eq_div_mul, Nat.mul_comm d, ← Nat.div_div_eq_div_mul, s, Nat.mul_add_div hd]
    have hlt : (N / B ^ (k + 1) % d * B + dg B N k) / d < B := by
      refine (Nat.div_lt_iff_lt_mul hd).2 ?_
      have := Nat.mod_lt (N / B ^ (k + 1)) hd
      have h2 : (N / B ^ (k + 1) % d + 1) * B ≤ d * B := Nat.mul_le_mul_right _ this
      rw [Nat.add_mul, Nat.mul_comm d B] at h2
      omega
    show _ = N / d / B ^ k % B
    rw [t, Nat.mul_add_mod, Nat.mod_eq_of_lt hlt]
  · rw [s, Nat.mul_add_mod]

/-- how many bits -/
def bl (N : Nat) : Nat := if N = 0 then 0 else N.log2 + 1

theorem bl_lt (N : Nat) : N < 2 ^ bl N := by
  unfold bl; split
  · omega
  · exact Nat.lt_log2_self

theorem bl_top (N : Nat) : bl N = 0 ∨ 2 ^ (bl N - 1) ≤ N := by
  unfold bl; split
  · exact .inl rfl
  · rename_i h; exact .inr (Nat.log2_self_le h)

theorem bl_unique {N n : Nat} (h : N < 2 ^ n) (t : n = 0 ∨ 2 ^ (n - 1) ≤ N) : n = bl N :=
  len_eq (by decide) t h (bl_top N) (bl_lt N)

theorem bl_zero : bl 0 = 0 := rfl
theorem bl_pos {N : Nat} (h : 0 < N) : 0 < bl N := by unfold bl; split <;> omega
theorem bl_half {N : Nat} (h : 0 < N) : bl N = bl (N / 2) + 1 := by
  symm
  refine bl_unique ?_ ?_
  · have := bl_lt (N / 2); rw [Nat.pow_succ]; omega
  · refine .inr ?_
    rw [Nat.add_sub_cancel]
    rcases bl_top (N / 2) with h0 | h1
    · rw [h0]; simp; omega
    · rcases Nat.eq_zero_or_pos (bl (N / 2)) with hz | hp
      · rw [hz]; simp; omega
      · have : 2 ^ bl (N / 2) = 2 ^ (bl (N / 2) - 1) * 2 := by rw [← Nat.pow_succ]; congr 1; omega
        omega
end Dg

namespace Dg
theorem dg_pow (q r j : Nat) (hr : r < 16) : dg 65536 (2 ^ (16 * q + r)) j = if j = q then 2 ^ r else 0 := by
  have e : (2 : Nat) ^ (16 * q + r) = 65536 ^ q * 2 ^ r := by rw [Nat.pow_add, Nat.pow_mul]
  have hlt : (2 : Nat) ^ r < 65536 := by
    have : (2 : Nat) ^ r ≤ 2 ^ 15 := Nat.pow_le_pow_right (by decide) (by omega)
    omega
  rw [e]
  split
  · rename_i h; subst h
    rw [dg, Nat.mul_div_cancel_left _ (Nat.pow_pos (by decide)), Nat.mod_eq_of_lt hlt]
  · rename_i h
    rcases Nat.lt_or_gt_of_ne h with hl | hg
    · obtain ⟨k, rfl⟩ : ∃ k, q = j + (k + 1) := ⟨q - j - 1, by omega⟩
      rw [dg, Nat.pow_add, Nat.mul_assoc, Nat.mul_div_cancel_left _ (Nat.pow_pos (by decide)), Nat.pow_succ, Nat.mul_comm (65536 ^ k) 65536, Nat.mul_assoc, Nat.mul_mod_right]
    · refine dg_of_lt ?_
      have : 65536 ^ q * 2 ^ r < 65536 ^ q * 65536 := Nat.mul_lt_mul_of_pos_left hlt (Nat.pow_pos (by decide))
      rw [← Nat.pow_succ] at this
      exact Nat.lt_of_lt_of_le this (Nat.pow_le_pow_right (by decide) hg)

/-- one step of a shift to the left -/
theorem shl_step (A q r k : Nat) (hr : r < 16) :
    ∀ j, dg 65536 (A % 65536 ^ (k + 1) * 2 ^ (16 * q + r)) j =
      if j = q + k + 1 then dg 65536 A k * 2 ^ r / 65536 else if j = q + k then dg 65536 (A % 65536 ^ k * 2 ^ (16 * q + r)) (q + k) + dg 65536 A k * 2 ^ r % 65536 else dg 65536 (A % 65536 ^ k * 2 ^ (16 * q + r)) j := by
  intro j
  have e : ∀ X : Nat, X * 2 ^ (16 * q + r) = 65536 ^ q * (X * 2 ^ r) := by
    intro X; rw [Nat.pow_add, Nat.pow_mul, Nat.mul_left_comm]
  have hP : (2 : Nat) ^ r < 65536 := by
    have : (2 : Nat) ^ r ≤ 2 ^ 15 := Nat.pow_le_pow_right (by decide) (by omega)
    omega
  have hPp : 0 < (2 : Nat) ^ r := Nat.pow_pos (by decide)
  have ha : dg 65536 A k < 65536 := dg_lt (by decide) _ _
  have hl : A % 65536 ^ k < 65536 ^ k := Nat.mod_lt _ (Nat.pow_pos (by decide))
  rw [e, e, mod_succ]
  generalize A % 65536 ^ k = L at *
  generalize dg 65536 A k = a at *
  -- the low part times 2^r has at most k + 1 digits
  have hLP : L * 2 ^ r < 65536 ^ k * 2 ^ r := Nat.mul_lt_mul_of_pos_right hl hPp
  have split1 : (L + 65536 ^ k * a) * 2 ^ r = L * 2 ^ r + 65536 ^ k * (a * 2 ^ r) := by rw [Nat.add_mul, Nat.mul_assoc]
  have dgq : ∀ X i, dg 65536 (65536 ^ q * X) (q + i) = dg 65536 X i := by
    intro X i; rw [← dg_div, Nat.mul_div_cancel_left _ (Nat.pow_pos (by decide))]
  have dglow : ∀ X i, i < q → dg 65536 (65536 ^ q * X) i = 0 := by
    intro X i hi
    obtain ⟨m, rfl⟩ : ∃ m, q = i + (m + 1) := ⟨q - i - 1, by omega⟩
    rw [dg, Nat.pow_add, Nat.mul_assoc, Nat.mul_div_cancel_left _ (Nat.pow_pos (by decide)), Nat.pow_succ, Nat.mul_comm (65536 ^ m) 65536, Nat.mul_assoc, Nat.mul_mod_right]
  rw [split1]
  have top : (L * 2 ^ r + 65536 ^ k * (a * 2 ^ r)) / 65536 ^ k = L * 2 ^ r / 65536 ^ k + a * 2 ^ r := Nat.add_mul_div_left _ _ (Nat.pow_pos (by decide))
  have hc : L * 2 ^ r / 65536 ^ k < 2 ^ r := (Nat.div_lt_iff_lt_mul (Nat.pow_pos (by decide))).2 (by rw [Nat.mul_comm (2 ^ r)]; exact hLP)
  have hdvd : a * 2 ^ r % 65536 + 2 ^ r ≤ 65536 := by
    obtain ⟨s, hs⟩ : ∃ s, (65536 : Nat) = 2 ^ r * s := ⟨2 ^ (16 - r), by rw [← Nat.pow_add]; rw [show r + (16 - r) = 16 from by omega]⟩
    rw [hs, Nat.mul_comm a, Nat.mul_mod_mul_left]
    have : a % s < s := Nat.mod_lt _ (by rcases Nat.eq_zero_or_pos s with h | h; · rw [h] at hs; omega
                                         · exact h)
    have := Nat.mul_le_mul_left (2 ^ r) (Nat.succ_le_of_lt this)
    rw [Nat.mul_succ] at this
    exact this
  have mid : dg 65536 (L * 2 ^ r) k = L * 2 ^ r / 65536 ^ k := by
    rw [dg, Nat.mod_eq_of_lt (by omega)]
  by_cases hj1 : j = q + k + 1
  · subst hj1
    rw [if_pos rfl, Nat.add_assoc, dgq]
    rw [dg, Nat.pow_succ, ← Nat.div_div_eq_div_mul, top]
    have : a * 2 ^ r / 65536 < 65536 := by
      refine (Nat.div_lt_iff_lt_mul (by decide)).2 ?_
      exact Nat.mul_lt_mul'' ha hP
    have h2 := Nat.div_add_mod (a * 2 ^ r) 65536
    have h3 : (L * 2 ^ r / 65536 ^ k + a * 2 ^ r) / 65536 = a * 2 ^ r / 65536 := by omega
    rw [h3, Nat.mod_eq_of_lt this]
  · rw [if_neg hj1]
    by_cases hj2 : j = q + k
    · subst hj2
      rw [if_pos rfl, dgq, dgq, mid, dg, top]
      omega
    · rw [if_neg hj2]
      by_cases hq : j < q
      · rw [dglow _ _ hq, dglow _ _ hq]
      · obtain ⟨i, rfl⟩ : ∃ i, j = q + i := ⟨j - q, by omega⟩
        rw [dgq, dgq]
        by_cases hik : i < k
        · rw [← dg_mod (n := k) _ hik, Nat.add_mul_mod_self_left, dg_mod _ hik]
        · have hi2 : k + 2 ≤ i := by omega
          have hb : 65536 ^ k * 65536 ^ 2 ≤ 65536 ^ i := by rw [← Nat.pow_add]; exact Nat.pow_le_pow_right (by decide) hi2
          have e1 : L * 2 ^ r < 65536 ^ i := by
            refine Nat.lt_of_lt_of_le hLP (Nat.le_trans (Nat.mul_le_mul_left _ ?_) hb)
            omega
          have e2 : L * 2 ^ r + 65536 ^ k * (a * 2 ^ r) < 65536 ^ i := by
            have h4 : a * 2 ^ r ≤ 65535 * 2 ^ r := Nat.mul_le_mul_right _ (by omega)
            have h5 : 65536 ^ k * (a * 2 ^ r) ≤ 65536 ^ k * (65535 * 2 ^ r) := Nat.mul_le_mul_left _ h4
            have h6 : 65536 ^ k * 2 ^ r + 65536 ^ k * (65535 * 2 ^ r) = 65536 ^ k * (65536 * 2 ^ r) := by rw [← Nat.mul_add]; congr 1; omega
            have h7 : 65536 ^ k * (65536 * 2 ^ r) ≤ 65536 ^ k * 65536 ^ 2 := Nat.mul_le_mul_left _ (by omega)
            omega
          rw [dg_of_lt e1, dg_of_lt e2]
end Dg

namespace Dg
/-- what has been summed up in the inner loop of a product -/
def mulU (B P x Y i k : Nat) : Nat := P % B ^ (i + k) + B ^ i * (x * (Y % B ^ k))
def mulT (B P x Y i k : Nat) : Nat := P + B ^ i * (x * (Y % B ^ k))

theorem mulU_succ (B P x Y i k : Nat) : mulU B P x Y i (k + 1) = mulU B P x Y i k + B ^ (i + k) * (dg B P (i + k) + x * dg B Y k) := by
  unfold mulU
  rw [← Nat.add_assoc, mod_succ B P (i + k), mod_succ B Y k, Nat.mul_add x, Nat.mul_add (B ^ i), Nat.mul_add (B ^ (i + k)), Nat.pow_add]
  have : B ^ i * (x * (B ^ k * dg B Y k)) = B ^ i * B ^ k * (x * dg B Y k) := by
    rw [Nat.mul_left_comm x, Nat.mul_assoc]
  omega

theorem mulT_succ (B P x Y i k : Nat) : mulT B P x Y i (k + 1) = mulT B P x Y i k + B ^ (i + k) * (x * dg B Y k) := by
  unfold mulT
  rw [mod_succ B Y k, Nat.mul_add x, Nat.mul_add (B ^ i), Nat.pow_add]
  have : B ^ i * (x * (B ^ k * dg B Y k)) = B ^ i * B ^ k * (x * dg B Y k) := by
    rw [Nat.mul_left_comm x, Nat.mul_assoc]
  omega

theorem mulT_mod (B P x Y i k : Nat) : mulT B P x Y i k % B ^ (i + k) = mulU B P x Y i k % B ^ (i + k) := by
  unfold mulT mulU
  rw [Nat.add_mod, Nat.add_mod (P % _)]; simp

theorem mulU_lt {B P x Y i k : Nat} (hB : 0 < B) (hx : x < B) : mulU B P x Y i k / B ^ (i + k) < B := by
  refine (Nat.div_lt_iff_lt_mul (Nat.pow_pos hB)).2 ?_
  unfold mulU
  have h1 : P % B ^ (i + k) < B ^ (i + k) := Nat.mod_lt _ (Nat.pow_pos hB)
  have h2 : Y % B ^ k < B ^ k := Nat.mod_lt _ (Nat.pow_pos hB)
  have h3 : B ^ i * (x * (Y % B ^ k)) ≤ B ^ i * ((B - 1) * B ^ k) := Nat.mul_le_mul_left _ (Nat.mul_le_mul (by omega) (by omega))
  have h4 : B ^ i * ((B - 1) * B ^ k) = (B - 1) * B ^ (i + k) := by rw [Nat.pow_add, Nat.mul_left_comm]
  have h5 : (B - 1) * B ^ (i + k) + B ^ (i + k) = B * B ^ (i + k) := by
    rw [← Nat.succ_mul]; congr 1; omega
  omega

theorem mul_step {B : Nat} (hB : 0 < B) (P x Y i k : Nat) :
    (mulU B P x Y i k / B ^ (i + k) + (dg B P (i + k) + x * dg B Y k)) % B = dg B (mulT B P x Y i (k + 1)) (i + k) ∧
    (mulU B P x Y i k / B ^ (i + k) + (dg B P (i + k) + x * dg B Y k)) / B = mulU B P x Y i (k + 1) / B ^ (i + (k + 1)) ∧
    ∀ j, j < i + k → dg B (mulT B P x Y i (k + 1)) j = dg B (mulT B P x Y i k) j := by
  have hp : 0 < B ^ (i + k) := Nat.pow_pos hB
  have e : mulU B P x Y i (k + 1) / B ^ (i + k) = mulU B P x Y i k / B ^ (i + k) + (dg B P (i + k) + x * dg B Y k) := by
    rw [mulU_succ, Nat.add_mul_div_left _ _ hp]
  rw [← e]
  refine ⟨?_, ?_, fun j hj => ?_⟩
  · show dg B (mulU B P x Y i (k + 1)) (i + k) = _
    rw [← dg_mod (n := i + (k + 1)) _ (by omega), ← mulT_mod, dg_mod _ (by omega)]
  · rw [Nat.div_div_eq_div_mul, ← Nat.pow_succ]; rfl
  · rw [mulT_succ, ← dg_mod (n := i + k) _ hj, Nat.add_mul_mod_self_left, dg_mod _ hj]

/-- the end of the inner loop -/
theorem mul_done {B A Y i m : Nat} (hB : 0 < B) (hY : Y < B ^ m) :
    mulT B (A % B ^ i * Y) (dg B A i) Y i m = A % B ^ (i + 1) * Y ∧
    mulU B (A % B ^ i * Y) (dg B A i) Y i m / B ^ (i + m) = dg B (A % B ^ (i + 1) * Y) (i + m) ∧
    ∀ j, i + m < j → dg B (A % B ^ i * Y) j = dg B (A % B ^ (i + 1) * Y) j := by
  have hP : A % B ^ i * Y < B ^ (i + m) := by
    rw [Nat.pow_add]
    exact Nat.mul_lt_mul'' (Nat.mod_lt _ (Nat.pow_pos hB)) hY
  have hP' : A % B ^ (i + 1) * Y < B ^ (i + 1 + m) := by
    rw [Nat.pow_add B (i + 1) m]
    exact Nat.mul_lt_mul'' (Nat.mod_lt _ (Nat.pow_pos hB)) hY
  have hm : Y % B ^ m = Y := Nat.mod_eq_of_lt hY
  have eT : mulT B (A % B ^ i * Y) (dg B A i) Y i m = A % B ^ (i + 1) * Y := by
    unfold mulT; rw [hm, mod_succ, Nat.add_mul, Nat.mul_assoc]
  refine ⟨eT, ?_, fun j hj => ?_⟩
  · have : mulU B (A % B ^ i * Y) (dg B A i) Y i m = A % B ^ (i + 1) * Y := by
      rw [← eT]; unfold mulU mulT; rw [Nat.mod_eq_of_lt hP]
    rw [this]
    refine (Nat.mod_eq_of_lt ?_).symm
    refine (Nat.div_lt_iff_lt_mul (Nat.pow_pos hB)).2 ?_
    rw [← Nat.pow_succ', show (i + m).succ = i + 1 + m from by omega]; exact hP'
  · rw [dg_of_lt (Nat.lt_of_lt_of_le hP (Nat.pow_le_pow_right hB (by omega))), dg_of_lt (Nat.lt_of_lt_of_le hP' (Nat.pow_le_pow_right hB (by omega)))]
end Dg

namespace Dg
theorem bl_le {N n : Nat} (h : N < 65536 ^ n) : bl N ≤ 16 * n := by
  have hp : 65536 ^ n = 2 ^ (16 * n) := by rw [Nat.pow_mul]
  rcases bl_top N with h0 | h1
  · omega
  · have : bl N - 1 < 16 * n := (Nat.pow_lt_pow_iff_right (by decide : 1 < 2)).1 (by rw [← hp]; exact Nat.lt_of_le_of_lt h1 h)
    omega

theorem div_start {N D : Nat} (hD : 0 < D) : N < D * 2 ^ ((((bl N : Int) - bl D) + 1).toNat) := by
  have h1 := bl_lt N
  have h2 : 2 ^ (bl D - 1) ≤ D := by
    rcases bl_top D with h | h
    · have := bl_pos hD; omega
    · exact h
  have hb := bl_pos hD
  by_cases hle : bl D ≤ bl N
  · have e : (((bl N : Int) - bl D) + 1).toNat = bl N - bl D + 1 := by omega
    rw [e]
    have : 2 ^ (bl D - 1) * 2 ^ (bl N - bl D + 1) ≤ D * 2 ^ (bl N - bl D + 1) := Nat.mul_le_mul_right _ h2
    rw [← Nat.pow_add, show bl D - 1 + (bl N - bl D + 1) = bl N from by omega] at this
    omega
  · have e : (((bl N : Int) - bl D) + 1).toNat = 0 := by omega
    rw [e, Nat.pow_zero, Nat.mul_one]
    have : (2 : Nat) ^ bl N ≤ 2 ^ (bl D - 1) := Nat.pow_le_pow_right (by decide) (by omega)
    omega
end Dg

set_option linter.unusedSimpArgs false
set_option linter.unusedVariables false
namespace Go.Bg
open Go.RowKit Dg

def Cells (w : World) (a : Option Addr) (n : Nat) (g : Nat → Value) : Prop :=
  0 < n → ∃ b off, a = some ⟨b, off, none⟩ ∧ ∀ i, i < n → w.cell? ⟨b, off + i, none⟩ = some (g i)

/-- the slice reads as the number N in base B, no leading zero -/
structure NumAt (k : IntKind) (B : Nat) (w : World) (a : Option Addr) (n c N : Nat) : Prop where
  lt : N < B ^ n
  top : n = 0 ∨ B ^ (n - 1) ≤ N
  nc : n ≤ c
  cm : c ≤ maxLen
  cells : Cells w a n (fun i => .int k (dg B N i : Nat))

abbrev NatAt := NumAt .i64 65536

theorem block_lt {w : World} {a : Addr} {v : Value} (h : w.cell? a = some v) : a.block < w.heap.size := World.block_lt_of_cell? w a h

theorem Cells.keep {w w' : World} {a : Option Addr} {n : Nat} {g : Nat → Value} (h : Cells w a n g) (hb : Below w.heap.size w w') : Cells w' a n g := by
  intro hn
  obtain ⟨b, off, rfl, hc⟩ := h hn
  refine ⟨b, off, rfl, fun i hi => ?_⟩
  have h1 := hc i hi
  rw [hb.cell (p := ⟨b, off + i, none⟩) (block_lt h1)]; exact h1

theorem NumAt.keep {k : IntKind} {B : Nat} {w w' : World} {a : Option Addr} {n c N : Nat} (h : NumAt k B w a n c N) (hb : Below w.heap.size w w') : NumAt k B w' a n c N :=
  ⟨h.lt, h.top, h.nc, h.cm, h.cells.keep hb⟩

theorem NumAt.form {k : IntKind} {B : Nat} {w : World} {a : Option Addr} {n c N : Nat} (h : NumAt k B w a n c N) (hn : 0 < n) : ∃ b off, a = some ⟨b, off, none⟩ ∧ b < w.heap.size := by
  obtain ⟨b, off, rfl, hc⟩ := h.cells hn
  exact ⟨b, off, rfl, block_lt (hc 0 hn)⟩

theorem NumAt.cell {k : IntKind} {B : Nat} {w : World} {b off : Nat} {n c N i : Nat} (h : NumAt k B w (some ⟨b, off, none⟩) n c N) (hi : i < n) : w.cell? ⟨b, off + i, none⟩ = some (.int k (dg B N i : Nat)) := by
  obtain ⟨b', off', e, hc⟩ := h.cells (by omega)
  cases e
  exact hc i hi

theorem NumAt.len16 {k : IntKind} {w : World} {a : Option Addr} {n c N m : Nat} (h : NumAt k 65536 w a n c N) (hN : N < 65536 ^ m) : n ≤ m := len_le (by decide) h.top hN

theorem below_of_drewN {w w1 : World} {B : Nat} (h : ∃ m, w1 = w.drewN m) : Below B w w1 := by
  obtain ⟨m, rfl⟩ := h
  exact below_drewN (Below.refl _ _) m

/-- two calls, one behind the other -/
theorem Below.then {w w1 w2 : World} {B : Nat} (h : Below B w w1) (hB : B ≤ w.heap.size) (k : Below w1.heap.size w1 w2) : Below B w w2 :=
  h.trans (k.mono (Nat.le_trans hB h.size))

/-- a result that is the number N, in new memory or old; nothing that was there has turned -/
def Gives (k : IntKind) (B : Nat) (N : Nat) (w : World) (e : Ending) (w' : World) : Prop :=
  ∃ a n c, e = .returned (.slice a n c) ∧ NumAt k B w' a n c N ∧ Below w.heap.size w w'

theorem ret_slice {a : Option Addr} {n m c : Nat} (h : n = m) : Ending.returned (.slice a n c) = .returned (.slice a m c) := by rw [h]
theorem ret_int {k : IntKind} {a b : Int} (h : a = b) : Ending.returned (.int k a) = .returned (.int k b) := by rw [h]
theorem ret_bool {a b : Bool} (h : a = b) : Ending.returned (.bool a) = .returned (.bool b) := by rw [h]

theorem drewN_ex {w w' : World} {n : Nat} (h : w' = w.drewN n) : ∃ m, w' = w.drewN m := ⟨n, h⟩

def sliceLen : Value → Nat | .slice _ m _ => m | _ => 0

section
variable {P : Program}
/-- append of one element that the statement has just laid in a block of its own -/
theorem wpList_app1 {w wr : World} {ops : Array Oper} {rest : List Oper} {o : Oper} {a : Act} {Q : Exit → Act → World → Prop} (hgd : o.guard = none) (s x : Operand) (t : TypeId)
    (ho : o.op = .call { callee := .builtin .append, args := #[s, x], argTypes := #[t, t] })
    (base : Nat) (e : TypeId) (i : TypeInfo) (z : Value) (bytes : Nat) (ht : P.underlying t = some (.slice e)) (hi : P.info? e = some i) (hz : i.zero = some z)
    (hsize : i.size = 1) (hby : i.bytes = bytes) (hzs : z.cells.size = 1) (hb8 : bytes ≤ 24)
    (v : Value) (n : Nat) (xs : List Value) (u : Value) (hs : a.eval s = v) (hx : a.eval x = .slice (some ⟨wr.heap.size, 0, none⟩) 1 1)
    (hw : w = wr.alloc (.cells #[u] e)) (hown : wr.ownsRow base e 1 v n xs)
    (h1 : u.oneCell' = true) (hn : n ≤ 1000000000) (hbase : base ≤ wr.heap.size)
    (h : ∀ v' w', w'.ownsRow base e 1 v' (n + 1) (xs ++ [u]) → Below base wr w' → v' ≠ .slice none 0 0 → wpList P ops Q rest (a.put o.dst v') w') : wpList P ops Q (o :: rest) a w := by
  subst hw
  refine wpList_append_own _ hgd s x t ho base e i z 1 bytes ht hi hz hsize hby hzs (by decide) v n xs hs (hown.alloc _) ⟨wr.heap.size, 0, none⟩ 1 1 [u] hx rfl ?_ ?_ ?_ ?_ ?_ ?_
  · intro j y hj
    match j, hj with
    | 0, hj => simp at hj; subst hj; simp [Addr.add]
  · intro y hy; simp at hy; subst hy; exact h1
  · unfold maxLen; omega
  · have : (n + 1) * bytes ≤ (n + 1) * 24 := Nat.mul_le_mul_left _ hb8
    omega
  · simp; omega
  · intro v' w' ho' hg' hnil
    refine h v' w' ho' ?_ ?_
    · refine ((Below.refl base wr).alloc hbase _).grown hg' (by simp; omega) ?_
      intro k hk
      exact (hown.lt k hk).1
    · intro e; have := hnil.1 e; omega
end

section
variable {P : Program}
/-- make of a row of n zeros: the new world is a variable of which the row is known -/
theorem wpList_mkrow {w : World} {ops : Array Oper} {rest : List Oper} {o : Oper} {a : Act} {Q : Exit → Act → World → Prop}
    (hg : o.guard = none) (l c : Operand) (t : TypeId) (hop : o.op = Op.makeSlice t l c)
    (e : TypeId) (z : Value) (ht : P.underlying t = some (.slice e)) (hinfo : (P.info? e).map (fun i => (i.zero, i.size, i.bytes)) = some (some z, 1, 8)) (hz1 : z.cells = #[z])
    (n : Nat) (kl kc : IntKind) (L C : Int) (hl : a.eval l = .int kl L) (hc : a.eval c = .int kc C) (hL : L = n) (hC : C = n) (hn : n ≤ 1000000000)
    (hK : ∀ w', w'.rowIs w.heap.size e n (fun _ => z) → Below w.heap.size w w' → w'.heap.size = w.heap.size + 1 → wpList P ops Q rest (a.put o.dst (.slice (some ⟨w.heap.size, 0, none⟩) n n)) w') :
    wpList P ops Q (o :: rest) a w := by
  subst hL
  subst hC
  obtain ⟨i, hi, hzz⟩ := Option.map_eq_some_iff.1 hinfo
  simp only [Prod.mk.injEq] at hzz
  obtain ⟨hz, hs, hb⟩ := hzz
  refine wpList_make_row w hg l c t hop e i z ht hi hz hs hz1 kl kc n ?_ hc ?_ (by omega) ?_
  all_goals first | exact hl | (rw [hb]; omega) | skip
  exact hK _ (World.rowIs_made w z n e) ((Below.refl _ _).alloc (Nat.le_refl _) _) (by simp)
end

theorem own_form {w : World} {B : Nat} {e : TypeId} {v : Value} {n : Nat} {xs : List Value} (h : w.ownsRow B e 1 v n xs) (hne : v ≠ .slice none 0 0) :
    ∃ g cap, v = .slice (some ⟨g, 0, none⟩) n cap ∧ B ≤ g ∧ g < w.heap.size ∧ n ≤ cap ∧ cap ≤ maxLen ∧ ∀ i, i < n → w.cell? ⟨g, i, none⟩ = xs[i]? := by
  rcases h.2 with ⟨rfl, _⟩ | ⟨g, cap, cur, rfl, hb, hg, hnc, hcm, hcs, htake⟩
  · exact absurd rfl hne
  · refine ⟨g, cap, rfl, hb, (Array.getElem?_eq_some_iff.1 hg).1, hnc, hcm, fun i hi => ?_⟩
    rw [cell_of_row w g i cur e (0, 0) hg, ← htake]
    simp [hi]
end Go.Bg

namespace Go.Bg
/-- the base of the words -/
def W64 : Nat := 18446744073709551616
theorem W64_eq : W64 = 2 ^ 64 := by unfold W64; decide
theorem W64_pos : 0 < W64 := by unfold W64; decide
theorem W64_gt : 1 < W64 := by unfold W64; decide
theorem W64_16 : W64 = 65536 ^ 4 := by unfold W64; decide
theorem W64_lt {n : Nat} (h : n < W64) : n < 18446744073709551616 := h
end Go.Bg

set_option linter.unusedSimpArgs false
set_option linter.unusedVariables false
namespace Go.Proofs.YtdkipndepkblhaaGreatDoor
theorem infoInt : (Tryz.prog.info? 3).map (fun i => (i.zero, i.size, i.bytes)) = some (some (.int .i64 0), 1, 8) := by kernel_rfl
theorem infoUint : (Tryz.prog.info? 44).map (fun i => (i.zero, i.size, i.bytes)) = some (some (.int .u64 0), 1, 8) := by kernel_rfl
theorem infoWord : (Tryz.prog.info? 151).map (fun i => (i.zero, i.size, i.bytes)) = some (some (.int .u64 0), 1, 8) := by kernel_rfl
end Go.Proofs.YtdkipndepkblhaaGreatDoor

set_option linter.unusedSimpArgs false
set_option linter.unusedVariables false
namespace Go.Bg
open Go.RowKit Dg

/-- a block of cells of the type e, not frozen -/
def BlkAt (w : World) (g : Nat) (cur : Array Value) (e : TypeId) : Prop := w.heap[g]? = some (.cells cur e (0, 0))

theorem BlkAt.lt {w : World} {g : Nat} {cur : Array Value} {e : TypeId} (h : BlkAt w g cur e) : g < w.heap.size := (Array.getElem?_eq_some_iff.1 h).1
theorem BlkAt.cell {w : World} {g : Nat} {cur : Array Value} {e : TypeId} (h : BlkAt w g cur e) (i : Nat) : w.cell? ⟨g, i, none⟩ = cur[i]? := cell_of_row w g i cur e (0, 0) h
theorem BlkAt.frozen {w : World} {g : Nat} {cur : Array Value} {e : TypeId} (h : BlkAt w g cur e) (i : Nat) : w.frozen? ⟨g, i, none⟩ = false := by
  unfold BlkAt at h
  simp [World.frozen?, h]
theorem BlkAt.new (w : World) (cur : Array Value) (e : TypeId) : BlkAt (w.alloc (.cells cur e)) w.heap.size cur e := by
  show (w.heap.push _)[w.heap.size]? = _
  rw [Array.getElem?_push, if_pos rfl]
theorem BlkAt.set {w : World} {g : Nat} {cur : Array Value} {e : TypeId} (h : BlkAt w g cur e) (i : Nat) (v : Value) : BlkAt (w.setCell ⟨g, i, none⟩ v) g (cur.setIfInBounds i v) e := by
  unfold BlkAt at *
  simp [World.setCell, Array.getElem?_modify, h]

/-- what a call may turn: the blocks of S; all else that was there is as it was -/
structure Upd (S : Nat → Prop) (w w' : World) : Prop where
  os : w'.os = w.os
  tape : w'.tape = w.tape
  output : w'.output = w.output
  size : w.heap.size ≤ w'.heap.size
  block : ∀ k, k < w.heap.size → ¬ S k → w'.heap[k]? = w.heap[k]?

theorem Upd.refl (S : Nat → Prop) (w : World) : Upd S w w := ⟨rfl, rfl, rfl, Nat.le_refl _, fun _ _ _ => rfl⟩
theorem Upd.trans {S : Nat → Prop} {a b c : World} (h : Upd S a b) (k : Upd S b c) : Upd S a c :=
  ⟨k.os.trans h.os, k.tape.trans h.tape, k.output.trans h.output, Nat.le_trans h.size k.size, fun i hi hs => (k.block i (Nat.lt_of_lt_of_le hi h.size) hs).trans (h.block i hi hs)⟩
theorem Upd.mono {S S' : Nat → Prop} {w w' : World} (h : Upd S w w') (hs : ∀ k, k < w.heap.size → S k → S' k) : Upd S' w w' := ⟨h.os, h.tape, h.output, h.size, fun k hk hn => h.block k hk (fun x => hn (hs k hk x))⟩
theorem Upd.of_below {S : Nat → Prop} {w w' : World} (h : Below w.heap.size w w') : Upd S w w' := ⟨h.os, h.tape, h.output, h.size, fun k hk _ => h.block k hk⟩
theorem Upd.drew {S : Nat → Prop} {a w : World} (h : Upd S a w) : Upd S a w.drew := ⟨h.os, h.tape, h.output, h.size, h.block⟩
theorem Upd.alloc {S : Nat → Prop} {a w : World} (h : Upd S a w) (o : Obj) : Upd S a (w.alloc o) := h.trans (Upd.of_below ((Below.refl _ _).alloc (Nat.le_refl _) _))
theorem Upd.setCell {S : Nat → Prop} {a w : World} (h : Upd S a w) {p : Addr} (hp : S p.block) (u : Value) : Upd S a (w.setCell p u) :=
  ⟨h.os, h.tape, h.output, by simpa [World.setCell] using h.size, fun k hk hs => (Below.heap_setCell w p u k (fun e => hs (e ▸ hp))).trans (h.block k hk hs)⟩
theorem Upd.setNew {S : Nat → Prop} {a w : World} (h : Upd S a w) {p : Addr} (hp : a.heap.size ≤ p.block) (u : Value) : Upd S a (w.setCell p u) :=
  ⟨h.os, h.tape, h.output, by simpa [World.setCell] using h.size, fun k hk hs => (Below.heap_setCell w p u k (by omega)).trans (h.block k hk hs)⟩
theorem Upd.below {S : Nat → Prop} {B : Nat} {a w w' : World} (h : Upd S w w') (hb : Below B a w) (hB : B ≤ w.heap.size) (hS : ∀ k, k < w.heap.size → S k → B ≤ k) : Below B a w' :=
  hb.trans ⟨h.os, h.tape, h.output, h.size, fun k hk => h.block k (by omega) (fun s => by have := hS k (by omega) s; omega)⟩
theorem Upd.then {S : Nat → Prop} {a w w' : World} (h : Upd S a w) (hb : Below w.heap.size w w') : Upd S a w' := h.trans (Upd.of_below hb)
theorem Upd.cell {S : Nat → Prop} {w w' : World} (h : Upd S w w') {p : Addr} (hp : p.block < w.heap.size) (hs : ¬ S p.block) : w'.cell? p = w.cell? p := World.cell?_of_block (w := w) (h.block p.block hp hs)
theorem Upd.blk {S : Nat → Prop} {w w' : World} (h : Upd S w w') {g : Nat} {cur : Array Value} {e : TypeId} (hg : BlkAt w g cur e) (hs : ¬ S g) : BlkAt w' g cur e := by
  unfold BlkAt at *
  rw [h.block g (BlkAt.lt hg) hs]; exact hg
theorem BlkAt.keep {w w' : World} {g : Nat} {cur : Array Value} {e : TypeId} (hg : BlkAt w g cur e) (h : Below w.heap.size w w') : BlkAt w' g cur e :=
  Upd.blk (S := fun _ => False) (Upd.of_below h) hg (fun x => x)

/-- words in a block of their own; T is the words' type -/
def Buf (T : TypeId) (w : World) (a : Option Addr) (c : Nat) : Prop :=
  (a = none ∧ c = 0) ∨ ∃ g cur, a = some ⟨g, 0, none⟩ ∧ BlkAt w g cur T ∧ cur.size = c

/-- a slice that is the number N by its words, the top one not 0 -/
structure BigN (T : TypeId) (w : World) (a : Option Addr) (n c N : Nat) : Prop where
  num : NumAt .u64 W64 w a n c N
  buf : Buf T w a c

/-- a struct's block: not of words -/
def Strct (T : TypeId) (w : World) (b : Nat) : Prop := ∃ cur e, BlkAt w b cur e ∧ e ≠ T

theorem Strct.lt {T : TypeId} {w : World} {b : Nat} (h : Strct T w b) : b < w.heap.size := by
  obtain ⟨cur, e, h, _⟩ := h; exact h.lt
theorem Strct.frozen {T : TypeId} {w : World} {b : Nat} (h : Strct T w b) (i : Nat) : w.frozen? ⟨b, i, none⟩ = false := by
  obtain ⟨cur, e, h, _⟩ := h; exact h.frozen i
theorem Strct.keep {T : TypeId} {w w' : World} {b : Nat} (h : Strct T w b) (hb : Below w.heap.size w w') : Strct T w' b := by
  obtain ⟨cur, e, h, hne⟩ := h; exact ⟨cur, e, h.keep hb, hne⟩
theorem Strct.upd {T : TypeId} {w w' : World} {b : Nat} {S : Nat → Prop} (h : Strct T w b) (hu : Upd S w w') (hs : ¬ S b) : Strct T w' b := by
  obtain ⟨cur, e, h, hne⟩ := h; exact ⟨cur, e, hu.blk h hs, hne⟩
theorem Strct.set {T : TypeId} {w : World} {b d : Nat} (h : Strct T w b) (i : Nat) (v : Value) : Strct T (w.setCell ⟨d, i, none⟩ v) b := by
  obtain ⟨cur, e, h, hne⟩ := h
  by_cases hd : d = b
  · subst hd; exact ⟨_, e, h.set i v, hne⟩
  · refine ⟨cur, e, ?_, hne⟩
    unfold BlkAt at *
    rw [Below.heap_setCell _ _ _ _ (fun x => hd x.symm)]; exact h

theorem Buf.upd {T : TypeId} {w w' : World} {a : Option Addr} {c : Nat} {S : Nat → Prop} (h : Buf T w a c) (hu : Upd S w w') (hS : ∀ k, k < w.heap.size → S k → Strct T w k) : Buf T w' a c := by
  rcases h with h | ⟨g, cur, rfl, hg, hc⟩
  · exact .inl h
  · refine .inr ⟨g, cur, rfl, hu.blk hg (fun hs => ?_), hc⟩
    obtain ⟨cur2, e2, h2, hne⟩ := hS g hg.lt hs
    unfold BlkAt at hg h2
    rw [hg] at h2; injection h2 with h2; injection h2 with _ h2 _; exact hne h2.symm

theorem BigN.upd {T : TypeId} {w w' : World} {a : Option Addr} {n c N : Nat} {S : Nat → Prop} (h : BigN T w a n c N) (hu : Upd S w w') (hS : ∀ k, k < w.heap.size → S k → Strct T w k) : BigN T w' a n c N := by
  refine ⟨⟨h.num.lt, h.num.top, h.num.nc, h.num.cm, fun hn => ?_⟩, h.buf.upd hu hS⟩
  obtain ⟨b, off, rfl, hc⟩ := h.num.cells hn
  refine ⟨b, off, rfl, fun i hi => ?_⟩
  rcases h.buf with h' | ⟨g, cur, e, hg, _⟩
  · cases h'.1
  · cases e
    rw [hu.cell (p := ⟨b, 0 + i, none⟩) hg.lt]
    · exact hc i hi
    · intro hs
      obtain ⟨cur2, e2, h2, hne⟩ := hS b hg.lt hs
      unfold BlkAt at hg h2
      rw [hg] at h2; injection h2 with h2; injection h2 with _ h2 _; exact hne h2.symm
theorem BigN.keep {T : TypeId} {w w' : World} {a : Option Addr} {n c N : Nat} (h : BigN T w a n c N) (hb : Below w.heap.size w w') : BigN T w' a n c N :=
  h.upd (S := fun _ => False) (Upd.of_below hb) (fun _ _ x => x.elim)
theorem Upd.set1 (w : World) (b i : Nat) (v : Value) : Upd (· = b) w (w.setCell ⟨b, i, none⟩ v) := Upd.setCell (S := (· = b)) (Upd.refl _ _) (p := ⟨b, i, none⟩) rfl v
theorem BigN.set {T : TypeId} {w : World} {a : Option Addr} {n c N : Nat} (h : BigN T w a n c N) {b : Nat} (hb : Strct T w b) (i : Nat) (v : Value) : BigN T (w.setCell ⟨b, i, none⟩ v) a n c N :=
  h.upd (Upd.set1 w b i v) (fun k _ e => by subst e; exact hb)
theorem BigN.nil (T : TypeId) (w : World) : BigN T w none 0 0 0 := ⟨⟨by simp, .inl rfl, Nat.le_refl _, by simp [maxLen], fun h => by omega⟩, .inl ⟨rfl, rfl⟩⟩

/-- a big integer: its sign and its words, at a place of a struct's block -/
structure BigAt (T : TypeId) (w : World) (b o : Nat) (s : Bool) (N : Nat) : Prop where
  blk : Strct T w b
  val : ∃ a n c, w.cell? ⟨b, o, none⟩ = some (.bool s) ∧ w.cell? ⟨b, o + 1, none⟩ = some (.slice a n c) ∧ BigN T w a n c N
  zero : s = true → 0 < N

theorem BigAt.upd {T : TypeId} {w w' : World} {b o : Nat} {s : Bool} {N : Nat} {S : Nat → Prop} (h : BigAt T w b o s N) (hu : Upd S w w') (hs : ¬ S b) (hS : ∀ k, k < w.heap.size → S k → Strct T w k) : BigAt T w' b o s N := by
  obtain ⟨a, n, c, h0, h1, hN⟩ := h.val
  exact ⟨h.blk.upd hu hs, ⟨a, n, c, by rw [hu.cell (p := ⟨b, o, none⟩) h.blk.lt hs]; exact h0, by rw [hu.cell (p := ⟨b, o + 1, none⟩) h.blk.lt hs]; exact h1, hN.upd hu hS⟩, h.zero⟩
theorem BigAt.keep {T : TypeId} {w w' : World} {b o : Nat} {s : Bool} {N : Nat} (h : BigAt T w b o s N) (hb : Below w.heap.size w w') : BigAt T w' b o s N :=
  h.upd (S := fun _ => False) (Upd.of_below hb) (fun x => x) (fun _ _ x => x.elim)

/-- the number of a sign and a magnitude -/
def sg (s : Bool) (N : Nat) : Int := if s then -(N : Int) else N

theorem sg_inj {s t : Bool} {N M : Nat} (h : sg s N = sg t M) (hs : s = true → 0 < N) (ht : t = true → 0 < M) : s = t ∧ N = M := by
  cases s <;> cases t <;> simp [sg] at h hs ht <;> first | exact ⟨rfl, by omega⟩ | omega
end Go.Bg

namespace Go.Bg
open Go.RowKit Dg
/-- what a call on the big integer at (b, o) may turn: that one, and new memory -/
structure UpdI (T : TypeId) (b o : Nat) (w w' : World) : Prop where
  upd : Upd (· = b) w w'
  rest : ∀ i, i ≠ o → i ≠ o + 1 → w'.cell? ⟨b, i, none⟩ = w.cell? ⟨b, i, none⟩
  blk : Strct T w b → Strct T w' b

theorem UpdI.refl (T : TypeId) (b o : Nat) (w : World) : UpdI T b o w w := ⟨Upd.refl _ _, fun _ _ _ => rfl, id⟩
theorem UpdI.trans {T : TypeId} {b o : Nat} {w w1 w2 : World} (h : UpdI T b o w w1) (k : UpdI T b o w1 w2) : UpdI T b o w w2 :=
  ⟨h.upd.trans k.upd, fun i h1 h2 => (k.rest i h1 h2).trans (h.rest i h1 h2), fun x => k.blk (h.blk x)⟩
theorem UpdI.drew {T : TypeId} {b o : Nat} {w w1 : World} (h : UpdI T b o w w1) : UpdI T b o w w1.drew := ⟨h.upd.drew, h.rest, fun x => by obtain ⟨cur, e, hb, hne⟩ := h.blk x; exact ⟨cur, e, hb, hne⟩⟩
theorem UpdI.of_below {T : TypeId} {b o : Nat} {w w' : World} (h : Below w.heap.size w w') (hs : Strct T w b) : UpdI T b o w w' :=
  ⟨Upd.of_below h, fun i _ _ => h.cell (p := ⟨b, i, none⟩) hs.lt, fun x => x.keep h⟩
theorem UpdI.then {T : TypeId} {b o : Nat} {w w1 w2 : World} (h : UpdI T b o w w1) (hb : Below w1.heap.size w1 w2) (hs : Strct T w b) : UpdI T b o w w2 := h.trans (UpdI.of_below hb (h.blk hs))
theorem UpdI.set0 {T : TypeId} (w : World) (b o : Nat) (v : Value) : UpdI T b o w (w.setCell ⟨b, o, none⟩ v) :=
  ⟨Upd.set1 w b o v, fun i h1 _ => World.cell?_setCell_other _ _ _ _ (fun h => h1 (by injection h with _ h _; exact h.symm)), fun x => x.set _ _⟩
theorem UpdI.set1 {T : TypeId} (w : World) (b o : Nat) (v : Value) : UpdI T b o w (w.setCell ⟨b, o + 1, none⟩ v) :=
  ⟨Upd.set1 w b (o + 1) v, fun i _ h2 => World.cell?_setCell_other _ _ _ _ (fun h => h2 (by injection h with _ h _; exact h.symm)), fun x => x.set _ _⟩

theorem BigAt.other {T : TypeId} {w w' : World} {b o d p : Nat} {s : Bool} {N : Nat} (h : BigAt T w b o s N) (hs : Strct T w d) (hu : UpdI T d p w w') (hne : b ≠ d ∨ (o + 1 < p ∨ p + 1 < o)) : BigAt T w' b o s N := by
  obtain ⟨a, n, c, h0, h1, hN⟩ := h.val
  have hS : ∀ k, k < w.heap.size → (k = d) → Strct T w k := fun k _ e => e ▸ hs
  by_cases e : b = d
  · subst e
    have hne : o + 1 < p ∨ p + 1 < o := by rcases hne with h | h; exact absurd rfl h; exact h
    exact ⟨hu.blk h.blk, ⟨a, n, c, by rw [hu.rest _ (by omega) (by omega)]; exact h0, by rw [hu.rest _ (by omega) (by omega)]; exact h1, hN.upd hu.upd hS⟩, h.zero⟩
  · exact h.upd hu.upd e hS
theorem BigN.other {T : TypeId} {w w' : World} {d p : Nat} {a : Option Addr} {n c N : Nat} (h : BigN T w a n c N) (hs : Strct T w d) (hu : UpdI T d p w w') : BigN T w' a n c N :=
  h.upd hu.upd (fun k _ e => e ▸ hs)

/-- a number's two cells, both stored: the words first -/
theorem BigAt.stored {T : TypeId} {w : World} {b o : Nat} {a : Option Addr} {n c N : Nat} {s : Bool} (hb : Strct T w b) (h0 : ∃ u, w.cell? ⟨b, o, none⟩ = some u) (h1 : ∃ u, w.cell? ⟨b, o + 1, none⟩ = some u)
    (hN : BigN T w a n c N) (hz : s = true → 0 < N) : BigAt T ((w.setCell ⟨b, o + 1, none⟩ (.slice a n c)).setCell ⟨b, o, none⟩ (.bool s)) b o s N := by
  obtain ⟨u0, h0⟩ := h0
  obtain ⟨u1, h1⟩ := h1
  have e : ∀ (i j : Nat) (v : Value) (w : World), i ≠ j → (w.setCell ⟨b, i, none⟩ v).cell? ⟨b, j, none⟩ = w.cell? ⟨b, j, none⟩ := fun i j v w h => World.cell?_setCell_other _ _ _ _ (fun hh => h (by injection hh))
  refine ⟨(hb.set _ _).set _ _, ⟨a, n, c, ?_, ?_, (hN.set hb _ _).set (hb.set _ _) _ _⟩, hz⟩
  · refine World.cell?_setCell_same (u := u0) _ _ _ ?_
    rw [e _ _ _ _ (by omega)]; exact h0
  · rw [e _ _ _ _ (by omega)]
    exact World.cell?_setCell_same (u := u1) _ _ _ h1

/-- the first cell of a number, stored anew -/
theorem BigAt.signed {T : TypeId} {w : World} {b o : Nat} {N : Nat} {s t : Bool} (h : BigAt T w b o s N) (hz : t = true → 0 < N) : BigAt T (w.setCell ⟨b, o, none⟩ (.bool t)) b o t N := by
  obtain ⟨a, n, c, h0, h1, hN⟩ := h.val
  refine ⟨h.blk.set _ _, ⟨a, n, c, World.cell?_setCell_same (u := .bool s) _ _ _ h0, ?_, hN.set h.blk _ _⟩, hz⟩
  rw [World.cell?_setCell_other _ _ _ _ (fun hh => by injection hh with _ hh _; omega)]; exact h1

theorem tlen_congr {f g : Nat → Nat} : ∀ {n : Nat}, (∀ i, i < n → f i = g i) → tlen f n = tlen g n := by
  intro n
  induction n with
  | zero => intro _; rfl
  | succ n ih => intro h; simp only [tlen]; rw [h n (by omega), ih (fun i hi => h i (by omega))]

/-- a slice of raw words without those that are 0 at its end -/
theorem bigN_of_words {T : TypeId} {w : World} {a : Option Addr} {n c : Nat} {f : Nat → Nat} (hf : ∀ i, i < n → f i < W64) (hnc : n ≤ c) (hcm : c ≤ maxLen) (hc : Cells w a n (fun i => .int .u64 (f i : Nat))) (hb : Buf T w a c) :
    BigN T w a (tlen f n) c (val W64 f n) := by
  have hlt := val_lt (B := W64) hf
  have ht : tlen f n = tlen (dg W64 (val W64 f n)) n := tlen_congr (fun i hi => (dg_val hf i hi).symm)
  refine ⟨⟨by rw [ht]; exact tlen_lt hlt, by rw [ht]; exact tlen_top hlt, Nat.le_trans (tlen_le _ _) hnc, hcm, fun hn => ?_⟩, hb⟩
  have hn' := tlen_le f n
  obtain ⟨b, off, rfl, hcell⟩ := hc (by omega)
  refine ⟨b, off, rfl, fun i hi => ?_⟩
  rw [hcell i (by omega)]; show some (Value.int .u64 (f i : Nat)) = some (Value.int .u64 (dg W64 (val W64 f n) i : Nat)); rw [dg_val hf i (by omega)]

/-- an owned row of words -/
theorem buf_of_own {T : TypeId} {w : World} {B n : Nat} {v : Value} {xs : List Value} (h : w.ownsRow B T 1 v n xs) :
    ∃ a c, v = .slice a n c ∧ Buf T w a c ∧ n ≤ c ∧ c ≤ maxLen ∧ (a = none → c = 0) ∧ (∀ f : Nat → Value, (∀ i, i < n → xs[i]? = some (f i)) → Cells w a n f) := by
  rcases h.2 with ⟨rfl, rfl⟩ | ⟨g, cap, cur, rfl, hb, hg, hnc, hcm, hcs, htake⟩
  · exact ⟨none, 0, rfl, .inl ⟨rfl, rfl⟩, Nat.le_refl _, by simp [maxLen], fun _ => rfl, fun f _ => fun h => by omega⟩
  · refine ⟨_, cap, rfl, .inr ⟨g, cur, rfl, hg, by simpa using hcs⟩, hnc, hcm, by simp, fun f hf => fun hn => ⟨g, 0, rfl, fun i hi => ?_⟩⟩
    rw [cell_of_row w g _ cur T (0, 0) hg, ← hf i hi, ← htake]
    simp [hi]
end Go.Bg

namespace Go.Bg
open Go.RowKit Dg
theorem madeCells_one (z : Value) (m : Nat) : madeCells #[z] m = Array.replicate m z := by
  apply Array.ext
  · simp [madeCells]
  · intro i h1 h2
    simp [madeCells, Nat.mod_one]

/-- make of n words with room for m -/
theorem run_make_nat {P : Program} (t e : TypeId) (ht : P.underlying t = some (.slice e)) (hinfo : (P.info? e).map (fun i => (i.zero, i.size, i.bytes)) = some (some (.int .u64 0), 1, 8))
    (n m : Nat) (hn : n ≤ m) (hm : m ≤ 1000000000) (w : World) :
    (Instr.makeSlice t (.int .i64 (n : Int)) (.int .i64 (m : Int))).run P w = .ok (.slice (some ⟨w.heap.size, 0, none⟩) n m) (w.alloc (.cells (Array.replicate m (.int .u64 0)) e)) := by
  obtain ⟨i, hi, hzz⟩ := Option.map_eq_some_iff.1 hinfo
  simp only [Prod.mk.injEq] at hzz
  obtain ⟨hz, hs, hb⟩ := hzz
  have hr := run_make (P := P) w t e i _ ht hi hz .i64 .i64 n m (by omega) (by omega) (by rw [hb]; omega) (by omega)
  simp only [Int.toNat_natCast, hs, Nat.mul_one] at hr
  rw [hr, show (Value.int IntKind.u64 0).cells = #[.int .u64 0] from rfl, madeCells_one]

/-- a slice of n words of which nothing else knows, or none -/
def MadeIs (T : TypeId) (n : Nat) (w : World) (e : Ending) (w' : World) : Prop :=
  (n = 0 ∧ e = .returned (.slice none 0 0) ∧ w' = w) ∨
  ∃ c, 0 < n ∧ n ≤ c ∧ c ≤ n + 4 ∧ e = .returned (.slice (some ⟨w.heap.size, 0, none⟩) n c) ∧ w' = w.alloc (.cells (Array.replicate c (.int .u64 0)) T)
end Go.Bg

set_option linter.unusedSimpArgs false
set_option linter.unusedVariables false
namespace Go.Bg
open Go.RowKit Dg

structure Rt where
  neg : Bool
  num : Nat
  den : Nat

namespace Rt
def over (neg : Bool) (n d : Nat) : Rt := ⟨neg && decide (0 < n), n / Nat.gcd n d, d / Nat.gcd n d⟩
def whole (neg : Bool) (n : Nat) : Rt := ⟨neg && decide (0 < n), n, 1⟩
def negated (a : Rt) : Rt := ⟨!a.neg && decide (0 < a.num), a.num, a.den⟩
def plus (a b : Rt) : Rt :=
  if a.neg = b.neg then over a.neg (a.num * b.den + b.num * a.den) (a.den * b.den)
  else if b.num * a.den ≤ a.num * b.den then over a.neg (a.num * b.den - b.num * a.den) (a.den * b.den)
  else over b.neg (b.num * a.den - a.num * b.den) (a.den * b.den)
def minus (a b : Rt) : Rt := plus a (negated b)
def times (a b : Rt) : Rt := over (a.neg != b.neg) (a.num * b.num) (a.den * b.den)
def upside (a : Rt) : Rt := ⟨a.neg, a.den, a.num⟩
def signOf (a : Rt) : Int := if a.num = 0 then 0 else if a.neg then -1 else 1
end Rt

/-- the struct's three cells read as the fraction r, both numbers below 65536^L -/
structure RtAt (w : World) (s : Bool) (a : Option Addr) (n c : Nat) (a' : Option Addr) (n' c' : Nat) (r : Rt) (L : Nat) : Prop where
  neg : s = r.neg
  num : NatAt w a n c r.num
  den : NatAt w a' n' c' r.den
  numL : r.num < 65536 ^ L
  denL : r.den < 65536 ^ L

theorem RtAt.keep {w w' : World} {s : Bool} {a : Option Addr} {n c : Nat} {a' : Option Addr} {n' c' : Nat} {r : Rt} {L : Nat} (h : RtAt w s a n c a' n' c' r L) (hb : Below w.heap.size w w') : RtAt w' s a n c a' n' c' r L :=
  ⟨h.neg, h.num.keep hb, h.den.keep hb, h.numL, h.denL⟩
theorem RtAt.n_le {w : World} {s : Bool} {a : Option Addr} {n c : Nat} {a' : Option Addr} {n' c' : Nat} {r : Rt} {L : Nat} (h : RtAt w s a n c a' n' c' r L) : n ≤ L := h.num.len16 h.numL
theorem RtAt.d_le {w : World} {s : Bool} {a : Option Addr} {n c : Nat} {a' : Option Addr} {n' c' : Nat} {r : Rt} {L : Nat} (h : RtAt w s a n c a' n' c' r L) : n' ≤ L := h.den.len16 h.denL

/-- a result that is the fraction r -/
def GivesR (r : Rt) (L : Nat) (w : World) (e : Ending) (w' : World) : Prop :=
  ∃ s a n c a' n' c', e = .returned (.agg #[.bool s, .slice a n c, .slice a' n' c']) ∧ RtAt w' s a n c a' n' c' r L ∧ Below w.heap.size w w'

theorem natAt_pos_len {k : IntKind} {B : Nat} {w : World} {a : Option Addr} {n c N : Nat} (h : NumAt k B w a n c N) : decide (0 < n) = decide (0 < N) := by
  by_cases h0 : n = 0
  · subst h0
    have : N = 0 := by have := h.lt; simpa using this
    subst this; rfl
  · rcases h.top with h1 | h1
    · omega
    · rcases Nat.eq_zero_or_pos B with hB | hB
      · have hl := h.lt
        rw [hB, Nat.zero_pow (by omega)] at hl; omega
      · have : 0 < N := Nat.lt_of_lt_of_le (Nat.pow_pos hB) h1
        simp [this]; omega
end Go.Bg

namespace Go.Bg
open Go.RowKit Dg
/-- no number lies in this block -/
def NoInt (w : World) (s : Nat) : Prop := ∀ o k v, w.cell? ⟨s, o, none⟩ ≠ some (.int k v)

theorem cell?_setCell_ne {w : World} {s o b p : Nat} {v : Value} (h : b ≠ s) : (w.setCell ⟨s, o, none⟩ v).cell? ⟨b, p, none⟩ = w.cell? ⟨b, p, none⟩ :=
  World.cell?_of_block (w := w) (Below.heap_setCell w ⟨s, o, none⟩ v b h)

theorem NumAt.setCell {k : IntKind} {B : Nat} {w : World} {a : Option Addr} {n c N s o : Nat} (h : NumAt k B w a n c N) (v : Value) (hs : NoInt w s) : NumAt k B (w.setCell ⟨s, o, none⟩ v) a n c N := by
  refine ⟨h.lt, h.top, h.nc, h.cm, fun hn => ?_⟩
  obtain ⟨b, off, rfl, hc⟩ := h.cells hn
  refine ⟨b, off, rfl, fun i hi => ?_⟩
  have h1 := hc i hi
  rw [cell?_setCell_ne]
  · exact h1
  · intro e; subst e; exact hs _ _ _ h1

theorem NoInt.setCell {w : World} {s t o : Nat} {v : Value} (hs : NoInt w s) (hv : ∀ k n, v ≠ .int k n) : NoInt (w.setCell ⟨t, o, none⟩ v) s := by
  intro p k n h
  by_cases e : s = t
  · subst e
    by_cases e2 : p = o
    · subst e2
      cases hc : w.cell? ⟨s, p, none⟩ with
      | none =>
        have : (w.setCell ⟨s, p, none⟩ v).cell? ⟨s, p, none⟩ = none := by
          simp only [World.cell?, World.setCell, Array.getElem?_modify, if_true] at hc ⊢
          cases hh : w.heap[s]? with
          | none => rfl
          | some x =>
            rw [hh] at hc
            cases x with
            | cells c e f =>
              simp only [Option.isSome_none, Bool.false_eq_true, if_false, Option.map_some, Array.getElem?_eq_none_iff, Array.size_setIfInBounds] at hc ⊢
              exact hc
            | _ => rfl
        rw [this] at h; cases h
      | some u =>
        rw [World.cell?_setCell_same (u := u) _ _ _ hc] at h
        exact hv k n (Option.some.inj h)
    · rw [World.cell?_setCell_other _ _ _ _ (by intro hh; apply e2; simpa using hh.symm)] at h
      exact hs _ _ _ h
  · rw [cell?_setCell_ne e] at h
    exact hs _ _ _ h

/-- the three cells of a fraction's variable -/
structure ResBlk (w : World) (s : Nat) : Prop where
  cells : (∃ v, w.cell? ⟨s, 0, none⟩ = some v) ∧ (∃ v, w.cell? ⟨s, 1, none⟩ = some v) ∧ (∃ v, w.cell? ⟨s, 2, none⟩ = some v)
  frozen : ∀ o, w.frozen? ⟨s, o, none⟩ = false
  noInt : NoInt w s
  lt : s < w.heap.size
end Go.Bg

namespace Go.Bg
open Go.RowKit Dg
theorem ResBlk.alloc (wa : World) (T : TypeId) : ResBlk (wa.alloc (.cells #[.bool false, .slice none 0 0, .slice none 0 0] T)) wa.heap.size := by
  refine ⟨⟨⟨_, by simp; rfl⟩, ⟨_, by simp; rfl⟩, ⟨_, by simp; rfl⟩⟩, fun o => by simp, fun o k v h => ?_, by simp⟩
  rw [World.cell?_alloc_new] at h
  match o, h with
  | 0, h => simp at h
  | 1, h => simp at h
  | 2, h => simp at h
  | n + 3, h => simp at h

theorem ResBlk.below {w w1 : World} {s B : Nat} (h : ResBlk w s) (hs : s < B) (hb : Below B w w1) : ResBlk w1 s := by
  have hc : ∀ o, w1.cell? ⟨s, o, none⟩ = w.cell? ⟨s, o, none⟩ := fun o => hb.cell (p := ⟨s, o, none⟩) hs
  obtain ⟨⟨u0, h0⟩, ⟨u1, h1⟩, ⟨u2, h2⟩⟩ := h.cells
  exact ⟨⟨⟨u0, by rw [hc]; exact h0⟩, ⟨u1, by rw [hc]; exact h1⟩, ⟨u2, by rw [hc]; exact h2⟩⟩, fun o => by rw [hb.frozen (p := ⟨s, o, none⟩) hs]; exact h.frozen o,
    fun o k v hh => h.noInt o k v (by rw [← hc]; exact hh), Nat.lt_of_lt_of_le h.lt hb.size⟩

theorem givesR_end {w w1 : World} {s L : Nat} {sg : Bool} {a : Option Addr} {n c : Nat} {a' : Option Addr} {n' c' : Nat} {r : Rt} (R : ResBlk w1 s) (hs : w.heap.size ≤ s) (hb : Below w.heap.size w w1)
    (h : RtAt w1 sg a n c a' n' c' r L) :
    GivesR r L w (.returned (.agg #[.bool sg, .slice a n c, .slice a' n' c'])) (((w1.setCell ⟨s, 0, none⟩ (.bool sg)).setCell ⟨s, 1, none⟩ (.slice a n c)).setCell ⟨s, 2, none⟩ (.slice a' n' c')) := by
  have n1 : NoInt (w1.setCell ⟨s, 0, none⟩ (.bool sg)) s := R.noInt.setCell (by intro k n h; cases h)
  have n2 : NoInt ((w1.setCell ⟨s, 0, none⟩ (.bool sg)).setCell ⟨s, 1, none⟩ (.slice a n c)) s := n1.setCell (by intro k n h; cases h)
  exact ⟨_, _, _, _, _, _, _, rfl, ⟨h.neg, ((h.num.setCell _ R.noInt).setCell _ n1).setCell _ n2, ((h.den.setCell _ R.noInt).setCell _ n1).setCell _ n2, h.numL, h.denL⟩,
    ((hb.setCell (by exact hs) _).setCell (by exact hs) _).setCell (by exact hs) _⟩
end Go.Bg

namespace Go.Bg
open Go.RowKit
theorem cell_keep {w w1 : World} {p : Addr} {v : Value} (h : w.cell? p = some v) (hb : Below w.heap.size w w1) : w1.cell? p = some v := by
  rw [hb.cell (block_lt h)]; exact h
theorem alloc_keep (w : World) (o : Obj) {p : Addr} {v : Value} (h : w.cell? p = some v) : (w.alloc o).cell? p = some v := by
  rw [World.cell?_alloc_lt _ _ _ (block_lt h)]; exact h
theorem alloc_new (w : World) (c : Array Value) (T : TypeId) {i s : Nat} {v : Value} (hs : s = w.heap.size) (h : c[i]? = some v) : (w.alloc (.cells c T)).cell? ⟨s, i, none⟩ = some v := by
  subst hs; rw [World.cell?_alloc_new]; exact h
end Go.Bg

namespace Go.Bg
open Go.RowKit
theorem Below.alloc' {a w : World} (h : Below a.heap.size a w) (o : Obj) : Below a.heap.size a (w.alloc o) := h.alloc h.size o

/-- a block of three cells that holds a fraction, at its first cell -/
structure RtBlk (w : World) (g : Nat) (s : Bool) (a : Option Addr) (n c : Nat) (a' : Option Addr) (n' c' : Nat) : Prop where
  c0 : w.cell? ⟨g, 0, none⟩ = some (.bool s)
  c1 : w.cell? ⟨g, 1, none⟩ = some (.slice a n c)
  c2 : w.cell? ⟨g, 2, none⟩ = some (.slice a' n' c')

theorem RtBlk.keep {w w1 : World} {g : Nat} {s : Bool} {a : Option Addr} {n c : Nat} {a' : Option Addr} {n' c' : Nat} (h : RtBlk w g s a n c a' n' c') (hb : Below w.heap.size w w1) : RtBlk w1 g s a n c a' n' c' :=
  ⟨cell_keep h.c0 hb, cell_keep h.c1 hb, cell_keep h.c2 hb⟩

theorem RtBlk.lt {w : World} {g : Nat} {s : Bool} {a : Option Addr} {n c : Nat} {a' : Option Addr} {n' c' : Nat} (h : RtBlk w g s a n c a' n' c') : g < w.heap.size := block_lt h.c0

/-- the three stores of a fraction into a variable that holds none yet -/
theorem stored3 {w1 : World} {s L : Nat} {sg : Bool} {a : Option Addr} {n c : Nat} {a' : Option Addr} {n' c' : Nat} {r : Rt} (R : ResBlk w1 s) (h : RtAt w1 sg a n c a' n' c' r L) :
    RtAt (((w1.setCell ⟨s, 0, none⟩ (.bool sg)).setCell ⟨s, 1, none⟩ (.slice a n c)).setCell ⟨s, 2, none⟩ (.slice a' n' c')) sg a n c a' n' c' r L := by
  have n1 : NoInt (w1.setCell ⟨s, 0, none⟩ (.bool sg)) s := R.noInt.setCell (by intro k n h; cases h)
  have n2 : NoInt ((w1.setCell ⟨s, 0, none⟩ (.bool sg)).setCell ⟨s, 1, none⟩ (.slice a n c)) s := n1.setCell (by intro k n h; cases h)
  exact ⟨h.neg, ((h.num.setCell _ R.noInt).setCell _ n1).setCell _ n2, ((h.den.setCell _ R.noInt).setCell _ n1).setCell _ n2, h.numL, h.denL⟩

theorem rtBlk_stored {w1 : World} {s : Nat} (R : ResBlk w1 s) (sg : Bool) (a : Option Addr) (n c : Nat) (a' : Option Addr) (n' c' : Nat) :
    RtBlk (((w1.setCell ⟨s, 0, none⟩ (.bool sg)).setCell ⟨s, 1, none⟩ (.slice a n c)).setCell ⟨s, 2, none⟩ (.slice a' n' c')) s sg a n c a' n' c' := by
  obtain ⟨⟨u0, r0⟩, ⟨u1, r1⟩, ⟨u2, r2⟩⟩ := R.cells
  have e : ∀ (i j : Nat) (v : Value) (w : World), i ≠ j → (w.setCell ⟨s, i, none⟩ v).cell? ⟨s, j, none⟩ = w.cell? ⟨s, j, none⟩ := fun i j v w h => World.cell?_setCell_other _ _ _ _ (fun hh => h (by injection hh))
  refine ⟨?_, ?_, ?_⟩
  · rw [e _ _ _ _ (by decide), e _ _ _ _ (by decide)]; exact World.cell?_setCell_same (u := u0) _ _ _ r0
  · rw [e _ _ _ _ (by decide)]; refine World.cell?_setCell_same (u := u1) _ _ _ ?_; rw [e _ _ _ _ (by decide)]; exact r1
  · refine World.cell?_setCell_same (u := u2) _ _ _ ?_; rw [e _ _ _ _ (by decide), e _ _ _ _ (by decide)]; exact r2
theorem rtBlk_new (w : World) (T : TypeId) (sg : Bool) (a : Option Addr) (n c : Nat) (a' : Option Addr) (n' c' : Nat) :
    RtBlk (w.alloc (.cells #[.bool sg, .slice a n c, .slice a' n' c'] T)) w.heap.size sg a n c a' n' c' := ⟨alloc_new _ _ _ rfl rfl, alloc_new _ _ _ rfl rfl, alloc_new _ _ _ rfl rfl⟩
end Go.Bg

set_option linter.unusedSimpArgs false
set_option linter.unusedVariables false
namespace Go.Bg
open Go.RowKit Dg

/-- the nine cells of a value, and what its four slices hold -/
structure Vl where
  kind : Int
  truth : Bool
  text : ByteArray
  neg : Bool
  wa : Option Addr
  wn : Nat
  wc : Nat
  wf : Nat → Nat
  da : Option Addr
  dn : Nat
  dc : Nat
  df : Nat → Nat
  ineg : Bool
  ia : Option Addr
  inn : Nat
  ic : Nat
  jf : Nat → Nat
  ea : Option Addr
  en : Nat
  ec : Nat
  ef : Nat → Nat

/-- a slice of words -/
structure WordsAt (w : World) (a : Option Addr) (n c : Nat) (f : Nat → Nat) : Prop where
  cells : Cells w a n (fun i => .int .u64 (f i : Nat))
  lt : ∀ i, i < n → f i < W64
  nc : n ≤ c
  cm : c ≤ maxLen
  nil : a = none → c = 0

theorem WordsAt.keep {w w' : World} {a : Option Addr} {n c : Nat} {f : Nat → Nat} (h : WordsAt w a n c f) (hb : Below w.heap.size w w') : WordsAt w' a n c f :=
  ⟨h.cells.keep hb, h.lt, h.nc, h.cm, h.nil⟩

structure VlAt (w : World) (v : Vl) : Prop where
  ws : WordsAt w v.wa v.wn v.wc v.wf
  ds : WordsAt w v.da v.dn v.dc v.df
  is : WordsAt w v.ia v.inn v.ic v.jf
  es : WordsAt w v.ea v.en v.ec v.ef
  text : v.text.size ≤ maxLen
  kind : -9223372036854775808 ≤ v.kind ∧ v.kind ≤ 9223372036854775807

theorem VlAt.keep {w w' : World} {v : Vl} (h : VlAt w v) (hb : Below w.heap.size w w') : VlAt w' v :=
  ⟨h.ws.keep hb, h.ds.keep hb, h.is.keep hb, h.es.keep hb, h.text, h.kind⟩

/-- what a number does not use is nothing -/
def Vl.restB (v : Vl) : Bool := !v.truth && v.text.toList.isEmpty && !v.ineg && decide (v.inn = 0) && decide (v.en = 0)
end Go.Bg

set_option linter.unusedSimpArgs false
set_option linter.unusedVariables false
namespace Go.Bg
open Go.RowKit Dg

theorem RtAt.mono {w : World} {s : Bool} {a : Option Addr} {n c : Nat} {a' : Option Addr} {n' c' : Nat} {r : Rt} {L L' : Nat} (h : RtAt w s a n c a' n' c' r L) (hL : L ≤ L') : RtAt w s a n c a' n' c' r L' :=
  ⟨h.neg, h.num, h.den, Nat.lt_of_lt_of_le h.numL (Nat.pow_le_pow_right (by decide) hL), Nat.lt_of_lt_of_le h.denL (Nat.pow_le_pow_right (by decide) hL)⟩

/-- two fractions' cells, whatever they hold, and whether both readings stand; if they do, they are r and q -/
def Reads2 (b : Bool) (r q : Rt) (L : Nat) (w : World) (e : Ending) (w' : World) : Prop :=
  ∃ s a n c a' n' c' t p m d p' m' d', e = .returned (.tuple #[.agg #[.bool s, .slice a n c, .slice a' n' c'], .agg #[.bool t, .slice p m d, .slice p' m' d'], .bool b]) ∧
    (b = true → RtAt w' s a n c a' n' c' r L ∧ RtAt w' t p m d p' m' d' q L) ∧ Below w.heap.size w w'

theorem RtAt.drew {w : World} {s : Bool} {a : Option Addr} {n c : Nat} {a' : Option Addr} {n' c' : Nat} {r : Rt} {L : Nat} (h : RtAt w s a n c a' n' c' r L) : RtAt w.drew s a n c a' n' c' r L :=
  h.keep (Below.refl _ _).drew

theorem below33 {B : Nat} {w w1 : World} (h : Below B w w1) {s1 s2 : Nat} (h1 : B ≤ s1) (h2 : B ≤ s2) (x0 x1 x2 y0 y1 y2 : Value) :
    Below B w ((((((w1.setCell ⟨s1, 0, none⟩ x0).setCell ⟨s1, 1, none⟩ x1).setCell ⟨s1, 2, none⟩ x2).setCell ⟨s2, 0, none⟩ y0).setCell ⟨s2, 1, none⟩ y1).setCell ⟨s2, 2, none⟩ y2).drew :=
  ((((((h.setCell h1 _).setCell h1 _).setCell h1 _).setCell h2 _).setCell h2 _).setCell h2 _).drew

/-- the stores of two fractions into two variables -/
theorem stored33 {w1 : World} {s1 s2 L : Nat} {sg : Bool} {a : Option Addr} {n c : Nat} {a' : Option Addr} {n' c' : Nat} {sg2 : Bool} {p : Option Addr} {m d : Nat} {p' : Option Addr} {m' d' : Nat} {r : Rt} (N1 : NoInt w1 s1) (N2 : NoInt w1 s2)
    {t : Bool} {x : Option Addr} {y z : Nat} {x' : Option Addr} {y' z' : Nat} (h : RtAt w1 t x y z x' y' z' r L) :
    RtAt ((((((w1.setCell ⟨s1, 0, none⟩ (.bool sg)).setCell ⟨s1, 1, none⟩ (.slice a n c)).setCell ⟨s1, 2, none⟩ (.slice a' n' c')).setCell ⟨s2, 0, none⟩ (.bool sg2)).setCell ⟨s2, 1, none⟩ (.slice p m d)).setCell ⟨s2, 2, none⟩ (.slice p' m' d')) t x y z x' y' z' r L := by
  have b0 : ∀ k n, Value.bool sg ≠ .int k n := fun k n h => by cases h
  have b1 : ∀ k n, Value.slice a n c ≠ .int k n := fun k n h => by cases h
  have NB : ∀ (w : World) (s t o : Nat) (b : Bool), NoInt w s → NoInt (w.setCell ⟨t, o, none⟩ (.bool b)) s := fun w s t o b h => h.setCell (by intro k n h; cases h)
  have NS : ∀ (w : World) (s t o : Nat) (a : Option Addr) (n c : Nat), NoInt w s → NoInt (w.setCell ⟨t, o, none⟩ (.slice a n c)) s := fun w s t o a n c h => h.setCell (by intro k n h; cases h)
  have x1 := NB w1 s1 s1 0 sg N1
  have x2 := NS _ s1 s1 1 a n c x1
  have y1 := NB w1 s2 s1 0 sg N2
  have y2 := NS _ s2 s1 1 a n c y1
  have y3 := NS _ s2 s1 2 a' n' c' y2
  have y4 := NB _ s2 s2 0 sg2 y3
  have y5 := NS _ s2 s2 1 p m d y4
  exact ⟨h.neg, (((((h.num.setCell _ N1).setCell _ x1).setCell _ x2).setCell _ y3).setCell _ y4).setCell _ y5, (((((h.den.setCell _ N1).setCell _ x1).setCell _ x2).setCell _ y3).setCell _ y4).setCell _ y5, h.numL, h.denL⟩
end Go.Bg

namespace Go.Bg
open Go.RowKit Dg
/-- a value's nine cells in its variable -/
structure Box9 (W : World) (b : Nat) (v : Vl) : Prop where
  c0 : W.cell? ⟨b, 0, none⟩ = some (.int .i64 v.kind)
  c1 : W.cell? ⟨b, 1, none⟩ = some (.bool v.truth)
  c2 : W.cell? ⟨b, 2, none⟩ = some (.string v.text)
  c3 : W.cell? ⟨b, 3, none⟩ = some (.bool v.neg)
  c4 : W.cell? ⟨b, 4, none⟩ = some (.slice v.wa v.wn v.wc)
  c5 : W.cell? ⟨b, 5, none⟩ = some (.slice v.da v.dn v.dc)
  c6 : W.cell? ⟨b, 6, none⟩ = some (.bool v.ineg)
  c7 : W.cell? ⟨b, 7, none⟩ = some (.slice v.ia v.inn v.ic)
  c8 : W.cell? ⟨b, 8, none⟩ = some (.slice v.ea v.en v.ec)
theorem Box9.keep {w w1 : World} {b : Nat} {v : Vl} (h : Box9 w b v) (hb : Below w.heap.size w w1) : Box9 w1 b v :=
  ⟨cell_keep h.c0 hb, cell_keep h.c1 hb, cell_keep h.c2 hb, cell_keep h.c3 hb, cell_keep h.c4 hb, cell_keep h.c5 hb, cell_keep h.c6 hb, cell_keep h.c7 hb, cell_keep h.c8 hb⟩
theorem Box9.alloc {w : World} {b : Nat} {v : Vl} (h : Box9 w b v) (o : Obj) : Box9 (w.alloc o) b v := h.keep ((Below.refl _ _).alloc (Nat.le_refl _) _)
theorem Box9.new (w : World) (v : Vl) (T : TypeId) {b : Nat} (hb : b = w.heap.size) : Box9 (w.alloc (.cells #[.int .i64 v.kind, .bool v.truth, .string v.text, .bool v.neg, .slice v.wa v.wn v.wc, .slice v.da v.dn v.dc, .bool v.ineg, .slice v.ia v.inn v.ic, .slice v.ea v.en v.ec] T)) b v :=
  ⟨alloc_new _ _ _ hb rfl, alloc_new _ _ _ hb rfl, alloc_new _ _ _ hb rfl, alloc_new _ _ _ hb rfl, alloc_new _ _ _ hb rfl, alloc_new _ _ _ hb rfl, alloc_new _ _ _ hb rfl, alloc_new _ _ _ hb rfl, alloc_new _ _ _ hb rfl⟩
theorem Box9.all {W : World} {b : Nat} {v : Vl} (h : Box9 W b v) : W.cell? ⟨b, 0, none⟩ = some (.int .i64 v.kind) ∧ W.cell? ⟨b, 1, none⟩ = some (.bool v.truth) ∧ W.cell? ⟨b, 2, none⟩ = some (.string v.text) ∧ W.cell? ⟨b, 3, none⟩ = some (.bool v.neg) ∧ W.cell? ⟨b, 4, none⟩ = some (.slice v.wa v.wn v.wc) ∧ W.cell? ⟨b, 5, none⟩ = some (.slice v.da v.dn v.dc) ∧ W.cell? ⟨b, 6, none⟩ = some (.bool v.ineg) ∧ W.cell? ⟨b, 7, none⟩ = some (.slice v.ia v.inn v.ic) ∧ W.cell? ⟨b, 8, none⟩ = some (.slice v.ea v.en v.ec) := ⟨h.c0, h.c1, h.c2, h.c3, h.c4, h.c5, h.c6, h.c7, h.c8⟩
theorem ResBlk.new (w : World) (T : TypeId) {b : Nat} (hb : b = w.heap.size) : ResBlk (w.alloc (.cells #[.bool false, .slice none 0 0, .slice none 0 0] T)) b := by subst hb; exact ResBlk.alloc w T
theorem ResBlk.alloc1 {w : World} {b : Nat} (h : ResBlk w b) (o : Obj) : ResBlk (w.alloc o) b := h.below h.lt ((Below.refl _ _).alloc (Nat.le_refl _) _)
theorem RtBlk.all {W : World} {b : Nat} {s : Bool} {a : Option Addr} {n c : Nat} {a' : Option Addr} {n' c' : Nat} (h : RtBlk W b s a n c a' n' c') : W.cell? ⟨b, 0, none⟩ = some (.bool s) ∧ W.cell? ⟨b, 1, none⟩ = some (.slice a n c) ∧ W.cell? ⟨b, 2, none⟩ = some (.slice a' n' c') := ⟨h.c0, h.c1, h.c2⟩
theorem RtBlk.new (w : World) (T : TypeId) {b : Nat} (hb : b = w.heap.size) (sg : Bool) (a : Option Addr) (n c : Nat) (a' : Option Addr) (n' c' : Nat) :
    RtBlk (w.alloc (.cells #[.bool sg, .slice a n c, .slice a' n' c'] T)) b sg a n c a' n' c' := by subst hb; exact rtBlk_new _ _ _ _ _ _ _ _ _
end Go.Bg
