/-
  Contracts and lemmas: Dg Kit KitP.
-/
import Derived.WalkKit
import Derived.WalkSpells
import Derived.WalkLawsBesides
import Derived.Lib.Hide
import Derived.Deep.QuietTactic
import Derived.BigQuiet
import Derived.Deep.OwnRows
import Derived.Deep.LoopGhost
import Derived.Test.YtgmienggfaahlaaGreatDoorProg
import Derived.KernelRfl
set_option linter.unusedSimpArgs false
set_option linter.unusedVariables false
set_option maxRecDepth 100000
set_option maxHeartbeats 8000000
namespace Dg
def dg (B N i : Nat) : Nat := N / B ^ i % B
theorem dg_lt {B : Nat} (hB : 0 < B) (N i : Nat) : dg B N i < B := Nat.mod_lt _ hB
theorem mod_succ (B N k : Nat) : N % B ^ (k + 1) = N % B ^ k + B ^ k * dg B N k := by
  unfold dg
  rw [Nat.pow_succ, Nat.mod_mul]
theorem eq_of_digits {B : Nat} : ∀ {n N M : Nat}, N < B ^ n → M < B ^ n → (∀ i, i < n → dg B N i = dg B M i) → N = M := by
  intro n
  induction n with
  | zero => intro N M h1 h2 _; simp at h1 h2; omega
  | succ n ih =>
    intro N M h1 h2 h
    have a : N % B ^ n = M % B ^ n := by
      rcases Nat.eq_zero_or_pos (B ^ n) with hz | hp
      · rw [Nat.pow_succ, hz] at h1; simp at h1
      · refine ih (Nat.mod_lt _ hp) (Nat.mod_lt _ hp) fun i hi => ?_
        have hd : B ^ i ∣ B ^ n := Nat.pow_dvd_pow B (by omega)
        have : ∀ X : Nat, dg B (X % B ^ n) i = dg B X i := by
          intro X
          unfold dg
          obtain ⟨k, rfl⟩ : ∃ k, n = i + (k + 1) := ⟨n - i - 1, by omega⟩
          rw [Nat.pow_add, Nat.mod_mul_right_div_self, Nat.pow_succ, Nat.mul_comm (B ^ k) B, Nat.mod_mul_right_mod]
        rw [this, this]; exact h i (by omega)
    have b := mod_succ B N n
    have c := mod_succ B M n
    rw [Nat.mod_eq_of_lt h1, ] at b
    rw [Nat.mod_eq_of_lt h2] at c
    rw [b, c, a, h n (by omega)]
theorem dg_mod {B n i : Nat} (X : Nat) (hi : i < n) : dg B (X % B ^ n) i = dg B X i := by
  unfold dg
  obtain ⟨k, rfl⟩ : ∃ k, n = i + (k + 1) := ⟨n - i - 1, by omega⟩
  rw [Nat.pow_add, Nat.mod_mul_right_div_self, Nat.pow_succ, Nat.mul_comm (B ^ k) B, Nat.mod_mul_right_mod]
theorem dg_of_lt {B N i : Nat} (h : N < B ^ i) : dg B N i = 0 := by
  unfold dg; rw [Nat.div_eq_of_lt h]; exact Nat.zero_mod _
theorem dg_div {B : Nat} (N k i : Nat) : dg B (N / B ^ k) i = dg B N (k + i) := by
  unfold dg; rw [Nat.div_div_eq_div_mul, ← Nat.pow_add]
def val (B : Nat) (f : Nat → Nat) : Nat → Nat
  | 0 => 0
  | n + 1 => val B f n + B ^ n * f n
theorem val_lt {B : Nat} {f : Nat → Nat} : ∀ {n : Nat}, (∀ i, i < n → f i < B) → val B f n < B ^ n := by
  intro n
  induction n with
  | zero => intro _; simp [val]
  | succ n ih =>
    intro h
    have a := ih fun i hi => h i (by omega)
    have b := h n (by omega)
    show val B f n + B ^ n * f n < B ^ (n + 1)
    rw [Nat.pow_succ]
    have : B ^ n * (f n + 1) ≤ B ^ n * B := Nat.mul_le_mul_left _ b
    rw [Nat.mul_add] at this
    omega
theorem dg_val {B : Nat} {f : Nat → Nat} : ∀ {n : Nat}, (∀ i, i < n → f i < B) → ∀ i, i < n → dg B (val B f n) i = f i := by
  intro n
  induction n with
  | zero => intro _ i hi; omega
  | succ n ih =>
    intro h i hi
    have a := ih fun i hi => h i (by omega)
    have hv := val_lt (n := n) fun i hi => h i (by omega)
    have hb := h n (by omega)
    show dg B (val B f n + B ^ n * f n) i = f i
    by_cases e : i = n
    · subst e
      unfold dg
      rw [Nat.add_mul_div_left _ _ (by omega), Nat.div_eq_of_lt hv, Nat.zero_add, Nat.mod_eq_of_lt hb]
    · rw [← a i (by omega), ← dg_mod (n := n) (i := i) _ (by omega), Nat.add_mul_mod_self_left, dg_mod _ (by omega)]
theorem val_dg {B : Nat} (N n : Nat) : val B (dg B N) n = N % B ^ n := by
  induction n with
  | zero => simp [val, Nat.mod_one]
  | succ n ih => rw [mod_succ]; show val B (dg B N) n + _ = _; rw [ih]
theorem val_congr {B : Nat} {f g : Nat → Nat} : ∀ {n : Nat}, (∀ i, i < n → f i = g i) → val B f n = val B g n := by
  intro n
  induction n with
  | zero => intro _; rfl
  | succ n ih => intro h; simp only [val]; rw [ih fun i hi => h i (by omega), h n (by omega)]
end Dg
namespace Dg
def tlen (f : Nat → Nat) : Nat → Nat
  | 0 => 0
  | n + 1 => if f n = 0 then tlen f n else n + 1
theorem tlen_le (f : Nat → Nat) (n : Nat) : tlen f n ≤ n := by
  induction n with
  | zero => exact Nat.le_refl _
  | succ n ih => simp only [tlen]; split <;> omega
theorem tlen_lt {B N : Nat} : ∀ {n : Nat}, N < B ^ n → N < B ^ tlen (dg B N) n := by
  intro n
  induction n with
  | zero => exact fun h => h
  | succ n ih =>
    intro h
    simp only [tlen]
    split
    · rename_i h0
      refine ih ?_
      have := mod_succ B N n
      rw [Nat.mod_eq_of_lt h, h0, Nat.mul_zero, Nat.add_zero] at this
      rw [this]
      refine Nat.mod_lt _ ?_
      rcases Nat.eq_zero_or_pos (B ^ n) with hz | hp
      · rw [Nat.pow_succ, hz] at h; omega
      · exact hp
    · exact h
theorem tlen_top {B N : Nat} : ∀ {n : Nat}, N < B ^ n → (tlen (dg B N) n = 0 ∨ B ^ (tlen (dg B N) n - 1) ≤ N) := by
  intro n
  induction n with
  | zero => exact fun _ => .inl rfl
  | succ n ih =>
    intro h
    simp only [tlen]
    split
    · rename_i h0
      refine ih ?_
      have := mod_succ B N n
      rw [Nat.mod_eq_of_lt h, h0, Nat.mul_zero, Nat.add_zero] at this
      rw [this]
      refine Nat.mod_lt _ ?_
      rcases Nat.eq_zero_or_pos (B ^ n) with hz | hp
      · rw [Nat.pow_succ, hz] at h; omega
      · exact hp
    · rename_i h0
      refine .inr ?_
      simp only [Nat.add_sub_cancel]
      refine Nat.le_of_not_lt fun hl => h0 (dg_of_lt hl)
theorem len_le {B N n k : Nat} (hB : 1 < B) (top : n = 0 ∨ B ^ (n - 1) ≤ N) (h : N < B ^ k) : n ≤ k := by
  rcases top with h0 | h1
  · omega
  · have : n - 1 < k := (Nat.pow_lt_pow_iff_right hB).1 (Nat.lt_of_le_of_lt h1 h)
    omega
theorem len_eq {B N n k : Nat} (hB : 1 < B) (top : n = 0 ∨ B ^ (n - 1) ≤ N) (h : N < B ^ n) (top' : k = 0 ∨ B ^ (k - 1) ≤ N) (h' : N < B ^ k) : n = k :=
  Nat.le_antisymm (len_le hB top h') (len_le hB top' h)
theorem add_step {B : Nat} (hB : 0 < B) (X Y k : Nat) :
    ((X % B ^ k + Y % B ^ k) / B ^ k + dg B X k + dg B Y k) % B = dg B (X + Y) k ∧
    ((X % B ^ k + Y % B ^ k) / B ^ k + dg B X k + dg B Y k) / B = (X % B ^ (k + 1) + Y % B ^ (k + 1)) / B ^ (k + 1) := by
  have hp : 0 < B ^ k := Nat.pow_pos hB
  have e : (X % B ^ k + Y % B ^ k) / B ^ k + dg B X k + dg B Y k = (X % B ^ (k + 1) + Y % B ^ (k + 1)) / B ^ k := by
    rw [mod_succ, mod_succ]
    have : X % B ^ k + B ^ k * dg B X k + (Y % B ^ k + B ^ k * dg B Y k) = (X % B ^ k + Y % B ^ k) + B ^ k * (dg B X k + dg B Y k) := by
      rw [Nat.mul_add]; omega
    rw [this, Nat.add_mul_div_left _ _ hp]; omega
  rw [e]
  constructor
  · show dg B (X % B ^ (k + 1) + Y % B ^ (k + 1)) k = dg B (X + Y) k
    rw [← dg_mod (n := k + 1) (X % B ^ (k + 1) + Y % B ^ (k + 1)) (Nat.lt_succ_self k), ← dg_mod (n := k + 1) (X + Y) (Nat.lt_succ_self k), ← Nat.add_mod]
  · rw [Nat.div_div_eq_div_mul, ← Nat.pow_succ]
theorem add_carry_le {B : Nat} (hB : 0 < B) (X Y k : Nat) : (X % B ^ k + Y % B ^ k) / B ^ k ≤ 1 := by
  have hp : 0 < B ^ k := Nat.pow_pos hB
  have a := Nat.mod_lt X hp
  have b := Nat.mod_lt Y hp
  refine Nat.le_of_lt_succ ((Nat.div_lt_iff_lt_mul hp).2 ?_)
  omega
theorem map_range_succ {α : Type} (g : Nat → α) (k : Nat) : (List.range (k + 1)).map g = (List.range k).map g ++ [g k] := by
  rw [List.range_succ, List.map_append]; rfl
end Dg
namespace Dg
theorem sub_step {B : Nat} (hB : 0 < B) (X Y k : Nat) (h : Y ≤ X) :
    ((dg B X k : Int) - (if X % B ^ k < Y % B ^ k then 1 else 0) - dg B Y k < 0 →
      (dg B (X - Y) k : Int) = (dg B X k : Int) - (if X % B ^ k < Y % B ^ k then 1 else 0) - dg B Y k + B ∧ X % B ^ (k + 1) < Y % B ^ (k + 1)) ∧
    (¬ ((dg B X k : Int) - (if X % B ^ k < Y % B ^ k then 1 else 0) - dg B Y k < 0) →
      (dg B (X - Y) k : Int) = (dg B X k : Int) - (if X % B ^ k < Y % B ^ k then 1 else 0) - dg B Y k ∧ ¬ X % B ^ (k + 1) < Y % B ^ (k + 1)) := by
  obtain ⟨D, rfl⟩ : ∃ D, X = D + Y := ⟨X - Y, by omega⟩
  rw [Nat.add_sub_cancel]
  have key : ∀ j, (if (D + Y) % B ^ j < Y % B ^ j then 1 else 0) = (D % B ^ j + Y % B ^ j) / B ^ j := by
    intro j
    have hp : 0 < B ^ j := Nat.pow_pos hB
    have a := Nat.mod_lt D hp
    have b := Nat.mod_lt Y hp
    have c := add_carry_le hB D Y j
    have e : (D + Y) % B ^ j = (D % B ^ j + Y % B ^ j) % B ^ j := Nat.add_mod _ _ _
    have f := Nat.div_add_mod (D % B ^ j + Y % B ^ j) (B ^ j)
    rw [← e] at f
    clear e
    generalize (D % B ^ j + Y % B ^ j) / B ^ j = q at *
    generalize D % B ^ j = x at *
    generalize Y % B ^ j = y at *
    generalize (D + Y) % B ^ j = z at *
    rcases Nat.eq_zero_or_pos q with h0 | h1
    · rw [h0, Nat.mul_zero] at f
      rw [h0, if_neg (by omega)]
    · have h1 : q = 1 := by omega
      rw [h1, Nat.mul_one] at f
      rw [h1, if_pos (by omega)]
  have hs := add_step hB D Y k
  have k0 := key k
  have k1 := key (k + 1)
  have c0 := add_carry_le hB D Y k
  have c1 := add_carry_le hB D Y (k + 1)
  have f := Nat.div_add_mod ((D % B ^ k + Y % B ^ k) / B ^ k + dg B D k + dg B Y k) B
  rw [hs.1, hs.2] at f
  have dD := dg_lt hB D k
  have dX := dg_lt hB (D + Y) k
  have k0' : (if (D + Y) % B ^ k < Y % B ^ k then (1 : Int) else 0) = ((D % B ^ k + Y % B ^ k) / B ^ k : Nat) := by rw [← k0]; split <;> rfl
  rw [k0']
  generalize (D % B ^ k + Y % B ^ k) / B ^ k = c at *
  generalize (D % B ^ (k + 1) + Y % B ^ (k + 1)) / B ^ (k + 1) = c' at *
  generalize dg B D k = d at *
  generalize dg B Y k = y at *
  generalize dg B (D + Y) k = x at *
  have hc' : c' = 0 ∨ c' = 1 := by omega
  rcases hc' with rfl | rfl
  · have hn : ¬ (D + Y) % B ^ (k + 1) < Y % B ^ (k + 1) := by
      intro hh; rw [if_pos hh] at k1; omega
    exact ⟨fun hl => by omega, fun _ => ⟨by omega, hn⟩⟩
  · have hn : (D + Y) % B ^ (k + 1) < Y % B ^ (k + 1) := by
      refine Decidable.byContradiction fun hh => ?_
      rw [if_neg hh] at k1; omega
    exact ⟨fun _ => ⟨by omega, hn⟩, fun hl => by omega⟩
theorem cut_succ {B : Nat} (N k : Nat) : N / B ^ k = B * (N / B ^ (k + 1)) + dg B N k := by
  unfold dg
  rw [Nat.pow_succ, ← Nat.div_div_eq_div_mul]
  exact (Nat.div_add_mod _ _).symm
theorem lt_of_cut {B X Y k : Nat} (e : X / B ^ (k + 1) = Y / B ^ (k + 1)) (h : dg B X k < dg B Y k) : X < Y := by
  have a := cut_succ (B := B) X k
  have b := cut_succ (B := B) Y k
  rw [e] at a
  refine Nat.lt_of_not_le fun hle => ?_
  have := Nat.div_le_div_right (c := B ^ k) hle
  omega
theorem eq_of_cut {B X Y k : Nat} (e : X / B ^ (k + 1) = Y / B ^ (k + 1)) (h : dg B X k = dg B Y k) : X / B ^ k = Y / B ^ k := by
  rw [cut_succ, cut_succ (B := B) Y k, e, h]
theorem lt_of_len {B N M n m : Nat} (hB : 1 < B) (h : N < B ^ n) (top : m = 0 ∨ B ^ (m - 1) ≤ M) (hl : n < m) : N < M := by
  rcases top with h0 | h1
  · omega
  · exact Nat.lt_of_lt_of_le h (Nat.le_trans (Nat.pow_le_pow_right (by omega) (by omega)) h1)
end Dg
namespace Dg
theorem byDigit_step {B : Nat} (hB : 0 < B) (N d k : Nat) (hd : 0 < d) :
    (N / B ^ (k + 1) % d * B + dg B N k) / d = dg B (N / d) k ∧ (N / B ^ (k + 1) % d * B + dg B N k) % d = N / B ^ k % d := by
  have h := cut_succ (B := B) N k
  have e := Nat.div_add_mod (N / B ^ (k + 1)) d
  have s : N / B ^ k = d * (B * (N / B ^ (k + 1) / d)) + (N / B ^ (k + 1) % d * B + dg B N k) := by
    rw [h]
    conv => lhs; rw [← e]
    rw [Nat.mul_add, Nat.mul_left_comm B d, Nat.mul_comm B (N / B ^ (k + 1) % d)]
    omega
  have hb : dg B N k < B := dg_lt hB _ _
  constructor
  · have t : N / d / B ^ k = B * (N / B ^ (k + 1) / d) + (N / B ^ (k + 1) % d * B + dg B N k) / d := by
      rw [Nat.div_div_eq_div_mul, Nat.mul_comm d, ← Nat.div_div_eq_div_mul, s, Nat.mul_add_div hd]
    have hlt : (N / B ^ (k + 1) % d * B + dg B N k) / d < B := by
      refine (Nat.div_lt_iff_lt_mul hd).2 ?_
      have := Nat.mod_lt (N / B ^ (k + 1)) hd
      have h2 : (N / B ^ (k + 1) % d + 1) * B ≤ d * B := Nat.mul_le_mul_right _ this
      rw [Nat.add_mul, Nat.mul_comm d B] at h2
      omega
    show _ = N / d / B ^ k % B
    rw [t, Nat.mul_add_mod, Nat.mod_eq_of_lt hlt]
  · rw [s, Nat.mul_add_mod]
def bl (N : Nat) : Nat := if N = 0 then 0 else N.log2 + 1
theorem bl_lt (N : Nat) : N < 2 ^ bl N := by
  unfold bl; split
  · omega
  · exact Nat.lt_log2_self
theorem bl_top (N : Nat) : bl N = 0 ∨ 2 ^ (bl N - 1) ≤ N := by
  unfold bl; split
  · exact .inl rfl
  · rename_i h; exact .inr (Nat.log2_self_le h)
theorem bl_unique {N n : Nat} (h : N < 2 ^ n) (t : n = 0 ∨ 2 ^ (n - 1) ≤ N) : n = bl N :=
  len_eq (by decide) t h (bl_top N) (bl_lt N)
theorem bl_zero : bl 0 = 0 := rfl
theorem bl_pos {N : Nat} (h : 0 < N) : 0 < bl N := by unfold bl; split <;> omega
theorem bl_half {N : Nat} (h : 0 < N) : bl N = bl (N / 2) + 1 := by
  symm
  refine bl_unique ?_ ?_
  · have := bl_lt (N / 2); rw [Nat.pow_succ]; omega
  · refine .inr ?_
    rw [Nat.add_sub_cancel]
    rcases bl_top (N / 2) with h0 | h1
    · rw [h0]; simp; omega
    · rcases Nat.eq_zero_or_pos (bl (N / 2)) with hz | hp
      · rw [hz]; simp; omega
      · have : 2 ^ bl (N / 2) = 2 ^ (bl (N / 2) - 1) * 2 := by rw [← Nat.pow_succ]; congr 1; omega
        omega
end Dg
namespace Dg
theorem dg_pow (q r j : Nat) (hr : r < 16) : dg 65536 (2 ^ (16 * q + r)) j = if j = q then 2 ^ r else 0 := by
  have e : (2 : Nat) ^ (16 * q + r) = 65536 ^ q * 2 ^ r := by rw [Nat.pow_add, Nat.pow_mul]
  have hlt : (2 : Nat) ^ r < 65536 := by
    have : (2 : Nat) ^ r ≤ 2 ^ 15 := Nat.pow_le_pow_right (by decide) (by omega)
    omega
  rw [e]
  split
  · rename_i h; subst h
    rw [dg, Nat.mul_div_cancel_left _ (Nat.pow_pos (by decide)), Nat.mod_eq_of_lt hlt]
  · rename_i h
    rcases Nat.lt_or_gt_of_ne h with hl | hg
    · obtain ⟨k, rfl⟩ : ∃ k, q = j + (k + 1) := ⟨q - j - 1, by omega⟩
      rw [dg, Nat.pow_add, Nat.mul_assoc, Nat.mul_div_cancel_left _ (Nat.pow_pos (by decide)), Nat.pow_succ, Nat.mul_comm (65536 ^ k) 65536, Nat.mul_assoc, Nat.mul_mod_right]
    · refine dg_of_lt ?_
      have : 65536 ^ q * 2 ^ r < 65536 ^ q * 65536 := Nat.mul_lt_mul_of_pos_left hlt (Nat.pow_pos (by decide))
      rw [← Nat.pow_succ] at this
      exact Nat.lt_of_lt_of_le this (Nat.pow_le_pow_right (by decide) hg)
theorem shl_step (A q r k : Nat) (hr : r < 16) :
    ∀ j, dg 65536 (A % 65536 ^ (k + 1) * 2 ^ (16 * q + r)) j =
      if j = q + k + 1 then dg 65536 A k * 2 ^ r / 65536 else if j = q + k then dg 65536 (A % 65536 ^ k * 2 ^ (16 * q + r)) (q + k) + dg 65536 A k * 2 ^ r % 65536 else dg 65536 (A % 65536 ^ k * 2 ^ (16 * q + r)) j := by
  intro j
  have e : ∀ X : Nat, X * 2 ^ (16 * q + r) = 65536 ^ q * (X * 2 ^ r) := by
    intro X; rw [Nat.pow_add, Nat.pow_mul, Nat.mul_left_comm]
  have hP : (2 : Nat) ^ r < 65536 := by
    have : (2 : Nat) ^ r ≤ 2 ^ 15 := Nat.pow_le_pow_right (by decide) (by omega)
    omega
  have hPp : 0 < (2 : Nat) ^ r := Nat.pow_pos (by decide)
  have ha : dg 65536 A k < 65536 := dg_lt (by decide) _ _
  have hl : A % 65536 ^ k < 65536 ^ k := Nat.mod_lt _ (Nat.pow_pos (by decide))
  rw [e, e, mod_succ]
  generalize A % 65536 ^ k = L at *
  generalize dg 65536 A k = a at *
  -- the low part times 2^r has at most k + 1 digits
  have hLP : L * 2 ^ r < 65536 ^ k * 2 ^ r := Nat.mul_lt_mul_of_pos_right hl hPp
  have split1 : (L + 65536 ^ k * a) * 2 ^ r = L * 2 ^ r + 65536 ^ k * (a * 2 ^ r) := by rw [Nat.add_mul, Nat.mul_assoc]
  have dgq : ∀ X i, dg 65536 (65536 ^ q * X) (q + i) = dg 65536 X i := by
    intro X i; rw [← dg_div, Nat.mul_div_cancel_left _ (Nat.pow_pos (by decide))]
  have dglow : ∀ X i, i < q → dg 65536 (65536 ^ q * X) i = 0 := by
    intro X i hi
    obtain ⟨m, rfl⟩ : ∃ m, q = i + (m + 1) := ⟨q - i - 1, by omega⟩
    rw [dg, Nat.pow_add, Nat.mul_assoc, Nat.mul_div_cancel_left _ (Nat.pow_pos (by decide)), Nat.pow_succ, Nat.mul_comm (65536 ^ m) 65536, Nat.mul_assoc, Nat.mul_mod_right]
  rw [split1]
  have top : (L * 2 ^ r + 65536 ^ k * (a * 2 ^ r)) / 65536 ^ k = L * 2 ^ r / 65536 ^ k + a * 2 ^ r := Nat.add_mul_div_left _ _ (Nat.pow_pos (by decide))
  have hc : L * 2 ^ r / 65536 ^ k < 2 ^ r := (Nat.div_lt_iff_lt_mul (Nat.pow_pos (by decide))).2 (by rw [Nat.mul_comm (2 ^ r)]; exact hLP)
  have hdvd : a * 2 ^ r % 65536 + 2 ^ r ≤ 65536 := by
    obtain ⟨s, hs⟩ : ∃ s, (65536 : Nat) = 2 ^ r * s := ⟨2 ^ (16 - r), by rw [← Nat.pow_add]; rw [show r + (16 - r) = 16 from by omega]⟩
    rw [hs, Nat.mul_comm a, Nat.mul_mod_mul_left]
    have : a % s < s := Nat.mod_lt _ (by rcases Nat.eq_zero_or_pos s with h | h; · rw [h] at hs; omega
                                         · exact h)
    have := Nat.mul_le_mul_left (2 ^ r) (Nat.succ_le_of_lt this)
    rw [Nat.mul_succ] at this
    exact this
  have mid : dg 65536 (L * 2 ^ r) k = L * 2 ^ r / 65536 ^ k := by
    rw [dg, Nat.mod_eq_of_lt (by omega)]
  by_cases hj1 : j = q + k + 1
  · subst hj1
    rw [if_pos rfl, Nat.add_assoc, dgq]
    rw [dg, Nat.pow_succ, ← Nat.div_div_eq_div_mul, top]
    have : a * 2 ^ r / 65536 < 65536 := by
      refine (Nat.div_lt_iff_lt_mul (by decide)).2 ?_
      exact Nat.mul_lt_mul'' ha hP
    have h2 := Nat.div_add_mod (a * 2 ^ r) 65536
    have h3 : (L * 2 ^ r / 65536 ^ k + a * 2 ^ r) / 65536 = a * 2 ^ r / 65536 := by omega
    rw [h3, Nat.mod_eq_of_lt this]
  · rw [if_neg hj1]
    by_cases hj2 : j = q + k
    · subst hj2
      rw [if_pos rfl, dgq, dgq, mid, dg, top]
      omega
    · rw [if_neg hj2]
      by_cases hq : j < q
      · rw [dglow _ _ hq, dglow _ _ hq]
      · obtain ⟨i, rfl⟩ : ∃ i, j = q + i := ⟨j - q, by omega⟩
        rw [dgq, dgq]
        by_cases hik : i < k
        · rw [← dg_mod (n := k) _ hik, Nat.add_mul_mod_self_left, dg_mod _ hik]
        · have hi2 : k + 2 ≤ i := by omega
          have hb : 65536 ^ k * 65536 ^ 2 ≤ 65536 ^ i := by rw [← Nat.pow_add]; exact Nat.pow_le_pow_right (by decide) hi2
          have e1 : L * 2 ^ r < 65536 ^ i := by
            refine Nat.lt_of_lt_of_le hLP (Nat.le_trans (Nat.mul_le_mul_left _ ?_) hb)
            omega
          have e2 : L * 2 ^ r + 65536 ^ k * (a * 2 ^ r) < 65536 ^ i := by
            have h4 : a * 2 ^ r ≤ 65535 * 2 ^ r := Nat.mul_le_mul_right _ (by omega)
            have h5 : 65536 ^ k * (a * 2 ^ r) ≤ 65536 ^ k * (65535 * 2 ^ r) := Nat.mul_le_mul_left _ h4
            have h6 : 65536 ^ k * 2 ^ r + 65536 ^ k * (65535 * 2 ^ r) = 65536 ^ k * (65536 * 2 ^ r) := by rw [← Nat.mul_add]; congr 1; omega
            have h7 : 65536 ^ k * (65536 * 2 ^ r) ≤ 65536 ^ k * 65536 ^ 2 := Nat.mul_le_mul_left _ (by omega)
            omega
          rw [dg_of_lt e1, dg_of_lt e2]
end Dg
namespace Dg
def mulU (B P x Y i k : Nat) : Nat := P % B ^ (i + k) + B ^ i * (x * (Y % B ^ k))
def mulT (B P x Y i k : Nat) : Nat := P + B ^ i * (x * (Y % B ^ k))
theorem mulU_succ (B P x Y i k : Nat) : mulU B P x Y i (k + 1) = mulU B P x Y i k + B ^ (i + k) * (dg B P (i + k) + x * dg B Y k) := by
  unfold mulU
  rw [← Nat.add_assoc, mod_succ B P (i + k), mod_succ B Y k, Nat.mul_add x, Nat.mul_add (B ^ i), Nat.mul_add (B ^ (i + k)), Nat.pow_add]
  have : B ^ i * (x * (B ^ k * dg B Y k)) = B ^ i * B ^ k * (x * dg B Y k) := by
    rw [Nat.mul_left_comm x, Nat.mul_assoc]
  omega
theorem mulT_succ (B P x Y i k : Nat) : mulT B P x Y i (k + 1) = mulT B P x Y i k + B ^ (i + k) * (x * dg B Y k) := by
  unfold mulT
  rw [mod_succ B Y k, Nat.mul_add x, Nat.mul_add (B ^ i), Nat.pow_add]
  have : B ^ i * (x * (B ^ k * dg B Y k)) = B ^ i * B ^ k * (x * dg B Y k) := by
    rw [Nat.mul_left_comm x, Nat.mul_assoc]
  omega
theorem mulT_mod (B P x Y i k : Nat) : mulT B P x Y i k % B ^ (i + k) = mulU B P x Y i k % B ^ (i + k) := by
  unfold mulT mulU
  rw [Nat.add_mod, Nat.add_mod (P % _)]; simp
theorem mulU_lt {B P x Y i k : Nat} (hB : 0 < B) (hx : x < B) : mulU B P x Y i k / B ^ (i + k) < B := by
  refine (Nat.div_lt_iff_lt_mul (Nat.pow_pos hB)).2 ?_
  unfold mulU
  have h1 : P % B ^ (i + k) < B ^ (i + k) := Nat.mod_lt _ (Nat.pow_pos hB)
  have h2 : Y % B ^ k < B ^ k := Nat.mod_lt _ (Nat.pow_pos hB)
  have h3 : B ^ i * (x * (Y % B ^ k)) ≤ B ^ i * ((B - 1) * B ^ k) := Nat.mul_le_mul_left _ (Nat.mul_le_mul (by omega) (by omega))
  have h4 : B ^ i * ((B - 1) * B ^ k) = (B - 1) * B ^ (i + k) := by rw [Nat.pow_add, Nat.mul_left_comm]
  have h5 : (B - 1) * B ^ (i + k) + B ^ (i + k) = B * B ^ (i + k) := by
    rw [← Nat.succ_mul]; congr 1; omega
  omega
theorem mul_step {B : Nat} (hB : 0 < B) (P x Y i k : Nat) :
    (mulU B P x Y i k / B ^ (i + k) + (dg B P (i + k) + x * dg B Y k)) % B = dg B (mulT B P x Y i (k + 1)) (i + k) ∧
    (mulU B P x Y i k / B ^ (i + k) + (dg B P (i + k) + x * dg B Y k)) / B = mulU B P x Y i (k + 1) / B ^ (i + (k + 1)) ∧
    ∀ j, j < i + k → dg B (mulT B P x Y i (k + 1)) j = dg B (mulT B P x Y i k) j := by
  have hp : 0 < B ^ (i + k) := Nat.pow_pos hB
  have e : mulU B P x Y i (k + 1) / B ^ (i + k) = mulU B P x Y i k / B ^ (i + k) + (dg B P (i + k) + x * dg B Y k) := by
    rw [mulU_succ, Nat.add_mul_div_left _ _ hp]
  rw [← e]
  refine ⟨?_, ?_, fun j hj => ?_⟩
  · show dg B (mulU B P x Y i (k + 1)) (i + k) = _
    rw [← dg_mod (n := i + (k + 1)) _ (by omega), ← mulT_mod, dg_mod _ (by omega)]
  · rw [Nat.div_div_eq_div_mul, ← Nat.pow_succ]; rfl
  · rw [mulT_succ, ← dg_mod (n := i + k) _ hj, Nat.add_mul_mod_self_left, dg_mod _ hj]
theorem mul_done {B A Y i m : Nat} (hB : 0 < B) (hY : Y < B ^ m) :
    mulT B (A % B ^ i * Y) (dg B A i) Y i m = A % B ^ (i + 1) * Y ∧
    mulU B (A % B ^ i * Y) (dg B A i) Y i m / B ^ (i + m) = dg B (A % B ^ (i + 1) * Y) (i + m) ∧
    ∀ j, i + m < j → dg B (A % B ^ i * Y) j = dg B (A % B ^ (i + 1) * Y) j := by
  have hP : A % B ^ i * Y < B ^ (i + m) := by
    rw [Nat.pow_add]
    exact Nat.mul_lt_mul'' (Nat.mod_lt _ (Nat.pow_pos hB)) hY
  have hP' : A % B ^ (i + 1) * Y < B ^ (i + 1 + m) := by
    rw [Nat.pow_add B (i + 1) m]
    exact Nat.mul_lt_mul'' (Nat.mod_lt _ (Nat.pow_pos hB)) hY
  have hm : Y % B ^ m = Y := Nat.mod_eq_of_lt hY
  have eT : mulT B (A % B ^ i * Y) (dg B A i) Y i m = A % B ^ (i + 1) * Y := by
    unfold mulT; rw [hm, mod_succ, Nat.add_mul, Nat.mul_assoc]
  refine ⟨eT, ?_, fun j hj => ?_⟩
  · have : mulU B (A % B ^ i * Y) (dg B A i) Y i m = A % B ^ (i + 1) * Y := by
      rw [← eT]; unfold mulU mulT; rw [Nat.mod_eq_of_lt hP]
    rw [this]
    refine (Nat.mod_eq_of_lt ?_).symm
    refine (Nat.div_lt_iff_lt_mul (Nat.pow_pos hB)).2 ?_
    rw [← Nat.pow_succ', show (i + m).succ = i + 1 + m from by omega]; exact hP'
  · rw [dg_of_lt (Nat.lt_of_lt_of_le hP (Nat.pow_le_pow_right hB (by omega))), dg_of_lt (Nat.lt_of_lt_of_le hP' (Nat.pow_le_pow_right hB (by omega)))]
end Dg
namespace Dg
theorem bl_le {N n : Nat} (h : N < 65536 ^ n) : bl N ≤ 16 * n := by
  have hp : 65536 ^ n = 2 ^ (16 * n) := by rw [Nat.pow_mul]
  rcases bl_top N with h0 | h1
  · omega
  · have : bl N - 1 < 16 * n := (Nat.pow_lt_pow_iff_right (by decide : 1 < 2)).1 (by rw [← hp]; exact Nat.lt_of_le_of_lt h1 h)
    omega
theorem div_start {N D : Nat} (hD : 0 < D) : N < D * 2 ^ ((((bl N : Int) - bl D) + 1).toNat) := by
  have h1 := bl_lt N
  have h2 : 2 ^ (bl D - 1) ≤ D := by
    rcases bl_top D with h | h
    · have := bl_pos hD; omega
    · exact h
  have hb := bl_pos hD
  by_cases hle : bl D ≤ bl N
  · have e : (((bl N : Int) - bl D) + 1).toNat = bl N - bl D + 1 := by omega
    rw [e]
    have : 2 ^ (bl D - 1) * 2 ^ (bl N - bl D + 1) ≤ D * 2 ^ (bl N - bl D + 1) := Nat.mul_le_mul_right _ h2
    rw [← Nat.pow_add, show bl D - 1 + (bl N - bl D + 1) = bl N from by omega] at this
    omega
  · have e : (((bl N : Int) - bl D) + 1).toNat = 0 := by omega
    rw [e, Nat.pow_zero, Nat.mul_one]
    have : (2 : Nat) ^ bl N ≤ 2 ^ (bl D - 1) := Nat.pow_le_pow_right (by decide) (by omega)
    omega
end Dg
namespace Go.Bg
open Go.RowKit Dg
def Cells (w : World) (a : Option Addr) (n : Nat) (g : Nat → Value) : Prop :=
  0 < n → ∃ b off, a = some ⟨b, off, none⟩ ∧ ∀ i, i < n → w.cell? ⟨b, off + i, none⟩ = some (g i)
structure NumAt (k : IntKind) (B : Nat) (w : World) (a : Option Addr) (n c N : Nat) : Prop where
  lt : N < B ^ n
  top : n = 0 ∨ B ^ (n - 1) ≤ N
  nc : n ≤ c
  cm : c ≤ maxLen
  cells : Cells w a n (fun i => .int k (dg B N i : Nat))
abbrev NatAt := NumAt .i64 65536
theorem block_lt {w : World} {a : Addr} {v : Value} (h : w.cell? a = some v) : a.block < w.heap.size := World.block_lt_of_cell? w a h
theorem Cells.keep {w w' : World} {a : Option Addr} {n : Nat} {g : Nat → Value} (h : Cells w a n g) (hb : Below w.heap.size w w') : Cells w' a n g := by
  intro hn
  obtain ⟨b, off, rfl, hc⟩ := h hn
  refine ⟨b, off, rfl, fun i hi => ?_⟩
  have h1 := hc i hi
  rw [hb.cell (p := ⟨b, off + i, none⟩) (block_lt h1)]; exact h1
theorem NumAt.keep {k : IntKind} {B : Nat} {w w' : World} {a : Option Addr} {n c N : Nat} (h : NumAt k B w a n c N) (hb : Below w.heap.size w w') : NumAt k B w' a n c N :=
  ⟨h.lt, h.top, h.nc, h.cm, h.cells.keep hb⟩
theorem NumAt.form {k : IntKind} {B : Nat} {w : World} {a : Option Addr} {n c N : Nat} (h : NumAt k B w a n c N) (hn : 0 < n) : ∃ b off, a = some ⟨b, off, none⟩ ∧ b < w.heap.size := by
  obtain ⟨b, off, rfl, hc⟩ := h.cells hn
  exact ⟨b, off, rfl, block_lt (hc 0 hn)⟩
theorem NumAt.cell {k : IntKind} {B : Nat} {w : World} {b off : Nat} {n c N i : Nat} (h : NumAt k B w (some ⟨b, off, none⟩) n c N) (hi : i < n) : w.cell? ⟨b, off + i, none⟩ = some (.int k (dg B N i : Nat)) := by
  obtain ⟨b', off', e, hc⟩ := h.cells (by omega)
  cases e
  exact hc i hi
theorem NumAt.len16 {k : IntKind} {w : World} {a : Option Addr} {n c N m : Nat} (h : NumAt k 65536 w a n c N) (hN : N < 65536 ^ m) : n ≤ m := len_le (by decide) h.top hN
theorem below_of_drewN {w w1 : World} {B : Nat} (h : ∃ m, w1 = w.drewN m) : Below B w w1 := by
  obtain ⟨m, rfl⟩ := h
  exact below_drewN (Below.refl _ _) m
theorem Below.then {w w1 w2 : World} {B : Nat} (h : Below B w w1) (hB : B ≤ w.heap.size) (k : Below w1.heap.size w1 w2) : Below B w w2 :=
  h.trans (k.mono (Nat.le_trans hB h.size))
def Gives (k : IntKind) (B : Nat) (N : Nat) (w : World) (e : Ending) (w' : World) : Prop :=
  ∃ a n c, e = .returned (.slice a n c) ∧ NumAt k B w' a n c N ∧ Below w.heap.size w w'
theorem ret_slice {a : Option Addr} {n m c : Nat} (h : n = m) : Ending.returned (.slice a n c) = .returned (.slice a m c) := by rw [h]
theorem ret_int {k : IntKind} {a b : Int} (h : a = b) : Ending.returned (.int k a) = .returned (.int k b) := by rw [h]
theorem ret_bool {a b : Bool} (h : a = b) : Ending.returned (.bool a) = .returned (.bool b) := by rw [h]
theorem drewN_ex {w w' : World} {n : Nat} (h : w' = w.drewN n) : ∃ m, w' = w.drewN m := ⟨n, h⟩
def sliceLen : Value → Nat | .slice _ m _ => m | _ => 0
section
variable {P : Program}
theorem wpList_app1 {w wr : World} {ops : Array Oper} {rest : List Oper} {o : Oper} {a : Act} {Q : Exit → Act → World → Prop} (hgd : o.guard = none) (s x : Operand) (t : TypeId)
    (ho : o.op = .call { callee := .builtin .append, args := #[s, x], argTypes := #[t, t] })
    (base : Nat) (e : TypeId) (i : TypeInfo) (z : Value) (bytes : Nat) (ht : P.underlying t = some (.slice e)) (hi : P.info? e = some i) (hz : i.zero = some z)
    (hsize : i.size = 1) (hby : i.bytes = bytes) (hzs : z.cells.size = 1) (hb8 : bytes ≤ 24)
    (v : Value) (n : Nat) (xs : List Value) (u : Value) (hs : a.eval s = v) (hx : a.eval x = .slice (some ⟨wr.heap.size, 0, none⟩) 1 1)
    (hw : w = wr.alloc (.cells #[u] e)) (hown : wr.ownsRow base e 1 v n xs)
    (h1 : u.oneCell' = true) (hn : n ≤ 1000000000) (hbase : base ≤ wr.heap.size)
    (h : ∀ v' w', w'.ownsRow base e 1 v' (n + 1) (xs ++ [u]) → Below base wr w' → v' ≠ .slice none 0 0 → wpList P ops Q rest (a.put o.dst v') w') : wpList P ops Q (o :: rest) a w := by
  subst hw
  refine wpList_append_own _ hgd s x t ho base e i z 1 bytes ht hi hz hsize hby hzs (by decide) v n xs hs (hown.alloc _) ⟨wr.heap.size, 0, none⟩ 1 1 [u] hx rfl ?_ ?_ ?_ ?_ ?_ ?_
  · intro j y hj
    match j, hj with
    | 0, hj => simp at hj; subst hj; simp [Addr.add]
  · intro y hy; simp at hy; subst hy; exact h1
  · unfold maxLen; omega
  · have : (n + 1) * bytes ≤ (n + 1) * 24 := Nat.mul_le_mul_left _ hb8
    omega
  · simp; omega
  · intro v' w' ho' hg' hnil
    refine h v' w' ho' ?_ ?_
    · refine ((Below.refl base wr).alloc hbase _).grown hg' (by simp; omega) ?_
      intro k hk
      exact (hown.lt k hk).1
    · intro e; have := hnil.1 e; omega
end
section
variable {P : Program}
theorem wpList_mkrow {w : World} {ops : Array Oper} {rest : List Oper} {o : Oper} {a : Act} {Q : Exit → Act → World → Prop}
    (hg : o.guard = none) (l c : Operand) (t : TypeId) (hop : o.op = Op.makeSlice t l c)
    (e : TypeId) (z : Value) (ht : P.underlying t = some (.slice e)) (hinfo : (P.info? e).map (fun i => (i.zero, i.size, i.bytes)) = some (some z, 1, 8)) (hz1 : z.cells = #[z])
    (n : Nat) (kl kc : IntKind) (L C : Int) (hl : a.eval l = .int kl L) (hc : a.eval c = .int kc C) (hL : L = n) (hC : C = n) (hn : n ≤ 1000000000)
    (hK : ∀ w', w'.rowIs w.heap.size e n (fun _ => z) → Below w.heap.size w w' → w'.heap.size = w.heap.size + 1 → wpList P ops Q rest (a.put o.dst (.slice (some ⟨w.heap.size, 0, none⟩) n n)) w') :
    wpList P ops Q (o :: rest) a w := by
  subst hL
  subst hC
  obtain ⟨i, hi, hzz⟩ := Option.map_eq_some_iff.1 hinfo
  simp only [Prod.mk.injEq] at hzz
  obtain ⟨hz, hs, hb⟩ := hzz
  refine wpList_make_row w hg l c t hop e i z ht hi hz hs hz1 kl kc n ?_ hc ?_ (by omega) ?_
  all_goals first | exact hl | (rw [hb]; omega) | skip
  exact hK _ (World.rowIs_made w z n e) ((Below.refl _ _).alloc (Nat.le_refl _) _) (by simp)
end
theorem own_form {w : World} {B : Nat} {e : TypeId} {v : Value} {n : Nat} {xs : List Value} (h : w.ownsRow B e 1 v n xs) (hne : v ≠ .slice none 0 0) :
    ∃ g cap, v = .slice (some ⟨g, 0, none⟩) n cap ∧ B ≤ g ∧ g < w.heap.size ∧ n ≤ cap ∧ cap ≤ maxLen ∧ ∀ i, i < n → w.cell? ⟨g, i, none⟩ = xs[i]? := by
  rcases h.2 with ⟨rfl, _⟩ | ⟨g, cap, cur, rfl, hb, hg, hnc, hcm, hcs, htake⟩
  · exact absurd rfl hne
  · refine ⟨g, cap, rfl, hb, (Array.getElem?_eq_some_iff.1 hg).1, hnc, hcm, fun i hi => ?_⟩
    rw [cell_of_row w g i cur e (0, 0) hg, ← htake]
    simp [hi]
end Go.Bg
namespace Go.Bg
def W64 : Nat := 18446744073709551616
theorem W64_eq : W64 = 2 ^ 64 := by unfold W64; decide
theorem W64_pos : 0 < W64 := by unfold W64; decide
theorem W64_gt : 1 < W64 := by unfold W64; decide
theorem W64_16 : W64 = 65536 ^ 4 := by unfold W64; decide
theorem W64_lt {n : Nat} (h : n < W64) : n < 18446744073709551616 := h
end Go.Bg
namespace Go.Proofs.YtgmienggfaahlaaGreatDoor
theorem infoInt : (Tryz.prog.info? 3).map (fun i => (i.zero, i.size, i.bytes)) = some (some (.int .i64 0), 1, 8) := by kernel_rfl
theorem infoUint : (Tryz.prog.info? 151).map (fun i => (i.zero, i.size, i.bytes)) = some (some (.int .u64 0), 1, 8) := by kernel_rfl
theorem infoWord : (Tryz.prog.info? 155).map (fun i => (i.zero, i.size, i.bytes)) = some (some (.int .u64 0), 1, 8) := by kernel_rfl
end Go.Proofs.YtgmienggfaahlaaGreatDoor
