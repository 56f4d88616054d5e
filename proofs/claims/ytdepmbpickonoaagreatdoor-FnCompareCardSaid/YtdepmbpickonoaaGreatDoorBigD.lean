/-
  low64, Int.IsInt64, Int.Int64, makeInt, Make of an Int.
-/
import Derived.Test.YtdepmbpickonoaaGreatDoorBigC
set_option linter.unusedSimpArgs false
set_option linter.unusedVariables false
namespace Go.Proofs.YtdepmbpickonoaaGreatDoor
open Go.RowKit Go.Bg Dg

set_option maxRecDepth 100000 in
set_option maxHeartbeats 1000000 in
theorem low64_any (a : Option Addr) (n c N : Nat) (w : World) (h : NumAt .u64 W64 w a n c N) :
    Calls Tryz.prog 171 #[.slice a n c] w fun e w' => e = .returned (.int .u64 (N % 18446744073709551616 : Nat)) ∧ w = w' := by
  have hcm := h.cm
  have hnc := h.nc
  by_cases h0 : n = 0
  · subst h0
    have hN : N = 0 := by have := h.lt; simpa using this
    clear h
    subst hN
    go_enter Tryz.func171, Tryz.ntmps171
    go_wp2
    go_ret
    exact ⟨rfl, rfl⟩
  · obtain ⟨b, off, rfl, _⟩ := h.form (by omega)
    have hc := h.cell (i := 0) (by omega)
    have hd : dg W64 N 0 = N % 18446744073709551616 := by simp [dg, W64]
    rw [hd, Nat.add_zero] at hc
    clear h hd
    have hlt : N % 18446744073709551616 < 18446744073709551616 := Nat.mod_lt _ (by decide)
    generalize N % 18446744073709551616 = x at *
    have hz : ((n : Int) == 0) = false := by simpa using h0
    go_enter Tryz.func171, Tryz.ntmps171
    go_wp2
    go_ret
    exact ⟨rfl, rfl⟩

/-- the number is an int64 -/
def fit64 (z : Int) : Bool := decide (-9223372036854775808 ≤ z ∧ z < 9223372036854775808)

theorem fits_plain (s : Bool) (N : Nat) (h : N < 18446744073709551616) : (decide (0 ≤ wrap64 (N : Int)) || (s && wrap64 (N : Int) == wrap64 (-wrap64 (N : Int)))) = fit64 (sg s N) := by
  by_cases h1 : N < 9223372036854775808
  · have e : wrap64 (N : Int) = N := by unfold wrap64; omega
    rw [e]
    unfold fit64 sg
    cases s
    · simp; omega
    · simp; omega
  · have e : wrap64 (N : Int) = N - 18446744073709551616 := by unfold wrap64; omega
    have e0 : decide (0 ≤ wrap64 (N : Int)) = false := by rw [e]; simp; omega
    rw [e0, e]
    by_cases h2 : N = 9223372036854775808
    · subst h2
      have e3 : wrap64 (-(((9223372036854775808 : Nat) : Int) - 18446744073709551616)) = -9223372036854775808 := by unfold wrap64; omega
      rw [e3]
      unfold fit64 sg
      cases s <;> simp
    · have e3 : wrap64 (-((N : Int) - 18446744073709551616)) = 18446744073709551616 - N := by unfold wrap64; omega
      rw [e3]
      unfold fit64 sg
      cases s
      · simp; omega
      · have : ((N : Int) - 18446744073709551616 == 18446744073709551616 - N) = false := by simp; omega
        rw [this]; simp; omega

theorem one_word {k : IntKind} {w : World} {a : Option Addr} {n c N : Nat} (h : NumAt k W64 w a n c N) (hn : n ≤ 1) : N < 18446744073709551616 := by
  have h1 := h.lt
  have h3 : W64 ^ n ≤ W64 ^ 1 := Nat.pow_le_pow_right W64_pos hn
  rw [Nat.pow_one] at h3
  exact Nat.lt_of_lt_of_le h1 h3
theorem more_words {k : IntKind} {w : World} {a : Option Addr} {n c N : Nat} (h : NumAt k W64 w a n c N) (hn : ¬ n ≤ 1) : 18446744073709551616 ≤ N := by
  rcases h.top with h3 | h3
  · omega
  · have h4 : W64 ^ 1 ≤ W64 ^ (n - 1) := Nat.pow_le_pow_right W64_pos (by omega)
    rw [Nat.pow_one] at h4
    exact Nat.le_trans h4 h3
theorem fit64_great (s : Bool) (N : Nat) (h : 18446744073709551616 ≤ N) : fit64 (sg s N) = false := by
  unfold fit64 sg
  cases s <;> simp <;> omega

theorem wrap64_bd (x : Int) : -9223372036854775808 ≤ wrap64 x ∧ wrap64 x ≤ 9223372036854775807 := by unfold wrap64; omega

set_option maxRecDepth 100000 in
set_option maxHeartbeats 1000000 in
theorem isInt64_any (b o : Nat) (s : Bool) (N : Nat) (w : World) (h : BigAt 143 w b o s N) :
    Calls Tryz.prog 112 #[.pointer (some ⟨b, o, none⟩)] w fun e w' => e = .returned (.bool (fit64 (sg s N))) ∧ w = w' := by
  obtain ⟨a, n, c, h0, h1, hN⟩ := h.val
  have hcm := hN.num.cm
  have hnc := hN.num.nc
  have HN := Lib.hid hN
  clear h
  by_cases h2 : n ≤ 1
  · have hlt := one_word hN.num h2
    have HM := Lib.hid (show N % 18446744073709551616 = N from Nat.mod_eq_of_lt hlt)
    clear hN
    have HP := Lib.hid (fits_plain s N hlt)
    have hbd := wrap64_bd (N : Int)
    clear hlt
    by_cases hz : 0 ≤ wrap64 (N : Int)
    · go_enter Tryz.func112, Tryz.ntmps112
      go_wp2_with fail
      refine (low64_any a n c _ _ HN.out.num).mono ?_
      rintro e w1 ⟨rfl, rfl⟩
      rw [HM.out]
      go_upto_region 3 with fail
      generalize wrap64 (N : Int) = z at *
      go_wp2
      go_ret
      exact ⟨ret_bool (by rw [← HP.out]; simp [hz]), rfl⟩
    · cases s
      · go_enter Tryz.func112, Tryz.ntmps112
        go_wp2_with fail
        refine (low64_any a n c _ _ HN.out.num).mono ?_
        rintro e w1 ⟨rfl, rfl⟩
        rw [HM.out]
        go_upto_region 3 with fail
        generalize wrap64 (N : Int) = z at *
        have hd : decide (0 ≤ z) = false := by simp; omega
        clear hz hbd
        go_wp2
        go_ret
        exact ⟨ret_bool (by rw [← HP.out]; simp [hd]), rfl⟩
      · go_enter Tryz.func112, Tryz.ntmps112
        go_wp2_with fail
        refine (low64_any a n c _ _ HN.out.num).mono ?_
        rintro e w1 ⟨rfl, rfl⟩
        rw [HM.out]
        go_upto_region 3 with fail
        generalize wrap64 (N : Int) = z at *
        have hd : decide (0 ≤ z) = false := by simp; omega
        clear hz hbd
        go_wp2
        go_ret
        exact ⟨ret_bool (by rw [← HP.out]; simp [hd]), rfl⟩
  · have hge := more_words hN.num h2
    have e1 := fit64_great s N hge
    clear hN hge
    go_enter Tryz.func112, Tryz.ntmps112
    go_wp2
    go_ret
    exact ⟨ret_bool e1.symm, rfl⟩
end Go.Proofs.YtdepmbpickonoaaGreatDoor
