/-
  The reference's natural numbers: Bit, Shl compute what they say.
-/
import Derived.Test.YtdepmbpickonoaaGreatDoorSpec3
set_option linter.unusedSimpArgs false
set_option linter.unusedVariables false
namespace Go.Proofs.YtdepmbpickonoaaGreatDoor
open Go.RowKit Go.Bg Dg

set_option maxRecDepth 100000 in
set_option maxHeartbeats 1000000 in
theorem bit_any (i : Nat) (w : World) (hi : i ≤ 10000000) :
    Calls Tryz.prog 147 #[.int .i64 i] w (Gives .i64 65536 (2 ^ i) w) := by
  have hp1 : (1 : Int) ≤ 2 ^ (i % 16) := by have : 0 < (2 : Nat) ^ (i % 16) := Nat.pow_pos (by decide); exact_mod_cast this
  have hp2 : (2 : Int) ^ (i % 16) ≤ 32768 := by
    have : (2 : Nat) ^ (i % 16) ≤ 2 ^ 15 := Nat.pow_le_pow_right (by decide) (by omega)
    exact_mod_cast this
  go_enter Tryz.func147, Tryz.ntmps147
  go_wp2_with (at_make; refine wpList_mkrow rfl _ _ 29 rfl 3 _ Tryz.underlying29 infoInt rfl (i / 16 + 1) .i64 .i64 _ _ rfl rfl (by omega) (by omega) (by omega) ?_; intro w1 hrow hbel hsz; have hc1 := hrow.cell (i := i / 16) (by omega); have hf1 := hrow.frozen (i / 16))
  go_ret
  refine ⟨_, _, _, rfl, ⟨?_, .inr ?_, Nat.le_refl _, by unfold maxLen; omega, fun _ => ⟨_, 0, rfl, fun j hj => ?_⟩⟩, hbel.setCell (Nat.le_refl _) _⟩
  · rw [show (65536 : Nat) = 2 ^ 16 from rfl, ← Nat.pow_mul]
    exact Nat.pow_lt_pow_right (by decide) (by omega)
  · rw [show (65536 : Nat) = 2 ^ 16 from rfl, ← Nat.pow_mul]
    exact Nat.pow_le_pow_right (by decide) (by omega)
  · have hd := dg_pow (i / 16) (i % 16) j (by omega)
    rw [show 16 * (i / 16) + i % 16 = i from by omega] at hd
    rw [Nat.zero_add, (hrow.set (i / 16) _).cell hj]
    show _ = some (Value.int .i64 (dg 65536 (2 ^ i) j : Nat))
    rw [hd]
    by_cases h : j = i / 16
    · rw [if_pos h, if_pos h]; simp
    · rw [if_neg h, if_neg h]; rfl

set_option maxRecDepth 100000 in
set_option maxHeartbeats 1000000 in
theorem shl_any (a1 : Option Addr) (n1 c1 N n : Nat) (w : World) (h1 : NatAt w a1 n1 c1 N) (hb1 : n1 ≤ 1000000) (hn : n ≤ 10000000) :
    Calls Tryz.prog 146 #[.slice a1 n1 c1, .int .i64 n] w (Gives .i64 65536 (N * 2 ^ n) w) := by
  by_cases h0 : n1 = 0
  · subst h0
    have hN : N = 0 := by have := h1.lt; simpa using this
    subst hN
    go_enter Tryz.func146, Tryz.ntmps146
    go_wp2
    go_ret
    exact ⟨_, _, _, rfl, by rw [Nat.zero_mul]; exact h1, Below.refl _ _⟩
  · have hp1 : (1 : Int) ≤ 2 ^ (n % 16) := by have : 0 < (2 : Nat) ^ (n % 16) := Nat.pow_pos (by decide); exact_mod_cast this
    have hp2 : (2 : Int) ^ (n % 16) ≤ 32768 := by
      have : (2 : Nat) ^ (n % 16) ≤ 2 ^ 15 := Nat.pow_le_pow_right (by decide) (by omega)
      exact_mod_cast this
    have hz : ((n1 : Int) == 0) = false := by simp; omega
    have hn16 : 16 * (n / 16) + n % 16 = n := by omega
    have HN := Lib.hid hn16
    clear hn16
    go_enter Tryz.func146, Tryz.ntmps146
    go_wp2_with (at_make; refine wpList_mkrow rfl _ _ 29 rfl 3 _ Tryz.underlying29 infoInt rfl (n / 16 + n1 + 1) .i64 .i64 _ _ rfl rfl (by omega) (by omega) (by omega) ?_; intro w1 hrow hbel hsz)
    go_loopw [6, 7, 21] (fun _ _ i wr => ∃ k : Nat, k ≤ n1 ∧ i = .int .i64 k ∧ wr.rowIs w.heap.size 3 (n / 16 + n1 + 1) (dig (N % 65536 ^ k * 2 ^ n)) ∧ Below w.heap.size w wr)
      (fun _ _ i _ => n1 - (intOf i).toNat)
    case atStart => exact ⟨0, Nat.zero_le _, rfl, hrow.congr (fun i hi => by rw [Nat.pow_zero, Nat.mod_one, Nat.zero_mul]; simp [dig, dg]), hbel⟩
    case round =>
      clear hrow hbel hsz
      obtain ⟨k, hk, rfl, hrow, hbel⟩ := hrel
      have h1' := h1.keep hbel
      have hl1 := h1.lt
      clear h1
      by_cases k1 : k < n1
      · obtain ⟨b1, o1, rfl, _⟩ := h1'.form (by omega)
        have e1 := h1'.cell k1
        have d1 : dg 65536 N k < 65536 := dg_lt (by decide) _ _
        have hst := shl_step N (n / 16) (n % 16) k (by omega)
        rw [HN.out] at hst
        have c1' := hrow.cell (i := n / 16 + k) (by omega)
        have c2' := hrow.cell (i := n / 16 + k + 1) (by omega)
        have f1 := hrow.frozen (n / 16 + k)
        have f2 := hrow.frozen (n / 16 + k + 1)
        have dq : dg 65536 (N % 65536 ^ k * 2 ^ n) (n / 16 + k) < 65536 := dg_lt (by decide) _ _
        unfold dig at c1' c2'
        have fin : ∀ (u v : Int), v = (dg 65536 N k : Int) * 2 ^ (n % 16) → u = (dg 65536 (N % 65536 ^ k * 2 ^ n) (n / 16 + k) : Nat) + v % 65536 →
            ((wr.setCell ⟨w.heap.size, n / 16 + k, none⟩ (.int .i64 u)).setCell ⟨w.heap.size, n / 16 + k + 1, none⟩ (.int .i64 (v / 65536))).rowIs w.heap.size 3 (n / 16 + n1 + 1) (dig (N % 65536 ^ (k + 1) * 2 ^ n)) := by
          intro u v hv hu
          have hv' : v = ((dg 65536 N k * 2 ^ (n % 16) : Nat) : Int) := by rw [hv]; simp
          refine ((hrow.set (n / 16 + k) _).set (n / 16 + k + 1) _).congr fun j hj => ?_
          show _ = Value.int .i64 (dg 65536 (N % 65536 ^ (k + 1) * 2 ^ n) j : Nat)
          rw [hst j]
          by_cases hj1 : j = n / 16 + k + 1
          · subst hj1
            rw [if_pos rfl, if_pos rfl, hv']; simp
          · rw [if_neg hj1, if_neg hj1]
            by_cases hj2 : j = n / 16 + k
            · subst hj2
              rw [if_pos rfl, if_pos rfl, hu, hv']; simp
            · rw [if_neg hj2, if_neg hj2]; rfl
        have hm0 : (0 : Int) ≤ (dg 65536 N k : Int) * 2 ^ (n % 16) := Int.mul_nonneg (by omega) (by omega)
        have hm1 : (dg 65536 N k : Int) * 2 ^ (n % 16) ≤ 65535 * 32768 := Int.mul_le_mul (by omega) hp2 (by omega) (by omega)
        have HF := Lib.hid fin
        clear fin hst hrow hl1 h1'
        generalize dg 65536 (N % 65536 ^ k * 2 ^ n) (n / 16 + k) = y at *
        generalize dg 65536 (N % 65536 ^ k * 2 ^ n) (n / 16 + k + 1) = y2 at *
        generalize dg 65536 N k = x at *
        go_wp2
        have F := HF.out _ _ rfl rfl
        go_roundw
        case rel => exact ⟨k + 1, by omega, by go_num, F, (hbel.setCell (Nat.le_refl _) _).setCell (Nat.le_refl _) _⟩
        case measure => simp [intOf]; omega
      · obtain rfl : k = n1 := by omega
        have hm : N % 65536 ^ k = N := Nat.mod_eq_of_lt hl1
        rw [hm] at hrow
        have hlt : N * 2 ^ n < 65536 ^ (n / 16 + k + 1) := by
          have e : (2 : Nat) ^ n = 65536 ^ (n / 16) * 2 ^ (n % 16) := by
            conv => lhs; rw [← HN.out]
            rw [Nat.pow_add, Nat.pow_mul]
          have hP : (2 : Nat) ^ (n % 16) ≤ 65536 := by
            have : (2 : Nat) ^ (n % 16) ≤ 2 ^ 16 := Nat.pow_le_pow_right (by decide) (by omega)
            exact this
          rw [e, show n / 16 + k + 1 = n / 16 + (k + 1) from by omega, Nat.pow_add, Nat.mul_left_comm]
          refine Nat.mul_lt_mul_of_pos_left ?_ (Nat.pow_pos (by decide))
          rw [Nat.pow_succ]
          exact Nat.lt_of_lt_of_le (Nat.mul_lt_mul_of_pos_right hl1 (Nat.pow_pos (by decide))) (Nat.mul_le_mul_left _ hP)
        have HL := Lib.hid hlt
        have HC := Lib.hid (rowIs_cells hrow)
        clear hrow hl1 h1' hm hlt
        go_wp2_with (go_at_call 92; refine (trim_any _ _ _ (dg 65536 (N * 2 ^ n)) _ (by omega) (Nat.le_refl _) (fun _ => ⟨_, 0, rfl, fun i hi => by rw [Nat.zero_add]; exact HC.out i hi⟩)).mono ?_; rintro e w2 ⟨rfl, rfl⟩)
        go_ret
        exact ⟨_, _, _, rfl, natAt_of_row HL.out (Nat.le_refl _) (by unfold maxLen; omega) HC.out, hbel⟩
end Go.Proofs.YtdepmbpickonoaaGreatDoor
