/-
  The reference's natural numbers: byDigit, Len, Bit compute what they say.
-/
import Derived.Test.YtdepmbpickonoaaGreatDoorSpec2
set_option linter.unusedSimpArgs false
set_option linter.unusedVariables false
namespace Go.Proofs.YtdepmbpickonoaaGreatDoor
open Go.RowKit Go.Bg Dg

/-- quotient and a small remainder -/
def GivesQ (Q r : Nat) (w : World) (e : Ending) (w' : World) : Prop :=
  ∃ a n c, e = .returned (.tuple #[.slice a n c, .int .i64 r]) ∧ NatAt w' a n c Q ∧ Below w.heap.size w w'

theorem rowIs_cells {w : World} {b : Nat} {t : TypeId} {n : Nat} {f : Nat → Value} (h : w.rowIs b t n f) : ∀ i, i < n → w.cell? ⟨b, i, none⟩ = some (f i) := fun _ hi => h.cell hi

set_option maxRecDepth 100000 in
set_option maxHeartbeats 1000000 in
theorem byDigit_any (a1 : Option Addr) (n1 c1 N d : Nat) (w : World) (h1 : NatAt w a1 n1 c1 N) (hb1 : n1 ≤ 1000000) (hd1 : 1 ≤ d) (hd2 : d ≤ 65535) :
    Calls Tryz.prog 144 #[.slice a1 n1 c1, .int .i64 d] w (GivesQ (N / d) (N % d) w) := by
  have hmk := run_make_row' (P := Tryz.prog) 29 3 (.int .i64 0) 8 Tryz.underlying29 infoInt rfl .i64 .i64 n1 (by omega) (by omega)
  go_enter Tryz.func144, Tryz.ntmps144
  go_wp2
  go_loopw [7, 8] (fun rest i wr => ∃ m : Nat, m ≤ n1 ∧ i = .int .i64 ((m : Int) - 1) ∧ rest = .int .i64 (N / 65536 ^ m % d : Nat) ∧
      wr.rowIs w.heap.size 3 n1 (fun j => if j < m then .int .i64 0 else dig (N / d) j) ∧ Below w.heap.size w wr)
    (fun _ i _ => (intOf i + 1).toNat)
  case atStart =>
    exact ⟨n1, Nat.le_refl _, rfl, by rw [Nat.div_eq_of_lt h1.lt]; simp, (World.rowIs_made w (.int .i64 0) n1 3).congr (fun i hi => by rw [if_pos hi]), (Below.refl _ _).alloc (Nat.le_refl _) _⟩
  case round =>
    obtain ⟨m, hm, rfl, rfl, hrow, hbel⟩ := hrel
    have h1' := h1.keep hbel
    have hl1 := h1.lt
    clear h1 hmk
    by_cases h0 : 0 < m
    · obtain ⟨k, rfl⟩ : ∃ k, m = k + 1 := ⟨m - 1, by omega⟩
      obtain ⟨b1, o1, rfl, _⟩ := h1'.form (by omega)
      have e1 := h1'.cell (i := k) (by omega)
      have d1 : dg 65536 N k < 65536 := dg_lt (by decide) _ _
      have hst := byDigit_step (B := 65536) (by decide) N d k (by omega)
      have hr : N / 65536 ^ (k + 1) % d < d := Nat.mod_lt _ (by omega)
      have hk : ((k + 1 : Nat) : Int) - 1 = k := by omega
      rw [hk]
      have hfz := hrow.frozen k
      have hlt := hrow.lt
      have hold := hrow.cell (i := k) (by omega)
      simp only [if_pos (Nat.lt_succ_self k)] at hold
      have HR := Lib.hid hrow
      have fin : ∀ (v : Int), v = ((N / 65536 ^ (k + 1) % d : Nat) : Int) * 65536 + (dg 65536 N k : Nat) →
          (wr.setCell ⟨w.heap.size, k, none⟩ (.int .i64 (v / d))).rowIs w.heap.size 3 n1 (fun j => if j < k then .int .i64 0 else dig (N / d) j) ∧ Value.int .i64 (v % d) = .int .i64 (N / 65536 ^ k % d : Nat) := by
        intro v hv
        have hv' : v = ((N / 65536 ^ (k + 1) % d * 65536 + dg 65536 N k : Nat) : Int) := by rw [hv]; simp
        refine ⟨(hrow.set k _).congr fun j hj => ?_, by rw [hv', ← hst.2]; simp⟩
        by_cases hjk : j = k
        · subst hjk
          rw [if_pos rfl, if_neg (by omega), dig, ← hst.1, hv']; simp
        · rw [if_neg hjk]
          by_cases hj2 : j < k
          · rw [if_pos hj2, if_pos (by omega)]
          · rw [if_neg hj2, if_neg (by omega)]
      have HF := Lib.hid fin
      clear fin hst hrow hl1 hk h1'
      generalize N / 65536 ^ (k + 1) % d = r at *
      generalize dg 65536 N k = x at *
      go_wp2
      have F := HF.out _ rfl
      go_roundw
      case rel => exact ⟨k, by omega, rfl, F.2, F.1, hbel.setCell (Nat.le_refl _) _⟩
      case measure => simp [intOf]
    · obtain rfl : m = 0 := by omega
      have hq : N / d < 65536 ^ n1 := Nat.lt_of_le_of_lt (Nat.div_le_self _ _) hl1
      have HL := Lib.hid hq
      have hrow' : wr.rowIs w.heap.size 3 n1 (dig (N / d)) := hrow.congr fun i hi => by simp
      have HC := Lib.hid (rowIs_cells hrow')
      have hr : N / 65536 ^ 0 % d = N % d := by simp
      rw [hr]
      clear hrow hrow' hl1 hq h1' hr
      go_wp2_with (go_at_call 92; refine (trim_any _ _ _ (dg 65536 (N / d)) _ (by omega) (Nat.le_refl _) (fun _ => ⟨_, 0, rfl, fun i hi => by rw [Nat.zero_add]; exact HC.out i hi⟩)).mono ?_; rintro e w2 ⟨rfl, rfl⟩)
      go_ret2
      exact ⟨_, _, _, rfl, natAt_of_row HL.out (Nat.le_refl _) (by unfold maxLen; omega) HC.out, hbel⟩

set_option maxHeartbeats 1000000 in
theorem len_any (a1 : Option Addr) (n1 c1 N : Nat) (w : World) (h1 : NatAt w a1 n1 c1 N) (hb1 : n1 ≤ 1000000) :
    Calls Tryz.prog 145 #[.slice a1 n1 c1] w fun e w' => e = .returned (.int .i64 (bl N : Nat)) ∧ w = w' := by
  by_cases h0 : n1 = 0
  · subst h0
    have hN : N = 0 := by have := h1.lt; simpa using this
    subst hN
    go_enter Tryz.func145, Tryz.ntmps145
    go_wp2
    go_ret
    exact ⟨rfl, rfl⟩
  · obtain ⟨k, rfl⟩ : ∃ k, n1 = k + 1 := ⟨n1 - 1, by omega⟩
    obtain ⟨b1, o1, rfl, _⟩ := h1.form (by omega)
    have e1 := h1.cell (i := k) (by omega)
    have htop : 65536 ^ k ≤ N := by
      rcases h1.top with h | h
      · omega
      · simpa using h
    have hN : N = 65536 ^ k * (dg 65536 N k) + N % 65536 ^ k := by
      have := mod_succ 65536 N k
      rw [Nat.mod_eq_of_lt h1.lt] at this; omega
    have hm : N % 65536 ^ k < 65536 ^ k := Nat.mod_lt _ (Nat.pow_pos (by decide))
    have hp : 65536 ^ k = 2 ^ (16 * k) := by rw [Nat.pow_mul]
    have hx : bl N = 16 * k + bl (dg 65536 N k) := by
      symm
      refine bl_unique ?_ ?_
      · rw [Nat.pow_add, ← hp]
        have h2 := bl_lt (dg 65536 N k)
        have : 65536 ^ k * (dg 65536 N k + 1) ≤ 65536 ^ k * 2 ^ bl (dg 65536 N k) := Nat.mul_le_mul_left _ h2
        rw [Nat.mul_add] at this
        omega
      · refine .inr ?_
        have hpos : 0 < dg 65536 N k := by
          refine Nat.pos_of_ne_zero fun h => ?_
          rw [h] at hN; simp at hN; omega
        have hb := bl_pos hpos
        rcases bl_top (dg 65536 N k) with h | h
        · omega
        · have : 16 * k + bl (dg 65536 N k) - 1 = 16 * k + (bl (dg 65536 N k) - 1) := by omega
          rw [this, Nat.pow_add, ← hp]
          have : 65536 ^ k * 2 ^ (bl (dg 65536 N k) - 1) ≤ 65536 ^ k * dg 65536 N k := Nat.mul_le_mul_left _ h
          omega
    have HX := Lib.hid hx
    have d1 : dg 65536 N k < 65536 := dg_lt (by decide) _ _
    clear hN hm hp hx htop h1 h0
    generalize dg 65536 N k = x at *
    go_enter Tryz.func145, Tryz.ntmps145
    go_wp2
    go_loop [3, 4] (fun n top => ∃ t j : Nat, top = .int .i64 t ∧ n = .int .i64 (16 * (k : Int) + j) ∧ j + bl t = bl x ∧ t ≤ x ∧ j ≤ 16 ∧ t * 2 ^ j ≤ x) (fun _ top => (intOf top).toNat)
    case atStart => exact ⟨x, 0, rfl, by simp, by simp, Nat.le_refl _, by omega, by simp⟩
    case round =>
      obtain ⟨t, j, rfl, rfl, hj, htx, hj16, hjt⟩ := hrel
      by_cases ht : 0 < t
      · have hh := bl_half ht
        have hj' : j + 1 ≤ 16 := by
          refine Nat.lt_of_not_le fun h => ?_
          obtain rfl : j = 16 := by omega
          have : 1 * 2 ^ 16 ≤ t * 2 ^ 16 := Nat.mul_le_mul_right _ ht
          omega
        have hjt' : t / 2 * 2 ^ (j + 1) ≤ x := by
          have : t / 2 * 2 ≤ t := Nat.div_mul_le_self _ _
          have := Nat.mul_le_mul_right (2 ^ j) this
          rw [Nat.pow_succ, Nat.mul_comm (2 ^ j) 2, ← Nat.mul_assoc]
          omega
        have H1 := Lib.hid hj
        have H2 := Lib.hid hh
        have H3 := Lib.hid hjt'
        clear hj hh hjt hjt'
        go_wp2
        go_round
        case rel => exact ⟨t / 2, j + 1, rfl, by simp; omega, by have := H1.out; have := H2.out; omega, by omega, hj', H3.out⟩
        case measure => simp [intOf]; omega
      · obtain rfl : t = 0 := by omega
        have H1 := Lib.hid hj
        clear hj hjt
        go_wp2
        go_ret
        exact ⟨ret_int (by have := H1.out; have := HX.out; rw [bl_zero] at *; omega), rfl⟩
end Go.Proofs.YtdepmbpickonoaaGreatDoor
