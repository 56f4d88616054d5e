/-
  The reference's natural numbers: Of, Words, HasWords say what words are.
-/
import Derived.Test.YtdepmbpickonoaaGreatDoorSpec6
set_option linter.unusedSimpArgs false
set_option linter.unusedVariables false
namespace Go.Proofs.YtdepmbpickonoaaGreatDoor
open Go.RowKit Go.Bg Dg

theorem dg_words (f : Nat → Nat) (n i k : Nat) (hf : ∀ i, i < n → f i < W64) (hi : i < n) (hk : k < 4) : f i / 65536 ^ k % 65536 = dg 65536 (val W64 f n) (4 * i + k) := by
  have h := dg_val (B := W64) hf i hi
  rw [← h, dg, dg, W64_16, ← Nat.pow_mul, Nat.pow_add, ← Nat.div_div_eq_div_mul]
  obtain ⟨m, hm⟩ : ∃ m, 4 = k + (m + 1) := ⟨3 - k, by omega⟩
  have e : (65536 : Nat) ^ 4 = 65536 ^ k * (65536 * 65536 ^ m) := by rw [← Nat.pow_succ', ← Nat.pow_add, ← hm]
  rw [e, Nat.mod_mul_right_div_self, Nat.mod_mul_right_mod]

set_option maxRecDepth 100000 in
set_option maxHeartbeats 2000000 in
theorem of_any (a1 : Option Addr) (n1 c1 : Nat) (f : Nat → Nat) (w : World) (hc : Cells w a1 n1 (fun i => .int .u64 (f i : Nat))) (hf : ∀ i, i < n1 → f i < W64) (hb1 : n1 ≤ 100000) :
    Calls Tryz.prog 38 #[.slice a1 n1 c1] w (Gives .i64 65536 (val W64 f n1) w) := by
  obtain ⟨i0, hi, hz0, hz1, hz2⟩ := info_parts infoInt
  go_enter Tryz.func38, Tryz.ntmps38
  go_wp2
  go_loopw [3, 5, 6, 10] (fun out _ _ i wr => ∃ k : Nat, k ≤ n1 ∧ i = .int .i64 k ∧ wr.ownsRow w.heap.size 3 1 out (4 * k) ((List.range (4 * k)).map (dig (val W64 f n1))) ∧ out ≠ .slice none 0 0 ∧ Below w.heap.size w wr)
    (fun _ _ _ i _ => n1 - (intOf i).toNat)
  case atStart => exact ⟨0, Nat.zero_le _, rfl, World.ownsRow_made w #[] 0 (Nat.le_refl _) (by simp [maxLen]) rfl, by simp, (Below.refl _ _).alloc (Nat.le_refl _) _⟩
  case round =>
    obtain ⟨i, hik, rfl, hown, hne, hbel⟩ := hrel
    obtain ⟨wo, rfl⟩ : ∃ wo : World, wo = wr := ⟨_, rfl⟩
    by_cases k1 : i < n1
    · have hc' := hc.keep hbel
      obtain ⟨b1, o1, rfl, hcell⟩ := hc' (by omega)
      have e1 : wo.cell? ⟨b1, o1 + i, none⟩ = some (.int .u64 (f i : Nat)) := hcell i k1
      have hdw := fun k hk => dg_words f n1 i k hf k1 hk
      have hfi := hf i k1
      have HD := Lib.hid hdw
      clear hcell hdw hc hc'
      generalize f i = x at *
      have HX := Lib.hid hfi
      clear hfi
      go_wp2
      go_loopw [3, 6] (fun out k wr => ∃ j : Nat, j ≤ 4 ∧ k = .int .i64 j ∧ wr.ownsRow w.heap.size 3 1 out (4 * i + j) ((List.range (4 * i + j)).map (dig (val W64 f n1))) ∧ out ≠ .slice none 0 0 ∧ Below w.heap.size w wr)
        (fun _ k _ => 4 - (intOf k).toNat)
      case atStart => exact ⟨0, by omega, rfl, hown, hne, hbel⟩
      case round =>
        clear hown hne hbel e1
        obtain ⟨j, hj, rfl, hown, hne, hbel⟩ := hrel
        by_cases k2 : j < 4
        · have hb : bits BinOp.and IntKind.u64 ((x : Int) / 2 ^ (16 * j)) 65535 = ((x / 65536 ^ j % 65536 : Nat) : Int) := by
            have e : ((x : Int) / 2 ^ (16 * j)) = ((x / 65536 ^ j : Nat) : Int) := by
              rw [show (65536 : Nat) = 2 ^ 16 from rfl, ← Nat.pow_mul]; simp
            have hlt : x / 65536 ^ j < 18446744073709551616 := Nat.lt_of_le_of_lt (Nat.div_le_self _ _) (W64_lt HX.out)
            rw [e, show (65535 : Int) = ((65535 : Nat) : Int) from rfl, u64_and_nat _ _ hlt (by decide), nat_mask16]
          have hy : x / 65536 ^ j % 65536 < 65536 := Nat.mod_lt _ (by decide)
          have hd : x / 65536 ^ j % 65536 = dg 65536 (val W64 f n1) (4 * i + j) := HD.out j k2
          have HD2 := Lib.hid hd
          clear hd
          generalize x / 65536 ^ j % 65536 = y at *
          go_wp2_with (at_builtin; refine wpList_app1 rfl _ _ 29 rfl w.heap.size 3 i0 _ 8 Tryz.underlying29 hi hz0 hz1 hz2 rfl (by decide) _ _ _ _ rfl rfl rfl hown rfl (by omega) (hbel).size ?_; intro v' w1 hown1 hbel1 hne1)
          have hown1 : w1.ownsRow w.heap.size 3 1 v' (4 * i + (j + 1)) ((List.range (4 * i + (j + 1))).map (dig (val W64 f n1))) := by
            rw [show 4 * i + (j + 1) = 4 * i + j + 1 from rfl, map_range_succ, dig, ← HD2.out]; exact hown1
          go_roundw
          case rel => exact ⟨j + 1, by omega, by go_num, hown1, hne1, hbel.trans hbel1⟩
          case measure => simp [intOf]; omega
        · obtain rfl : j = 4 := by omega
          go_wp2
          go_roundw
          case rel => exact ⟨i + 1, by omega, by go_num, hown, hne, hbel⟩
          case measure => simp [intOf]; omega
    · obtain rfl : i = n1 := by omega
      have hlt : val W64 f i < 65536 ^ (4 * i) := by
        have := val_lt hf
        rw [W64_16, ← Nat.pow_mul] at this; exact this
      have HL := Lib.hid hlt
      obtain ⟨g, cap, rfl, hg, hgs, hnc, hcm, hcell⟩ := own_form hown hne
      have HC := Lib.hid (row_cells hcell)
      clear hcell hown hlt hc hf
      go_wp2_with (go_at_call 92; refine (trim_any _ _ _ (dg 65536 (val W64 f i)) _ (by omega) hnc (fun _ => ⟨g, 0, rfl, fun i hi => by rw [Nat.zero_add]; exact HC.out i hi⟩)).mono ?_; rintro e w2 ⟨rfl, rfl⟩)
      go_ret
      exact ⟨_, _, _, rfl, natAt_of_row HL.out hnc hcm HC.out, hbel⟩
end Go.Proofs.YtdepmbpickonoaaGreatDoor
