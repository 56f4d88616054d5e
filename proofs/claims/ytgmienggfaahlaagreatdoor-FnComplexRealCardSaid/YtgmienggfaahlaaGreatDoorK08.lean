/-
  Contracts and lemmas: Spec7 Spec8 Spec9.
-/
import Derived.Test.YtgmienggfaahlaaGreatDoorK07
import Derived.Deep.RegionHeld3
import Derived.Test.YtgmienggfaahlaaGreatDoorK01
set_option linter.unusedSimpArgs false
set_option linter.unusedVariables false
set_option maxRecDepth 100000
set_option maxHeartbeats 8000000
namespace Go.Proofs.YtgmienggfaahlaaGreatDoor
open Go.RowKit Go.Bg Dg
theorem dg_words (f : Nat → Nat) (n i k : Nat) (hf : ∀ i, i < n → f i < W64) (hi : i < n) (hk : k < 4) : f i / 65536 ^ k % 65536 = dg 65536 (val W64 f n) (4 * i + k) := by
  have h := dg_val (B := W64) hf i hi
  rw [← h, dg, dg, W64_16, ← Nat.pow_mul, Nat.pow_add, ← Nat.div_div_eq_div_mul]
  obtain ⟨m, hm⟩ : ∃ m, 4 = k + (m + 1) := ⟨3 - k, by omega⟩
  have e : (65536 : Nat) ^ 4 = 65536 ^ k * (65536 * 65536 ^ m) := by rw [← Nat.pow_succ', ← Nat.pow_add, ← hm]
  rw [e, Nat.mod_mul_right_div_self, Nat.mod_mul_right_mod]
theorem of_any (a1 : Option Addr) (n1 c1 : Nat) (f : Nat → Nat) (w : World) (hc : Cells w a1 n1 (fun i => .int .u64 (f i : Nat))) (hf : ∀ i, i < n1 → f i < W64) (hb1 : n1 ≤ 100000) :
    Calls Tryz.prog 119 #[.slice a1 n1 c1] w (Gives .i64 65536 (val W64 f n1) w) := by
  obtain ⟨i0, hi, hz0, hz1, hz2⟩ := info_parts infoInt
  go_enter Tryz.func119, Tryz.ntmps119
  go_wp2
  go_loopw [3, 5, 6, 10] (fun out _ _ i wr => ∃ k : Nat, k ≤ n1 ∧ i = .int .i64 k ∧ wr.ownsRow w.heap.size 3 1 out (4 * k) ((List.range (4 * k)).map (dig (val W64 f n1))) ∧ out ≠ .slice none 0 0 ∧ Below w.heap.size w wr)
    (fun _ _ _ i _ => n1 - (intOf i).toNat)
  case atStart => exact ⟨0, Nat.zero_le _, rfl, World.ownsRow_made w #[] 0 (Nat.le_refl _) (by simp [maxLen]) rfl, by simp, (Below.refl _ _).alloc (Nat.le_refl _) _⟩
  case round =>
    obtain ⟨i, hik, rfl, hown, hne, hbel⟩ := hrel
    obtain ⟨wo, rfl⟩ : ∃ wo : World, wo = wr := ⟨_, rfl⟩
    by_cases k1 : i < n1
    · have hc' := hc.keep hbel
      obtain ⟨b1, o1, rfl, hcell⟩ := hc' (by omega)
      have e1 : wo.cell? ⟨b1, o1 + i, none⟩ = some (.int .u64 (f i : Nat)) := hcell i k1
      have hdw := fun k hk => dg_words f n1 i k hf k1 hk
      have hfi := hf i k1
      have HD := Lib.hid hdw
      clear hcell hdw hc hc'
      generalize f i = x at *
      have HX := Lib.hid hfi
      clear hfi
      go_wp2
      go_loopw [3, 6] (fun out k wr => ∃ j : Nat, j ≤ 4 ∧ k = .int .i64 j ∧ wr.ownsRow w.heap.size 3 1 out (4 * i + j) ((List.range (4 * i + j)).map (dig (val W64 f n1))) ∧ out ≠ .slice none 0 0 ∧ Below w.heap.size w wr)
        (fun _ k _ => 4 - (intOf k).toNat)
      case atStart => exact ⟨0, by omega, rfl, hown, hne, hbel⟩
      case round =>
        clear hown hne hbel e1
        obtain ⟨j, hj, rfl, hown, hne, hbel⟩ := hrel
        by_cases k2 : j < 4
        · have hb : bits BinOp.and IntKind.u64 ((x : Int) / 2 ^ (16 * j)) 65535 = ((x / 65536 ^ j % 65536 : Nat) : Int) := by
            have e : ((x : Int) / 2 ^ (16 * j)) = ((x / 65536 ^ j : Nat) : Int) := by
              rw [show (65536 : Nat) = 2 ^ 16 from rfl, ← Nat.pow_mul]; simp
            have hlt : x / 65536 ^ j < 18446744073709551616 := Nat.lt_of_le_of_lt (Nat.div_le_self _ _) (W64_lt HX.out)
            rw [e, show (65535 : Int) = ((65535 : Nat) : Int) from rfl, u64_and_nat _ _ hlt (by decide), nat_mask16]
          have hy : x / 65536 ^ j % 65536 < 65536 := Nat.mod_lt _ (by decide)
          have hd : x / 65536 ^ j % 65536 = dg 65536 (val W64 f n1) (4 * i + j) := HD.out j k2
          have HD2 := Lib.hid hd
          clear hd
          generalize x / 65536 ^ j % 65536 = y at *
          go_wp2_with (at_builtin; refine wpList_app1 rfl _ _ 29 rfl w.heap.size 3 i0 _ 8 Tryz.underlying29 hi hz0 hz1 hz2 rfl (by decide) _ _ _ _ rfl rfl rfl hown rfl (by omega) (hbel).size ?_; intro v' w1 hown1 hbel1 hne1)
          have hown1 : w1.ownsRow w.heap.size 3 1 v' (4 * i + (j + 1)) ((List.range (4 * i + (j + 1))).map (dig (val W64 f n1))) := by
            rw [show 4 * i + (j + 1) = 4 * i + j + 1 from rfl, map_range_succ, dig, ← HD2.out]; exact hown1
          go_roundw
          case rel => exact ⟨j + 1, by omega, by go_num, hown1, hne1, hbel.trans hbel1⟩
          case measure => simp [intOf]; omega
        · obtain rfl : j = 4 := by omega
          go_wp2
          go_roundw
          case rel => exact ⟨i + 1, by omega, by go_num, hown, hne, hbel⟩
          case measure => simp [intOf]; omega
    · obtain rfl : i = n1 := by omega
      have hlt : val W64 f i < 65536 ^ (4 * i) := by
        have := val_lt hf
        rw [W64_16, ← Nat.pow_mul] at this; exact this
      have HL := Lib.hid hlt
      obtain ⟨g, cap, rfl, hg, hgs, hnc, hcm, hcell⟩ := own_form hown hne
      have HC := Lib.hid (row_cells hcell)
      clear hcell hown hlt hc hf
      go_wp2_with (go_at_call 49; refine (trim_any _ _ _ (dg 65536 (val W64 f i)) _ (by omega) hnc (fun _ => ⟨g, 0, rfl, fun i hi => by rw [Nat.zero_add]; exact HC.out i hi⟩)).mono ?_; rintro e w2 ⟨rfl, rfl⟩)
      go_ret
      exact ⟨_, _, _, rfl, natAt_of_row HL.out hnc hcm HC.out, hbel⟩
def wd (X j : Nat) : Value := .int .u64 (dg W64 X j : Nat)
theorem words_step (N k : Nat) :
    (∀ j, j < k / 4 → dg W64 (N % 65536 ^ (k + 1)) j = dg W64 (N % 65536 ^ k) j) ∧
    dg W64 (N % 65536 ^ (k + 1)) (k / 4) = dg W64 (N % 65536 ^ k) (k / 4) + dg 65536 N k * 65536 ^ (k % 4) ∧
    dg W64 (N % 65536 ^ k) (k / 4) < 65536 ^ (k % 4) := by
  have hk : k = 4 * (k / 4) + k % 4 := by omega
  have hp : 65536 ^ k = W64 ^ (k / 4) * 65536 ^ (k % 4) := by
    conv => lhs; rw [hk]
    rw [Nat.pow_add, Nat.pow_mul, ← W64_16]
  have hM : N % 65536 ^ k < 65536 ^ k := Nat.mod_lt _ (Nat.pow_pos (by decide))
  have hd : dg 65536 N k < 65536 := dg_lt (by decide) _ _
  have hs := mod_succ 65536 N k
  rw [hs, hp]
  rw [hp] at hM
  have hwp : 0 < W64 ^ (k / 4) := Nat.pow_pos W64_pos
  have hq : N % (W64 ^ (k / 4) * 65536 ^ (k % 4)) / W64 ^ (k / 4) < 65536 ^ (k % 4) := (Nat.div_lt_iff_lt_mul hwp).2 (by rw [Nat.mul_comm (65536 ^ (k % 4))]; exact hM)
  have hW : 65536 ^ (k % 4) * 65536 ≤ W64 := by
    rw [← Nat.pow_succ, W64_16]; exact Nat.pow_le_pow_right (by decide) (by omega)
  have hlt1 : N % (W64 ^ (k / 4) * 65536 ^ (k % 4)) / W64 ^ (k / 4) < W64 := Nat.lt_of_lt_of_le hq (Nat.le_trans (Nat.le_mul_of_pos_right _ (by decide)) hW)
  have e1 : dg W64 (N % (W64 ^ (k / 4) * 65536 ^ (k % 4))) (k / 4) = N % (W64 ^ (k / 4) * 65536 ^ (k % 4)) / W64 ^ (k / 4) := Nat.mod_eq_of_lt hlt1
  refine ⟨fun j hj => ?_, ?_, by rw [e1]; exact hq⟩
  · rw [Nat.mul_assoc, ← dg_mod (n := k / 4) _ hj, Nat.add_mul_mod_self_left, dg_mod _ hj]
  · rw [e1, dg, Nat.mul_assoc, Nat.add_mul_div_left _ _ hwp, Nat.mul_comm (65536 ^ (k % 4)), Nat.mod_eq_of_lt]
    have : (dg 65536 N k + 1) * 65536 ^ (k % 4) ≤ 65536 * 65536 ^ (k % 4) := Nat.mul_le_mul_right _ hd
    rw [Nat.add_mul, Nat.one_mul, Nat.mul_comm 65536] at this
    omega
theorem set_words (N k : Nat) (u : Value) (xs : List Value) (h : ∀ j, j < k / 4 → xs[j]? = some (wd (N % 65536 ^ k) j)) (hl : xs.length = k / 4 + 1)
    (hu : u = .int .u64 (dg W64 (N % 65536 ^ k) (k / 4) + dg 65536 N k * 65536 ^ (k % 4) : Nat)) :
    xs.set (k / 4) u = (List.range (k / 4 + 1)).map (wd (N % 65536 ^ (k + 1))) := by
  have hst := words_step N k
  apply List.ext_getElem?
  intro j
  by_cases hj : j = k / 4
  · subst hj
    rw [List.getElem?_set_self (by omega)]
    simp only [List.getElem?_map, List.getElem?_range (Nat.lt_succ_self _), Option.map_some]
    rw [hu, ← hst.2.1]; rfl
  · rw [List.getElem?_set_ne (fun h => hj h.symm)]
    by_cases hj2 : j < k / 4
    · rw [h j hj2]
      simp only [List.getElem?_map, List.getElem?_range (show j < k / 4 + 1 by omega), Option.map_some]
      rw [wd, wd, hst.1 j hj2]
    · rw [List.getElem?_eq_none (by omega), List.getElem?_eq_none (by simp; omega)]
theorem or_zero_u64 (x : Nat) (hx : x < 65536) : bits BinOp.or IntKind.u64 0 (x : Int) = x := by
  rw [show (0 : Int) = ((0 : Nat) : Int) from rfl, u64_or_nat _ _ (by decide) (by omega)]; simp
theorem or_join_u64 (y x r : Nat) (hx : x < 65536) (hr : r < 4) (hy : y < 65536 ^ r) :
    bits BinOp.or IntKind.u64 (y : Int) (IntKind.u64.wrap ((x : Int) * 2 ^ (16 * r))) = ((y + x * 65536 ^ r : Nat) : Int) := by
  have e : ((x : Int) * 2 ^ (16 * r)) = ((x * 65536 ^ r : Nat) : Int) := by
    rw [show (65536 : Nat) = 2 ^ 16 from rfl, ← Nat.pow_mul]; simp
  have hb : 65536 ^ r * 65536 ≤ 18446744073709551616 := by
    rw [← Nat.pow_succ]
    have : (65536 : Nat) ^ (r + 1) ≤ 65536 ^ 4 := Nat.pow_le_pow_right (by decide) (by omega)
    exact this
  have hxr : x * 65536 ^ r < 18446744073709551616 := by
    have : (x + 1) * 65536 ^ r ≤ 65536 * 65536 ^ r := Nat.mul_le_mul_right _ hx
    rw [Nat.add_mul, Nat.one_mul, Nat.mul_comm 65536] at this
    have : 0 < 65536 ^ r := Nat.pow_pos (by decide)
    omega
  have hy' : y < 18446744073709551616 := by omega
  rw [e, IntKind.wrap_u64, show (((x * 65536 ^ r : Nat) : Int) % 18446744073709551616) = ((x * 65536 ^ r : Nat) : Int) from by omega, u64_or_nat _ _ hy' hxr, Nat.or_comm,
    nat_join (16 * r) _ _ (by rw [show (65536 : Nat) = 2 ^ 16 from rfl, ← Nat.pow_mul, Nat.mul_mod_left]) (by rw [Nat.pow_mul]; exact hy), Nat.add_comm]
theorem words_any (a1 : Option Addr) (n1 c1 N : Nat) (w : World) (h1 : NatAt w a1 n1 c1 N) (hb1 : n1 ≤ 1000000) :
    Calls Tryz.prog 187 #[.slice a1 n1 c1] w fun e w' => ∃ g cap, e = .returned (.slice (some ⟨g, 0, none⟩) ((n1 + 3) / 4) cap) ∧ (∀ j, j < (n1 + 3) / 4 → w'.cell? ⟨g, j, none⟩ = some (wd N j)) ∧ g < w'.heap.size ∧ Below w.heap.size w w' := by
  obtain ⟨i0, hi, hz0, hz1, hz2⟩ := info_parts infoUint
  go_enter Tryz.func187, Tryz.ntmps187
  go_wp2
  go_loopw [3, 4, 5, 9] (fun out _ _ i wr => ∃ k : Nat, k ≤ n1 ∧ i = .int .i64 k ∧ wr.ownsRow w.heap.size 151 1 out ((k + 3) / 4) ((List.range ((k + 3) / 4)).map (wd (N % 65536 ^ k))) ∧ out ≠ .slice none 0 0 ∧ Below w.heap.size w wr)
    (fun _ _ _ i _ => n1 - (intOf i).toNat)
  case atStart => exact ⟨0, Nat.zero_le _, rfl, World.ownsRow_made w #[] 0 (Nat.le_refl _) (by simp [maxLen]) rfl, by simp, (Below.refl _ _).alloc (Nat.le_refl _) _⟩
  case round =>
    obtain ⟨k, hk, rfl, hown, hne, hbel⟩ := hrel
    by_cases k1 : k < n1
    · have h1' := h1.keep hbel
      obtain ⟨b1, o1, rfl, _⟩ := h1'.form (by omega)
      have e1 := h1'.cell k1
      have d1 : dg 65536 N k < 65536 := dg_lt (by decide) _ _
      have hst := words_step N k
      have hdg : dg W64 (N % 65536 ^ k) (k / 4) < 18446744073709551616 := W64_lt (dg_lt W64_pos _ _)
      clear h1'
      by_cases hr : k % 4 = 0
      · have hr0 : (((k : Int) % 4) == 0) = true := by simp; omega
        have hm : (k + 3) / 4 = k / 4 := by omega
        rw [hm] at hown
        have hz : dg W64 (N % 65536 ^ k) (k / 4) = 0 := by have := hst.2.2; rw [hr] at this; simpa using this
        have fin : ∀ (u : Value) (xs : List Value), (∀ j, j < k / 4 → xs[j]? = some (wd (N % 65536 ^ k) j)) → xs.length = k / 4 + 1 → u = .int .u64 (dg 65536 N k : Nat) →
            xs.set (k / 4) u = (List.range ((k + 1 + 3) / 4)).map (wd (N % 65536 ^ (k + 1))) := by
          intro u xs h hl hu
          rw [show (k + 1 + 3) / 4 = k / 4 + 1 from by omega]
          exact set_words N k u xs h hl (by rw [hu, hz, hr]; simp)
        have hor := or_zero_u64 (dg 65536 N k) d1
        have HF := Lib.hid fin
        have HO := Lib.hid hor
        clear hst hm hz hdg fin hor
        generalize dg 65536 N k = x at *
        go_wp2_with (at_builtin; refine wpList_app1 rfl _ _ 22 rfl w.heap.size 151 i0 _ 8 Tryz.underlying22 hi hz0 hz1 hz2 rfl (by decide) _ _ _ _ rfl rfl rfl hown rfl (by omega) hbel.size ?_; intro v' w1 hown1 hbel1 hne1)
        obtain ⟨g, cap, rfl, hg, hgs, hnc, hcm, hcell⟩ := own_form hown1 hne1
        have c0 : w1.cell? ⟨g, k / 4, none⟩ = some (.int .u64 0) := by rw [hcell _ (Nat.lt_succ_self _)]; simp
        have f0 := hown1.frozenAt (k / 4)
        clear hcell
        go_wp2
        have hkb : (k : Int) / 4 < (k / 4 + 1 : Nat) := by omega
        go_region
        go_wp2
        have hs := (hown1.stored (k / 4) (.int .u64 (bits BinOp.or IntKind.u64 0 (x : Int)))).1
        rw [HF.out _ _ (fun j hj => by rw [List.getElem?_append_left (by simpa using hj)]; simp [hj]) (by simp) (by rw [HO.out])] at hs
        go_roundw
        case rel => exact ⟨k + 1, by omega, by go_num, by rw [show (k + 1 + 3) / 4 = k / 4 + 1 from by omega] at hs ⊢; exact hs.kept ⟨rfl, rfl, rfl, Nat.le_refl _, fun _ _ _ => rfl⟩ (row := none) (by simp [Value.ownBlock]), by simp, ((hbel.trans hbel1).setCell (by simpa using hg) _).drew⟩
        case measure => simp [intOf]; omega
      · have hr0 : (((k : Int) % 4) == 0) = false := by simp; omega
        have hm : (k + 3) / 4 = k / 4 + 1 := by omega
        rw [hm] at hown
        have fin : ∀ (u : Value) (xs : List Value), (∀ j, j < k / 4 → xs[j]? = some (wd (N % 65536 ^ k) j)) → xs.length = k / 4 + 1 → u = .int .u64 (dg W64 (N % 65536 ^ k) (k / 4) + dg 65536 N k * 65536 ^ (k % 4) : Nat) →
            xs.set (k / 4) u = (List.range ((k + 1 + 3) / 4)).map (wd (N % 65536 ^ (k + 1))) := by
          intro u xs h hl hu
          rw [show (k + 1 + 3) / 4 = k / 4 + 1 from by omega]
          exact set_words N k u xs h hl hu
        have hor := or_join_u64 (dg W64 (N % 65536 ^ k) (k / 4)) (dg 65536 N k) (k % 4) d1 (by omega) hst.2.2
        have HF := Lib.hid fin
        have HO := Lib.hid hor
        obtain ⟨g, cap, rfl, hg, hgs, hnc, hcm, hcell⟩ := own_form hown hne
        have c0 : wr.cell? ⟨g, k / 4, none⟩ = some (.int .u64 (dg W64 (N % 65536 ^ k) (k / 4) : Nat)) := by rw [hcell _ (Nat.lt_succ_self _)]; simp [wd]
        have f0 := hown.frozenAt (k / 4)
        clear hst hm fin hor hcell
        generalize dg 65536 N k = x at *
        generalize dg W64 (N % 65536 ^ k) (k / 4) = y at *
        go_wp2
        have hkb : (k : Int) / 4 < (k / 4 + 1 : Nat) := by omega
        go_region
        go_wp2
        have hs := (hown.stored (k / 4) (.int .u64 (bits BinOp.or IntKind.u64 (y : Int) (IntKind.u64.wrap ((x : Int) * 2 ^ (16 * (k % 4))))))).1
        rw [HF.out _ _ (fun j hj => by simp [show j < k / 4 + 1 by omega]) (by simp) (by rw [HO.out])] at hs
        go_roundw
        case rel => exact ⟨k + 1, by omega, by go_num, by rw [show (k + 1 + 3) / 4 = k / 4 + 1 from by omega] at hs ⊢; exact hs.kept ⟨rfl, rfl, rfl, Nat.le_refl _, fun _ _ _ => rfl⟩ (row := none) (by simp [Value.ownBlock]), by simp, (hbel.setCell (by simpa using hg) _).drew⟩
        case measure => simp [intOf]; omega
    · obtain rfl : k = n1 := by omega
      rw [Nat.mod_eq_of_lt h1.lt] at hown
      obtain ⟨g, cap, rfl, hg, hgs, hnc, hcm, hcell⟩ := own_form hown hne
      have HC := Lib.hid (row_cells hcell)
      clear hcell hown h1
      go_wp2
      go_ret
      exact ⟨g, cap, rfl, HC.out, hgs, hbel⟩
theorem words_len (a1 : Option Addr) (n1 c1 N m : Nat) (w : World) (h1 : NatAt w a1 n1 c1 N) (hb1 : n1 ≤ 1000000) (hm : m = (n1 + 3) / 4) :
    Calls Tryz.prog 187 #[.slice a1 n1 c1] w fun e w' => ∃ g cap, e = .returned (.slice (some ⟨g, 0, none⟩) m cap) ∧ (∀ j, j < m → w'.cell? ⟨g, j, none⟩ = some (wd N j)) ∧ g < w'.heap.size ∧ Below w.heap.size w w' := by
  subst hm; exact words_any a1 n1 c1 N w h1 hb1
def hasW (f : Nat → Nat) (n N : Nat) : Bool := decide (val W64 f n = N ∧ (n = 0 ∨ f (n - 1) ≠ 0))
theorem hasWords_any (a1 a2 : Option Addr) (n1 c1 n2 c2 N : Nat) (f : Nat → Nat) (w : World) (hc : Cells w a1 n1 (fun i => .int .u64 (f i : Nat))) (hf : ∀ i, i < n1 → f i < W64) (hb1 : n1 ≤ 100000)
    (h2 : NatAt w a2 n2 c2 N) (hb2 : n2 ≤ 400000) :
    Calls Tryz.prog 121 #[.slice a1 n1 c1, .slice a2 n2 c2] w fun e w' => e = .returned (.bool (hasW f n1 N)) ∧ Below w.heap.size w w' := by
  -- how many words the number has
  have hN1 : N < W64 ^ ((n2 + 3) / 4) := by
    rw [W64_16, ← Nat.pow_mul]
    exact Nat.lt_of_lt_of_le h2.lt (Nat.pow_le_pow_right (by decide) (by omega))
  have hN2 : (n2 + 3) / 4 = 0 ∨ W64 ^ ((n2 + 3) / 4 - 1) ≤ N := by
    rcases h2.top with h | h
    · exact .inl (by omega)
    · by_cases h0 : n2 = 0
      · exact .inl (by omega)
      · refine .inr (Nat.le_trans ?_ h)
        rw [W64_16, ← Nat.pow_mul]
        exact Nat.pow_le_pow_right (by decide) (by omega)
  have hiff : (val W64 f n1 = N ∧ (n1 = 0 ∨ f (n1 - 1) ≠ 0)) ↔ (n1 = (n2 + 3) / 4 ∧ ∀ i, i < n1 → f i = dg W64 N i) := by
    constructor
    · rintro ⟨hv, ht⟩
      subst hv
      refine ⟨len_eq W64_gt ?_ (val_lt hf) hN2 hN1, fun i hi => (dg_val hf i hi).symm⟩
      rcases ht with h | h
      · exact .inl h
      · by_cases h0 : n1 = 0
        · exact .inl h0
        · obtain ⟨k, rfl⟩ : ∃ k, n1 = k + 1 := ⟨n1 - 1, by omega⟩
          refine .inr ?_
          simp only [Nat.add_sub_cancel] at h ⊢
          show W64 ^ k ≤ val W64 f k + W64 ^ k * f k
          exact Nat.le_trans (Nat.le_mul_of_pos_right _ (Nat.pos_of_ne_zero h)) (Nat.le_add_left _ _)
    · rintro ⟨hn, hd⟩
      have hv : val W64 f n1 = N := by
        rw [val_congr hd, val_dg, Nat.mod_eq_of_lt (by rw [hn]; exact hN1)]
      refine ⟨hv, ?_⟩
      by_cases h0 : n1 = 0
      · exact .inl h0
      · refine .inr fun hz => ?_
        obtain ⟨k, rfl⟩ : ∃ k, n1 = k + 1 := ⟨n1 - 1, by omega⟩
        simp only [Nat.add_sub_cancel] at hz
        rw [← hn] at hN2
        rcases hN2 with h | h
        · omega
        · have : val W64 f (k + 1) = val W64 f k := by show val W64 f k + W64 ^ k * f k = _; rw [hz, Nat.mul_zero, Nat.add_zero]
          have hl := val_lt (B := W64) (f := f) (n := k) fun i hi => hf i (by omega)
          simp only [Nat.add_sub_cancel] at h
          omega
  have hres : hasW f n1 N = decide (n1 = (n2 + 3) / 4 ∧ ∀ i, i < n1 → f i = dg W64 N i) := by
    unfold hasW; exact decide_eq_decide.2 hiff
  have HR := Lib.hid hres
  clear hiff hN1 hN2 hres
  by_cases hlen : n1 = (n2 + 3) / 4
  · have hne : ((n1 : Int) != (n1 : Int)) = false := by simp
    have HM := Lib.hid hlen
    rw [← hlen] at HR
    clear hlen
    go_enter Tryz.func121, Tryz.ntmps121
    go_wp2_with fail
    refine (words_len _ _ _ N n1 _ h2 (by omega) HM.out).mono ?_
    rintro e w1 ⟨g, cap, rfl, hcell, hgs, hB⟩
    have hc1 := hc.keep hB
    have HCL := Lib.hid hcell
    clear hcell hc
    go_wp2
    go_loopw [6, 16] (fun _ i wr => ∃ k : Nat, k ≤ n1 ∧ i = .int .i64 k ∧ (∀ j, j < k → f j = dg W64 N j) ∧ ∃ q, wr = w1.drewN q) (fun _ i _ => n1 - (intOf i).toNat)
    case atStart => exact ⟨0, Nat.zero_le _, rfl, fun _ h => by omega, 0, rfl⟩
    case round =>
      obtain ⟨k, hk, rfl, hall, q, rfl⟩ := hrel
      have HA := Lib.hid hall
      clear hall
      by_cases k1 : k < n1
      · obtain ⟨b1, o1, rfl, hx⟩ := hc1 (by omega)
        have e1 : w1.cell? ⟨b1, o1 + k, none⟩ = some (.int .u64 (f k : Nat)) := hx k k1
        have e2 : w1.cell? ⟨g, k, none⟩ = some (.int .u64 (dg W64 N k : Nat)) := HCL.out k k1
        clear hx hc1
        by_cases heq : f k = dg W64 N k
        · have hb : (((f k : Nat) : Int) != ((f k : Nat) : Int)) = false := by simp
          rw [← heq] at e2
          have HE := Lib.hid (show ∀ j, j = k → f j = dg W64 N j from fun j hj => by rw [hj]; exact heq)
          clear heq hf
          generalize f k = x at *
          go_wp2
          go_quiet (fail)
          go_wp2
          go_roundw
          case rel => exact ⟨k + 1, by omega, by go_num, fun j hj => by
            by_cases h : j < k
            · exact HA.out j h
            · obtain rfl : j = k := by omega
              exact HE.out j rfl, drewN_ex (by (try simp only [World.drewN_drewN]); exact rfl)⟩
          case measure => simp [intOf]; omega
        · have hb : (((f k : Nat) : Int) != ((dg W64 N k : Nat) : Int)) = true := by simp; omega
          have hfalse : hasW f n1 N = false := by
            rw [HR.out]; simp only [decide_eq_false_iff_not]
            exact fun h => heq (h.2 k k1)
          have HF := Lib.hid hfalse
          clear heq hf hfalse
          generalize f k = x at *
          generalize dg W64 N k = y at *
          go_wp2
          go_quiet (fail)
          go_wp2
          go_ret
          exact ⟨ret_bool HF.out.symm, below_drewN (below_drewN hB _) _⟩
      · obtain rfl : k = n1 := by omega
        have htrue : hasW f k N = true := by
          rw [HR.out]; simp only [decide_eq_true_eq]
          exact ⟨trivial, HA.out⟩
        have HF := Lib.hid htrue
        clear htrue hc1
        go_wp2
        go_ret
        exact ⟨ret_bool HF.out.symm, below_drewN hB _⟩
  · have hfalse : hasW f n1 N = false := by
      rw [HR.out]; simp only [decide_eq_false_iff_not]
      exact fun h => hlen h.1
    rw [hfalse]
    have hne : ((n1 : Int) != (((n2 + 3) / 4 : Nat) : Int)) = true := by simp; omega
    clear hfalse HR hlen
    go_enter Tryz.func121, Tryz.ntmps121
    go_wp2_with fail
    refine (words_any _ _ _ N _ h2 (by omega)).mono ?_
    rintro e w1 ⟨g, cap, rfl, hcell, hgs, hB⟩
    clear hcell
    go_wp2
    go_ret
    exact ⟨rfl, hB⟩
theorem whole_any (s : Bool) (a : Option Addr) (n c N L : Nat) (w : World) (h : NatAt w a n c N) (hL : N < 65536 ^ L) (hL1 : 1 ≤ L) (hL2 : L ≤ 400000) :
    Calls Tryz.prog 118 #[.bool s, .slice a n c] w (GivesR (Rt.whole s N) L w) := by
  have hlen := h.len16 hL
  have hp := natAt_pos_len h
  have HP := Lib.hid hp
  have HH := Lib.hid h
  clear hp h
  have R0 := ResBlk.alloc w 31
  have H1 := Lib.hid (show 1 < 65536 ^ L from Nat.one_lt_pow (by omega) (by decide))
  cases s
  · go_enter Tryz.func118, Tryz.ntmps118
    go_wp2_with fail
    refine (small_any 1 _ (by omega)).mono ?_
    rintro e w1 ⟨a', n', c', rfl, hD, hB⟩
    have R := R0.below (by simp) hB
    obtain ⟨⟨u0, r0⟩, ⟨u1, r1⟩, ⟨u2, r2⟩⟩ := (R).cells; have f0 := (R).frozen 0; have f1 := (R).frozen 1; have f2 := (R).frozen 2
    have hb := Below.then ((Below.refl _ _).alloc (Nat.le_refl _) _) (Nat.le_refl _) hB
    go_wp2
    exact bodyPost_ret (v := .agg #[.bool false, .slice a n c, .slice a' n' c']) (by simp [results, Tryz.results118, go_sem, r0, r1, r2]) rfl (givesR_end R (Nat.le_refl _) hb ⟨rfl, HH.out.keep hb, hD, hL, H1.out⟩)
  · go_enter Tryz.func118, Tryz.ntmps118
    go_wp2_with fail
    refine (small_any 1 _ (by omega)).mono ?_
    rintro e w1 ⟨a', n', c', rfl, hD, hB⟩
    have R := R0.below (by simp) hB
    obtain ⟨⟨u0, r0⟩, ⟨u1, r1⟩, ⟨u2, r2⟩⟩ := (R).cells; have f0 := (R).frozen 0; have f1 := (R).frozen 1; have f2 := (R).frozen 2
    have hb := Below.then ((Below.refl _ _).alloc (Nat.le_refl _) _) (Nat.le_refl _) hB
    go_wp2
    exact bodyPost_ret (v := .agg #[.bool (decide (0 < n)), .slice a n c, .slice a' n' c']) (by simp [results, Tryz.results118, go_sem, r0, r1, r2]) rfl (givesR_end R (Nat.le_refl _) hb ⟨by rw [HP.out]; simp [Rt.whole], HH.out.keep hb, hD, hL, H1.out⟩)
theorem negated_any (s : Bool) (a : Option Addr) (n c : Nat) (a' : Option Addr) (n' c' L : Nat) (r : Rt) (w : World) (h : RtAt w s a n c a' n' c' r L) (hL2 : L ≤ 400000) :
    Calls Tryz.prog 13 #[.agg #[.bool s, .slice a n c, .slice a' n' c']] w (GivesR r.negated L w) := by
  have hlen := h.n_le
  have HP := Lib.hid (natAt_pos_len h.num)
  have HH := Lib.hid h
  have hs := h.neg
  have HS := Lib.hid hs
  clear h hs
  have hb := fun b => ((Below.refl w.heap.size w).alloc (Nat.le_refl _) (.cells #[.bool s, .slice a n c, .slice a' n' c'] 31)).alloc (by simp) (.cells #[.bool b, .slice a n c, .slice a' n' c'] 31)
  have HB := Lib.hid hb
  clear hb
  cases s
  · go_enter Tryz.func13, Tryz.ntmps13
    go_wp2
    exact bodyPost_ret (v := .agg #[.bool (decide (0 < n)), .slice a n c, .slice a' n' c']) (by simp [results, Tryz.results13, go_sem]) rfl
      ⟨_, _, _, _, _, _, _, rfl, ⟨by rw [HP.out]; simp [Rt.negated, ← HS.out], HH.out.num.keep (HB.out _), HH.out.den.keep (HB.out _), HH.out.numL, HH.out.denL⟩, HB.out _⟩
  · go_enter Tryz.func13, Tryz.ntmps13
    go_wp2
    exact bodyPost_ret (v := .agg #[.bool false, .slice a n c, .slice a' n' c']) (by simp [results, Tryz.results13, go_sem]) rfl
      ⟨_, _, _, _, _, _, _, rfl, ⟨by simp [Rt.negated, ← HS.out], HH.out.num.keep (HB.out _), HH.out.den.keep (HB.out _), HH.out.numL, HH.out.denL⟩, HB.out _⟩
theorem signOf_any (s : Bool) (a : Option Addr) (n c : Nat) (a' : Option Addr) (n' c' L : Nat) (r : Rt) (w : World) (h : RtAt w s a n c a' n' c' r L) (hL2 : L ≤ 400000) :
    Calls Tryz.prog 8 #[.agg #[.bool s, .slice a n c, .slice a' n' c']] w fun e w' => e = .returned (.int .i64 r.signOf) ∧ Below w.heap.size w w' := by
  have hlen := h.n_le
  have hb := (Below.refl w.heap.size w).alloc (Nat.le_refl _) (.cells #[.bool s, .slice a n c, .slice a' n' c'] 31)
  by_cases h0 : n = 0
  · subst h0
    have hN : r.num = 0 := by have := h.num.lt; simpa using this
    have hr : r.signOf = 0 := if_pos hN
    rw [hr]
    go_enter Tryz.func8, Tryz.ntmps8
    go_wp2
    go_ret
    exact ⟨rfl, hb⟩
  · have hN : r.num ≠ 0 := by
      rcases h.num.top with h1 | h1
      · omega
      · have : 0 < 65536 ^ (n - 1) := Nat.pow_pos (by decide)
        omega
    have hr : r.signOf = if s then -1 else 1 := by rw [h.neg]; exact if_neg hN
    have hz : ((n : Int) == 0) = false := by simp; omega
    rw [hr]
    clear hN hr h
    cases s
    · go_enter Tryz.func8, Tryz.ntmps8
      go_wp2
      go_ret
      exact ⟨rfl, hb⟩
    · go_enter Tryz.func8, Tryz.ntmps8
      go_wp2
      go_ret
      exact ⟨rfl, hb⟩
theorem over_any (s : Bool) (a : Option Addr) (n c : Nat) (a' : Option Addr) (n' c' N D L : Nat) (w : World) (h1 : NatAt w a n c N) (h2 : NatAt w a' n' c' D) (hN : N < 65536 ^ L) (hD : D < 65536 ^ L) (hpos : 0 < D) (hL2 : L ≤ 400000) :
    Calls Tryz.prog 29 #[.bool s, .slice a n c, .slice a' n' c'] w (GivesR (Rt.over s N D) L w) := by
  have hn := h1.len16 hN
  have hd := h2.len16 hD
  have HP := Lib.hid (natAt_pos_len h1)
  have hg0 : 0 < Nat.gcd N D := Nat.gcd_pos_of_pos_right _ hpos
  have hgD : Nat.gcd N D < 65536 ^ L := Nat.lt_of_le_of_lt (Nat.gcd_le_right _ hpos) hD
  have HG0 := Lib.hid hg0
  have HGD := Lib.hid hgD
  have HN := Lib.hid (Nat.lt_of_le_of_lt (Nat.div_le_self N (Nat.gcd N D)) hN)
  have HD := Lib.hid (Nat.lt_of_le_of_lt (Nat.div_le_self D (Nat.gcd N D)) hD)
  have R0 := ResBlk.alloc w 31
  have hb0 : Below w.heap.size w (w.alloc (.cells #[.bool false, .slice none 0 0, .slice none 0 0] 31)) := (Below.refl _ _).alloc (Nat.le_refl _) _
  have h1' := h1.keep hb0
  have h2' := h2.keep hb0
  clear h1 h2 hN hD hg0 hgD
  go_enter Tryz.func29, Tryz.ntmps29
  go_wp2_with fail
  refine (gcd_any _ _ _ _ _ _ N D _ h1' h2' (by omega) (by omega)).mono ?_
  rintro e w1 ⟨aG, nG, cG, rfl, hG, hB1⟩
  have hnG := hG.len16 HGD.out
  go_wp2_with fail
  refine (divMod_any _ _ _ _ _ _ N (Nat.gcd N D) _ (h1'.keep hB1) hG (by omega) (by omega) HG0.out).mono ?_
  rintro e w2 ⟨aQ, nQ, cQ, aR, nR, cR, rfl, hQ, hR, hB2⟩
  go_wp2_with fail
  refine (divMod_any _ _ _ _ _ _ D (Nat.gcd N D) _ ((h2'.keep hB1).keep hB2) (hG.keep hB2) (by omega) (by omega) HG0.out).mono ?_
  rintro e w3 ⟨aE, nE, cE, aF, nF, cF, rfl, hE, hF, hB3⟩
  have R := ((R0.below (by simp) hB1).below (Nat.lt_of_lt_of_le (by simp) hB1.size) hB2).below (Nat.lt_of_lt_of_le (by simp) (Nat.le_trans hB1.size hB2.size)) hB3
  obtain ⟨⟨u0, r0⟩, ⟨u1, r1⟩, ⟨u2, r2⟩⟩ := (R).cells; have f0 := (R).frozen 0; have f1 := (R).frozen 1; have f2 := (R).frozen 2
  have hb := Below.then (Below.then (Below.then hb0 (Nat.le_refl _) hB1) (Nat.le_refl _) hB2) (Nat.le_refl _) hB3
  have hQ' := hQ.keep hB3
  clear hB1 hB2 hB3 hG hR hF h1' h2' hb0 R0 hQ
  cases s
  · go_wp2
    exact bodyPost_ret (v := .agg #[.bool false, .slice aQ nQ cQ, .slice aE nE cE]) (by simp [results, Tryz.results29, go_sem, r0, r1, r2]) rfl (givesR_end R (Nat.le_refl _) hb ⟨rfl, hQ', hE, HN.out, HD.out⟩)
  · go_wp2
    exact bodyPost_ret (v := .agg #[.bool (decide (0 < n)), .slice aQ nQ cQ, .slice aE nE cE]) (by simp [results, Tryz.results29, go_sem, r0, r1, r2]) rfl (givesR_end R (Nat.le_refl _) hb ⟨by rw [HP.out]; simp [Rt.over], hQ', hE, HN.out, HD.out⟩)
end Go.Proofs.YtgmienggfaahlaaGreatDoor
