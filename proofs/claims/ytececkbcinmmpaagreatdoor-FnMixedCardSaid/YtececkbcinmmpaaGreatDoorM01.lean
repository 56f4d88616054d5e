/-
  Contracts and lemmas: KitP Spec1 Spec2 Spec3.
-/
import Derived.Test.YtececkbcinmmpaaGreatDoorProg
import Derived.KernelRfl
import Derived.Test.YtececkbcinmmpaaGreatDoorM00
set_option linter.unusedSimpArgs false
set_option linter.unusedVariables false
set_option maxRecDepth 100000
set_option maxHeartbeats 8000000
namespace Go.Proofs.YtececkbcinmmpaaGreatDoor
theorem infoInt : (Tryz.prog.info? 3).map (fun i => (i.zero, i.size, i.bytes)) = some (some (.int .i64 0), 1, 8) := by kernel_rfl
theorem infoUint : (Tryz.prog.info? 53).map (fun i => (i.zero, i.size, i.bytes)) = some (some (.int .u64 0), 1, 8) := by kernel_rfl
theorem infoWord : (Tryz.prog.info? 139).map (fun i => (i.zero, i.size, i.bytes)) = some (some (.int .u64 0), 1, 8) := by kernel_rfl
end Go.Proofs.YtececkbcinmmpaaGreatDoor
namespace Go.Proofs.YtececkbcinmmpaaGreatDoor
open Go.RowKit Go.Bg Dg
theorem trim_any (a : Option Addr) (n c : Nat) (f : Nat → Nat) (w : World)
    (hn : n ≤ 1000000000) (hnc : n ≤ c) (hc : Cells w a n (fun i => .int .i64 (f i : Nat))) :
    Calls Tryz.prog 113 #[.slice a n c] w fun e w' => e = .returned (.slice a (tlen f n) c) ∧ w = w' := by
  go_enter Tryz.func113, Tryz.ntmps113
  go_wp2
  go_loop [0] (fun v => ∃ m : Nat, m ≤ n ∧ v = .slice a m c ∧ tlen f m = tlen f n) (fun v => sliceLen v)
  case atStart => exact ⟨n, Nat.le_refl _, rfl, rfl⟩
  case round =>
    obtain ⟨m, hm, rfl, ht⟩ := hrel
    have HT := Lib.hid ht; clear ht
    by_cases h0 : 0 < m
    · obtain ⟨b, off, rfl, hcell⟩ := hc (by omega)
      have hcm := hcell (m - 1) (by omega)
      obtain ⟨k, rfl⟩ : ∃ k, m = k + 1 := ⟨m - 1, by omega⟩
      clear hc hcell
      simp only [Nat.add_sub_cancel] at hcm
      go_wp2
      · have hz : ((f k : Int) == 0) = true := by assumption
        have hz : f k = 0 := by simpa using hz
        go_round
        case rel => exact ⟨k, by omega, rfl, by rw [← HT.out, tlen, if_pos hz]⟩
        case measure => simp [sliceLen]
      · have hz : ((f k : Int) == 0) = false := by assumption
        have hz : f k ≠ 0 := by simpa using hz
        go_ret
        exact ⟨ret_slice (by rw [← HT.out, tlen, if_neg hz]), rfl⟩
    · obtain rfl : m = 0 := by omega
      go_wp2
      go_ret
      exact ⟨ret_slice HT.out, rfl⟩
def dig (X k : Nat) : Value := .int .i64 (dg 65536 X k : Nat)
theorem natAt_of_row {w : World} {g n cap X : Nat} (hX : X < 65536 ^ n) (hnc : n ≤ cap) (hcm : cap ≤ maxLen) (hcell : ∀ i, i < n → w.cell? ⟨g, i, none⟩ = some (dig X i)) :
    NatAt w (some ⟨g, 0, none⟩) (tlen (dg 65536 X) n) cap X :=
  ⟨tlen_lt hX, tlen_top hX, Nat.le_trans (tlen_le _ _) hnc, hcm, fun _ => ⟨g, 0, rfl, fun i hi => by rw [Nat.zero_add]; exact hcell i (Nat.lt_of_lt_of_le hi (tlen_le _ _))⟩⟩
theorem row_cells {w : World} {g n : Nat} {f : Nat → Value} (h : ∀ i, i < n → w.cell? ⟨g, i, none⟩ = ((List.range n).map f)[i]?) : ∀ i, i < n → w.cell? ⟨g, i, none⟩ = some (f i) := by
  intro i hi
  rw [h i hi]; simp [hi]
theorem add_any (a1 a2 : Option Addr) (n1 n2 c1 c2 N1 N2 : Nat) (w : World) (h1 : NatAt w a1 n1 c1 N1) (h2 : NatAt w a2 n2 c2 N2) (hb1 : n1 ≤ 1000000) (hb2 : n2 ≤ 1000000) :
    Calls Tryz.prog 52 #[.slice a1 n1 c1, .slice a2 n2 c2] w (Gives .i64 65536 (N1 + N2) w) := by
  obtain ⟨i0, hi, hz0, hz1, hz2⟩ := info_parts infoInt
  go_enter Tryz.func52, Tryz.ntmps52
  go_wp2
  go_loopw [5, 6, 7] (fun out carry i wr => ∃ k : Nat, (k ≤ n1 ∨ k ≤ n2) ∧ i = .int .i64 k ∧ carry = .int .i64 ((N1 % 65536 ^ k + N2 % 65536 ^ k) / 65536 ^ k : Nat) ∧
      wr.ownsRow w.heap.size 3 1 out k ((List.range k).map (dig (N1 + N2))) ∧ out ≠ .slice none 0 0 ∧ Below w.heap.size w wr)
    (fun _ _ i _ => (n1 - (intOf i).toNat) + (n2 - (intOf i).toNat))
  case atStart => exact ⟨0, .inl (Nat.zero_le _), rfl, by simp [Nat.mod_one], World.ownsRow_made w #[] 0 (Nat.le_refl _) (by simp [maxLen]) rfl, by simp, (Below.refl _ _).alloc (Nat.le_refl _) _⟩
  case round =>
    obtain ⟨k, hk, rfl, rfl, hown, hne, hbel⟩ := hrel
    have h1' := h1.keep hbel
    have h2' := h2.keep hbel
    have hl1 := h1.lt
    have hl2 := h2.lt
    clear h1 h2
    have d1 : dg 65536 N1 k < 65536 := dg_lt (by decide) _ _
    have d2 : dg 65536 N2 k < 65536 := dg_lt (by decide) _ _
    have hcy : (N1 % 65536 ^ k + N2 % 65536 ^ k) / 65536 ^ k ≤ 1 := add_carry_le (by decide) _ _ _
    have hst := add_step (B := 65536) (by decide) N1 N2 k
    by_cases hend : k < n1 ∨ k < n2
    · have z1 : ¬ k < n1 → dg 65536 N1 k = 0 := fun h => dg_of_lt (Nat.lt_of_lt_of_le hl1 (Nat.pow_le_pow_right (by decide) (by omega)))
      have z2 : ¬ k < n2 → dg 65536 N2 k = 0 := fun h => dg_of_lt (Nat.lt_of_lt_of_le hl2 (Nat.pow_le_pow_right (by decide) (by omega)))
      have fin : ∀ (v : Value) (w1 : World) (u : Nat), u = ((N1 % 65536 ^ k + N2 % 65536 ^ k) / 65536 ^ k + dg 65536 N1 k + dg 65536 N2 k) → w1.ownsRow w.heap.size 3 1 v (k + 1) ((List.range k).map (dig (N1 + N2)) ++ [.int .i64 ((u : Int) % 65536)]) →
          (Value.int .i64 ((u : Int) / 65536) = .int .i64 ((N1 % 65536 ^ (k + 1) + N2 % 65536 ^ (k + 1)) / 65536 ^ (k + 1) : Nat)) ∧ w1.ownsRow w.heap.size 3 1 v (k + 1) ((List.range (k + 1)).map (dig (N1 + N2))) := by
        intro v w1 u hu ho
        rw [← hu] at hst
        refine ⟨by rw [← hst.2]; rfl, ?_⟩
        rw [map_range_succ, dig, ← hst.1]; exact ho
      generalize (N1 % 65536 ^ k + N2 % 65536 ^ k) / 65536 ^ k = cy at hst hcy fin ⊢
      have HF := Lib.hid fin
      clear fin hst hl1 hl2
      by_cases k1 : k < n1
      · obtain ⟨b1, o1, rfl, _⟩ := h1'.form (by omega)
        have e1 := h1'.cell k1
        generalize dg 65536 N1 k = x1 at HF d1 e1 z1
        clear z1 h1'
        by_cases k2 : k < n2
        · obtain ⟨b2, o2, rfl, _⟩ := h2'.form (by omega)
          have e2 := h2'.cell k2
          generalize dg 65536 N2 k = x2 at HF d2 e2 z2
          clear z2 h2'
          go_wp2_with (at_builtin; refine wpList_app1 rfl _ _ 29 rfl w.heap.size 3 i0 _ 8 Tryz.underlying29 hi hz0 hz1 hz2 rfl (by decide) _ _ _ _ rfl rfl rfl hown rfl (by omega) (hbel).size ?_; intro v' w1 hown1 hbel1 hne1)
          have F := HF.out v' w1 (cy + x1 + x2) rfl (by simpa using hown1)
          go_roundw
          case rel => exact ⟨k + 1, by omega, by go_num, by rw [← F.1]; simp, F.2, hne1, hbel.trans hbel1⟩
          case measure => simp [intOf]; omega
        · have e0 := z2 k2
          rw [e0] at HF
          clear e0 z2 h2' d2
          go_wp2_with (at_builtin; refine wpList_app1 rfl _ _ 29 rfl w.heap.size 3 i0 _ 8 Tryz.underlying29 hi hz0 hz1 hz2 rfl (by decide) _ _ _ _ rfl rfl rfl hown rfl (by omega) (hbel).size ?_; intro v' w1 hown1 hbel1 hne1)
          have F := HF.out v' w1 (cy + x1) rfl (by simpa using hown1)
          go_roundw
          case rel => exact ⟨k + 1, by omega, by go_num, by rw [← F.1]; simp, F.2, hne1, hbel.trans hbel1⟩
          case measure => simp [intOf]; omega
      · have e0 := z1 k1
        rw [e0] at HF
        clear e0 z1 h1' d1
        have k2 : k < n2 := by omega
        obtain ⟨b2, o2, rfl, _⟩ := h2'.form (by omega)
        have e2 := h2'.cell k2
        generalize dg 65536 N2 k = x2 at HF d2 e2 z2
        clear z2 h2'
        go_wp2_with (at_builtin; refine wpList_app1 rfl _ _ 29 rfl w.heap.size 3 i0 _ 8 Tryz.underlying29 hi hz0 hz1 hz2 rfl (by decide) _ _ _ _ rfl rfl rfl hown rfl (by omega) (hbel).size ?_; intro v' w1 hown1 hbel1 hne1)
        have F := HF.out v' w1 (cy + x2) (by omega) (by simpa using hown1)
        go_roundw
        case rel => exact ⟨k + 1, by omega, by go_num, by rw [← F.1]; simp, F.2, hne1, hbel.trans hbel1⟩
        case measure => simp [intOf]; omega
    · have k1 : ¬ k < n1 := by omega
      have k2 : ¬ k < n2 := by omega
      have m1 : N1 % 65536 ^ k = N1 := Nat.mod_eq_of_lt (Nat.lt_of_lt_of_le hl1 (Nat.pow_le_pow_right (by decide) (by omega)))
      have m2 : N2 % 65536 ^ k = N2 := Nat.mod_eq_of_lt (Nat.lt_of_lt_of_le hl2 (Nat.pow_le_pow_right (by decide) (by omega)))
      have hlt : N1 + N2 < 65536 ^ (k + 1) := by
        have : 65536 ^ n1 ≤ 65536 ^ k := Nat.pow_le_pow_right (by decide) (by omega)
        have : 65536 ^ n2 ≤ 65536 ^ k := Nat.pow_le_pow_right (by decide) (by omega)
        rw [Nat.pow_succ]; omega
      rw [m1, m2] at hcy ⊢
      have hd : (N1 + N2) / 65536 ^ k = dg 65536 (N1 + N2) k := by
        rw [dg, Nat.mod_eq_of_lt (by omega)]
      rw [hd]
      have HL := Lib.hid hlt
      clear hst d1 d2 h1' h2' hl1 hl2 m1 m2 hcy hd hlt
      go_wp2_with (at_builtin; refine wpList_app1 rfl _ _ 29 rfl w.heap.size 3 i0 _ 8 Tryz.underlying29 hi hz0 hz1 hz2 rfl (by decide) _ _ _ _ rfl rfl rfl hown rfl (by omega) (hbel).size ?_; intro v' w1 hown1 hbel1 hne1)
      have hown1 : w1.ownsRow w.heap.size 3 1 v' (k + 1) ((List.range (k + 1)).map (dig (N1 + N2))) := by rw [map_range_succ]; exact hown1
      obtain ⟨g, cap, rfl, hg, hgs, hnc, hcm, hcell⟩ := own_form hown1 hne1
      have HC := Lib.hid (row_cells hcell)
      clear hcell hown1 hown
      refine (trim_any _ _ _ (dg 65536 (N1 + N2)) _ (by omega) hnc (fun _ => ⟨g, 0, rfl, fun i hi => by rw [Nat.zero_add]; exact HC.out i hi⟩)).mono ?_
      rintro e w2 ⟨rfl, rfl⟩
      go_wp2
      go_ret
      exact ⟨_, _, _, rfl, natAt_of_row HL.out hnc hcm HC.out, hbel.trans hbel1⟩
theorem sub_any (a1 a2 : Option Addr) (n1 n2 c1 c2 N1 N2 : Nat) (w : World) (h1 : NatAt w a1 n1 c1 N1) (h2 : NatAt w a2 n2 c2 N2) (hb1 : n1 ≤ 1000000) (hb2 : n2 ≤ 1000000) (hle : N2 ≤ N1) :
    Calls Tryz.prog 54 #[.slice a1 n1 c1, .slice a2 n2 c2] w (Gives .i64 65536 (N1 - N2) w) := by
  obtain ⟨i0, hi, hz0, hz1, hz2⟩ := info_parts infoInt
  go_enter Tryz.func54, Tryz.ntmps54
  go_wp2
  go_loopw [5, 6, 7, 8, 12] (fun out borrow _ _ i wr => ∃ k : Nat, k ≤ n1 ∧ i = .int .i64 k ∧ borrow = .int .i64 (if N1 % 65536 ^ k < N2 % 65536 ^ k then 1 else 0) ∧
      wr.ownsRow w.heap.size 3 1 out k ((List.range k).map (dig (N1 - N2))) ∧ out ≠ .slice none 0 0 ∧ Below w.heap.size w wr)
    (fun _ _ _ _ i _ => n1 - (intOf i).toNat)
  case atStart => exact ⟨0, Nat.zero_le _, rfl, by simp [Nat.mod_one], World.ownsRow_made w #[] 0 (Nat.le_refl _) (by simp [maxLen]) rfl, by simp, (Below.refl _ _).alloc (Nat.le_refl _) _⟩
  case round =>
    obtain ⟨k, hk, rfl, rfl, hown, hne, hbel⟩ := hrel
    have h1' := h1.keep hbel
    have h2' := h2.keep hbel
    have hl1 := h1.lt
    have hl2 := h2.lt
    clear h1 h2
    have d1 : dg 65536 N1 k < 65536 := dg_lt (by decide) _ _
    have d2 : dg 65536 N2 k < 65536 := dg_lt (by decide) _ _
    have hst := sub_step (B := 65536) (by decide) N1 N2 k hle
    have hbo : (0 : Int) ≤ (if N1 % 65536 ^ k < N2 % 65536 ^ k then 1 else 0) ∧ (if N1 % 65536 ^ k < N2 % 65536 ^ k then 1 else 0) ≤ (1 : Int) := by split <;> omega
    by_cases k1 : k < n1
    · have z2 : ¬ k < n2 → dg 65536 N2 k = 0 := fun h => dg_of_lt (Nat.lt_of_lt_of_le hl2 (Nat.pow_le_pow_right (by decide) (by omega)))
      have fin : ∀ (v : Value) (w1 : World) (t : Int), t = (dg 65536 N1 k : Int) - (if N1 % 65536 ^ k < N2 % 65536 ^ k then 1 else 0) - dg 65536 N2 k →
          (t < 0 → w1.ownsRow w.heap.size 3 1 v (k + 1) ((List.range k).map (dig (N1 - N2)) ++ [.int .i64 (t + 65536)]) →
            Value.int .i64 1 = .int .i64 (if N1 % 65536 ^ (k + 1) < N2 % 65536 ^ (k + 1) then 1 else 0) ∧ w1.ownsRow w.heap.size 3 1 v (k + 1) ((List.range (k + 1)).map (dig (N1 - N2)))) ∧
          (0 ≤ t → w1.ownsRow w.heap.size 3 1 v (k + 1) ((List.range k).map (dig (N1 - N2)) ++ [.int .i64 t]) →
            Value.int .i64 0 = .int .i64 (if N1 % 65536 ^ (k + 1) < N2 % 65536 ^ (k + 1) then 1 else 0) ∧ w1.ownsRow w.heap.size 3 1 v (k + 1) ((List.range (k + 1)).map (dig (N1 - N2)))) := by
        intro v w1 t ht
        rw [← ht] at hst
        refine ⟨fun hneg ho => ?_, fun hpos ho => ?_⟩
        · obtain ⟨e1, e2⟩ := hst.1 hneg
          refine ⟨by rw [if_pos e2], ?_⟩
          rw [map_range_succ, dig, e1]; exact ho
        · obtain ⟨e1, e2⟩ := hst.2 (by omega)
          refine ⟨by rw [if_neg e2], ?_⟩
          rw [map_range_succ, dig, e1]; exact ho
      generalize (if N1 % 65536 ^ k < N2 % 65536 ^ k then (1 : Int) else 0) = bo at hst hbo fin ⊢
      obtain ⟨hbo1, hbo2⟩ := hbo
      have HF := Lib.hid fin
      clear fin hst hl1 hl2 hle
      obtain ⟨b1, o1, rfl, _⟩ := h1'.form (by omega)
      have e1 := h1'.cell k1
      generalize dg 65536 N1 k = x1 at HF d1 e1
      clear h1'
      by_cases k2 : k < n2
      · obtain ⟨b2, o2, rfl, _⟩ := h2'.form (by omega)
        have e2 := h2'.cell k2
        generalize dg 65536 N2 k = x2 at HF d2 e2 z2
        clear z2 h2'
        by_cases hneg : (x1 : Int) - bo - x2 < 0
        · go_wp2_with (at_builtin; refine wpList_app1 rfl _ _ 29 rfl w.heap.size 3 i0 _ 8 Tryz.underlying29 hi hz0 hz1 hz2 rfl (by decide) _ _ _ _ rfl rfl rfl hown rfl (by omega) (hbel).size ?_; intro v' w1 hown1 hbel1 hne1)
          have F := (HF.out v' w1 (x1 - bo - x2) rfl).1 hneg (by simpa using hown1)
          go_roundw
          case rel => exact ⟨k + 1, by omega, by go_num, F.1, F.2, hne1, hbel.trans hbel1⟩
          case measure => simp [intOf]; omega
        · have hpos : 0 ≤ (x1 : Int) - bo - x2 := by omega
          go_wp2_with (at_builtin; refine wpList_app1 rfl _ _ 29 rfl w.heap.size 3 i0 _ 8 Tryz.underlying29 hi hz0 hz1 hz2 rfl (by decide) _ _ _ _ rfl rfl rfl hown rfl (by omega) (hbel).size ?_; intro v' w1 hown1 hbel1 hne1)
          have F := (HF.out v' w1 (x1 - bo - x2) rfl).2 hpos (by simpa using hown1)
          go_roundw
          case rel => exact ⟨k + 1, by omega, by go_num, F.1, F.2, hne1, hbel.trans hbel1⟩
          case measure => simp [intOf]; omega
      · have e0 := z2 k2
        rw [e0] at HF
        clear e0 z2 h2' d2
        by_cases hneg : (x1 : Int) - bo < 0
        · go_wp2_with (at_builtin; refine wpList_app1 rfl _ _ 29 rfl w.heap.size 3 i0 _ 8 Tryz.underlying29 hi hz0 hz1 hz2 rfl (by decide) _ _ _ _ rfl rfl rfl hown rfl (by omega) (hbel).size ?_; intro v' w1 hown1 hbel1 hne1)
          have F := (HF.out v' w1 (x1 - bo) (by simp)).1 hneg (by simpa using hown1)
          go_roundw
          case rel => exact ⟨k + 1, by omega, by go_num, F.1, F.2, hne1, hbel.trans hbel1⟩
          case measure => simp [intOf]; omega
        · have hpos : 0 ≤ (x1 : Int) - bo := by omega
          go_wp2_with (at_builtin; refine wpList_app1 rfl _ _ 29 rfl w.heap.size 3 i0 _ 8 Tryz.underlying29 hi hz0 hz1 hz2 rfl (by decide) _ _ _ _ rfl rfl rfl hown rfl (by omega) (hbel).size ?_; intro v' w1 hown1 hbel1 hne1)
          have F := (HF.out v' w1 (x1 - bo) (by simp)).2 hpos (by simpa using hown1)
          go_roundw
          case rel => exact ⟨k + 1, by omega, by go_num, F.1, F.2, hne1, hbel.trans hbel1⟩
          case measure => simp [intOf]; omega
    · obtain rfl : k = n1 := by omega
      have hlt : N1 - N2 < 65536 ^ k := by omega
      have HL := Lib.hid hlt
      clear hst d1 d2 h1' h2' hl1 hl2 hlt hbo hle
      generalize (if N1 % 65536 ^ k < N2 % 65536 ^ k then (1 : Int) else 0) = bo
      obtain ⟨g, cap, rfl, hg, hgs, hnc, hcm, hcell⟩ := own_form hown hne
      have HC := Lib.hid (row_cells hcell)
      clear hcell hown
      go_wp2_with (go_at_call 113; refine (trim_any _ _ _ (dg 65536 (N1 - N2)) _ (by omega) hnc (fun _ => ⟨g, 0, rfl, fun i hi => by rw [Nat.zero_add]; exact HC.out i hi⟩)).mono ?_; rintro e w2 ⟨rfl, rfl⟩)
      go_ret
      exact ⟨_, _, _, rfl, natAt_of_row HL.out hnc hcm HC.out, hbel⟩
theorem small_any (n : Nat) (w : World) (hn : n ≤ 9000000000000000000) : Calls Tryz.prog 61 #[.int .i64 n] w (Gives .i64 65536 n w) := by
  obtain ⟨i0, hi, hz0, hz1, hz2⟩ := info_parts infoInt
  go_enter Tryz.func61, Tryz.ntmps61
  go_wp2
  go_loopw [0, 3] (fun m out wr => ∃ k : Nat, k ≤ 5 ∧ m = .int .i64 (n / 65536 ^ k : Nat) ∧ (k = 0 ∨ 65536 ^ (k - 1) ≤ n) ∧
      wr.ownsRow w.heap.size 3 1 out k ((List.range k).map (dig n)) ∧ out ≠ .slice none 0 0 ∧ Below w.heap.size w wr)
    (fun m _ _ => (intOf m).toNat)
  case atStart => exact ⟨0, Nat.zero_le _, by simp, .inl rfl, World.ownsRow_made w #[] 0 (Nat.le_refl _) (by simp [maxLen]) rfl, by simp, (Below.refl _ _).alloc (Nat.le_refl _) _⟩
  case round =>
    obtain ⟨k, hk, rfl, htop, hown, hne, hbel⟩ := hrel
    have hq : n / 65536 ^ k ≤ 9000000000000000000 := Nat.le_trans (Nat.div_le_self _ _) hn
    by_cases hpos : 0 < n / 65536 ^ k
    · have hk4 : k + 1 ≤ 5 := by
        have : 65536 ^ k ≤ n := by
          refine Nat.le_of_not_lt fun h => ?_
          rw [Nat.div_eq_of_lt h] at hpos; omega
        refine Nat.lt_of_not_le fun h => ?_
        obtain rfl : k = 5 := by omega
        simp at this; omega
      have ht : 65536 ^ k ≤ n := by
        refine Nat.le_of_not_lt fun h => ?_
        rw [Nat.div_eq_of_lt h] at hpos; omega
      have hd : n / 65536 ^ k % 65536 = dg 65536 n k := rfl
      have hs : n / 65536 ^ (k + 1) = n / 65536 ^ k / 65536 := by rw [Nat.pow_succ, Nat.div_div_eq_div_mul]
      have H1 := Lib.hid hd
      have H2 := Lib.hid hs
      have H3 := Lib.hid ht
      clear hd hs ht
      generalize n / 65536 ^ k = q at *
      go_wp2_with (at_builtin; refine wpList_app1 rfl _ _ 29 rfl w.heap.size 3 i0 _ 8 Tryz.underlying29 hi hz0 hz1 hz2 rfl (by decide) _ _ _ _ rfl rfl rfl hown rfl (by omega) (hbel).size ?_; intro v' w1 hown1 hbel1 hne1)
      have hown1 : w1.ownsRow w.heap.size 3 1 v' (k + 1) ((List.range (k + 1)).map (dig n)) := by
        rw [map_range_succ, dig, ← H1.out]; exact hown1
      go_roundw
      case rel => exact ⟨k + 1, hk4, by rw [H2.out]; rfl, .inr H3.out, hown1, hne1, hbel.trans hbel1⟩
      case measure => simp [intOf]; omega
    · have h0 : n / 65536 ^ k = 0 := Nat.eq_zero_of_not_pos hpos
      rw [h0]
      have hlt : n < 65536 ^ k := by
        refine Nat.lt_of_not_le fun h => ?_
        have := Nat.div_pos h (Nat.pow_pos (by decide))
        omega
      have HL := Lib.hid hlt
      have HT := Lib.hid htop
      clear hlt htop h0 hpos hq
      go_wp2
      obtain ⟨g, cap, rfl, hg, hgs, hnc, hcm, hcell⟩ := own_form hown hne
      have HC := Lib.hid (row_cells hcell)
      go_ret
      exact ⟨_, _, _, rfl, ⟨HL.out, HT.out, hnc, hcm, fun _ => ⟨g, 0, rfl, fun i hi => by rw [Nat.zero_add]; exact HC.out i hi⟩⟩, hbel⟩
def cmpI (X Y : Nat) : Int := if X < Y then -1 else if Y < X then 1 else 0
theorem cmp_any (a1 a2 : Option Addr) (n1 n2 c1 c2 N1 N2 : Nat) (w : World) (h1 : NatAt w a1 n1 c1 N1) (h2 : NatAt w a2 n2 c2 N2) (hb1 : n1 ≤ 1000000) (hb2 : n2 ≤ 1000000) :
    Calls Tryz.prog 53 #[.slice a1 n1 c1, .slice a2 n2 c2] w fun e w' => e = .returned (.int .i64 (cmpI N1 N2)) ∧ ∃ m, w' = w.drewN m := by
  rcases Nat.lt_trichotomy n1 n2 with hlt | heq | hgt
  · have hr : cmpI N1 N2 = -1 := if_pos (lt_of_len (by decide) h1.lt h2.top hlt)
    rw [hr]
    go_enter Tryz.func53, Tryz.ntmps53
    go_wp2
    go_ret
    exact ⟨rfl, 0, rfl⟩
  · subst heq
    go_enter Tryz.func53, Tryz.ntmps53
    go_wp2
    go_loopw [5] (fun i wr => ∃ m : Nat, m ≤ n1 ∧ i = .int .i64 ((m : Int) - 1) ∧ N1 / 65536 ^ m = N2 / 65536 ^ m ∧ ∃ q, wr = w.drewN q) (fun i _ => (intOf i + 1).toNat)
    case atStart => exact ⟨n1, Nat.le_refl _, rfl, by rw [Nat.div_eq_of_lt h1.lt, Nat.div_eq_of_lt h2.lt], 0, rfl⟩
    case round =>
      obtain ⟨m, hm, rfl, heq, q, rfl⟩ := hrel
      by_cases h0 : 0 < m
      · obtain ⟨k, rfl⟩ : ∃ k, m = k + 1 := ⟨m - 1, by omega⟩
        obtain ⟨b1, o1, rfl, _⟩ := h1.form (by omega)
        obtain ⟨b2, o2, rfl, _⟩ := h2.form (by omega)
        have e1 := h1.cell (i := k) (by omega)
        have e2 := h2.cell (i := k) (by omega)
        have HE := Lib.hid heq
        have hk : ((k + 1 : Nat) : Int) - 1 = k := by omega
        rw [hk]
        clear heq hk h1 h2
        rcases Nat.lt_trichotomy (dg 65536 N1 k) (dg 65536 N2 k) with hl | he | hg
        · have hr : cmpI N1 N2 = -1 := if_pos (lt_of_cut HE.out hl)
          have HR := Lib.hid hr
          clear hr
          have hb : decide ((dg 65536 N1 k : Int) < dg 65536 N2 k) = true := by simpa using hl
          generalize dg 65536 N1 k = x1 at *
          generalize dg 65536 N2 k = x2 at *
          go_wp2
          go_quiet (fail)
          go_wp2
          go_ret
          exact ⟨ret_int HR.out.symm, drewN_ex (by (try simp only [World.drewN_drewN]); exact rfl)⟩
        · have HEQ := Lib.hid (eq_of_cut HE.out he)
          generalize dg 65536 N1 k = x1 at *
          generalize dg 65536 N2 k = x2 at *
          subst he
          go_wp2
          go_quiet (fail)
          go_wp2
          go_quiet (fail)
          go_wp2
          go_roundw
          case rel => exact ⟨k, by omega, rfl, HEQ.out, drewN_ex (by (try simp only [World.drewN_drewN]); exact rfl)⟩
          case measure => simp [intOf]
        · have hr : cmpI N1 N2 = 1 := by
            have h := lt_of_cut HE.out.symm hg
            rw [cmpI, if_neg (by omega), if_pos h]
          have HR := Lib.hid hr
          clear hr
          have hb : decide ((dg 65536 N1 k : Int) < dg 65536 N2 k) = false := by simp; omega
          generalize dg 65536 N1 k = x1 at *
          generalize dg 65536 N2 k = x2 at *
          go_wp2
          go_quiet (fail)
          go_wp2
          go_quiet (fail)
          go_wp2
          go_ret
          exact ⟨ret_int HR.out.symm, drewN_ex (by (try simp only [World.drewN_drewN]); exact rfl)⟩
      · obtain rfl : m = 0 := by omega
        have hr : cmpI N1 N2 = 0 := by
          simp at heq
          rw [cmpI, if_neg (by omega), if_neg (by omega)]
        have HR := Lib.hid hr
        clear hr heq
        go_wp2
        go_ret
        exact ⟨ret_int HR.out.symm, drewN_ex (by (try simp only [World.drewN_drewN]); exact rfl)⟩
  · have h := lt_of_len (by decide) h2.lt h1.top hgt
    have hr : cmpI N1 N2 = 1 := by rw [cmpI, if_neg (by omega), if_pos h]
    rw [hr]
    go_enter Tryz.func53, Tryz.ntmps53
    go_wp2
    go_ret
    exact ⟨rfl, 0, rfl⟩
def GivesQ (Q r : Nat) (w : World) (e : Ending) (w' : World) : Prop :=
  ∃ a n c, e = .returned (.tuple #[.slice a n c, .int .i64 r]) ∧ NatAt w' a n c Q ∧ Below w.heap.size w w'
theorem rowIs_cells {w : World} {b : Nat} {t : TypeId} {n : Nat} {f : Nat → Value} (h : w.rowIs b t n f) : ∀ i, i < n → w.cell? ⟨b, i, none⟩ = some (f i) := fun _ hi => h.cell hi
theorem byDigit_any (a1 : Option Addr) (n1 c1 N d : Nat) (w : World) (h1 : NatAt w a1 n1 c1 N) (hb1 : n1 ≤ 1000000) (hd1 : 1 ≤ d) (hd2 : d ≤ 65535) :
    Calls Tryz.prog 177 #[.slice a1 n1 c1, .int .i64 d] w (GivesQ (N / d) (N % d) w) := by
  have hmk := run_make_row' (P := Tryz.prog) 29 3 (.int .i64 0) 8 Tryz.underlying29 infoInt rfl .i64 .i64 n1 (by omega) (by omega)
  go_enter Tryz.func177, Tryz.ntmps177
  go_wp2
  go_loopw [7, 8] (fun rest i wr => ∃ m : Nat, m ≤ n1 ∧ i = .int .i64 ((m : Int) - 1) ∧ rest = .int .i64 (N / 65536 ^ m % d : Nat) ∧
      wr.rowIs w.heap.size 3 n1 (fun j => if j < m then .int .i64 0 else dig (N / d) j) ∧ Below w.heap.size w wr)
    (fun _ i _ => (intOf i + 1).toNat)
  case atStart =>
    exact ⟨n1, Nat.le_refl _, rfl, by rw [Nat.div_eq_of_lt h1.lt]; simp, (World.rowIs_made w (.int .i64 0) n1 3).congr (fun i hi => by rw [if_pos hi]), (Below.refl _ _).alloc (Nat.le_refl _) _⟩
  case round =>
    obtain ⟨m, hm, rfl, rfl, hrow, hbel⟩ := hrel
    have h1' := h1.keep hbel
    have hl1 := h1.lt
    clear h1 hmk
    by_cases h0 : 0 < m
    · obtain ⟨k, rfl⟩ : ∃ k, m = k + 1 := ⟨m - 1, by omega⟩
      obtain ⟨b1, o1, rfl, _⟩ := h1'.form (by omega)
      have e1 := h1'.cell (i := k) (by omega)
      have d1 : dg 65536 N k < 65536 := dg_lt (by decide) _ _
      have hst := byDigit_step (B := 65536) (by decide) N d k (by omega)
      have hr : N / 65536 ^ (k + 1) % d < d := Nat.mod_lt _ (by omega)
      have hk : ((k + 1 : Nat) : Int) - 1 = k := by omega
      rw [hk]
      have hfz := hrow.frozen k
      have hlt := hrow.lt
      have hold := hrow.cell (i := k) (by omega)
      simp only [if_pos (Nat.lt_succ_self k)] at hold
      have HR := Lib.hid hrow
      have fin : ∀ (v : Int), v = ((N / 65536 ^ (k + 1) % d : Nat) : Int) * 65536 + (dg 65536 N k : Nat) →
          (wr.setCell ⟨w.heap.size, k, none⟩ (.int .i64 (v / d))).rowIs w.heap.size 3 n1 (fun j => if j < k then .int .i64 0 else dig (N / d) j) ∧ Value.int .i64 (v % d) = .int .i64 (N / 65536 ^ k % d : Nat) := by
        intro v hv
        have hv' : v = ((N / 65536 ^ (k + 1) % d * 65536 + dg 65536 N k : Nat) : Int) := by rw [hv]; simp
        refine ⟨(hrow.set k _).congr fun j hj => ?_, by rw [hv', ← hst.2]; simp⟩
        by_cases hjk : j = k
        · subst hjk
          rw [if_pos rfl, if_neg (by omega), dig, ← hst.1, hv']; simp
        · rw [if_neg hjk]
          by_cases hj2 : j < k
          · rw [if_pos hj2, if_pos (by omega)]
          · rw [if_neg hj2, if_neg (by omega)]
      have HF := Lib.hid fin
      clear fin hst hrow hl1 hk h1'
      generalize N / 65536 ^ (k + 1) % d = r at *
      generalize dg 65536 N k = x at *
      go_wp2
      have F := HF.out _ rfl
      go_roundw
      case rel => exact ⟨k, by omega, rfl, F.2, F.1, hbel.setCell (Nat.le_refl _) _⟩
      case measure => simp [intOf]
    · obtain rfl : m = 0 := by omega
      have hq : N / d < 65536 ^ n1 := Nat.lt_of_le_of_lt (Nat.div_le_self _ _) hl1
      have HL := Lib.hid hq
      have hrow' : wr.rowIs w.heap.size 3 n1 (dig (N / d)) := hrow.congr fun i hi => by simp
      have HC := Lib.hid (rowIs_cells hrow')
      have hr : N / 65536 ^ 0 % d = N % d := by simp
      rw [hr]
      clear hrow hrow' hl1 hq h1' hr
      go_wp2_with (go_at_call 113; refine (trim_any _ _ _ (dg 65536 (N / d)) _ (by omega) (Nat.le_refl _) (fun _ => ⟨_, 0, rfl, fun i hi => by rw [Nat.zero_add]; exact HC.out i hi⟩)).mono ?_; rintro e w2 ⟨rfl, rfl⟩)
      go_ret2
      exact ⟨_, _, _, rfl, natAt_of_row HL.out (Nat.le_refl _) (by unfold maxLen; omega) HC.out, hbel⟩
theorem len_any (a1 : Option Addr) (n1 c1 N : Nat) (w : World) (h1 : NatAt w a1 n1 c1 N) (hb1 : n1 ≤ 1000000) :
    Calls Tryz.prog 178 #[.slice a1 n1 c1] w fun e w' => e = .returned (.int .i64 (bl N : Nat)) ∧ w = w' := by
  by_cases h0 : n1 = 0
  · subst h0
    have hN : N = 0 := by have := h1.lt; simpa using this
    subst hN
    go_enter Tryz.func178, Tryz.ntmps178
    go_wp2
    go_ret
    exact ⟨rfl, rfl⟩
  · obtain ⟨k, rfl⟩ : ∃ k, n1 = k + 1 := ⟨n1 - 1, by omega⟩
    obtain ⟨b1, o1, rfl, _⟩ := h1.form (by omega)
    have e1 := h1.cell (i := k) (by omega)
    have htop : 65536 ^ k ≤ N := by
      rcases h1.top with h | h
      · omega
      · simpa using h
    have hN : N = 65536 ^ k * (dg 65536 N k) + N % 65536 ^ k := by
      have := mod_succ 65536 N k
      rw [Nat.mod_eq_of_lt h1.lt] at this; omega
    have hm : N % 65536 ^ k < 65536 ^ k := Nat.mod_lt _ (Nat.pow_pos (by decide))
    have hp : 65536 ^ k = 2 ^ (16 * k) := by rw [Nat.pow_mul]
    have hx : bl N = 16 * k + bl (dg 65536 N k) := by
      symm
      refine bl_unique ?_ ?_
      · rw [Nat.pow_add, ← hp]
        have h2 := bl_lt (dg 65536 N k)
        have : 65536 ^ k * (dg 65536 N k + 1) ≤ 65536 ^ k * 2 ^ bl (dg 65536 N k) := Nat.mul_le_mul_left _ h2
        rw [Nat.mul_add] at this
        omega
      · refine .inr ?_
        have hpos : 0 < dg 65536 N k := by
          refine Nat.pos_of_ne_zero fun h => ?_
          rw [h] at hN; simp at hN; omega
        have hb := bl_pos hpos
        rcases bl_top (dg 65536 N k) with h | h
        · omega
        · have : 16 * k + bl (dg 65536 N k) - 1 = 16 * k + (bl (dg 65536 N k) - 1) := by omega
          rw [this, Nat.pow_add, ← hp]
          have : 65536 ^ k * 2 ^ (bl (dg 65536 N k) - 1) ≤ 65536 ^ k * dg 65536 N k := Nat.mul_le_mul_left _ h
          omega
    have HX := Lib.hid hx
    have d1 : dg 65536 N k < 65536 := dg_lt (by decide) _ _
    clear hN hm hp hx htop h1 h0
    generalize dg 65536 N k = x at *
    go_enter Tryz.func178, Tryz.ntmps178
    go_wp2
    go_loop [3, 4] (fun n top => ∃ t j : Nat, top = .int .i64 t ∧ n = .int .i64 (16 * (k : Int) + j) ∧ j + bl t = bl x ∧ t ≤ x ∧ j ≤ 16 ∧ t * 2 ^ j ≤ x) (fun _ top => (intOf top).toNat)
    case atStart => exact ⟨x, 0, rfl, by simp, by simp, Nat.le_refl _, by omega, by simp⟩
    case round =>
      obtain ⟨t, j, rfl, rfl, hj, htx, hj16, hjt⟩ := hrel
      by_cases ht : 0 < t
      · have hh := bl_half ht
        have hj' : j + 1 ≤ 16 := by
          refine Nat.lt_of_not_le fun h => ?_
          obtain rfl : j = 16 := by omega
          have : 1 * 2 ^ 16 ≤ t * 2 ^ 16 := Nat.mul_le_mul_right _ ht
          omega
        have hjt' : t / 2 * 2 ^ (j + 1) ≤ x := by
          have : t / 2 * 2 ≤ t := Nat.div_mul_le_self _ _
          have := Nat.mul_le_mul_right (2 ^ j) this
          rw [Nat.pow_succ, Nat.mul_comm (2 ^ j) 2, ← Nat.mul_assoc]
          omega
        have H1 := Lib.hid hj
        have H2 := Lib.hid hh
        have H3 := Lib.hid hjt'
        clear hj hh hjt hjt'
        go_wp2
        go_round
        case rel => exact ⟨t / 2, j + 1, rfl, by simp; omega, by have := H1.out; have := H2.out; omega, by omega, hj', H3.out⟩
        case measure => simp [intOf]; omega
      · obtain rfl : t = 0 := by omega
        have H1 := Lib.hid hj
        clear hj hjt
        go_wp2
        go_ret
        exact ⟨ret_int (by have := H1.out; have := HX.out; rw [bl_zero] at *; omega), rfl⟩
end Go.Proofs.YtececkbcinmmpaaGreatDoor
