/-
  The reference's natural numbers: trim and Add compute what they say.
-/
import Derived.Test.YtdepmbpickonoaaGreatDoorKitP
set_option linter.unusedSimpArgs false
set_option linter.unusedVariables false
namespace Go.Proofs.YtdepmbpickonoaaGreatDoor
open Go.RowKit Go.Bg Dg

set_option maxHeartbeats 400000 in
theorem trim_any (a : Option Addr) (n c : Nat) (f : Nat → Nat) (w : World)
    (hn : n ≤ 1000000000) (hnc : n ≤ c) (hc : Cells w a n (fun i => .int .i64 (f i : Nat))) :
    Calls Tryz.prog 92 #[.slice a n c] w fun e w' => e = .returned (.slice a (tlen f n) c) ∧ w = w' := by
  go_enter Tryz.func92, Tryz.ntmps92
  go_wp2
  go_loop [0] (fun v => ∃ m : Nat, m ≤ n ∧ v = .slice a m c ∧ tlen f m = tlen f n) (fun v => sliceLen v)
  case atStart => exact ⟨n, Nat.le_refl _, rfl, rfl⟩
  case round =>
    obtain ⟨m, hm, rfl, ht⟩ := hrel
    have HT := Lib.hid ht; clear ht
    by_cases h0 : 0 < m
    · obtain ⟨b, off, rfl, hcell⟩ := hc (by omega)
      have hcm := hcell (m - 1) (by omega)
      obtain ⟨k, rfl⟩ : ∃ k, m = k + 1 := ⟨m - 1, by omega⟩
      clear hc hcell
      simp only [Nat.add_sub_cancel] at hcm
      go_wp2
      · have hz : ((f k : Int) == 0) = true := by assumption
        have hz : f k = 0 := by simpa using hz
        go_round
        case rel => exact ⟨k, by omega, rfl, by rw [← HT.out, tlen, if_pos hz]⟩
        case measure => simp [sliceLen]
      · have hz : ((f k : Int) == 0) = false := by assumption
        have hz : f k ≠ 0 := by simpa using hz
        go_ret
        exact ⟨ret_slice (by rw [← HT.out, tlen, if_neg hz]), rfl⟩
    · obtain rfl : m = 0 := by omega
      go_wp2
      go_ret
      exact ⟨ret_slice HT.out, rfl⟩

def dig (X k : Nat) : Value := .int .i64 (dg 65536 X k : Nat)

/-- digits that lie in a row are a number when the zeros at the end are left out -/
theorem natAt_of_row {w : World} {g n cap X : Nat} (hX : X < 65536 ^ n) (hnc : n ≤ cap) (hcm : cap ≤ maxLen) (hcell : ∀ i, i < n → w.cell? ⟨g, i, none⟩ = some (dig X i)) :
    NatAt w (some ⟨g, 0, none⟩) (tlen (dg 65536 X) n) cap X :=
  ⟨tlen_lt hX, tlen_top hX, Nat.le_trans (tlen_le _ _) hnc, hcm, fun _ => ⟨g, 0, rfl, fun i hi => by rw [Nat.zero_add]; exact hcell i (Nat.lt_of_lt_of_le hi (tlen_le _ _))⟩⟩

theorem row_cells {w : World} {g n : Nat} {f : Nat → Value} (h : ∀ i, i < n → w.cell? ⟨g, i, none⟩ = ((List.range n).map f)[i]?) : ∀ i, i < n → w.cell? ⟨g, i, none⟩ = some (f i) := by
  intro i hi
  rw [h i hi]; simp [hi]

set_option maxRecDepth 100000 in
set_option maxHeartbeats 1000000 in
theorem add_any (a1 a2 : Option Addr) (n1 n2 c1 c2 N1 N2 : Nat) (w : World) (h1 : NatAt w a1 n1 c1 N1) (h2 : NatAt w a2 n2 c2 N2) (hb1 : n1 ≤ 1000000) (hb2 : n2 ≤ 1000000) :
    Calls Tryz.prog 34 #[.slice a1 n1 c1, .slice a2 n2 c2] w (Gives .i64 65536 (N1 + N2) w) := by
  obtain ⟨i0, hi, hz0, hz1, hz2⟩ := info_parts infoInt
  go_enter Tryz.func34, Tryz.ntmps34
  go_wp2
  go_loopw [5, 6, 7] (fun out carry i wr => ∃ k : Nat, (k ≤ n1 ∨ k ≤ n2) ∧ i = .int .i64 k ∧ carry = .int .i64 ((N1 % 65536 ^ k + N2 % 65536 ^ k) / 65536 ^ k : Nat) ∧
      wr.ownsRow w.heap.size 3 1 out k ((List.range k).map (dig (N1 + N2))) ∧ out ≠ .slice none 0 0 ∧ Below w.heap.size w wr)
    (fun _ _ i _ => (n1 - (intOf i).toNat) + (n2 - (intOf i).toNat))
  case atStart => exact ⟨0, .inl (Nat.zero_le _), rfl, by simp [Nat.mod_one], World.ownsRow_made w #[] 0 (Nat.le_refl _) (by simp [maxLen]) rfl, by simp, (Below.refl _ _).alloc (Nat.le_refl _) _⟩
  case round =>
    obtain ⟨k, hk, rfl, rfl, hown, hne, hbel⟩ := hrel
    have h1' := h1.keep hbel
    have h2' := h2.keep hbel
    have hl1 := h1.lt
    have hl2 := h2.lt
    clear h1 h2
    have d1 : dg 65536 N1 k < 65536 := dg_lt (by decide) _ _
    have d2 : dg 65536 N2 k < 65536 := dg_lt (by decide) _ _
    have hcy : (N1 % 65536 ^ k + N2 % 65536 ^ k) / 65536 ^ k ≤ 1 := add_carry_le (by decide) _ _ _
    have hst := add_step (B := 65536) (by decide) N1 N2 k
    by_cases hend : k < n1 ∨ k < n2
    · have z1 : ¬ k < n1 → dg 65536 N1 k = 0 := fun h => dg_of_lt (Nat.lt_of_lt_of_le hl1 (Nat.pow_le_pow_right (by decide) (by omega)))
      have z2 : ¬ k < n2 → dg 65536 N2 k = 0 := fun h => dg_of_lt (Nat.lt_of_lt_of_le hl2 (Nat.pow_le_pow_right (by decide) (by omega)))
      have fin : ∀ (v : Value) (w1 : World) (u : Nat), u = ((N1 % 65536 ^ k + N2 % 65536 ^ k) / 65536 ^ k + dg 65536 N1 k + dg 65536 N2 k) → w1.ownsRow w.heap.size 3 1 v (k + 1) ((List.range k).map (dig (N1 + N2)) ++ [.int .i64 ((u : Int) % 65536)]) →
          (Value.int .i64 ((u : Int) / 65536) = .int .i64 ((N1 % 65536 ^ (k + 1) + N2 % 65536 ^ (k + 1)) / 65536 ^ (k + 1) : Nat)) ∧ w1.ownsRow w.heap.size 3 1 v (k + 1) ((List.range (k + 1)).map (dig (N1 + N2))) := by
        intro v w1 u hu ho
        rw [← hu] at hst
        refine ⟨by rw [← hst.2]; rfl, ?_⟩
        rw [map_range_succ, dig, ← hst.1]; exact ho
      generalize (N1 % 65536 ^ k + N2 % 65536 ^ k) / 65536 ^ k = cy at hst hcy fin ⊢
      have HF := Lib.hid fin
      clear fin hst hl1 hl2
      by_cases k1 : k < n1
      · obtain ⟨b1, o1, rfl, _⟩ := h1'.form (by omega)
        have e1 := h1'.cell k1
        generalize dg 65536 N1 k = x1 at HF d1 e1 z1
        clear z1 h1'
        by_cases k2 : k < n2
        · obtain ⟨b2, o2, rfl, _⟩ := h2'.form (by omega)
          have e2 := h2'.cell k2
          generalize dg 65536 N2 k = x2 at HF d2 e2 z2
          clear z2 h2'
          go_wp2_with (at_builtin; refine wpList_app1 rfl _ _ 29 rfl w.heap.size 3 i0 _ 8 Tryz.underlying29 hi hz0 hz1 hz2 rfl (by decide) _ _ _ _ rfl rfl rfl hown rfl (by omega) (hbel).size ?_; intro v' w1 hown1 hbel1 hne1)
          have F := HF.out v' w1 (cy + x1 + x2) rfl (by simpa using hown1)
          go_roundw
          case rel => exact ⟨k + 1, by omega, by go_num, by rw [← F.1]; simp, F.2, hne1, hbel.trans hbel1⟩
          case measure => simp [intOf]; omega
        · have e0 := z2 k2
          rw [e0] at HF
          clear e0 z2 h2' d2
          go_wp2_with (at_builtin; refine wpList_app1 rfl _ _ 29 rfl w.heap.size 3 i0 _ 8 Tryz.underlying29 hi hz0 hz1 hz2 rfl (by decide) _ _ _ _ rfl rfl rfl hown rfl (by omega) (hbel).size ?_; intro v' w1 hown1 hbel1 hne1)
          have F := HF.out v' w1 (cy + x1) rfl (by simpa using hown1)
          go_roundw
          case rel => exact ⟨k + 1, by omega, by go_num, by rw [← F.1]; simp, F.2, hne1, hbel.trans hbel1⟩
          case measure => simp [intOf]; omega
      · have e0 := z1 k1
        rw [e0] at HF
        clear e0 z1 h1' d1
        have k2 : k < n2 := by omega
        obtain ⟨b2, o2, rfl, _⟩ := h2'.form (by omega)
        have e2 := h2'.cell k2
        generalize dg 65536 N2 k = x2 at HF d2 e2 z2
        clear z2 h2'
        go_wp2_with (at_builtin; refine wpList_app1 rfl _ _ 29 rfl w.heap.size 3 i0 _ 8 Tryz.underlying29 hi hz0 hz1 hz2 rfl (by decide) _ _ _ _ rfl rfl rfl hown rfl (by omega) (hbel).size ?_; intro v' w1 hown1 hbel1 hne1)
        have F := HF.out v' w1 (cy + x2) (by omega) (by simpa using hown1)
        go_roundw
        case rel => exact ⟨k + 1, by omega, by go_num, by rw [← F.1]; simp, F.2, hne1, hbel.trans hbel1⟩
        case measure => simp [intOf]; omega
    · have k1 : ¬ k < n1 := by omega
      have k2 : ¬ k < n2 := by omega
      have m1 : N1 % 65536 ^ k = N1 := Nat.mod_eq_of_lt (Nat.lt_of_lt_of_le hl1 (Nat.pow_le_pow_right (by decide) (by omega)))
      have m2 : N2 % 65536 ^ k = N2 := Nat.mod_eq_of_lt (Nat.lt_of_lt_of_le hl2 (Nat.pow_le_pow_right (by decide) (by omega)))
      have hlt : N1 + N2 < 65536 ^ (k + 1) := by
        have : 65536 ^ n1 ≤ 65536 ^ k := Nat.pow_le_pow_right (by decide) (by omega)
        have : 65536 ^ n2 ≤ 65536 ^ k := Nat.pow_le_pow_right (by decide) (by omega)
        rw [Nat.pow_succ]; omega
      rw [m1, m2] at hcy ⊢
      have hd : (N1 + N2) / 65536 ^ k = dg 65536 (N1 + N2) k := by
        rw [dg, Nat.mod_eq_of_lt (by omega)]
      rw [hd]
      have HL := Lib.hid hlt
      clear hst d1 d2 h1' h2' hl1 hl2 m1 m2 hcy hd hlt
      go_wp2_with (at_builtin; refine wpList_app1 rfl _ _ 29 rfl w.heap.size 3 i0 _ 8 Tryz.underlying29 hi hz0 hz1 hz2 rfl (by decide) _ _ _ _ rfl rfl rfl hown rfl (by omega) (hbel).size ?_; intro v' w1 hown1 hbel1 hne1)
      have hown1 : w1.ownsRow w.heap.size 3 1 v' (k + 1) ((List.range (k + 1)).map (dig (N1 + N2))) := by rw [map_range_succ]; exact hown1
      obtain ⟨g, cap, rfl, hg, hgs, hnc, hcm, hcell⟩ := own_form hown1 hne1
      have HC := Lib.hid (row_cells hcell)
      clear hcell hown1 hown
      refine (trim_any _ _ _ (dg 65536 (N1 + N2)) _ (by omega) hnc (fun _ => ⟨g, 0, rfl, fun i hi => by rw [Nat.zero_add]; exact HC.out i hi⟩)).mono ?_
      rintro e w2 ⟨rfl, rfl⟩
      go_wp2
      go_ret
      exact ⟨_, _, _, rfl, natAt_of_row HL.out hnc hcm HC.out, hbel.trans hbel1⟩
end Go.Proofs.YtdepmbpickonoaaGreatDoor
