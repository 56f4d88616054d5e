/-
  The reference's natural numbers: Sub, Small, Cmp compute what they say.
-/
import Derived.Test.YtdepmbpickonoaaGreatDoorSpec1
set_option linter.unusedSimpArgs false
set_option linter.unusedVariables false
namespace Go.Proofs.YtdepmbpickonoaaGreatDoor
open Go.RowKit Go.Bg Dg

set_option maxRecDepth 100000 in
set_option maxHeartbeats 1000000 in
theorem sub_any (a1 a2 : Option Addr) (n1 n2 c1 c2 N1 N2 : Nat) (w : World) (h1 : NatAt w a1 n1 c1 N1) (h2 : NatAt w a2 n2 c2 N2) (hb1 : n1 ≤ 1000000) (hb2 : n2 ≤ 1000000) (hle : N2 ≤ N1) :
    Calls Tryz.prog 36 #[.slice a1 n1 c1, .slice a2 n2 c2] w (Gives .i64 65536 (N1 - N2) w) := by
  obtain ⟨i0, hi, hz0, hz1, hz2⟩ := info_parts infoInt
  go_enter Tryz.func36, Tryz.ntmps36
  go_wp2
  go_loopw [5, 6, 7, 8, 12] (fun out borrow _ _ i wr => ∃ k : Nat, k ≤ n1 ∧ i = .int .i64 k ∧ borrow = .int .i64 (if N1 % 65536 ^ k < N2 % 65536 ^ k then 1 else 0) ∧
      wr.ownsRow w.heap.size 3 1 out k ((List.range k).map (dig (N1 - N2))) ∧ out ≠ .slice none 0 0 ∧ Below w.heap.size w wr)
    (fun _ _ _ _ i _ => n1 - (intOf i).toNat)
  case atStart => exact ⟨0, Nat.zero_le _, rfl, by simp [Nat.mod_one], World.ownsRow_made w #[] 0 (Nat.le_refl _) (by simp [maxLen]) rfl, by simp, (Below.refl _ _).alloc (Nat.le_refl _) _⟩
  case round =>
    obtain ⟨k, hk, rfl, rfl, hown, hne, hbel⟩ := hrel
    have h1' := h1.keep hbel
    have h2' := h2.keep hbel
    have hl1 := h1.lt
    have hl2 := h2.lt
    clear h1 h2
    have d1 : dg 65536 N1 k < 65536 := dg_lt (by decide) _ _
    have d2 : dg 65536 N2 k < 65536 := dg_lt (by decide) _ _
    have hst := sub_step (B := 65536) (by decide) N1 N2 k hle
    have hbo : (0 : Int) ≤ (if N1 % 65536 ^ k < N2 % 65536 ^ k then 1 else 0) ∧ (if N1 % 65536 ^ k < N2 % 65536 ^ k then 1 else 0) ≤ (1 : Int) := by split <;> omega
    by_cases k1 : k < n1
    · have z2 : ¬ k < n2 → dg 65536 N2 k = 0 := fun h => dg_of_lt (Nat.lt_of_lt_of_le hl2 (Nat.pow_le_pow_right (by decide) (by omega)))
      have fin : ∀ (v : Value) (w1 : World) (t : Int), t = (dg 65536 N1 k : Int) - (if N1 % 65536 ^ k < N2 % 65536 ^ k then 1 else 0) - dg 65536 N2 k →
          (t < 0 → w1.ownsRow w.heap.size 3 1 v (k + 1) ((List.range k).map (dig (N1 - N2)) ++ [.int .i64 (t + 65536)]) →
            Value.int .i64 1 = .int .i64 (if N1 % 65536 ^ (k + 1) < N2 % 65536 ^ (k + 1) then 1 else 0) ∧ w1.ownsRow w.heap.size 3 1 v (k + 1) ((List.range (k + 1)).map (dig (N1 - N2)))) ∧
          (0 ≤ t → w1.ownsRow w.heap.size 3 1 v (k + 1) ((List.range k).map (dig (N1 - N2)) ++ [.int .i64 t]) →
            Value.int .i64 0 = .int .i64 (if N1 % 65536 ^ (k + 1) < N2 % 65536 ^ (k + 1) then 1 else 0) ∧ w1.ownsRow w.heap.size 3 1 v (k + 1) ((List.range (k + 1)).map (dig (N1 - N2)))) := by
        intro v w1 t ht
        rw [← ht] at hst
        refine ⟨fun hneg ho => ?_, fun hpos ho => ?_⟩
        · obtain ⟨e1, e2⟩ := hst.1 hneg
          refine ⟨by rw [if_pos e2], ?_⟩
          rw [map_range_succ, dig, e1]; exact ho
        · obtain ⟨e1, e2⟩ := hst.2 (by omega)
          refine ⟨by rw [if_neg e2], ?_⟩
          rw [map_range_succ, dig, e1]; exact ho
      generalize (if N1 % 65536 ^ k < N2 % 65536 ^ k then (1 : Int) else 0) = bo at hst hbo fin ⊢
      obtain ⟨hbo1, hbo2⟩ := hbo
      have HF := Lib.hid fin
      clear fin hst hl1 hl2 hle
      obtain ⟨b1, o1, rfl, _⟩ := h1'.form (by omega)
      have e1 := h1'.cell k1
      generalize dg 65536 N1 k = x1 at HF d1 e1
      clear h1'
      by_cases k2 : k < n2
      · obtain ⟨b2, o2, rfl, _⟩ := h2'.form (by omega)
        have e2 := h2'.cell k2
        generalize dg 65536 N2 k = x2 at HF d2 e2 z2
        clear z2 h2'
        by_cases hneg : (x1 : Int) - bo - x2 < 0
        · go_wp2_with (at_builtin; refine wpList_app1 rfl _ _ 29 rfl w.heap.size 3 i0 _ 8 Tryz.underlying29 hi hz0 hz1 hz2 rfl (by decide) _ _ _ _ rfl rfl rfl hown rfl (by omega) (hbel).size ?_; intro v' w1 hown1 hbel1 hne1)
          have F := (HF.out v' w1 (x1 - bo - x2) rfl).1 hneg (by simpa using hown1)
          go_roundw
          case rel => exact ⟨k + 1, by omega, by go_num, F.1, F.2, hne1, hbel.trans hbel1⟩
          case measure => simp [intOf]; omega
        · have hpos : 0 ≤ (x1 : Int) - bo - x2 := by omega
          go_wp2_with (at_builtin; refine wpList_app1 rfl _ _ 29 rfl w.heap.size 3 i0 _ 8 Tryz.underlying29 hi hz0 hz1 hz2 rfl (by decide) _ _ _ _ rfl rfl rfl hown rfl (by omega) (hbel).size ?_; intro v' w1 hown1 hbel1 hne1)
          have F := (HF.out v' w1 (x1 - bo - x2) rfl).2 hpos (by simpa using hown1)
          go_roundw
          case rel => exact ⟨k + 1, by omega, by go_num, F.1, F.2, hne1, hbel.trans hbel1⟩
          case measure => simp [intOf]; omega
      · have e0 := z2 k2
        rw [e0] at HF
        clear e0 z2 h2' d2
        by_cases hneg : (x1 : Int) - bo < 0
        · go_wp2_with (at_builtin; refine wpList_app1 rfl _ _ 29 rfl w.heap.size 3 i0 _ 8 Tryz.underlying29 hi hz0 hz1 hz2 rfl (by decide) _ _ _ _ rfl rfl rfl hown rfl (by omega) (hbel).size ?_; intro v' w1 hown1 hbel1 hne1)
          have F := (HF.out v' w1 (x1 - bo) (by simp)).1 hneg (by simpa using hown1)
          go_roundw
          case rel => exact ⟨k + 1, by omega, by go_num, F.1, F.2, hne1, hbel.trans hbel1⟩
          case measure => simp [intOf]; omega
        · have hpos : 0 ≤ (x1 : Int) - bo := by omega
          go_wp2_with (at_builtin; refine wpList_app1 rfl _ _ 29 rfl w.heap.size 3 i0 _ 8 Tryz.underlying29 hi hz0 hz1 hz2 rfl (by decide) _ _ _ _ rfl rfl rfl hown rfl (by omega) (hbel).size ?_; intro v' w1 hown1 hbel1 hne1)
          have F := (HF.out v' w1 (x1 - bo) (by simp)).2 hpos (by simpa using hown1)
          go_roundw
          case rel => exact ⟨k + 1, by omega, by go_num, F.1, F.2, hne1, hbel.trans hbel1⟩
          case measure => simp [intOf]; omega
    · obtain rfl : k = n1 := by omega
      have hlt : N1 - N2 < 65536 ^ k := by omega
      have HL := Lib.hid hlt
      clear hst d1 d2 h1' h2' hl1 hl2 hlt hbo hle
      generalize (if N1 % 65536 ^ k < N2 % 65536 ^ k then (1 : Int) else 0) = bo
      obtain ⟨g, cap, rfl, hg, hgs, hnc, hcm, hcell⟩ := own_form hown hne
      have HC := Lib.hid (row_cells hcell)
      clear hcell hown
      go_wp2_with (go_at_call 92; refine (trim_any _ _ _ (dg 65536 (N1 - N2)) _ (by omega) hnc (fun _ => ⟨g, 0, rfl, fun i hi => by rw [Nat.zero_add]; exact HC.out i hi⟩)).mono ?_; rintro e w2 ⟨rfl, rfl⟩)
      go_ret
      exact ⟨_, _, _, rfl, natAt_of_row HL.out hnc hcm HC.out, hbel⟩

set_option maxRecDepth 100000 in
set_option maxHeartbeats 1000000 in
theorem small_any (n : Nat) (w : World) (hn : n ≤ 9000000000000000000) : Calls Tryz.prog 95 #[.int .i64 n] w (Gives .i64 65536 n w) := by
  obtain ⟨i0, hi, hz0, hz1, hz2⟩ := info_parts infoInt
  go_enter Tryz.func95, Tryz.ntmps95
  go_wp2
  go_loopw [0, 3] (fun m out wr => ∃ k : Nat, k ≤ 5 ∧ m = .int .i64 (n / 65536 ^ k : Nat) ∧ (k = 0 ∨ 65536 ^ (k - 1) ≤ n) ∧
      wr.ownsRow w.heap.size 3 1 out k ((List.range k).map (dig n)) ∧ out ≠ .slice none 0 0 ∧ Below w.heap.size w wr)
    (fun m _ _ => (intOf m).toNat)
  case atStart => exact ⟨0, Nat.zero_le _, by simp, .inl rfl, World.ownsRow_made w #[] 0 (Nat.le_refl _) (by simp [maxLen]) rfl, by simp, (Below.refl _ _).alloc (Nat.le_refl _) _⟩
  case round =>
    obtain ⟨k, hk, rfl, htop, hown, hne, hbel⟩ := hrel
    have hq : n / 65536 ^ k ≤ 9000000000000000000 := Nat.le_trans (Nat.div_le_self _ _) hn
    by_cases hpos : 0 < n / 65536 ^ k
    · have hk4 : k + 1 ≤ 5 := by
        have : 65536 ^ k ≤ n := by
          refine Nat.le_of_not_lt fun h => ?_
          rw [Nat.div_eq_of_lt h] at hpos; omega
        refine Nat.lt_of_not_le fun h => ?_
        obtain rfl : k = 5 := by omega
        simp at this; omega
      have ht : 65536 ^ k ≤ n := by
        refine Nat.le_of_not_lt fun h => ?_
        rw [Nat.div_eq_of_lt h] at hpos; omega
      have hd : n / 65536 ^ k % 65536 = dg 65536 n k := rfl
      have hs : n / 65536 ^ (k + 1) = n / 65536 ^ k / 65536 := by rw [Nat.pow_succ, Nat.div_div_eq_div_mul]
      have H1 := Lib.hid hd
      have H2 := Lib.hid hs
      have H3 := Lib.hid ht
      clear hd hs ht
      generalize n / 65536 ^ k = q at *
      go_wp2_with (at_builtin; refine wpList_app1 rfl _ _ 29 rfl w.heap.size 3 i0 _ 8 Tryz.underlying29 hi hz0 hz1 hz2 rfl (by decide) _ _ _ _ rfl rfl rfl hown rfl (by omega) (hbel).size ?_; intro v' w1 hown1 hbel1 hne1)
      have hown1 : w1.ownsRow w.heap.size 3 1 v' (k + 1) ((List.range (k + 1)).map (dig n)) := by
        rw [map_range_succ, dig, ← H1.out]; exact hown1
      go_roundw
      case rel => exact ⟨k + 1, hk4, by rw [H2.out]; rfl, .inr H3.out, hown1, hne1, hbel.trans hbel1⟩
      case measure => simp [intOf]; omega
    · have h0 : n / 65536 ^ k = 0 := Nat.eq_zero_of_not_pos hpos
      rw [h0]
      have hlt : n < 65536 ^ k := by
        refine Nat.lt_of_not_le fun h => ?_
        have := Nat.div_pos h (Nat.pow_pos (by decide))
        omega
      have HL := Lib.hid hlt
      have HT := Lib.hid htop
      clear hlt htop h0 hpos hq
      go_wp2
      obtain ⟨g, cap, rfl, hg, hgs, hnc, hcm, hcell⟩ := own_form hown hne
      have HC := Lib.hid (row_cells hcell)
      go_ret
      exact ⟨_, _, _, rfl, ⟨HL.out, HT.out, hnc, hcm, fun _ => ⟨g, 0, rfl, fun i hi => by rw [Nat.zero_add]; exact HC.out i hi⟩⟩, hbel⟩

/-- -1, 0 or 1 -/
def cmpI (X Y : Nat) : Int := if X < Y then -1 else if Y < X then 1 else 0

set_option maxRecDepth 100000 in
set_option maxHeartbeats 1000000 in
theorem cmp_any (a1 a2 : Option Addr) (n1 n2 c1 c2 N1 N2 : Nat) (w : World) (h1 : NatAt w a1 n1 c1 N1) (h2 : NatAt w a2 n2 c2 N2) (hb1 : n1 ≤ 1000000) (hb2 : n2 ≤ 1000000) :
    Calls Tryz.prog 35 #[.slice a1 n1 c1, .slice a2 n2 c2] w fun e w' => e = .returned (.int .i64 (cmpI N1 N2)) ∧ ∃ m, w' = w.drewN m := by
  rcases Nat.lt_trichotomy n1 n2 with hlt | heq | hgt
  · have hr : cmpI N1 N2 = -1 := if_pos (lt_of_len (by decide) h1.lt h2.top hlt)
    rw [hr]
    go_enter Tryz.func35, Tryz.ntmps35
    go_wp2
    go_ret
    exact ⟨rfl, 0, rfl⟩
  · subst heq
    go_enter Tryz.func35, Tryz.ntmps35
    go_wp2
    go_loopw [5] (fun i wr => ∃ m : Nat, m ≤ n1 ∧ i = .int .i64 ((m : Int) - 1) ∧ N1 / 65536 ^ m = N2 / 65536 ^ m ∧ ∃ q, wr = w.drewN q) (fun i _ => (intOf i + 1).toNat)
    case atStart => exact ⟨n1, Nat.le_refl _, rfl, by rw [Nat.div_eq_of_lt h1.lt, Nat.div_eq_of_lt h2.lt], 0, rfl⟩
    case round =>
      obtain ⟨m, hm, rfl, heq, q, rfl⟩ := hrel
      by_cases h0 : 0 < m
      · obtain ⟨k, rfl⟩ : ∃ k, m = k + 1 := ⟨m - 1, by omega⟩
        obtain ⟨b1, o1, rfl, _⟩ := h1.form (by omega)
        obtain ⟨b2, o2, rfl, _⟩ := h2.form (by omega)
        have e1 := h1.cell (i := k) (by omega)
        have e2 := h2.cell (i := k) (by omega)
        have HE := Lib.hid heq
        have hk : ((k + 1 : Nat) : Int) - 1 = k := by omega
        rw [hk]
        clear heq hk h1 h2
        rcases Nat.lt_trichotomy (dg 65536 N1 k) (dg 65536 N2 k) with hl | he | hg
        · have hr : cmpI N1 N2 = -1 := if_pos (lt_of_cut HE.out hl)
          have HR := Lib.hid hr
          clear hr
          have hb : decide ((dg 65536 N1 k : Int) < dg 65536 N2 k) = true := by simpa using hl
          generalize dg 65536 N1 k = x1 at *
          generalize dg 65536 N2 k = x2 at *
          go_wp2
          go_quiet (fail)
          go_wp2
          go_ret
          exact ⟨ret_int HR.out.symm, drewN_ex (by (try simp only [World.drewN_drewN]); exact rfl)⟩
        · have HEQ := Lib.hid (eq_of_cut HE.out he)
          generalize dg 65536 N1 k = x1 at *
          generalize dg 65536 N2 k = x2 at *
          subst he
          go_wp2
          go_quiet (fail)
          go_wp2
          go_quiet (fail)
          go_wp2
          go_roundw
          case rel => exact ⟨k, by omega, rfl, HEQ.out, drewN_ex (by (try simp only [World.drewN_drewN]); exact rfl)⟩
          case measure => simp [intOf]
        · have hr : cmpI N1 N2 = 1 := by
            have h := lt_of_cut HE.out.symm hg
            rw [cmpI, if_neg (by omega), if_pos h]
          have HR := Lib.hid hr
          clear hr
          have hb : decide ((dg 65536 N1 k : Int) < dg 65536 N2 k) = false := by simp; omega
          generalize dg 65536 N1 k = x1 at *
          generalize dg 65536 N2 k = x2 at *
          go_wp2
          go_quiet (fail)
          go_wp2
          go_quiet (fail)
          go_wp2
          go_ret
          exact ⟨ret_int HR.out.symm, drewN_ex (by (try simp only [World.drewN_drewN]); exact rfl)⟩
      · obtain rfl : m = 0 := by omega
        have hr : cmpI N1 N2 = 0 := by
          simp at heq
          rw [cmpI, if_neg (by omega), if_neg (by omega)]
        have HR := Lib.hid hr
        clear hr heq
        go_wp2
        go_ret
        exact ⟨ret_int HR.out.symm, drewN_ex (by (try simp only [World.drewN_drewN]); exact rfl)⟩
  · have h := lt_of_len (by decide) h2.lt h1.top hgt
    have hr : cmpI N1 N2 = 1 := by rw [cmpI, if_neg (by omega), if_pos h]
    rw [hr]
    go_enter Tryz.func35, Tryz.ntmps35
    go_wp2
    go_ret
    exact ⟨rfl, 0, rfl⟩
end Go.Proofs.YtdepmbpickonoaaGreatDoor
