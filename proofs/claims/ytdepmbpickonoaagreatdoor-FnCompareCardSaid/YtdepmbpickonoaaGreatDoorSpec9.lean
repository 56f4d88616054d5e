/-
  The reference's fractions: Whole, Negated, SignOf, Over, Plus, Minus.
-/
import Derived.Test.YtdepmbpickonoaaGreatDoorSpec8
import Derived.Test.YtdepmbpickonoaaGreatDoorRt
import Derived.Deep.RegionHeld3
set_option linter.unusedSimpArgs false
set_option linter.unusedVariables false
namespace Go.Proofs.YtdepmbpickonoaaGreatDoor
open Go.RowKit Go.Bg Dg

set_option maxHeartbeats 1000000 in
theorem whole_any (s : Bool) (a : Option Addr) (n c N L : Nat) (w : World) (h : NatAt w a n c N) (hL : N < 65536 ^ L) (hL1 : 1 ≤ L) (hL2 : L ≤ 400000) :
    Calls Tryz.prog 37 #[.bool s, .slice a n c] w (GivesR (Rt.whole s N) L w) := by
  have hlen := h.len16 hL
  have hp := natAt_pos_len h
  have HP := Lib.hid hp
  have HH := Lib.hid h
  clear hp h
  have R0 := ResBlk.alloc w 31
  have H1 := Lib.hid (show 1 < 65536 ^ L from Nat.one_lt_pow (by omega) (by decide))
  cases s
  · go_enter Tryz.func37, Tryz.ntmps37
    go_wp2_with fail
    refine (small_any 1 _ (by omega)).mono ?_
    rintro e w1 ⟨a', n', c', rfl, hD, hB⟩
    have R := R0.below (by simp) hB
    obtain ⟨⟨u0, r0⟩, ⟨u1, r1⟩, ⟨u2, r2⟩⟩ := (R).cells; have f0 := (R).frozen 0; have f1 := (R).frozen 1; have f2 := (R).frozen 2
    have hb := Below.then ((Below.refl _ _).alloc (Nat.le_refl _) _) (Nat.le_refl _) hB
    go_wp2
    exact bodyPost_ret (v := .agg #[.bool false, .slice a n c, .slice a' n' c']) (by simp [results, Tryz.results37, go_sem, r0, r1, r2]) rfl (givesR_end R (Nat.le_refl _) hb ⟨rfl, HH.out.keep hb, hD, hL, H1.out⟩)
  · go_enter Tryz.func37, Tryz.ntmps37
    go_wp2_with fail
    refine (small_any 1 _ (by omega)).mono ?_
    rintro e w1 ⟨a', n', c', rfl, hD, hB⟩
    have R := R0.below (by simp) hB
    obtain ⟨⟨u0, r0⟩, ⟨u1, r1⟩, ⟨u2, r2⟩⟩ := (R).cells; have f0 := (R).frozen 0; have f1 := (R).frozen 1; have f2 := (R).frozen 2
    have hb := Below.then ((Below.refl _ _).alloc (Nat.le_refl _) _) (Nat.le_refl _) hB
    go_wp2
    exact bodyPost_ret (v := .agg #[.bool (decide (0 < n)), .slice a n c, .slice a' n' c']) (by simp [results, Tryz.results37, go_sem, r0, r1, r2]) rfl (givesR_end R (Nat.le_refl _) hb ⟨by rw [HP.out]; simp [Rt.whole], HH.out.keep hb, hD, hL, H1.out⟩)

set_option maxHeartbeats 1000000 in
theorem negated_any (s : Bool) (a : Option Addr) (n c : Nat) (a' : Option Addr) (n' c' L : Nat) (r : Rt) (w : World) (h : RtAt w s a n c a' n' c' r L) (hL2 : L ≤ 400000) :
    Calls Tryz.prog 16 #[.agg #[.bool s, .slice a n c, .slice a' n' c']] w (GivesR r.negated L w) := by
  have hlen := h.n_le
  have HP := Lib.hid (natAt_pos_len h.num)
  have HH := Lib.hid h
  have hs := h.neg
  have HS := Lib.hid hs
  clear h hs
  have hb := fun b => ((Below.refl w.heap.size w).alloc (Nat.le_refl _) (.cells #[.bool s, .slice a n c, .slice a' n' c'] 31)).alloc (by simp) (.cells #[.bool b, .slice a n c, .slice a' n' c'] 31)
  have HB := Lib.hid hb
  clear hb
  cases s
  · go_enter Tryz.func16, Tryz.ntmps16
    go_wp2
    exact bodyPost_ret (v := .agg #[.bool (decide (0 < n)), .slice a n c, .slice a' n' c']) (by simp [results, Tryz.results16, go_sem]) rfl
      ⟨_, _, _, _, _, _, _, rfl, ⟨by rw [HP.out]; simp [Rt.negated, ← HS.out], HH.out.num.keep (HB.out _), HH.out.den.keep (HB.out _), HH.out.numL, HH.out.denL⟩, HB.out _⟩
  · go_enter Tryz.func16, Tryz.ntmps16
    go_wp2
    exact bodyPost_ret (v := .agg #[.bool false, .slice a n c, .slice a' n' c']) (by simp [results, Tryz.results16, go_sem]) rfl
      ⟨_, _, _, _, _, _, _, rfl, ⟨by simp [Rt.negated, ← HS.out], HH.out.num.keep (HB.out _), HH.out.den.keep (HB.out _), HH.out.numL, HH.out.denL⟩, HB.out _⟩

set_option maxHeartbeats 1000000 in
theorem signOf_any (s : Bool) (a : Option Addr) (n c : Nat) (a' : Option Addr) (n' c' L : Nat) (r : Rt) (w : World) (h : RtAt w s a n c a' n' c' r L) (hL2 : L ≤ 400000) :
    Calls Tryz.prog 8 #[.agg #[.bool s, .slice a n c, .slice a' n' c']] w fun e w' => e = .returned (.int .i64 r.signOf) ∧ Below w.heap.size w w' := by
  have hlen := h.n_le
  have hb := (Below.refl w.heap.size w).alloc (Nat.le_refl _) (.cells #[.bool s, .slice a n c, .slice a' n' c'] 31)
  by_cases h0 : n = 0
  · subst h0
    have hN : r.num = 0 := by have := h.num.lt; simpa using this
    have hr : r.signOf = 0 := if_pos hN
    rw [hr]
    go_enter Tryz.func8, Tryz.ntmps8
    go_wp2
    go_ret
    exact ⟨rfl, hb⟩
  · have hN : r.num ≠ 0 := by
      rcases h.num.top with h1 | h1
      · omega
      · have : 0 < 65536 ^ (n - 1) := Nat.pow_pos (by decide)
        omega
    have hr : r.signOf = if s then -1 else 1 := by rw [h.neg]; exact if_neg hN
    have hz : ((n : Int) == 0) = false := by simp; omega
    rw [hr]
    clear hN hr h
    cases s
    · go_enter Tryz.func8, Tryz.ntmps8
      go_wp2
      go_ret
      exact ⟨rfl, hb⟩
    · go_enter Tryz.func8, Tryz.ntmps8
      go_wp2
      go_ret
      exact ⟨rfl, hb⟩

set_option maxRecDepth 100000 in
set_option maxHeartbeats 2000000 in
theorem over_any (s : Bool) (a : Option Addr) (n c : Nat) (a' : Option Addr) (n' c' N D L : Nat) (w : World) (h1 : NatAt w a n c N) (h2 : NatAt w a' n' c' D) (hN : N < 65536 ^ L) (hD : D < 65536 ^ L) (hpos : 0 < D) (hL2 : L ≤ 400000) :
    Calls Tryz.prog 33 #[.bool s, .slice a n c, .slice a' n' c'] w (GivesR (Rt.over s N D) L w) := by
  have hn := h1.len16 hN
  have hd := h2.len16 hD
  have HP := Lib.hid (natAt_pos_len h1)
  have hg0 : 0 < Nat.gcd N D := Nat.gcd_pos_of_pos_right _ hpos
  have hgD : Nat.gcd N D < 65536 ^ L := Nat.lt_of_le_of_lt (Nat.gcd_le_right _ hpos) hD
  have HG0 := Lib.hid hg0
  have HGD := Lib.hid hgD
  have HN := Lib.hid (Nat.lt_of_le_of_lt (Nat.div_le_self N (Nat.gcd N D)) hN)
  have HD := Lib.hid (Nat.lt_of_le_of_lt (Nat.div_le_self D (Nat.gcd N D)) hD)
  have R0 := ResBlk.alloc w 31
  have hb0 : Below w.heap.size w (w.alloc (.cells #[.bool false, .slice none 0 0, .slice none 0 0] 31)) := (Below.refl _ _).alloc (Nat.le_refl _) _
  have h1' := h1.keep hb0
  have h2' := h2.keep hb0
  clear h1 h2 hN hD hg0 hgD
  go_enter Tryz.func33, Tryz.ntmps33
  go_wp2_with fail
  refine (gcd_any _ _ _ _ _ _ N D _ h1' h2' (by omega) (by omega)).mono ?_
  rintro e w1 ⟨aG, nG, cG, rfl, hG, hB1⟩
  have hnG := hG.len16 HGD.out
  go_wp2_with fail
  refine (divMod_any _ _ _ _ _ _ N (Nat.gcd N D) _ (h1'.keep hB1) hG (by omega) (by omega) HG0.out).mono ?_
  rintro e w2 ⟨aQ, nQ, cQ, aR, nR, cR, rfl, hQ, hR, hB2⟩
  go_wp2_with fail
  refine (divMod_any _ _ _ _ _ _ D (Nat.gcd N D) _ ((h2'.keep hB1).keep hB2) (hG.keep hB2) (by omega) (by omega) HG0.out).mono ?_
  rintro e w3 ⟨aE, nE, cE, aF, nF, cF, rfl, hE, hF, hB3⟩
  have R := ((R0.below (by simp) hB1).below (Nat.lt_of_lt_of_le (by simp) hB1.size) hB2).below (Nat.lt_of_lt_of_le (by simp) (Nat.le_trans hB1.size hB2.size)) hB3
  obtain ⟨⟨u0, r0⟩, ⟨u1, r1⟩, ⟨u2, r2⟩⟩ := (R).cells; have f0 := (R).frozen 0; have f1 := (R).frozen 1; have f2 := (R).frozen 2
  have hb := Below.then (Below.then (Below.then hb0 (Nat.le_refl _) hB1) (Nat.le_refl _) hB2) (Nat.le_refl _) hB3
  have hQ' := hQ.keep hB3
  clear hB1 hB2 hB3 hG hR hF h1' h2' hb0 R0 hQ
  cases s
  · go_wp2
    exact bodyPost_ret (v := .agg #[.bool false, .slice aQ nQ cQ, .slice aE nE cE]) (by simp [results, Tryz.results33, go_sem, r0, r1, r2]) rfl (givesR_end R (Nat.le_refl _) hb ⟨rfl, hQ', hE, HN.out, HD.out⟩)
  · go_wp2
    exact bodyPost_ret (v := .agg #[.bool (decide (0 < n)), .slice aQ nQ cQ, .slice aE nE cE]) (by simp [results, Tryz.results33, go_sem, r0, r1, r2]) rfl (givesR_end R (Nat.le_refl _) hb ⟨by rw [HP.out]; simp [Rt.over], hQ', hE, HN.out, HD.out⟩)
end Go.Proofs.YtdepmbpickonoaaGreatDoor
