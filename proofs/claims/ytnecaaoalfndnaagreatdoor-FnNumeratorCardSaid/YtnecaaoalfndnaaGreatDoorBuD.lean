/-
  The reference's fractions: Whole, Negated, SignOf, Over, Plus, Minus.
  The reference's fractions: Plus, Minus.
  The reference's fractions: Minus, Order.
  The reference's readers of values: rest, IsNumber, Integer.
-/
import Derived.Test.YtnecaaoalfndnaaGreatDoorBuC
import Derived.Test.YtnecaaoalfndnaaGreatDoorBuA
import Derived.Deep.RegionHeld3
set_option linter.unusedSimpArgs false
set_option linter.unusedVariables false
namespace Go.Proofs.YtnecaaoalfndnaaGreatDoor
open Go.RowKit Go.Bg Dg

set_option maxHeartbeats 1000000 in
theorem whole_any (s : Bool) (a : Option Addr) (n c N L : Nat) (w : World) (h : NatAt w a n c N) (hL : N < 65536 ^ L) (hL1 : 1 ≤ L) (hL2 : L ≤ 400000) :
    Calls Tryz.prog 27 #[.bool s, .slice a n c] w (GivesR (Rt.whole s N) L w) := by
  have hlen := h.len16 hL
  have hp := natAt_pos_len h
  have HP := Lib.hid hp
  have HH := Lib.hid h
  clear hp h
  have R0 := ResBlk.alloc w 31
  have H1 := Lib.hid (show 1 < 65536 ^ L from Nat.one_lt_pow (by omega) (by decide))
  cases s
  · go_enter Tryz.func27, Tryz.ntmps27
    go_wp2_with fail
    refine (small_any 1 _ (by omega)).mono ?_
    rintro e w1 ⟨a', n', c', rfl, hD, hB⟩
    have R := R0.below (by simp) hB
    obtain ⟨⟨u0, r0⟩, ⟨u1, r1⟩, ⟨u2, r2⟩⟩ := (R).cells; have f0 := (R).frozen 0; have f1 := (R).frozen 1; have f2 := (R).frozen 2
    have hb := Below.then ((Below.refl _ _).alloc (Nat.le_refl _) _) (Nat.le_refl _) hB
    go_wp2
    exact bodyPost_ret (v := .agg #[.bool false, .slice a n c, .slice a' n' c']) (by simp [results, Tryz.results27, go_sem, r0, r1, r2]) rfl (givesR_end R (Nat.le_refl _) hb ⟨rfl, HH.out.keep hb, hD, hL, H1.out⟩)
  · go_enter Tryz.func27, Tryz.ntmps27
    go_wp2_with fail
    refine (small_any 1 _ (by omega)).mono ?_
    rintro e w1 ⟨a', n', c', rfl, hD, hB⟩
    have R := R0.below (by simp) hB
    obtain ⟨⟨u0, r0⟩, ⟨u1, r1⟩, ⟨u2, r2⟩⟩ := (R).cells; have f0 := (R).frozen 0; have f1 := (R).frozen 1; have f2 := (R).frozen 2
    have hb := Below.then ((Below.refl _ _).alloc (Nat.le_refl _) _) (Nat.le_refl _) hB
    go_wp2
    exact bodyPost_ret (v := .agg #[.bool (decide (0 < n)), .slice a n c, .slice a' n' c']) (by simp [results, Tryz.results27, go_sem, r0, r1, r2]) rfl (givesR_end R (Nat.le_refl _) hb ⟨by rw [HP.out]; simp [Rt.whole], HH.out.keep hb, hD, hL, H1.out⟩)

set_option maxHeartbeats 1000000 in
theorem negated_any (s : Bool) (a : Option Addr) (n c : Nat) (a' : Option Addr) (n' c' L : Nat) (r : Rt) (w : World) (h : RtAt w s a n c a' n' c' r L) (hL2 : L ≤ 400000) :
    Calls Tryz.prog 15 #[.agg #[.bool s, .slice a n c, .slice a' n' c']] w (GivesR r.negated L w) := by
  have hlen := h.n_le
  have HP := Lib.hid (natAt_pos_len h.num)
  have HH := Lib.hid h
  have hs := h.neg
  have HS := Lib.hid hs
  clear h hs
  have hb := fun b => ((Below.refl w.heap.size w).alloc (Nat.le_refl _) (.cells #[.bool s, .slice a n c, .slice a' n' c'] 31)).alloc (by simp) (.cells #[.bool b, .slice a n c, .slice a' n' c'] 31)
  have HB := Lib.hid hb
  clear hb
  cases s
  · go_enter Tryz.func15, Tryz.ntmps15
    go_wp2
    exact bodyPost_ret (v := .agg #[.bool (decide (0 < n)), .slice a n c, .slice a' n' c']) (by simp [results, Tryz.results15, go_sem]) rfl
      ⟨_, _, _, _, _, _, _, rfl, ⟨by rw [HP.out]; simp [Rt.negated, ← HS.out], HH.out.num.keep (HB.out _), HH.out.den.keep (HB.out _), HH.out.numL, HH.out.denL⟩, HB.out _⟩
  · go_enter Tryz.func15, Tryz.ntmps15
    go_wp2
    exact bodyPost_ret (v := .agg #[.bool false, .slice a n c, .slice a' n' c']) (by simp [results, Tryz.results15, go_sem]) rfl
      ⟨_, _, _, _, _, _, _, rfl, ⟨by simp [Rt.negated, ← HS.out], HH.out.num.keep (HB.out _), HH.out.den.keep (HB.out _), HH.out.numL, HH.out.denL⟩, HB.out _⟩

end Go.Proofs.YtnecaaoalfndnaaGreatDoor

set_option linter.unusedSimpArgs false
set_option linter.unusedVariables false
namespace Go.Proofs.YtnecaaoalfndnaaGreatDoor
open Go.RowKit Go.Bg Dg

/-- what Plus finds when its parameters lie in their variables -/
structure PlusW (w W0 : World) (s1 s2 : Bool) (a b c d : Value) : Prop where
  x0 : W0.cell? ⟨w.heap.size, 0, none⟩ = some (.bool s1)
  x1 : W0.cell? ⟨w.heap.size, 1, none⟩ = some a
  x2 : W0.cell? ⟨w.heap.size, 2, none⟩ = some b
  y0 : W0.cell? ⟨w.heap.size + 1, 0, none⟩ = some (.bool s2)
  y1 : W0.cell? ⟨w.heap.size + 1, 1, none⟩ = some c
  y2 : W0.cell? ⟨w.heap.size + 1, 2, none⟩ = some d
  res : ResBlk W0 (w.heap.size + 1 + 1)
  below : Below w.heap.size w W0

theorem plusW (w : World) (s1 s2 : Bool) (a b c d : Value) (T : TypeId) :
    PlusW w (((w.alloc (.cells #[.bool s1, a, b] T)).alloc (.cells #[.bool s2, c, d] T)).alloc (.cells #[.bool false, .slice none 0 0, .slice none 0 0] T)) s1 s2 a b c d := by
  have R := ResBlk.alloc ((w.alloc (.cells #[.bool s1, a, b] T)).alloc (.cells #[.bool s2, c, d] T)) T
  simp at R
  exact ⟨alloc_keep _ _ (alloc_keep _ _ (alloc_new _ _ _ rfl rfl)), alloc_keep _ _ (alloc_keep _ _ (alloc_new _ _ _ rfl rfl)), alloc_keep _ _ (alloc_keep _ _ (alloc_new _ _ _ rfl rfl)),
    alloc_keep _ _ (alloc_new _ _ _ (by simp) rfl), alloc_keep _ _ (alloc_new _ _ _ (by simp) rfl), alloc_keep _ _ (alloc_new _ _ _ (by simp) rfl), R,
    (((Below.refl _ _).alloc (Nat.le_refl _) _).alloc (by simp) _).alloc (by simp; omega) _⟩

theorem cmpI_ge {X Y : Nat} (h : Y ≤ X) : ¬ cmpI X Y < 0 := by unfold cmpI; rw [if_neg (by omega)]; split <;> decide
theorem cmpI_lt {X Y : Nat} (h : X < Y) : cmpI X Y < 0 := by unfold cmpI; rw [if_pos h]; decide

end Go.Proofs.YtnecaaoalfndnaaGreatDoor

set_option linter.unusedSimpArgs false
set_option linter.unusedVariables false
namespace Go.Proofs.YtnecaaoalfndnaaGreatDoor
open Go.RowKit Go.Bg Dg

theorem rt_negated_den (y : Rt) : y.negated.den = y.den := rfl

/-- does a comparison hold of -1, 0 or 1 -/
def ordB (op : Nat) (c : Int) : Bool :=
  if op = 0 then decide (c = 0) else if op = 1 then decide (c ≠ 0) else if op = 2 then decide (c < 0) else if op = 3 then decide (c ≤ 0) else if op = 4 then decide (0 < c) else decide (0 ≤ c)

end Go.Proofs.YtnecaaoalfndnaaGreatDoor

set_option linter.unusedSimpArgs false
set_option linter.unusedVariables false
namespace Go.Proofs.YtnecaaoalfndnaaGreatDoor
open Go.RowKit Go.Bg Dg

set_option maxRecDepth 100000 in
set_option maxHeartbeats 2000000 in
theorem rest_any (v : Vl) (w : World) :
    Calls Tryz.prog 48 #[.agg #[.int .i64 v.kind, .bool v.truth, .string v.text, .bool v.neg, .slice v.wa v.wn v.wc, .slice v.da v.dn v.dc, .bool v.ineg, .slice v.ia v.inn v.ic, .slice v.ea v.en v.ec]] w fun e w' => e = .returned (.bool v.restB) ∧ Below w.heap.size w w' := by
  have hb := fun cs => (Below.refl w.heap.size w).alloc (Nat.le_refl _) (.cells cs 26)
  have HB := Lib.hid hb
  clear hb
  go_enter Tryz.func48, Tryz.ntmps48
  go_wp2
  all_goals go_ret
  all_goals exact ⟨ret_bool (by first | (simp_all [Vl.restB]; done) | (simp_all [Vl.restB]; rw [Bool.eq_iff_iff]; simp)), HB.out _⟩

/-- a Number is what is told of an integer -/
def isNumB (xneg : Bool) (f : Nat → Nat) (n : Nat) (neg : Bool) (N : Nat) : Bool := (xneg == (neg && decide (0 < N))) && hasW f n N

set_option maxRecDepth 100000 in
set_option maxHeartbeats 2000000 in
theorem isNumber_any (xneg : Bool) (a1 : Option Addr) (n1 c1 : Nat) (f : Nat → Nat) (neg : Bool) (a2 : Option Addr) (n2 c2 N : Nat) (w : World) (hw : WordsAt w a1 n1 c1 f) (hb1 : n1 ≤ 100000)
    (h2 : NatAt w a2 n2 c2 N) (hb2 : n2 ≤ 400000) :
    Calls Tryz.prog 47 #[.agg #[.bool xneg, .slice a1 n1 c1], .bool neg, .slice a2 n2 c2] w fun e w' => e = .returned (.bool (isNumB xneg f n1 neg N)) ∧ Below w.heap.size w w' := by
  have hb := (Below.refl w.heap.size w).alloc (Nat.le_refl _) (.cells #[.bool xneg, .slice a1 n1 c1] 24)
  have hpl := natAt_pos_len h2
  have HP := Lib.hid hpl
  have HW := Lib.hid hw
  have H2 := Lib.hid h2
  have HB := Lib.hid hb
  clear hpl hw h2 hb
  unfold isNumB
  rw [← HP.out]
  cases neg
  · cases xneg
    · go_enter Tryz.func47, Tryz.ntmps47
      go_wp2_with (go_at_call 86; refine (hasWords_any a1 a2 n1 c1 n2 c2 N f _ (HW.out.keep HB.out).cells HW.out.lt hb1 (H2.out.keep HB.out) hb2).mono ?_; rintro e w1 ⟨rfl, hB1⟩)
      go_ret
      exact ⟨by simp, Below.then HB.out (Nat.le_refl _) hB1⟩
    · go_enter Tryz.func47, Tryz.ntmps47
      go_wp2
      go_ret
      exact ⟨by simp, HB.out⟩
  · by_cases h0 : 0 < n2
    · have hd : decide (0 < n2) = true := by simpa using h0
      rw [hd]
      cases xneg
      · go_enter Tryz.func47, Tryz.ntmps47
        go_wp2
        go_ret
        exact ⟨by simp, HB.out⟩
      · go_enter Tryz.func47, Tryz.ntmps47
        go_wp2_with (go_at_call 86; refine (hasWords_any a1 a2 n1 c1 n2 c2 N f _ (HW.out.keep HB.out).cells HW.out.lt hb1 (H2.out.keep HB.out) hb2).mono ?_; rintro e w1 ⟨rfl, hB1⟩)
        go_ret
        exact ⟨by simp, Below.then HB.out (Nat.le_refl _) hB1⟩
    · obtain rfl : n2 = 0 := by omega
      cases xneg
      · go_enter Tryz.func47, Tryz.ntmps47
        go_wp2_with (go_at_call 86; refine (hasWords_any a1 a2 n1 c1 0 c2 N f _ (HW.out.keep HB.out).cells HW.out.lt hb1 (H2.out.keep HB.out) hb2).mono ?_; rintro e w1 ⟨rfl, hB1⟩)
        go_ret
        exact ⟨by simp, Below.then HB.out (Nat.le_refl _) hB1⟩
      · go_enter Tryz.func47, Tryz.ntmps47
        go_wp2
        go_ret
        exact ⟨by simp, HB.out⟩
end Go.Proofs.YtnecaaoalfndnaaGreatDoor
