/-
  The laws' reader of two fractions (not built yet: wants a seat with laws.rationals).
-/
import Derived.Test.YtdkipndepkblhaaGreatDoorBuK
import Derived.Test.YtdkipndepkblhaaGreatDoorBuA
set_option linter.unusedSimpArgs false
set_option linter.unusedVariables false
namespace Go.Proofs.YtdkipndepkblhaaGreatDoor
open Go.RowKit Go.Bg Dg

set_option maxRecDepth 100000 in
set_option maxHeartbeats 2000000 in
theorem lawRationals_any (v u : Vl) (k : Nat) (w : World) (h : VlAt w v) (h' : VlAt w u) (hk : k ≤ 1000) :
    Calls Tryz.prog 28 #[.agg #[.int .i64 v.kind, .bool v.truth, .string v.text, .bool v.neg, .slice v.wa v.wn v.wc, .slice v.da v.dn v.dc, .bool v.ineg, .slice v.ia v.inn v.ic, .slice v.ea v.en v.ec], .agg #[.int .i64 u.kind, .bool u.truth, .string u.text, .bool u.neg, .slice u.wa u.wn u.wc, .slice u.da u.dn u.dc, .bool u.ineg, .slice u.ia u.inn u.ic, .slice u.ea u.en u.ec], .int .i64 k] w
      (Reads2 (lratB v k && lratB u k) (vrt v) (vrt u) (4 * k + 1) w) := by
  obtain ⟨W0, hW0⟩ : ∃ W0, W0 = (((w.alloc (.cells #[.int .i64 v.kind, .bool v.truth, .string v.text, .bool v.neg, .slice v.wa v.wn v.wc, .slice v.da v.dn v.dc, .bool v.ineg, .slice v.ia v.inn v.ic, .slice v.ea v.en v.ec] 26)).alloc (.cells #[.int .i64 u.kind, .bool u.truth, .string u.text, .bool u.neg, .slice u.wa u.wn u.wc, .slice u.da u.dn u.dc, .bool u.ineg, .slice u.ia u.inn u.ic, .slice u.ea u.en u.ec] 26)).alloc (.cells #[.bool false, .slice none 0 0, .slice none 0 0] 31)).alloc (.cells #[.bool false, .slice none 0 0, .slice none 0 0] 31) := ⟨_, rfl⟩
  have HW := Lib.hid hW0
  have hb0 : Below w.heap.size w W0 := by rw [hW0]; exact Below.alloc' (Below.alloc' (Below.alloc' (Below.alloc' (Below.refl _ _) _) _) _) _
  have R1 : ResBlk W0 (w.heap.size + 1 + 1) := by rw [hW0]; exact (ResBlk.new _ _ (by simp)).alloc1 _
  have R2 : ResBlk W0 (w.heap.size + 1 + 1 + 1) := by rw [hW0]; exact ResBlk.new _ _ (by simp)
  have X : Box9 W0 w.heap.size v := by rw [hW0]; exact (((Box9.new w v _ rfl).alloc _).alloc _).alloc _
  have Y : Box9 W0 (w.heap.size + 1) u := by rw [hW0]; exact ((Box9.new _ u _ (by simp)).alloc _).alloc _
  have HX := Lib.hid (h.keep hb0)
  have HY := Lib.hid (h'.keep hb0)
  clear hW0 h h'
  go_enter Tryz.func28, Tryz.ntmps28
  go_upto_region 1 with fail
  rw [← HW.out]
  obtain ⟨xc0, xc1, xc2, xc3, xc4, xc5, xc6, xc7, xc8⟩ := (X).all
  go_wp2_with fail
  refine (lawRational_any v k _ HX.out hk).mono ?_
  rintro e w1 ⟨sA, aA, nA, cA, aB, nB, cB, rfl, hA, hB1⟩
  clear xc0 xc1 xc2 xc3 xc4 xc5 xc6 xc7 xc8
  have hA1 := hA
  obtain ⟨W1, hW1⟩ : ∃ W1, W1 = w1.alloc (.cells #[.bool sA, .slice aA nA cA, .slice aB nB cB] 31) := ⟨_, rfl⟩
  have hb1 : Below W0.heap.size W0 W1 := by rw [hW1]; exact Below.alloc' hB1 _
  have A1 : RtBlk W1 w1.heap.size sA aA nA cA aB nB cB := by rw [hW1]; exact RtBlk.new _ _ rfl _ _ _ _ _ _ _
  have A2 := Lib.hid (show lratB v k = true → RtAt W1 sA aA nA cA aB nB cB (vrt v) (4 * k + 1) from by
    intro hb; rw [hW1]
    exact ((hA hb).keep ((Below.refl _ _).alloc (Nat.le_refl _) _)).mono (by omega))
  have HW1 := Lib.hid hW1
  have R1' := R1.below R1.lt hb1
  have R2' := R2.below R2.lt hb1
  have Y1 := Y.keep hb1
  have HY1 := Lib.hid (HY.out.keep hb1)
  clear hW1 hA hA1
  go_upto_region 2 with fail
  rw [← HW1.out]
  obtain ⟨yc0, yc1, yc2, yc3, yc4, yc5, yc6, yc7, yc8⟩ := (Y1).all
  go_wp2_with fail
  refine (lawRational_any u k _ HY1.out hk).mono ?_
  rintro e w2 ⟨sC, aC, nC, cC, aD, nD, cD, rfl, hC, hB2⟩
  clear yc0 yc1 yc2 yc3 yc4 yc5 yc6 yc7 yc8
  obtain ⟨W2, hW2⟩ : ∃ W2, W2 = w2.alloc (.cells #[.bool sC, .slice aC nC cC, .slice aD nD cD] 31) := ⟨_, rfl⟩
  have hb2 : Below W1.heap.size W1 W2 := by rw [hW2]; exact Below.alloc' hB2 _
  have A3 := A1.keep hb2
  have C1 : RtBlk W2 w2.heap.size sC aC nC cC aD nD cD := by rw [hW2]; exact RtBlk.new _ _ rfl _ _ _ _ _ _ _
  have A4 := Lib.hid (show lratB v k = true → RtAt W2 sA aA nA cA aB nB cB (vrt v) (4 * k + 1) from fun hb => (A2.out hb).keep hb2)
  have C2 := Lib.hid (show lratB u k = true → RtAt W2 sC aC nC cC aD nD cD (vrt u) (4 * k + 1) from by
    intro hb; rw [hW2]
    exact ((hC hb).keep ((Below.refl _ _).alloc (Nat.le_refl _) _)).mono (by omega))
  have HW2 := Lib.hid hW2
  have Q1 := R1'.below R1'.lt hb2
  have Q2 := R2'.below R2'.lt hb2
  have hbf := Below.then (Below.then hb0 (Nat.le_refl _) hb1) (Nat.le_refl _) hb2
  have hlt1 := A3.lt
  have hg1 : w.heap.size + 1 + 1 + 1 < w1.heap.size := Nat.lt_of_lt_of_le R2.lt hB1.size
  have hg2 : w.heap.size + 1 + 1 + 1 < w2.heap.size := Nat.lt_of_lt_of_le R2'.lt hB2.size
  clear hW2 hC hB1 hB2 R1 R2 R1' R2' hb0 hb1 hb2 HX HY HY1 A2 A1 X Y Y1
  go_upto_region 3 with fail
  rw [← HW2.out]
  obtain ⟨a0, a1, a2⟩ := A3
  obtain ⟨d0, d1, d2⟩ := C1
  obtain ⟨⟨u0, r0⟩, ⟨u1, r1⟩, ⟨u2, r2⟩⟩ := Q1.cells
  have f0 := Q1.frozen 0
  have f1 := Q1.frozen 1
  have f2 := Q1.frozen 2
  obtain ⟨⟨z0, q0⟩, ⟨z1, q1⟩, ⟨z2, q2⟩⟩ := Q2.cells
  have g0 := Q2.frozen 0
  have g1 := Q2.frozen 1
  have g2 := Q2.frozen 2
  generalize hv : lratB v k = bv at *
  generalize hu : lratB u k = bu at *
  cases bv
  · go_region
    all_goals go_wp2
    refine bodyPost_ret (v := .tuple #[.agg #[.bool sA, .slice aA nA cA, .slice aB nB cB], .agg #[.bool sC, .slice aC nC cC, .slice aD nD cD], .bool (false && bu)]) (by simp [results, Tryz.results28, go_sem, r0, r1, r2, q0, q1, q2]) rfl ⟨_, _, _, _, _, _, _, _, _, _, _, _, _, _, rfl, ?_, ?_⟩
    · simp
    · exact below33 hbf (by omega) (by omega) _ _ _ _ _ _
  · go_region
    all_goals go_wp2
    refine bodyPost_ret (v := .tuple #[.agg #[.bool sA, .slice aA nA cA, .slice aB nB cB], .agg #[.bool sC, .slice aC nC cC, .slice aD nD cD], .bool (true && bu)]) (by simp [results, Tryz.results28, go_sem, r0, r1, r2, q0, q1, q2]) rfl ⟨_, _, _, _, _, _, _, _, _, _, _, _, _, _, rfl, ?_, ?_⟩
    · intro hb
      exact ⟨RtAt.drew (stored33 Q1.noInt Q2.noInt (A4.out (by simp))), RtAt.drew (stored33 Q1.noInt Q2.noInt (C2.out (by simpa using hb)))⟩
    · exact below33 hbf (by omega) (by omega) _ _ _ _ _ _
end Go.Proofs.YtdkipndepkblhaaGreatDoor
