/-
  leastByMinus: the one quotient that does not fit.
-/
import Derived.Test.YtdkipndepkblhaaGreatDoorSpI
import Derived.Test.YtdkipndepkblhaaGreatDoorBuN
set_option linter.unusedSimpArgs false
set_option linter.unusedVariables false
namespace Go.Proofs.YtdkipndepkblhaaGreatDoor
open Go.RowKit Go.Bg Dg

set_option maxRecDepth 100000 in
set_option maxHeartbeats 1000000 in
theorem least_any (s1 s2 : Bool) (a1 : Option Addr) (n1 c1 : Nat) (a1' : Option Addr) (n1' c1' : Nat) (a2 : Option Addr) (n2 c2 : Nat) (a2' : Option Addr) (n2' c2' : Nat) (z1 z2 : Int) (L : Nat) (w : World)
    (hx : RtAt w s1 a1 n1 c1 a1' n1' c1' (rz z1) L) (hy : RtAt w s2 a2 n2 c2 a2' n2' c2' (rz z2) L) (hL2 : L ≤ 400000) :
    Calls Tryz.prog 14 #[.agg #[.bool s1, .slice a1 n1 c1, .slice a1' n1' c1'], .agg #[.bool s2, .slice a2 n2 c2, .slice a2' n2' c2']] w fun e w' => ∃ v, e = .returned (.bool v) ∧ (v = false → ¬ (z1 = -9223372036854775808 ∧ z2 = -1)) ∧ Below w.heap.size w w' := by
  obtain ⟨W0, hW0⟩ : ∃ W0, W0 = (w.alloc (.cells #[.bool s1, .slice a1 n1 c1, .slice a1' n1' c1'] 31)).alloc (.cells #[.bool s2, .slice a2 n2 c2, .slice a2' n2' c2'] 31) := ⟨_, rfl⟩
  have hb0 : Below w.heap.size w W0 := by rw [hW0]; exact Below.alloc' (Below.alloc' (Below.refl _ _) _) _
  have A : RtBlk W0 w.heap.size s1 a1 n1 c1 a1' n1' c1' := by rw [hW0]; exact (RtBlk.new _ _ rfl _ _ _ _ _ _ _).keep ((Below.refl _ _).alloc (Nat.le_refl _) _)
  have C : RtBlk W0 (w.heap.size + 1) s2 a2 n2 c2 a2' n2' c2' := by rw [hW0]; exact RtBlk.new _ _ (by simp) _ _ _ _ _ _ _
  have HX := Lib.hid (hx.keep hb0)
  have HY := Lib.hid (hy.keep hb0)
  have HW := Lib.hid hW0
  clear hW0 hx hy
  obtain ⟨x0, x1, x2⟩ := A.all
  go_enter Tryz.func14, Tryz.ntmps14
  go_upto_region 1 with fail
  rw [← HW.out]
  go_wp2_with fail
  refine (specInt64_any s1 a1 n1 c1 a1' n1' c1' L _ z1 rfl _ HX.out hL2).mono ?_
  rintro e w1 ⟨o1, rfl, ho1, hB1⟩
  obtain ⟨u1, hu1⟩ : ∃ u1, u1 = wrap64 z1 := ⟨_, rfl⟩
  rw [← hu1]
  have HO1 := Lib.hid (show z1 = -9223372036854775808 → o1 = true ∧ u1 = -9223372036854775808 from fun h => by
    subst h
    exact ⟨ho1 (by decide), by rw [hu1]; unfold wrap64; omega⟩)
  clear hu1 ho1 x0 x1 x2
  obtain ⟨y0, y1, y2⟩ := (C.keep hB1).all
  go_wp2_with fail
  refine (specInt64_any s2 a2 n2 c2 a2' n2' c2' L _ z2 rfl _ (HY.out.keep hB1) hL2).mono ?_
  rintro e w2 ⟨o2, rfl, ho2, hB2⟩
  obtain ⟨u2, hu2⟩ : ∃ u2, u2 = wrap64 z2 := ⟨_, rfl⟩
  rw [← hu2]
  have HO2 := Lib.hid (show z2 = -1 → o2 = true ∧ u2 = -1 from fun h => by
    subst h
    exact ⟨ho2 (by decide), by rw [hu2]; unfold wrap64; omega⟩)
  clear hu2 ho2 y0 y1 y2
  have HB := Lib.hid (Below.then hb0 (Nat.le_refl _) (Below.then hB1 (Nat.le_refl _) hB2))
  cases o1
  · go_wp2
    go_ret
    exact ⟨false, rfl, fun _ h => (by cases (HO1.out h.1).1), HB.out⟩
  · cases o2
    · go_wp2
      go_ret
      exact ⟨false, rfl, fun _ h => (by cases (HO2.out h.2).1), HB.out⟩
    · by_cases h1 : u1 = -9223372036854775808
      · by_cases h2 : u2 = -1
        · have g1 : (u1 == -9223372036854775808) = true := by simpa using h1
          have g2 : (u2 == -1) = true := by simpa using h2
          clear h1 h2
          go_wp2
          go_ret
          exact ⟨true, rfl, fun h => (by cases h), HB.out⟩
        · have g1 : (u1 == -9223372036854775808) = true := by simpa using h1
          have g2 : (u2 == -1) = false := by simpa using h2
          have H2 := Lib.hid h2
          clear h1 h2
          go_wp2
          go_ret
          exact ⟨false, rfl, fun _ h => H2.out (HO2.out h.2).2, HB.out⟩
      · have g1 : (u1 == -9223372036854775808) = false := by simpa using h1
        have H1 := Lib.hid h1
        clear h1
        go_wp2
        go_ret
        exact ⟨false, rfl, fun _ h => H1.out (HO1.out h.1).2, HB.out⟩
end Go.Proofs.YtdkipndepkblhaaGreatDoor
