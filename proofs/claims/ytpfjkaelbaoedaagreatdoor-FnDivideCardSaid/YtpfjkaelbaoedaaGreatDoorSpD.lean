/-
  The reference's fractions: Divided.
-/
import Derived.Test.YtpfjkaelbaoedaaGreatDoorBuC
import Derived.Test.YtpfjkaelbaoedaaGreatDoorBuD
import Derived.Test.YtpfjkaelbaoedaaGreatDoorBuH
import Derived.Test.YtpfjkaelbaoedaaGreatDoorBuQQ
set_option linter.unusedSimpArgs false
set_option linter.unusedVariables false
namespace Go.Bg
open Go.RowKit Dg
/-- two fractions -/
def GivesRR (q r : Rt) (L : Nat) (w : World) (e : Ending) (w' : World) : Prop :=
  ∃ s a n c a' n' c' t d m k d' m' k', e = .returned (.tuple #[.agg #[.bool s, .slice a n c, .slice a' n' c'], .agg #[.bool t, .slice d m k, .slice d' m' k']]) ∧ RtAt w' s a n c a' n' c' q L ∧ RtAt w' t d m k d' m' k' r L ∧ Below w.heap.size w w'

def Rt.quoOf (x y : Rt) : Rt := Rt.whole (!(x.neg == y.neg)) (x.num / y.num)
def Rt.remOf (x y : Rt) : Rt := Rt.whole x.neg (x.num % y.num)

theorem RtAt.set3 {w1 : World} {g L : Nat} {v0 v1 v2 : Value} {sg : Bool} {a : Option Addr} {n c : Nat} {a' : Option Addr} {n' c' : Nat} {r : Rt} (R : NoInt w1 g) (h0 : ∀ k n, v0 ≠ .int k n) (h1 : ∀ k n, v1 ≠ .int k n) (h : RtAt w1 sg a n c a' n' c' r L) :
    RtAt (((w1.setCell ⟨g, 0, none⟩ v0).setCell ⟨g, 1, none⟩ v1).setCell ⟨g, 2, none⟩ v2) sg a n c a' n' c' r L := by
  have n1 : NoInt (w1.setCell ⟨g, 0, none⟩ v0) g := R.setCell h0
  have n2 : NoInt ((w1.setCell ⟨g, 0, none⟩ v0).setCell ⟨g, 1, none⟩ v1) g := n1.setCell h1
  exact ⟨h.neg, ((h.num.setCell _ R).setCell _ n1).setCell _ n2, ((h.den.setCell _ R).setCell _ n1).setCell _ n2, h.numL, h.denL⟩

theorem NoInt.set3 {w1 : World} {s g : Nat} {v0 v1 v2 : Value} (R : NoInt w1 s) (h0 : ∀ k n, v0 ≠ .int k n) (h1 : ∀ k n, v1 ≠ .int k n) (h2 : ∀ k n, v2 ≠ .int k n) :
    NoInt (((w1.setCell ⟨g, 0, none⟩ v0).setCell ⟨g, 1, none⟩ v1).setCell ⟨g, 2, none⟩ v2) s := ((R.setCell h0).setCell h1).setCell h2
end Go.Bg
namespace Go.Proofs.YtpfjkaelbaoedaaGreatDoor
open Go.RowKit Go.Bg Dg

theorem sg_and' (s : Bool) (N : Nat) : sg (s && decide (0 < N)) N = sg s N := by
  by_cases h : 0 < N
  · simp [h]
  · have e : N = 0 := by omega
    subst e
    cases s <;> simp [sg]

theorem quoOf_rz (a b : Bool) (N M : Nat) : (Rt.whole a N).quoOf (Rt.whole b M) = rz ((sg a N).tdiv (sg b M)) := by
  have h := sg_quo (a && decide (0 < N)) (b && decide (0 < M)) N M
  rw [sg_and', sg_and', sg_and'] at h
  rw [← h]
  exact whole_rz _ _

theorem remOf_rz (a b : Bool) (N M : Nat) : (Rt.whole a N).remOf (Rt.whole b M) = rz ((sg a N).tmod (sg b M)) := by
  have h := sg_rem (a && decide (0 < N)) (b && decide (0 < M)) N M
  rw [sg_and', sg_and', sg_and'] at h
  rw [← h]
  exact whole_rz _ _

set_option maxRecDepth 100000 in
set_option maxHeartbeats 2000000 in
theorem divided_any (s1 s2 : Bool) (a1 : Option Addr) (n1 c1 : Nat) (a1' : Option Addr) (n1' c1' : Nat) (a2 : Option Addr) (n2 c2 : Nat) (a2' : Option Addr) (n2' c2' : Nat) (x y : Rt) (L : Nat) (w : World)
    (hx : RtAt w s1 a1 n1 c1 a1' n1' c1' x L) (hy : RtAt w s2 a2 n2 c2 a2' n2' c2' y L) (hyn : 0 < y.num) (hL1 : 1 ≤ L) (hL2 : L ≤ 20000) :
    Calls Tryz.prog 30 #[.agg #[.bool s1, .slice a1 n1 c1, .slice a1' n1' c1'], .agg #[.bool s2, .slice a2 n2 c2, .slice a2' n2' c2']] w (GivesRR (x.quoOf y) (x.remOf y) L w) := by
  have hn1 := hx.n_le
  have hn2 := hy.n_le
  obtain ⟨W3, hW3⟩ : ∃ W3, W3 = ((w.alloc (.cells #[.bool s1, .slice a1 n1 c1, .slice a1' n1' c1'] 31)).alloc (.cells #[.bool s2, .slice a2 n2 c2, .slice a2' n2' c2'] 31)).alloc (.cells #[.bool false, .slice none 0 0, .slice none 0 0] 31) := ⟨_, rfl⟩
  have P := plusW w s1 s2 (.slice a1 n1 c1) (.slice a1' n1' c1') (.slice a2 n2 c2) (.slice a2' n2' c2') 31
  rw [← hW3] at P
  have hs3 : W3.heap.size = w.heap.size + 1 + 1 + 1 := by rw [hW3]; simp
  obtain ⟨W0, hW0⟩ : ∃ W0, W0 = W3.alloc (.cells #[.bool false, .slice none 0 0, .slice none 0 0] 31) := ⟨_, rfl⟩
  have hk : Below W3.heap.size W3 W0 := by rw [hW0]; exact Below.alloc' (Below.refl _ _) _
  have RB : ResBlk W0 (w.heap.size + 1 + 1 + 1) := by rw [hW0, ← hs3]; exact ResBlk.alloc _ _
  have RA : ResBlk W0 (w.heap.size + 1 + 1) := P.res.below P.res.lt hk
  have hb0 : Below w.heap.size w W0 := Below.then P.below (by omega) hk
  have x0 := cell_keep P.x0 hk
  have x1 := cell_keep P.x1 hk
  have y0 := cell_keep P.y0 hk
  have y1 := cell_keep P.y1 hk
  rw [hW3] at hW0
  have HW := Lib.hid hW0
  have XN := Lib.hid (hx.num.keep hb0)
  have YN := Lib.hid (hy.num.keep hb0)
  have hneg : s1 = x.neg := hx.neg
  have hneg2 : s2 = y.neg := hy.neg
  have HLQ := Lib.hid (show x.num / y.num < 65536 ^ L from Nat.lt_of_le_of_lt (Nat.div_le_self _ _) hx.numL)
  have HLR := Lib.hid (show x.num % y.num < 65536 ^ L from Nat.lt_of_le_of_lt (Nat.mod_le _ _) hx.numL)
  have HRQ := Lib.hid (show x.quoOf y = Rt.whole (!(s1 == s2)) (x.num / y.num) from by unfold Rt.quoOf; rw [hneg, hneg2])
  have HRR := Lib.hid (show x.remOf y = Rt.whole s1 (x.num % y.num) from by unfold Rt.remOf; rw [hneg])
  clear hx hy hneg hneg2 hW0 hW3 P hk hs3
  go_enter Tryz.func30, Tryz.ntmps30
  go_upto_region 1 with fail
  rw [← HW.out]
  go_wp2_with fail
  refine (divMod_any a1 a2 n1 n2 c1 c2 x.num y.num _ XN.out YN.out (by omega) (by omega) hyn).mono ?_
  rintro e w1 ⟨aQ, nQ, cQ, aR, nR, cR, rfl, hQ, hR, hB1⟩
  have RA1 := RA.below RA.lt hB1
  have RB1 := RB.below RB.lt hB1
  have x01 := cell_keep x0 hB1
  have y01 := cell_keep y0 hB1
  have HQ := Lib.hid hQ
  have HR := Lib.hid hR
  have HBA := Lib.hid (Below.then hb0 (Nat.le_refl _) hB1)
  clear x0 x1 y0 y1 hQ hR RA RB hb0 hB1
  go_upto_region 2 with fail
  have hd0 : Below w1.heap.size w1 w1.drew := (Below.refl _ _).drew
  go_region_held3 (fun w' => w'.cell? ⟨w.heap.size, 0, none⟩ = some (.bool s1) ∧ w'.cell? ⟨w.heap.size + 1, 0, none⟩ = some (.bool s2))
    (first | with_reducible exact ⟨x01, y01⟩ | with_reducible exact ⟨cell_keep x01 (by assumption), cell_keep y01 (by assumption)⟩ | (refine ⟨?_, ?_⟩ <;> (rw [cell?_setCell_ne (by omega), cell?_setCell_ne (by omega), cell?_setCell_ne (by omega)]) <;> (try rw [cell?_setCell_ne (by omega), cell?_setCell_ne (by omega), cell?_setCell_ne (by omega)]) <;> first | exact cell_keep x01 (by assumption) | exact cell_keep y01 (by assumption)))
    (first | (go_at_call 27; (with_reducible refine (whole_any (!(s1 == s2)) aQ nQ cQ (x.num / y.num) L _ (HQ.out.keep hd0) HLQ.out hL1 (by omega)).mono ?_); rintro e w2 ⟨sM, aM, nM, cM, aN, nN, cN, rfl, hM, hB2⟩; have hb2 := Below.then hd0 (Nat.le_refl _) hB2) | (go_at_call 27; (with_reducible refine (whole_any s1 aR nR cR (x.num % y.num) L _ (HR.out.keep hb2) HLR.out hL1 (by omega)).mono ?_); rintro e w3 ⟨sO, aO, nO, cO, aP, nP, cP, rfl, hO, hB3⟩; have hb3 := Below.then hb2 (Nat.le_refl _) hB3; have hM3 := hM.keep hB3; have RA3 := RA1.below RA1.lt hb3; have RB3 := RB1.below RB1.lt hb3; obtain ⟨⟨u0, r0⟩, ⟨u1, r1⟩, ⟨u2, r2⟩⟩ := (RA3).cells; have f0 := (RA3).frozen 0; have f1 := (RA3).frozen 1; have f2 := (RA3).frozen 2; obtain ⟨⟨v0, q0⟩, ⟨v1, q1⟩, ⟨v2, q2⟩⟩ := RB3.cells; have g0 := RB3.frozen 0; have g1 := RB3.frozen 1; have g2 := RB3.frozen 2))
  have hbf := Below.then HBA.out (Nat.le_refl _) hb3
  have nB := RB3.noInt.set3 (g := w.heap.size + 1 + 1) (v0 := .bool sM) (v1 := .slice aM nM cM) (v2 := .slice aN nN cN) (by intro k n h; cases h) (by intro k n h; cases h) (by intro k n h; cases h)
  go_wp2
  refine bodyPost_ret (v := .tuple #[.agg #[.bool sM, .slice aM nM cM, .slice aN nN cN], .agg #[.bool sO, .slice aO nO cO, .slice aP nP cP]]) (by simp [results, Tryz.results30, go_sem, r0, r1, r2, q0, q1, q2]) rfl ?_
  rw [HRQ.out, HRR.out]
  refine ⟨sM, aM, nM, cM, aN, nN, cN, sO, aO, nO, cO, aP, nP, cP, rfl, ?_, ?_, ?_⟩
  · exact (hM3.set3 RA3.noInt (by intro k n h; cases h) (by intro k n h; cases h)).set3 nB (by intro k n h; cases h) (by intro k n h; cases h)
  · exact (hO.set3 RA3.noInt (by intro k n h; cases h) (by intro k n h; cases h)).set3 nB (by intro k n h; cases h) (by intro k n h; cases h)
  · exact (((((hbf.setCell (by show w.heap.size ≤ w.heap.size + 1 + 1; omega) _).setCell (by show w.heap.size ≤ w.heap.size + 1 + 1; omega) _).setCell (by show w.heap.size ≤ w.heap.size + 1 + 1; omega) _).setCell (by show w.heap.size ≤ w.heap.size + 1 + 1 + 1; omega) _).setCell (by show w.heap.size ≤ w.heap.size + 1 + 1 + 1; omega) _).setCell (by show w.heap.size ≤ w.heap.size + 1 + 1 + 1; omega) _

theorem signOf_whole {s : Bool} {N : Nat} (h : (Rt.whole s N).signOf ≠ 0) : 0 < N := by
  apply Nat.pos_of_ne_zero
  intro e
  apply h
  simp [Rt.signOf, Rt.whole, e]

theorem sg_ne {s : Bool} {N : Nat} (h : 0 < N) : sg s N ≠ 0 := by
  intro e
  have := sg_nat s N
  rw [e] at this
  simp at this
  omega
end Go.Proofs.YtpfjkaelbaoedaaGreatDoor
