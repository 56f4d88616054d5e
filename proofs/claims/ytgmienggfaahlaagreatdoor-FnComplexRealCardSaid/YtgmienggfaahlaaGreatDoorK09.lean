/-
  Contracts and lemmas: Spec10 Spec11 Spec12.
-/
import Derived.Test.YtgmienggfaahlaaGreatDoorK08
import Derived.Test.YtgmienggfaahlaaGreatDoorK01
set_option linter.unusedSimpArgs false
set_option linter.unusedVariables false
set_option maxRecDepth 100000
set_option maxHeartbeats 8000000
namespace Go.Proofs.YtgmienggfaahlaaGreatDoor
open Go.RowKit Go.Bg Dg
structure PlusW (w W0 : World) (s1 s2 : Bool) (a b c d : Value) : Prop where
  x0 : W0.cell? ⟨w.heap.size, 0, none⟩ = some (.bool s1)
  x1 : W0.cell? ⟨w.heap.size, 1, none⟩ = some a
  x2 : W0.cell? ⟨w.heap.size, 2, none⟩ = some b
  y0 : W0.cell? ⟨w.heap.size + 1, 0, none⟩ = some (.bool s2)
  y1 : W0.cell? ⟨w.heap.size + 1, 1, none⟩ = some c
  y2 : W0.cell? ⟨w.heap.size + 1, 2, none⟩ = some d
  res : ResBlk W0 (w.heap.size + 1 + 1)
  below : Below w.heap.size w W0
theorem plusW (w : World) (s1 s2 : Bool) (a b c d : Value) (T : TypeId) :
    PlusW w (((w.alloc (.cells #[.bool s1, a, b] T)).alloc (.cells #[.bool s2, c, d] T)).alloc (.cells #[.bool false, .slice none 0 0, .slice none 0 0] T)) s1 s2 a b c d := by
  have R := ResBlk.alloc ((w.alloc (.cells #[.bool s1, a, b] T)).alloc (.cells #[.bool s2, c, d] T)) T
  simp at R
  exact ⟨alloc_keep _ _ (alloc_keep _ _ (alloc_new _ _ _ rfl rfl)), alloc_keep _ _ (alloc_keep _ _ (alloc_new _ _ _ rfl rfl)), alloc_keep _ _ (alloc_keep _ _ (alloc_new _ _ _ rfl rfl)),
    alloc_keep _ _ (alloc_new _ _ _ (by simp) rfl), alloc_keep _ _ (alloc_new _ _ _ (by simp) rfl), alloc_keep _ _ (alloc_new _ _ _ (by simp) rfl), R,
    (((Below.refl _ _).alloc (Nat.le_refl _) _).alloc (by simp) _).alloc (by simp; omega) _⟩
theorem cmpI_ge {X Y : Nat} (h : Y ≤ X) : ¬ cmpI X Y < 0 := by unfold cmpI; rw [if_neg (by omega)]; split <;> decide
theorem cmpI_lt {X Y : Nat} (h : X < Y) : cmpI X Y < 0 := by unfold cmpI; rw [if_pos h]; decide
theorem plus_same (s : Bool) (a1 : Option Addr) (n1 c1 : Nat) (a1' : Option Addr) (n1' c1' : Nat) (a2 : Option Addr) (n2 c2 : Nat) (a2' : Option Addr) (n2' c2' : Nat) (x y : Rt) (L : Nat) (w : World)
    (hx : RtAt w s a1 n1 c1 a1' n1' c1' x L) (hy : RtAt w s a2 n2 c2 a2' n2' c2' y L) (hxd : 0 < x.den) (hyd : 0 < y.den) (hL2 : L ≤ 20000) :
    Calls Tryz.prog 10 #[.agg #[.bool s, .slice a1 n1 c1, .slice a1' n1' c1'], .agg #[.bool s, .slice a2 n2 c2, .slice a2' n2' c2']] w (GivesR (x.plus y) (2 * L + 1) w) := by
  have hn1 := hx.n_le
  have hd1 := hx.d_le
  have hn2 := hy.n_le
  have hd2 := hy.d_le
  obtain ⟨W0, hW0⟩ : ∃ W0, W0 = ((w.alloc (.cells #[.bool s, .slice a1 n1 c1, .slice a1' n1' c1'] 31)).alloc (.cells #[.bool s, .slice a2 n2 c2, .slice a2' n2' c2'] 31)).alloc (.cells #[.bool false, .slice none 0 0, .slice none 0 0] 31) := ⟨_, rfl⟩
  have P := plusW w s s (.slice a1 n1 c1) (.slice a1' n1' c1') (.slice a2 n2 c2) (.slice a2' n2' c2') 31
  rw [← hW0] at P
  have HW := Lib.hid hW0
  clear hW0
  go_enter Tryz.func10, Tryz.ntmps10
  go_wp2_with fail
  rw [← HW.out]
  have hxn : ∀ W', Below W0.heap.size W0 W' → NatAt W' a1 n1 c1 x.num := fun W' hb => (hx.num.keep P.below).keep hb
  have hxd' : ∀ W', Below W0.heap.size W0 W' → NatAt W' a1' n1' c1' x.den := fun W' hb => (hx.den.keep P.below).keep hb
  have hyn : ∀ W', Below W0.heap.size W0 W' → NatAt W' a2 n2 c2 y.num := fun W' hb => (hy.num.keep P.below).keep hb
  have hyd' : ∀ W', Below W0.heap.size W0 W' → NatAt W' a2' n2' c2' y.den := fun W' hb => (hy.den.keep P.below).keep hb
  have HX := Lib.hid hx
  have HY := Lib.hid hy
  have XN := Lib.hid hxn
  have XD := Lib.hid hxd'
  have YN := Lib.hid hyn
  have YD := Lib.hid hyd'
  clear hx hy hxn hxd' hyn hyd'
  have hb0 : Below W0.heap.size W0 W0.drew := (Below.refl _ _).drew
  go_region_held3 (fun w' => w'.cell? ⟨w.heap.size, 1, none⟩ = some (.slice a1 n1 c1) ∧ w'.cell? ⟨w.heap.size, 2, none⟩ = some (.slice a1' n1' c1') ∧
      w'.cell? ⟨w.heap.size + 1, 1, none⟩ = some (.slice a2 n2 c2) ∧ w'.cell? ⟨w.heap.size + 1, 2, none⟩ = some (.slice a2' n2' c2'))
    (first | exact ⟨P.x1, P.x2, P.y1, P.y2⟩ | exact ⟨cell_keep P.x1 (by assumption), cell_keep P.x2 (by assumption), cell_keep P.y1 (by assumption), cell_keep P.y2 (by assumption)⟩)
    (first | (go_at_call 28; (with_reducible refine (mul_any a1 a2' n1 n2' c1 c2' x.num y.den _ (XN.out _ (by assumption)) (YD.out _ (by assumption)) (by omega) (by omega)).mono ?_); rintro e w1 ⟨aM, nM, cM, rfl, hM, hB1⟩; have hb1 := Below.then hb0 (Nat.le_refl _) hB1) | (go_at_call 28; (with_reducible refine (mul_any a2 a1' n2 n1' c2 c1' y.num x.den _ (YN.out _ (by assumption)) (XD.out _ (by assumption)) (by omega) (by omega)).mono ?_); rintro e w2 ⟨aN, nN, cN, rfl, hN, hB2⟩; have hb2 := Below.then hb1 (Nat.le_refl _) hB2) | (go_at_call 28; (with_reducible refine (mul_any a1' a2' n1' n2' c1' c2' x.den y.den _ (XD.out _ (by assumption)) (YD.out _ (by assumption)) (by omega) (by omega)).mono ?_); rintro e w3 ⟨aD, nD, cD, rfl, hD, hB3⟩; have hb3 := Below.then hb2 (Nat.le_refl _) hB3))
  have hM3 := (hM.keep hB2).keep hB3
  have hN3 := hN.keep hB3
  have x0 := cell_keep P.x0 hb3
  have y0 := cell_keep P.y0 hb3
  have R := P.res.below (P.res.lt) hb3
  have hbw := Below.then P.below (Nat.le_refl _) hb3
  have hss : (s == s) = true := by simp
  have LM : x.num * y.den < 65536 ^ (2 * L) := by
    rw [Nat.two_mul, Nat.pow_add]; exact Nat.mul_lt_mul'' HX.out.numL HY.out.denL
  have LN : y.num * x.den < 65536 ^ (2 * L) := by
    rw [Nat.two_mul, Nat.pow_add]; exact Nat.mul_lt_mul'' HY.out.numL HX.out.denL
  have LD : x.den * y.den < 65536 ^ (2 * L) := by
    rw [Nat.two_mul, Nat.pow_add]; exact Nat.mul_lt_mul'' HX.out.denL HY.out.denL
  have hnM := hM3.len16 LM
  have hnN := hN3.len16 LN
  have hnD := hD.len16 LD
  have hneg : s = x.neg := HX.out.neg
  have hneg2 : s = y.neg := HY.out.neg
  have hres : x.plus y = Rt.over s (x.num * y.den + y.num * x.den) (x.den * y.den) := by
    unfold Rt.plus; rw [if_pos (by rw [← hneg, ← hneg2]), ← hneg]
  have hdp : 0 < x.den * y.den := Nat.mul_pos hxd hyd
  have LS : x.num * y.den + y.num * x.den < 65536 ^ (2 * L + 1) := by rw [Nat.pow_succ]; omega
  have LD' : x.den * y.den < 65536 ^ (2 * L + 1) := by rw [Nat.pow_succ]; omega
  have HRES := Lib.hid hres
  have HLS := Lib.hid LS
  have HLD := Lib.hid LD'
  have HDP := Lib.hid hdp
  clear hres LS LD' hdp LM LN LD hneg hneg2 hM hN hB1 hB2 hB3 hb0 hb1 hb2 hb3 XN XD YN YD HX HY HW P hxd hyd
  go_wp2_with fail
  have hb0 : Below w3.heap.size w3 w3.drew := (Below.refl _ _).drew
  go_region_held3 (fun w' => w'.cell? ⟨w.heap.size, 0, none⟩ = some (.bool s))
    (first | exact x0 | exact cell_keep x0 (by assumption) | (rw [cell?_setCell_ne (by omega), cell?_setCell_ne (by omega), cell?_setCell_ne (by omega)]; exact cell_keep x0 (by assumption)))
    (first | (go_at_call 30; (with_reducible refine (add_any aM aN nM nN cM cN (x.num * y.den) (y.num * x.den) _ (hM3.keep (by assumption)) (hN3.keep (by assumption)) (by omega) (by omega)).mono ?_); rintro e w4 ⟨aS, nS, cS, rfl, hS, hB4⟩; have hb4 := Below.then hb0 (Nat.le_refl _) hB4) | (go_at_call 29; (with_reducible refine (over_any s aS nS cS aD nD cD (x.num * y.den + y.num * x.den) (x.den * y.den) (2 * L + 1) _ hS (hD.keep (by assumption)) HLS.out HLD.out HDP.out (by omega)).mono ?_); rintro e w5 ⟨sR, aR, nR, cR, aE, nE, cE, rfl, hR, hB5⟩; have hb5 := Below.then hb4 (Nat.le_refl _) hB5; have R5 := R.below R.lt hb5; obtain ⟨⟨u0, r0⟩, ⟨u1, r1⟩, ⟨u2, r2⟩⟩ := (R5).cells; have f0 := (R5).frozen 0; have f1 := (R5).frozen 1; have f2 := (R5).frozen 2))
  have hbf := Below.then hbw (Nat.le_refl _) hb5
  go_wp2
  exact bodyPost_ret (v := .agg #[.bool sR, .slice aR nR cR, .slice aE nE cE]) (by simp [results, Tryz.results10, go_sem, r0, r1, r2]) rfl (givesR_end R5 (by omega) hbf (by rw [HRES.out]; exact hR))
theorem plus_diff1 (s : Bool) (a1 : Option Addr) (n1 c1 : Nat) (a1' : Option Addr) (n1' c1' : Nat) (a2 : Option Addr) (n2 c2 : Nat) (a2' : Option Addr) (n2' c2' : Nat) (x y : Rt) (L : Nat) (w : World)
    (hx : RtAt w s a1 n1 c1 a1' n1' c1' x L) (hy : RtAt w (!s) a2 n2 c2 a2' n2' c2' y L) (hxd : 0 < x.den) (hyd : 0 < y.den) (hL2 : L ≤ 20000) (hc : y.num * x.den ≤ x.num * y.den) :
    Calls Tryz.prog 10 #[.agg #[.bool s, .slice a1 n1 c1, .slice a1' n1' c1'], .agg #[.bool (!s), .slice a2 n2 c2, .slice a2' n2' c2']] w (GivesR (x.plus y) (2 * L + 1) w) := by
  have hn1 := hx.n_le
  have hd1 := hx.d_le
  have hn2 := hy.n_le
  have hd2 := hy.d_le
  obtain ⟨W0, hW0⟩ : ∃ W0, W0 = ((w.alloc (.cells #[.bool s, .slice a1 n1 c1, .slice a1' n1' c1'] 31)).alloc (.cells #[.bool (!s), .slice a2 n2 c2, .slice a2' n2' c2'] 31)).alloc (.cells #[.bool false, .slice none 0 0, .slice none 0 0] 31) := ⟨_, rfl⟩
  have P := plusW w s (!s) (.slice a1 n1 c1) (.slice a1' n1' c1') (.slice a2 n2 c2) (.slice a2' n2' c2') 31
  rw [← hW0] at P
  have HW := Lib.hid hW0
  clear hW0
  go_enter Tryz.func10, Tryz.ntmps10
  go_wp2_with fail
  rw [← HW.out]
  have hxn : ∀ W', Below W0.heap.size W0 W' → NatAt W' a1 n1 c1 x.num := fun W' hb => (hx.num.keep P.below).keep hb
  have hxd' : ∀ W', Below W0.heap.size W0 W' → NatAt W' a1' n1' c1' x.den := fun W' hb => (hx.den.keep P.below).keep hb
  have hyn : ∀ W', Below W0.heap.size W0 W' → NatAt W' a2 n2 c2 y.num := fun W' hb => (hy.num.keep P.below).keep hb
  have hyd' : ∀ W', Below W0.heap.size W0 W' → NatAt W' a2' n2' c2' y.den := fun W' hb => (hy.den.keep P.below).keep hb
  have HX := Lib.hid hx
  have HY := Lib.hid hy
  have XN := Lib.hid hxn
  have XD := Lib.hid hxd'
  have YN := Lib.hid hyn
  have YD := Lib.hid hyd'
  clear hx hy hxn hxd' hyn hyd'
  have hb0 : Below W0.heap.size W0 W0.drew := (Below.refl _ _).drew
  go_region_held3 (fun w' => w'.cell? ⟨w.heap.size, 1, none⟩ = some (.slice a1 n1 c1) ∧ w'.cell? ⟨w.heap.size, 2, none⟩ = some (.slice a1' n1' c1') ∧
      w'.cell? ⟨w.heap.size + 1, 1, none⟩ = some (.slice a2 n2 c2) ∧ w'.cell? ⟨w.heap.size + 1, 2, none⟩ = some (.slice a2' n2' c2'))
    (first | exact ⟨P.x1, P.x2, P.y1, P.y2⟩ | exact ⟨cell_keep P.x1 (by assumption), cell_keep P.x2 (by assumption), cell_keep P.y1 (by assumption), cell_keep P.y2 (by assumption)⟩)
    (first | (go_at_call 28; (with_reducible refine (mul_any a1 a2' n1 n2' c1 c2' x.num y.den _ (XN.out _ (by assumption)) (YD.out _ (by assumption)) (by omega) (by omega)).mono ?_); rintro e w1 ⟨aM, nM, cM, rfl, hM, hB1⟩; have hb1 := Below.then hb0 (Nat.le_refl _) hB1) | (go_at_call 28; (with_reducible refine (mul_any a2 a1' n2 n1' c2 c1' y.num x.den _ (YN.out _ (by assumption)) (XD.out _ (by assumption)) (by omega) (by omega)).mono ?_); rintro e w2 ⟨aN, nN, cN, rfl, hN, hB2⟩; have hb2 := Below.then hb1 (Nat.le_refl _) hB2) | (go_at_call 28; (with_reducible refine (mul_any a1' a2' n1' n2' c1' c2' x.den y.den _ (XD.out _ (by assumption)) (YD.out _ (by assumption)) (by omega) (by omega)).mono ?_); rintro e w3 ⟨aD, nD, cD, rfl, hD, hB3⟩; have hb3 := Below.then hb2 (Nat.le_refl _) hB3))
  have hM3 := (hM.keep hB2).keep hB3
  have hN3 := hN.keep hB3
  have x0 := cell_keep P.x0 hb3
  have y0 := cell_keep P.y0 hb3
  have R := P.res.below (P.res.lt) hb3
  have hbw := Below.then P.below (Nat.le_refl _) hb3
  have hss : (s == !s) = false := by cases s <;> rfl
  have LM : x.num * y.den < 65536 ^ (2 * L) := by
    rw [Nat.two_mul, Nat.pow_add]; exact Nat.mul_lt_mul'' HX.out.numL HY.out.denL
  have LN : y.num * x.den < 65536 ^ (2 * L) := by
    rw [Nat.two_mul, Nat.pow_add]; exact Nat.mul_lt_mul'' HY.out.numL HX.out.denL
  have LD : x.den * y.den < 65536 ^ (2 * L) := by
    rw [Nat.two_mul, Nat.pow_add]; exact Nat.mul_lt_mul'' HX.out.denL HY.out.denL
  have hnM := hM3.len16 LM
  have hnN := hN3.len16 LN
  have hnD := hD.len16 LD
  have hneg : s = x.neg := HX.out.neg
  have hneg2 : (!s) = y.neg := HY.out.neg
  have hres : x.plus y = Rt.over s (x.num * y.den - y.num * x.den) (x.den * y.den) := by
    unfold Rt.plus; rw [if_neg (by rw [← hneg, ← hneg2]; cases s <;> simp), if_pos hc, ← hneg]
  have hdp : 0 < x.den * y.den := Nat.mul_pos hxd hyd
  have LS : x.num * y.den - y.num * x.den < 65536 ^ (2 * L + 1) := by rw [Nat.pow_succ]; omega
  have LD' : x.den * y.den < 65536 ^ (2 * L + 1) := by rw [Nat.pow_succ]; omega
  have HRES := Lib.hid hres
  have HLS := Lib.hid LS
  have HLD := Lib.hid LD'
  have HDP := Lib.hid hdp
  clear hres LS LD' hdp LM LN LD hneg hneg2 hM hN hB1 hB2 hB3 hb0 hb1 hb2 hb3 XN XD YN YD HX HY HW P hxd hyd
  have hcl : ¬ cmpI (x.num * y.den) (y.num * x.den) < 0 := cmpI_ge hc
  have HC := Lib.hid hc
  clear hc
  go_wp2_with fail
  refine (cmp_any _ _ _ _ _ _ (x.num * y.den) (y.num * x.den) _ hM3 hN3 (by omega) (by omega)).mono ?_
  rintro e w4 ⟨rfl, hdr⟩
  have hB : Below w3.heap.size w3 w4 := below_of_drewN hdr
  replace hM3 := hM3.keep hB
  replace hN3 := hN3.keep hB
  replace hD := hD.keep hB
  replace x0 := cell_keep x0 hB
  replace y0 := cell_keep y0 hB
  replace R := R.below R.lt hB
  replace hbw := Below.then hbw (Nat.le_refl _) hB
  clear hB hdr
  go_wp2_with fail
  have hb0 : Below w4.heap.size w4 w4.drew := (Below.refl _ _).drew
  go_region_held3 (fun w' => w'.cell? ⟨w.heap.size, 0, none⟩ = some (.bool s))
    (first | exact x0 | exact cell_keep x0 (by assumption) | (rw [cell?_setCell_ne (by omega), cell?_setCell_ne (by omega), cell?_setCell_ne (by omega)]; exact cell_keep x0 (by assumption)))
    (first | (go_at_call 32; (with_reducible refine (sub_any aM aN nM nN cM cN (x.num * y.den) (y.num * x.den) _ (hM3.keep (by assumption)) (hN3.keep (by assumption)) (by omega) (by omega) HC.out).mono ?_); rintro e w4' ⟨aS, nS, cS, rfl, hS, hB4⟩; have hb4 := Below.then hb0 (Nat.le_refl _) hB4) | (go_at_call 29; (with_reducible refine (over_any s aS nS cS aD nD cD (x.num * y.den - y.num * x.den) (x.den * y.den) (2 * L + 1) _ hS (hD.keep (by assumption)) HLS.out HLD.out HDP.out (by omega)).mono ?_); rintro e w5 ⟨sR, aR, nR, cR, aE, nE, cE, rfl, hR, hB5⟩; have hb5 := Below.then hb4 (Nat.le_refl _) hB5; have R5 := R.below R.lt hb5; obtain ⟨⟨u0, r0⟩, ⟨u1, r1⟩, ⟨u2, r2⟩⟩ := (R5).cells; have f0 := (R5).frozen 0; have f1 := (R5).frozen 1; have f2 := (R5).frozen 2))
  have hbf := Below.then hbw (Nat.le_refl _) hb5
  go_wp2
  exact bodyPost_ret (v := .agg #[.bool sR, .slice aR nR cR, .slice aE nE cE]) (by simp [results, Tryz.results10, go_sem, r0, r1, r2]) rfl (givesR_end R5 (by omega) hbf (by rw [HRES.out]; exact hR))
theorem plus_diff2 (s : Bool) (a1 : Option Addr) (n1 c1 : Nat) (a1' : Option Addr) (n1' c1' : Nat) (a2 : Option Addr) (n2 c2 : Nat) (a2' : Option Addr) (n2' c2' : Nat) (x y : Rt) (L : Nat) (w : World)
    (hx : RtAt w s a1 n1 c1 a1' n1' c1' x L) (hy : RtAt w (!s) a2 n2 c2 a2' n2' c2' y L) (hxd : 0 < x.den) (hyd : 0 < y.den) (hL2 : L ≤ 20000) (hc : x.num * y.den < y.num * x.den) :
    Calls Tryz.prog 10 #[.agg #[.bool s, .slice a1 n1 c1, .slice a1' n1' c1'], .agg #[.bool (!s), .slice a2 n2 c2, .slice a2' n2' c2']] w (GivesR (x.plus y) (2 * L + 1) w) := by
  have hn1 := hx.n_le
  have hd1 := hx.d_le
  have hn2 := hy.n_le
  have hd2 := hy.d_le
  obtain ⟨W0, hW0⟩ : ∃ W0, W0 = ((w.alloc (.cells #[.bool s, .slice a1 n1 c1, .slice a1' n1' c1'] 31)).alloc (.cells #[.bool (!s), .slice a2 n2 c2, .slice a2' n2' c2'] 31)).alloc (.cells #[.bool false, .slice none 0 0, .slice none 0 0] 31) := ⟨_, rfl⟩
  have P := plusW w s (!s) (.slice a1 n1 c1) (.slice a1' n1' c1') (.slice a2 n2 c2) (.slice a2' n2' c2') 31
  rw [← hW0] at P
  have HW := Lib.hid hW0
  clear hW0
  go_enter Tryz.func10, Tryz.ntmps10
  go_wp2_with fail
  rw [← HW.out]
  have hxn : ∀ W', Below W0.heap.size W0 W' → NatAt W' a1 n1 c1 x.num := fun W' hb => (hx.num.keep P.below).keep hb
  have hxd' : ∀ W', Below W0.heap.size W0 W' → NatAt W' a1' n1' c1' x.den := fun W' hb => (hx.den.keep P.below).keep hb
  have hyn : ∀ W', Below W0.heap.size W0 W' → NatAt W' a2 n2 c2 y.num := fun W' hb => (hy.num.keep P.below).keep hb
  have hyd' : ∀ W', Below W0.heap.size W0 W' → NatAt W' a2' n2' c2' y.den := fun W' hb => (hy.den.keep P.below).keep hb
  have HX := Lib.hid hx
  have HY := Lib.hid hy
  have XN := Lib.hid hxn
  have XD := Lib.hid hxd'
  have YN := Lib.hid hyn
  have YD := Lib.hid hyd'
  clear hx hy hxn hxd' hyn hyd'
  have hb0 : Below W0.heap.size W0 W0.drew := (Below.refl _ _).drew
  go_region_held3 (fun w' => w'.cell? ⟨w.heap.size, 1, none⟩ = some (.slice a1 n1 c1) ∧ w'.cell? ⟨w.heap.size, 2, none⟩ = some (.slice a1' n1' c1') ∧
      w'.cell? ⟨w.heap.size + 1, 1, none⟩ = some (.slice a2 n2 c2) ∧ w'.cell? ⟨w.heap.size + 1, 2, none⟩ = some (.slice a2' n2' c2'))
    (first | exact ⟨P.x1, P.x2, P.y1, P.y2⟩ | exact ⟨cell_keep P.x1 (by assumption), cell_keep P.x2 (by assumption), cell_keep P.y1 (by assumption), cell_keep P.y2 (by assumption)⟩)
    (first | (go_at_call 28; (with_reducible refine (mul_any a1 a2' n1 n2' c1 c2' x.num y.den _ (XN.out _ (by assumption)) (YD.out _ (by assumption)) (by omega) (by omega)).mono ?_); rintro e w1 ⟨aM, nM, cM, rfl, hM, hB1⟩; have hb1 := Below.then hb0 (Nat.le_refl _) hB1) | (go_at_call 28; (with_reducible refine (mul_any a2 a1' n2 n1' c2 c1' y.num x.den _ (YN.out _ (by assumption)) (XD.out _ (by assumption)) (by omega) (by omega)).mono ?_); rintro e w2 ⟨aN, nN, cN, rfl, hN, hB2⟩; have hb2 := Below.then hb1 (Nat.le_refl _) hB2) | (go_at_call 28; (with_reducible refine (mul_any a1' a2' n1' n2' c1' c2' x.den y.den _ (XD.out _ (by assumption)) (YD.out _ (by assumption)) (by omega) (by omega)).mono ?_); rintro e w3 ⟨aD, nD, cD, rfl, hD, hB3⟩; have hb3 := Below.then hb2 (Nat.le_refl _) hB3))
  have hM3 := (hM.keep hB2).keep hB3
  have hN3 := hN.keep hB3
  have x0 := cell_keep P.x0 hb3
  have y0 := cell_keep P.y0 hb3
  have R := P.res.below (P.res.lt) hb3
  have hbw := Below.then P.below (Nat.le_refl _) hb3
  have hss : (s == !s) = false := by cases s <;> rfl
  have LM : x.num * y.den < 65536 ^ (2 * L) := by
    rw [Nat.two_mul, Nat.pow_add]; exact Nat.mul_lt_mul'' HX.out.numL HY.out.denL
  have LN : y.num * x.den < 65536 ^ (2 * L) := by
    rw [Nat.two_mul, Nat.pow_add]; exact Nat.mul_lt_mul'' HY.out.numL HX.out.denL
  have LD : x.den * y.den < 65536 ^ (2 * L) := by
    rw [Nat.two_mul, Nat.pow_add]; exact Nat.mul_lt_mul'' HX.out.denL HY.out.denL
  have hnM := hM3.len16 LM
  have hnN := hN3.len16 LN
  have hnD := hD.len16 LD
  have hneg : s = x.neg := HX.out.neg
  have hneg2 : (!s) = y.neg := HY.out.neg
  have hres : x.plus y = Rt.over (!s) (y.num * x.den - x.num * y.den) (x.den * y.den) := by
    unfold Rt.plus; rw [if_neg (by rw [← hneg, ← hneg2]; cases s <;> simp), if_neg (by omega), ← hneg2]
  have hdp : 0 < x.den * y.den := Nat.mul_pos hxd hyd
  have LS : y.num * x.den - x.num * y.den < 65536 ^ (2 * L + 1) := by rw [Nat.pow_succ]; omega
  have LD' : x.den * y.den < 65536 ^ (2 * L + 1) := by rw [Nat.pow_succ]; omega
  have HRES := Lib.hid hres
  have HLS := Lib.hid LS
  have HLD := Lib.hid LD'
  have HDP := Lib.hid hdp
  clear hres LS LD' hdp LM LN LD hneg hneg2 hM hN hB1 hB2 hB3 hb0 hb1 hb2 hb3 XN XD YN YD HX HY HW P hxd hyd
  have hcl : cmpI (x.num * y.den) (y.num * x.den) < 0 := cmpI_lt hc
  have HC := Lib.hid hc
  clear hc
  go_wp2_with fail
  refine (cmp_any _ _ _ _ _ _ (x.num * y.den) (y.num * x.den) _ hM3 hN3 (by omega) (by omega)).mono ?_
  rintro e w4 ⟨rfl, hdr⟩
  have hB : Below w3.heap.size w3 w4 := below_of_drewN hdr
  replace hM3 := hM3.keep hB
  replace hN3 := hN3.keep hB
  replace hD := hD.keep hB
  replace x0 := cell_keep x0 hB
  replace y0 := cell_keep y0 hB
  replace R := R.below R.lt hB
  replace hbw := Below.then hbw (Nat.le_refl _) hB
  clear hB hdr
  go_wp2_with fail
  have hb0 : Below w4.heap.size w4 w4.drew := (Below.refl _ _).drew
  go_region_held3 (fun w' => w'.cell? ⟨w.heap.size + 1, 0, none⟩ = some (.bool (!s)))
    (first | exact y0 | exact cell_keep y0 (by assumption) | (rw [cell?_setCell_ne (by omega), cell?_setCell_ne (by omega), cell?_setCell_ne (by omega)]; exact cell_keep y0 (by assumption)))
    (first | (go_at_call 32; (with_reducible refine (sub_any aN aM nN nM cN cM (y.num * x.den) (x.num * y.den) _ (hN3.keep (by assumption)) (hM3.keep (by assumption)) (by omega) (by omega) (Nat.le_of_lt HC.out)).mono ?_); rintro e w4' ⟨aS, nS, cS, rfl, hS, hB4⟩; have hb4 := Below.then hb0 (Nat.le_refl _) hB4) | (go_at_call 29; (with_reducible refine (over_any (!s) aS nS cS aD nD cD (y.num * x.den - x.num * y.den) (x.den * y.den) (2 * L + 1) _ hS (hD.keep (by assumption)) HLS.out HLD.out HDP.out (by omega)).mono ?_); rintro e w5 ⟨sR, aR, nR, cR, aE, nE, cE, rfl, hR, hB5⟩; have hb5 := Below.then hb4 (Nat.le_refl _) hB5; have R5 := R.below R.lt hb5; obtain ⟨⟨u0, r0⟩, ⟨u1, r1⟩, ⟨u2, r2⟩⟩ := (R5).cells; have f0 := (R5).frozen 0; have f1 := (R5).frozen 1; have f2 := (R5).frozen 2))
  have hbf := Below.then hbw (Nat.le_refl _) hb5
  go_wp2
  exact bodyPost_ret (v := .agg #[.bool sR, .slice aR nR cR, .slice aE nE cE]) (by simp [results, Tryz.results10, go_sem, r0, r1, r2]) rfl (givesR_end R5 (by omega) hbf (by rw [HRES.out]; exact hR))
theorem plus_any (s1 s2 : Bool) (a1 : Option Addr) (n1 c1 : Nat) (a1' : Option Addr) (n1' c1' : Nat) (a2 : Option Addr) (n2 c2 : Nat) (a2' : Option Addr) (n2' c2' : Nat) (x y : Rt) (L : Nat) (w : World)
    (hx : RtAt w s1 a1 n1 c1 a1' n1' c1' x L) (hy : RtAt w s2 a2 n2 c2 a2' n2' c2' y L) (hxd : 0 < x.den) (hyd : 0 < y.den) (hL2 : L ≤ 20000) :
    Calls Tryz.prog 10 #[.agg #[.bool s1, .slice a1 n1 c1, .slice a1' n1' c1'], .agg #[.bool s2, .slice a2 n2 c2, .slice a2' n2' c2']] w (GivesR (x.plus y) (2 * L + 1) w) := by
  by_cases h : s1 = s2
  · subst h; exact plus_same s1 _ _ _ _ _ _ _ _ _ _ _ _ x y L w hx hy hxd hyd hL2
  · obtain rfl : s2 = !s1 := by cases s1 <;> cases s2 <;> simp_all
    by_cases hc : y.num * x.den ≤ x.num * y.den
    · exact plus_diff1 s1 _ _ _ _ _ _ _ _ _ _ _ _ x y L w hx hy hxd hyd hL2 hc
    · exact plus_diff2 s1 _ _ _ _ _ _ _ _ _ _ _ _ x y L w hx hy hxd hyd hL2 (by omega)
theorem minus_any (s1 s2 : Bool) (a1 : Option Addr) (n1 c1 : Nat) (a1' : Option Addr) (n1' c1' : Nat) (a2 : Option Addr) (n2 c2 : Nat) (a2' : Option Addr) (n2' c2' : Nat) (x y : Rt) (L : Nat) (w : World)
    (hx : RtAt w s1 a1 n1 c1 a1' n1' c1' x L) (hy : RtAt w s2 a2 n2 c2 a2' n2' c2' y L) (hxd : 0 < x.den) (hyd : 0 < y.den) (hL2 : L ≤ 20000) :
    Calls Tryz.prog 33 #[.agg #[.bool s1, .slice a1 n1 c1, .slice a1' n1' c1'], .agg #[.bool s2, .slice a2 n2 c2, .slice a2' n2' c2']] w (GivesR (x.minus y) (2 * L + 1) w) := by
  obtain ⟨W0, hW0⟩ : ∃ W0, W0 = ((w.alloc (.cells #[.bool s1, .slice a1 n1 c1, .slice a1' n1' c1'] 31)).alloc (.cells #[.bool s2, .slice a2 n2 c2, .slice a2' n2' c2'] 31)).alloc (.cells #[.bool false, .slice none 0 0, .slice none 0 0] 31) := ⟨_, rfl⟩
  have P := plusW w s1 s2 (.slice a1 n1 c1) (.slice a1' n1' c1') (.slice a2 n2 c2) (.slice a2' n2' c2') 31
  rw [← hW0] at P
  have HW := Lib.hid hW0
  clear hW0
  have HX := Lib.hid (show ∀ W', Below W0.heap.size W0 W' → RtAt W' s1 a1 n1 c1 a1' n1' c1' x L from fun W' hb => (hx.keep P.below).keep hb)
  have HY := Lib.hid (show ∀ W', Below W0.heap.size W0 W' → RtAt W' s2 a2 n2 c2 a2' n2' c2' y L from fun W' hb => (hy.keep P.below).keep hb)
  have hyd' : 0 < y.negated.den := hyd
  clear hx hy
  go_enter Tryz.func33, Tryz.ntmps33
  go_wp2_with fail
  rw [← HW.out]
  have hb0 : Below W0.heap.size W0 W0.drew := (Below.refl _ _).drew
  go_region_held3 (fun w' => w'.cell? ⟨w.heap.size, 0, none⟩ = some (.bool s1) ∧ w'.cell? ⟨w.heap.size, 1, none⟩ = some (.slice a1 n1 c1) ∧ w'.cell? ⟨w.heap.size, 2, none⟩ = some (.slice a1' n1' c1') ∧
      w'.cell? ⟨w.heap.size + 1, 0, none⟩ = some (.bool s2) ∧ w'.cell? ⟨w.heap.size + 1, 1, none⟩ = some (.slice a2 n2 c2) ∧ w'.cell? ⟨w.heap.size + 1, 2, none⟩ = some (.slice a2' n2' c2'))
    (first | exact ⟨P.x0, P.x1, P.x2, P.y0, P.y1, P.y2⟩ | exact ⟨cell_keep P.x0 (by assumption), cell_keep P.x1 (by assumption), cell_keep P.x2 (by assumption), cell_keep P.y0 (by assumption), cell_keep P.y1 (by assumption), cell_keep P.y2 (by assumption)⟩ | (refine ⟨?_, ?_, ?_, ?_, ?_, ?_⟩ <;> (rw [cell?_setCell_ne (by omega), cell?_setCell_ne (by omega), cell?_setCell_ne (by omega)]) <;> first | exact cell_keep P.x0 (by assumption) | exact cell_keep P.x1 (by assumption) | exact cell_keep P.x2 (by assumption) | exact cell_keep P.y0 (by assumption) | exact cell_keep P.y1 (by assumption) | exact cell_keep P.y2 (by assumption)))
    (first | (go_at_call 13; (with_reducible refine (negated_any s2 a2 n2 c2 a2' n2' c2' L y _ (HY.out _ (by assumption)) (by omega)).mono ?_); rintro e w1 ⟨sN, aN, nN, cN, aE, nE, cE, rfl, hN, hB1⟩; have hb1 := Below.then hb0 (Nat.le_refl _) hB1) | (go_at_call 10; (with_reducible refine (plus_any s1 sN a1 n1 c1 a1' n1' c1' aN nN cN aE nE cE x y.negated L _ (HX.out _ (by assumption)) hN hxd hyd' hL2).mono ?_); rintro e w2 ⟨sR, aR, nR, cR, aF, nF, cF, rfl, hR, hB2⟩; have hb2 := Below.then hb1 (Nat.le_refl _) hB2; have R2 := P.res.below P.res.lt hb2; obtain ⟨⟨u0, r0⟩, ⟨u1, r1⟩, ⟨u2, r2⟩⟩ := (R2).cells; have f0 := (R2).frozen 0; have f1 := (R2).frozen 1; have f2 := (R2).frozen 2))
  have hbf := Below.then P.below (Nat.le_refl _) hb2
  go_wp2
  exact bodyPost_ret (v := .agg #[.bool sR, .slice aR nR cR, .slice aF nF cF]) (by simp [results, Tryz.results33, go_sem, r0, r1, r2]) rfl (givesR_end R2 (by omega) hbf hR)
theorem rest_any (v : Vl) (w : World) :
    Calls Tryz.prog 98 #[.agg #[.int .i64 v.kind, .bool v.truth, .string v.text, .bool v.neg, .slice v.wa v.wn v.wc, .slice v.da v.dn v.dc, .bool v.ineg, .slice v.ia v.inn v.ic, .slice v.ea v.en v.ec]] w fun e w' => e = .returned (.bool v.restB) ∧ Below w.heap.size w w' := by
  have hb := fun cs => (Below.refl w.heap.size w).alloc (Nat.le_refl _) (.cells cs 26)
  have HB := Lib.hid hb
  clear hb
  go_enter Tryz.func98, Tryz.ntmps98
  go_wp2
  all_goals go_ret
  all_goals exact ⟨ret_bool (by first | (simp_all [Vl.restB]; done) | (simp_all [Vl.restB]; rw [Bool.eq_iff_iff]; simp)), HB.out _⟩
def isNumB (xneg : Bool) (f : Nat → Nat) (n : Nat) (neg : Bool) (N : Nat) : Bool := (xneg == (neg && decide (0 < N))) && hasW f n N
theorem isNumber_any (xneg : Bool) (a1 : Option Addr) (n1 c1 : Nat) (f : Nat → Nat) (neg : Bool) (a2 : Option Addr) (n2 c2 N : Nat) (w : World) (hw : WordsAt w a1 n1 c1 f) (hb1 : n1 ≤ 100000)
    (h2 : NatAt w a2 n2 c2 N) (hb2 : n2 ≤ 400000) :
    Calls Tryz.prog 120 #[.agg #[.bool xneg, .slice a1 n1 c1], .bool neg, .slice a2 n2 c2] w fun e w' => e = .returned (.bool (isNumB xneg f n1 neg N)) ∧ Below w.heap.size w w' := by
  have hb := (Below.refl w.heap.size w).alloc (Nat.le_refl _) (.cells #[.bool xneg, .slice a1 n1 c1] 24)
  have hpl := natAt_pos_len h2
  have HP := Lib.hid hpl
  have HW := Lib.hid hw
  have H2 := Lib.hid h2
  have HB := Lib.hid hb
  clear hpl hw h2 hb
  unfold isNumB
  rw [← HP.out]
  cases neg
  · cases xneg
    · go_enter Tryz.func120, Tryz.ntmps120
      go_wp2_with (go_at_call 121; refine (hasWords_any a1 a2 n1 c1 n2 c2 N f _ (HW.out.keep HB.out).cells HW.out.lt hb1 (H2.out.keep HB.out) hb2).mono ?_; rintro e w1 ⟨rfl, hB1⟩)
      go_ret
      exact ⟨by simp, Below.then HB.out (Nat.le_refl _) hB1⟩
    · go_enter Tryz.func120, Tryz.ntmps120
      go_wp2
      go_ret
      exact ⟨by simp, HB.out⟩
  · by_cases h0 : 0 < n2
    · have hd : decide (0 < n2) = true := by simpa using h0
      rw [hd]
      cases xneg
      · go_enter Tryz.func120, Tryz.ntmps120
        go_wp2
        go_ret
        exact ⟨by simp, HB.out⟩
      · go_enter Tryz.func120, Tryz.ntmps120
        go_wp2_with (go_at_call 121; refine (hasWords_any a1 a2 n1 c1 n2 c2 N f _ (HW.out.keep HB.out).cells HW.out.lt hb1 (H2.out.keep HB.out) hb2).mono ?_; rintro e w1 ⟨rfl, hB1⟩)
        go_ret
        exact ⟨by simp, Below.then HB.out (Nat.le_refl _) hB1⟩
    · obtain rfl : n2 = 0 := by omega
      cases xneg
      · go_enter Tryz.func120, Tryz.ntmps120
        go_wp2_with (go_at_call 121; refine (hasWords_any a1 a2 n1 c1 0 c2 N f _ (HW.out.keep HB.out).cells HW.out.lt hb1 (H2.out.keep HB.out) hb2).mono ?_; rintro e w1 ⟨rfl, hB1⟩)
        go_ret
        exact ⟨by simp, Below.then HB.out (Nat.le_refl _) hB1⟩
      · go_enter Tryz.func120, Tryz.ntmps120
        go_wp2
        go_ret
        exact ⟨by simp, HB.out⟩
end Go.Proofs.YtgmienggfaahlaaGreatDoor
