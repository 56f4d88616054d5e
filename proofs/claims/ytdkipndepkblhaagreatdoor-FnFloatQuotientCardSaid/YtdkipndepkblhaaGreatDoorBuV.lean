/-
  constant.BinaryOp of integers: MUL (printed by gen_bin.py).
  The reference's fractions: Times.
-/
import Derived.Test.YtdkipndepkblhaaGreatDoorBuS
import Derived.Test.YtdkipndepkblhaaGreatDoorBuT
import Derived.Test.YtdkipndepkblhaaGreatDoorBuR
import Derived.Test.YtdkipndepkblhaaGreatDoorBuG
import Derived.Test.YtdkipndepkblhaaGreatDoorBuL
import Derived.WalkMore
import Derived.Test.YtdkipndepkblhaaGreatDoorBuD
import Derived.Test.YtdkipndepkblhaaGreatDoorBuH
set_option linter.unusedSimpArgs false
set_option linter.unusedVariables false
namespace Go.Proofs.YtdkipndepkblhaaGreatDoor
open Go.RowKit Go.Bg Dg

theorem mul_fit {z1 z2 : Int} (h1 : b32 z1 = true) (h2 : b32 z2 = true) : fit64 (z1 * z2) = true := by
  unfold b32 at h1 h2
  simp at h1 h2
  have h : (z1 * z2).natAbs ≤ 2147483648 * 2147483648 := by rw [Int.natAbs_mul]; exact Nat.mul_le_mul (by omega) (by omega)
  generalize z1 * z2 = p at *
  unfold fit64
  simp
  omega

set_option maxRecDepth 100000 in
set_option maxHeartbeats 4000000 in
theorem binMul_any (v1 v2 : Value) (z1 z2 : Int) (w : World) (hK : Thr w) (h1 : CInt w v1 z1) (h2 : CInt w v2 z2) (hap : Aprt v1 v2) (L : Nat) (hL : L < 40) (l1 : z1.natAbs < W64 ^ L) (l2 : z2.natAbs < W64 ^ L) :
    Calls Tryz.prog 38 #[v1, .int .i64 14, v2] w fun e w' => ∃ u, e = .returned u ∧ CInt w' u (z1 * z2) ∧ Below w.heap.size w w' := by
  have H1 := Lib.hid h1
  have H2 := Lib.hid h2
  have L1 := Lib.hid l1
  have L2 := Lib.hid l2
  have HA := Lib.hid hap
  have HK := Lib.hid hK
  clear h1 h2 l1 l2 hap hK
  go_enter Tryz.func38, Tryz.ntmps38
  go_wp2
  refine wp_scope_straight ?_
  go_wp2_with fail
  refine (matchF_any v1 v2 z1 z2 _ H1.out H2.out HA.out).mono ?_
  rintro e W ⟨u1, u2, rfl, hS, hB⟩
  have HB := Lib.hid hB
  have HKW := Lib.hid (HK.out.keep hB)
  clear hB
  rcases hS with ⟨rfl, f1, rfl, f2⟩ | ⟨b1, o1, s, N, b2, o2, t, M, rfl, rfl, hI, hJ, e1, e2, hne⟩
  · obtain ⟨t1, t2, t3, t4, t5, t6, t7, t8, t9⟩ := ta_int64Val
    have HF1 := Lib.hid (fit64_bd f1)
    have HF2 := Lib.hid (fit64_bd f2)
    clear f1 f2
    cases g1 : b32 z1
    · go_wp2_with fail
      refine (is32_any z1 _).mono ?_
      rintro e w0 ⟨rfl, rfl⟩
      rw [g1]
      clear g1
      go_wp2_with fail
      refine (newInt_any _).mono ?_
      rintro e w1 ⟨rfl, hw1⟩
      have hn1 : NewInt w1 W.heap.size 0 := by rw [hw1]; exact newInt_is W
      have hB1 : Below W.heap.size W w1 := by rw [hw1]; exact Below.alloc' (Below.refl _ _) _
      have HS1 := Lib.hid (show w1.heap.size = W.heap.size + 1 from by rw [hw1]; simp)
      clear hw1
      go_wp2_with fail
      refine (newIntOf_any z1 HF1.out _).mono ?_
      rintro e w2 ⟨b2, rfl, hs2, hI, hB2⟩
      have hn2 := hn1.keep hB2
      have hb2 := Below.then hB1 (by have := HS1.out; omega) hB2
      have HS2 := Lib.hid hB2.size
      have HX2 := Lib.hid hs2
      have HY2 := Lib.hid hI.blk.lt
      clear hs2
      clear hn1 hB1 hB2
      go_wp2_with fail
      refine (newIntOf_any z2 HF2.out _).mono ?_
      rintro e w3 ⟨b3, rfl, hs3, hJ, hB3⟩
      have hn3 := hn2.keep hB3
      have hI3 := hI.keep hB3
      have hb3 := Below.then hb2 (by have := HS1.out; have := HS2.out; omega) hB3
      have HS3 := Lib.hid hB3.size
      have HX3 := Lib.hid hs3
      clear hs3
      clear hn2 hI hb2 hB3
      go_wp2_with fail
      refine (intMul_new W.heap.size 0 b2 0 b3 0 (decide (z1 < 0)) (decide (z2 < 0)) z1.natAbs z2.natAbs _ (HKW.out.keep hb3) hn3 hI3 hJ (by have := HX3.out; have := HY2.out; omega) (by have := HX2.out; have := HS1.out; omega) (by have := HX3.out; have := HS2.out; have := HS1.out; omega) 1 (by omega) (by rw [Nat.pow_one]; unfold W64; have := HF1.out; omega) (by rw [Nat.pow_one]; unfold W64; have := HF2.out; omega)).mono ?_
      rintro e w4 ⟨rfl, hK, hU⟩
      rw [sg_natAbs, sg_natAbs] at hK
      have hbg := hU.upd.below hb3 (by have := HS1.out; have := HS2.out; have := HS3.out; omega) (fun k _ e => by subst e; exact Nat.le_refl _)
      go_wp2_with fail
      refine (makeInt_any W.heap.size 0 _ _ _ hK).mono ?_
      rintro e w5 ⟨u, rfl, hu, rfl⟩
      rw [sg_natAbs] at hu
      go_wp2
      try rw [Exit.noGoto_ret]
      go_ret
      exact ⟨_, rfl, hu, Below.then HB.out (Nat.le_refl _) hbg⟩
    · cases g2 : b32 z2
      · go_wp2_with fail
        refine (is32_any z1 _).mono ?_
        rintro e w0 ⟨rfl, rfl⟩
        rw [g1]
        go_wp2_with fail
        refine (is32_any z2 _).mono ?_
        rintro e w0 ⟨rfl, rfl⟩
        rw [g2]
        clear g1 g2
        go_wp2_with fail
        refine (newInt_any _).mono ?_
        rintro e w1 ⟨rfl, hw1⟩
        have hn1 : NewInt w1 W.heap.size 0 := by rw [hw1]; exact newInt_is W
        have hB1 : Below W.heap.size W w1 := by rw [hw1]; exact Below.alloc' (Below.refl _ _) _
        have HS1 := Lib.hid (show w1.heap.size = W.heap.size + 1 from by rw [hw1]; simp)
        clear hw1
        go_wp2_with fail
        refine (newIntOf_any z1 HF1.out _).mono ?_
        rintro e w2 ⟨b2, rfl, hs2, hI, hB2⟩
        have hn2 := hn1.keep hB2
        have hb2 := Below.then hB1 (by have := HS1.out; omega) hB2
        have HS2 := Lib.hid hB2.size
        have HX2 := Lib.hid hs2
        have HY2 := Lib.hid hI.blk.lt
        clear hs2
        clear hn1 hB1 hB2
        go_wp2_with fail
        refine (newIntOf_any z2 HF2.out _).mono ?_
        rintro e w3 ⟨b3, rfl, hs3, hJ, hB3⟩
        have hn3 := hn2.keep hB3
        have hI3 := hI.keep hB3
        have hb3 := Below.then hb2 (by have := HS1.out; have := HS2.out; omega) hB3
        have HS3 := Lib.hid hB3.size
        have HX3 := Lib.hid hs3
        clear hs3
        clear hn2 hI hb2 hB3
        go_wp2_with fail
        refine (intMul_new W.heap.size 0 b2 0 b3 0 (decide (z1 < 0)) (decide (z2 < 0)) z1.natAbs z2.natAbs _ (HKW.out.keep hb3) hn3 hI3 hJ (by have := HX3.out; have := HY2.out; omega) (by have := HX2.out; have := HS1.out; omega) (by have := HX3.out; have := HS2.out; have := HS1.out; omega) 1 (by omega) (by rw [Nat.pow_one]; unfold W64; have := HF1.out; omega) (by rw [Nat.pow_one]; unfold W64; have := HF2.out; omega)).mono ?_
        rintro e w4 ⟨rfl, hK, hU⟩
        rw [sg_natAbs, sg_natAbs] at hK
        have hbg := hU.upd.below hb3 (by have := HS1.out; have := HS2.out; have := HS3.out; omega) (fun k _ e => by subst e; exact Nat.le_refl _)
        go_wp2_with fail
        refine (makeInt_any W.heap.size 0 _ _ _ hK).mono ?_
        rintro e w5 ⟨u, rfl, hu, rfl⟩
        rw [sg_natAbs] at hu
        go_wp2
        try rw [Exit.noGoto_ret]
        go_ret
        exact ⟨_, rfl, hu, Below.then HB.out (Nat.le_refl _) hbg⟩
      · have HG := Lib.hid (mul_fit g1 g2)
        have HE := Lib.hid (show wrap64 (z1 * z2) = z1 * z2 from by have := fit64_bd HG.out; generalize z1 * z2 = p at *; unfold wrap64; omega)
        go_wp2_with fail
        refine (is32_any z1 _).mono ?_
        rintro e w0 ⟨rfl, rfl⟩
        rw [g1]
        go_wp2_with fail
        refine (is32_any z2 _).mono ?_
        rintro e w0 ⟨rfl, rfl⟩
        rw [g2]
        clear g1 g2
        go_wp2
        try rw [Exit.noGoto_ret]
        go_ret
        refine ⟨_, rfl, .inl ⟨?_, HG.out⟩, HB.out⟩
        first | (rw [HE.out]; rfl) | rfl
  · obtain ⟨t1, t2, t3, t4, t5, t6, t7, t8, t9⟩ := ta_intVal
    have hfld := field_intVal
    have LN := Lib.hid (show N < W64 ^ L from by have := L1.out; rw [← e1, sg_nat] at this; exact this)
    have LM := Lib.hid (show M < W64 ^ L from by have := L2.out; rw [← e2, sg_nat] at this; exact this)
    have HI := Lib.hid hI
    have HJ := Lib.hid hJ
    have E1 := Lib.hid e1
    have E2 := Lib.hid e2
    have HNE := Lib.hid hne
    have HL := Lib.hid hL
    clear hI hJ e1 e2 L1 L2 hne hL
    obtain ⟨W0, hW0⟩ : ∃ W0, W0 = W.alloc (.cells #[.pointer (some ⟨b1, o1, none⟩)] 93) := ⟨_, rfl⟩
    have HW := Lib.hid hW0
    have hb0 : Below W.heap.size W W0 := by rw [hW0]; exact Below.alloc' (Below.refl _ _) _
    have hx : W0.cell? ⟨W.heap.size, 0, none⟩ = some (.pointer (some ⟨b1, o1, none⟩)) := by rw [hW0]; exact alloc_new _ _ _ rfl rfl
    have HI0 := Lib.hid (HI.out.keep hb0)
    have HJ0 := Lib.hid (HJ.out.keep hb0)
    have HK0 := Lib.hid (HKW.out.keep hb0)
    clear hW0 HI HJ
    go_upto_region 49 with fail
    rw [← HW.out]
    go_wp2_with fail
    refine (newInt_any _).mono ?_
    rintro e w1 ⟨rfl, hw1⟩
    have hn1 : NewInt w1 W0.heap.size 0 := by rw [hw1]; exact newInt_is W0
    have hB1 : Below W0.heap.size W0 w1 := by rw [hw1]; exact Below.alloc' (Below.refl _ _) _
    have HS1 := Lib.hid (show w1.heap.size = W0.heap.size + 1 from by rw [hw1]; simp)
    clear hw1
    go_wp2_with fail
    refine (intMul_new W0.heap.size 0 b1 o1 b2 o2 s t N M _ (HK0.out.keep hB1) hn1 (HI0.out.keep hB1) (HJ0.out.keep hB1) HNE.out (Nat.ne_of_lt HI0.out.blk.lt) (Nat.ne_of_lt HJ0.out.blk.lt) L HL.out LN.out LM.out).mono ?_
    rintro e w4 ⟨rfl, hK, hU⟩
    rw [E1.out, E2.out] at hK
    have hbg := hU.upd.below hB1 (by have := HS1.out; omega) (fun k _ e => by subst e; exact Nat.le_refl _)
    go_wp2_with fail
    refine (makeInt_any W0.heap.size 0 _ _ _ hK).mono ?_
    rintro e w5 ⟨u, rfl, hu, rfl⟩
    rw [sg_natAbs] at hu
    go_wp2
    try rw [Exit.noGoto_ret]
    go_ret
    exact ⟨_, rfl, hu, Below.then HB.out (Nat.le_refl _) (Below.then hb0 (Nat.le_refl _) hbg)⟩
end Go.Proofs.YtdkipndepkblhaaGreatDoor

set_option linter.unusedSimpArgs false
set_option linter.unusedVariables false
namespace Go.Proofs.YtdkipndepkblhaaGreatDoor
open Go.RowKit Go.Bg Dg

set_option maxRecDepth 100000 in
set_option maxHeartbeats 2000000 in
theorem times_any (s1 s2 : Bool) (a1 : Option Addr) (n1 c1 : Nat) (a1' : Option Addr) (n1' c1' : Nat) (a2 : Option Addr) (n2 c2 : Nat) (a2' : Option Addr) (n2' c2' : Nat) (x y : Rt) (L : Nat) (w : World)
    (hx : RtAt w s1 a1 n1 c1 a1' n1' c1' x L) (hy : RtAt w s2 a2 n2 c2 a2' n2' c2' y L) (hxd : 0 < x.den) (hyd : 0 < y.den) (hL2 : L ≤ 20000) :
    Calls Tryz.prog 26 #[.agg #[.bool s1, .slice a1 n1 c1, .slice a1' n1' c1'], .agg #[.bool s2, .slice a2 n2 c2, .slice a2' n2' c2']] w (GivesR (x.times y) (2 * L) w) := by
  have hn1 := hx.n_le
  have hd1 := hx.d_le
  have hn2 := hy.n_le
  have hd2 := hy.d_le
  obtain ⟨W0, hW0⟩ : ∃ W0, W0 = ((w.alloc (.cells #[.bool s1, .slice a1 n1 c1, .slice a1' n1' c1'] 31)).alloc (.cells #[.bool s2, .slice a2 n2 c2, .slice a2' n2' c2'] 31)).alloc (.cells #[.bool false, .slice none 0 0, .slice none 0 0] 31) := ⟨_, rfl⟩
  have P := plusW w s1 s2 (.slice a1 n1 c1) (.slice a1' n1' c1') (.slice a2 n2 c2) (.slice a2' n2' c2') 31
  rw [← hW0] at P
  have HW := Lib.hid hW0
  clear hW0
  have XN := Lib.hid (show ∀ W', Below W0.heap.size W0 W' → NatAt W' a1 n1 c1 x.num from fun W' hb => (hx.num.keep P.below).keep hb)
  have XD := Lib.hid (show ∀ W', Below W0.heap.size W0 W' → NatAt W' a1' n1' c1' x.den from fun W' hb => (hx.den.keep P.below).keep hb)
  have YN := Lib.hid (show ∀ W', Below W0.heap.size W0 W' → NatAt W' a2 n2 c2 y.num from fun W' hb => (hy.num.keep P.below).keep hb)
  have YD := Lib.hid (show ∀ W', Below W0.heap.size W0 W' → NatAt W' a2' n2' c2' y.den from fun W' hb => (hy.den.keep P.below).keep hb)
  have hneg : s1 = x.neg := hx.neg
  have hneg2 : s2 = y.neg := hy.neg
  have HLN := Lib.hid (show x.num * y.num < 65536 ^ (2 * L) from by rw [Nat.two_mul, Nat.pow_add]; exact Nat.mul_lt_mul'' hx.numL hy.numL)
  have HLD := Lib.hid (show x.den * y.den < 65536 ^ (2 * L) from by rw [Nat.two_mul, Nat.pow_add]; exact Nat.mul_lt_mul'' hx.denL hy.denL)
  have HDP := Lib.hid (Nat.mul_pos hxd hyd)
  have HRES := Lib.hid (show x.times y = Rt.over (!(s1 == s2)) (x.num * y.num) (x.den * y.den) from by unfold Rt.times; rw [hneg, hneg2]; rfl)
  clear hx hy hxd hyd hneg hneg2
  go_enter Tryz.func26, Tryz.ntmps26
  go_wp2_with fail
  rw [← HW.out]
  have hb0 : Below W0.heap.size W0 W0.drew := (Below.refl _ _).drew
  go_region_held3 (fun w' => w'.cell? ⟨w.heap.size, 0, none⟩ = some (.bool s1) ∧ w'.cell? ⟨w.heap.size, 1, none⟩ = some (.slice a1 n1 c1) ∧ w'.cell? ⟨w.heap.size, 2, none⟩ = some (.slice a1' n1' c1') ∧
      w'.cell? ⟨w.heap.size + 1, 0, none⟩ = some (.bool s2) ∧ w'.cell? ⟨w.heap.size + 1, 1, none⟩ = some (.slice a2 n2 c2) ∧ w'.cell? ⟨w.heap.size + 1, 2, none⟩ = some (.slice a2' n2' c2'))
    (first | exact ⟨P.x0, P.x1, P.x2, P.y0, P.y1, P.y2⟩ | exact ⟨cell_keep P.x0 (by assumption), cell_keep P.x1 (by assumption), cell_keep P.x2 (by assumption), cell_keep P.y0 (by assumption), cell_keep P.y1 (by assumption), cell_keep P.y2 (by assumption)⟩ | (refine ⟨?_, ?_, ?_, ?_, ?_, ?_⟩ <;> (rw [cell?_setCell_ne (by omega), cell?_setCell_ne (by omega), cell?_setCell_ne (by omega)]) <;> first | exact cell_keep P.x0 (by assumption) | exact cell_keep P.x1 (by assumption) | exact cell_keep P.x2 (by assumption) | exact cell_keep P.y0 (by assumption) | exact cell_keep P.y1 (by assumption) | exact cell_keep P.y2 (by assumption)))
    (first | (go_at_call 47; (with_reducible refine (mul_any a1 a2 n1 n2 c1 c2 x.num y.num _ (XN.out _ (by assumption)) (YN.out _ (by assumption)) (by omega) (by omega)).mono ?_); rintro e w1 ⟨aM, nM, cM, rfl, hM, hB1⟩; have hb1 := Below.then hb0 (Nat.le_refl _) hB1) | (go_at_call 47; (with_reducible refine (mul_any a1' a2' n1' n2' c1' c2' x.den y.den _ (XD.out _ (by assumption)) (YD.out _ (by assumption)) (by omega) (by omega)).mono ?_); rintro e w3 ⟨aD, nD, cD, rfl, hD, hB3⟩; have hb3 := Below.then hb1 (Nat.le_refl _) hB3) | (go_at_call 46; (with_reducible refine (over_any (!(s1 == s2)) aM nM cM aD nD cD (x.num * y.num) (x.den * y.den) (2 * L) _ (hM.keep hB3) hD HLN.out HLD.out HDP.out (by omega)).mono ?_); rintro e w5 ⟨sR, aR, nR, cR, aE, nE, cE, rfl, hR, hB5⟩; have hb5 := Below.then hb3 (Nat.le_refl _) hB5; have R5 := P.res.below P.res.lt hb5; obtain ⟨⟨u0, r0⟩, ⟨u1, r1⟩, ⟨u2, r2⟩⟩ := (R5).cells; have f0 := (R5).frozen 0; have f1 := (R5).frozen 1; have f2 := (R5).frozen 2))
  have hbf := Below.then P.below (Nat.le_refl _) hb5
  go_wp2
  exact bodyPost_ret (v := .agg #[.bool sR, .slice aR nR cR, .slice aE nE cE]) (by simp [results, Tryz.results26, go_sem, r0, r1, r2]) rfl (givesR_end R5 (by omega) hbf (by rw [HRES.out]; exact hR))
end Go.Proofs.YtdkipndepkblhaaGreatDoor
