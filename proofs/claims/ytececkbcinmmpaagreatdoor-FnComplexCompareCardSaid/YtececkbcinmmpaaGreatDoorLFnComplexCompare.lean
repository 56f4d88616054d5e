/-
  FnComplexCompare walked. PRINTED BY wip/gen_lcpx.py.
-/
import Derived.Test.YtececkbcinmmpaaGreatDoorN7
import Derived.Test.YtececkbcinmmpaaGreatDoorK38
import Derived.Test.YtececkbcinmmpaaGreatDoorK06
import Derived.Test.YtececkbcinmmpaaGreatDoorK07
set_option linter.unusedSimpArgs false
set_option linter.unusedVariables false
namespace Go.Proofs.YtececkbcinmmpaaGreatDoor
open Go.RowKit Go.Bg Dg

theorem cmpEqC (x y : Vl) (r1 q1 r2 q2 : Rt) (w : World) (hK : Thr w) (hT : ThrD w) (h1 : VlAt w x) (h2 : VlAt w y) (m1 : MadeC x r1 q1) (m2 : MadeC y r2 q2) (p1 : PLt r1 q1 8) (p2 : PLt r2 q2 8) :
    Calls Tryz.prog 42 #[.int .i64 0, .agg #[.int .i64 x.kind, .bool x.truth, .string x.text, .bool x.neg, .slice x.wa x.wn x.wc, .slice x.da x.dn x.dc, .bool x.ineg, .slice x.ia x.inn x.ic, .slice x.ea x.en x.ec], .agg #[.int .i64 y.kind, .bool y.truth, .string y.text, .bool y.neg, .slice y.wa y.wn y.wc, .slice y.da y.dn y.dc, .bool y.ineg, .slice y.ia y.inn y.ic, .slice y.ea y.en y.ec]] w fun e w' => e = .returned (.bool (cmpC 0 r1 q1 r2 q2)) ∧ Below w.heap.size w w' := implCompareC_any 0 (by omega) x y r1 q1 r2 q2 8 (by omega) w hK hT h1 h2 m1 m2 p1 p2
theorem cmpNeC (x y : Vl) (r1 q1 r2 q2 : Rt) (w : World) (hK : Thr w) (hT : ThrD w) (h1 : VlAt w x) (h2 : VlAt w y) (m1 : MadeC x r1 q1) (m2 : MadeC y r2 q2) (p1 : PLt r1 q1 8) (p2 : PLt r2 q2 8) :
    Calls Tryz.prog 42 #[.int .i64 1, .agg #[.int .i64 x.kind, .bool x.truth, .string x.text, .bool x.neg, .slice x.wa x.wn x.wc, .slice x.da x.dn x.dc, .bool x.ineg, .slice x.ia x.inn x.ic, .slice x.ea x.en x.ec], .agg #[.int .i64 y.kind, .bool y.truth, .string y.text, .bool y.neg, .slice y.wa y.wn y.wc, .slice y.da y.dn y.dc, .bool y.ineg, .slice y.ia y.inn y.ic, .slice y.ea y.en y.ec]] w fun e w' => e = .returned (.bool (cmpC 1 r1 q1 r2 q2)) ∧ Below w.heap.size w w' := implCompareC_any 1 (by omega) x y r1 q1 r2 q2 8 (by omega) w hK hT h1 h2 m1 m2 p1 p2
theorem cmpC_self (r q : Rt) : cmpC 0 r q r q = true := by
  unfold cmpC cmpQ
  simp [cmpZ, cmpB]

set_option maxRecDepth 100000 in
set_option maxHeartbeats 8000000 in
theorem lawFnComplexCompare_any (no : Bool) (x y : Vl) (w : World) (hT : Thr w) (hDD : ThrD w) (h1 : VlAt w x) (h2 : VlAt w y) :
    Calls Tryz.prog 16 #[.bool no, .agg #[.int .i64 x.kind, .bool x.truth, .string x.text, .bool x.neg, .slice x.wa x.wn x.wc, .slice x.da x.dn x.dc, .bool x.ineg, .slice x.ia x.inn x.ic, .slice x.ea x.en x.ec], .agg #[.int .i64 y.kind, .bool y.truth, .string y.text, .bool y.neg, .slice y.wa y.wn y.wc, .slice y.da y.dn y.dc, .bool y.ineg, .slice y.ia y.inn y.ic, .slice y.ea y.en y.ec]] w fun e w' => e = .returned (.bool true) ∧ Below w.heap.size w w' := by
  have HT := Lib.hid hT
  have HDD := Lib.hid hDD
  clear hT hDD
  obtain ⟨W0, hW0⟩ : ∃ W0, W0 = (w.alloc (.cells #[.int .i64 x.kind, .bool x.truth, .string x.text, .bool x.neg, .slice x.wa x.wn x.wc, .slice x.da x.dn x.dc, .bool x.ineg, .slice x.ia x.inn x.ic, .slice x.ea x.en x.ec] 26)).alloc (.cells #[.int .i64 y.kind, .bool y.truth, .string y.text, .bool y.neg, .slice y.wa y.wn y.wc, .slice y.da y.dn y.dc, .bool y.ineg, .slice y.ia y.inn y.ic, .slice y.ea y.en y.ec] 26) := ⟨_, rfl⟩
  have HW := Lib.hid hW0
  have hb0 : Below w.heap.size w W0 := by rw [hW0]; exact Below.alloc' (Below.alloc' (Below.refl _ _) _) _
  have X : Box9 W0 w.heap.size x := by rw [hW0]; exact (Box9.new w x _ rfl).alloc _
  have Y : Box9 W0 (w.heap.size + 1) y := by rw [hW0]; exact Box9.new _ y _ (by simp)
  have HX := Lib.hid (h1.keep hb0)
  have HY := Lib.hid (h2.keep hb0)
  clear hW0 h1 h2
  cases hf : fitsB x
  · have HF := Lib.hid hf
    clear hf
    go_enter Tryz.func16, Tryz.ntmps16
    go_upto_region 1 with fail
    rw [← HW.out]
    obtain ⟨xc0, xc1, xc2, xc3, xc4, xc5, xc6, xc7, xc8⟩ := (X).all
    go_wp2_with fail
    refine (fits1_any x _).mono ?_
    rintro e w1 ⟨rfl, hB1⟩
    rw [HF.out]
    go_wp2
    go_ret
    exact ⟨rfl, Below.then hb0 (Nat.le_refl _) hB1⟩
  have HF := Lib.hid hf
  clear hf
  cases hg : fitsB y
  · have HG := Lib.hid hg
    clear hg
    go_enter Tryz.func16, Tryz.ntmps16
    go_upto_region 1 with fail
    rw [← HW.out]
    obtain ⟨xc0, xc1, xc2, xc3, xc4, xc5, xc6, xc7, xc8⟩ := (X).all
    go_wp2_with fail
    refine (fits1_any x _).mono ?_
    rintro e w1 ⟨rfl, hB1⟩
    rw [HF.out]
    have Y1 := Y.keep hB1
    obtain ⟨yc0, yc1, yc2, yc3, yc4, yc5, yc6, yc7, yc8⟩ := (Y1).all
    clear xc0 xc1 xc2 xc3 xc4 xc5 xc6 xc7 xc8
    go_wp2_with fail
    refine (fits1_any y _).mono ?_
    rintro e w2 ⟨rfl, hB2⟩
    rw [HG.out]
    go_wp2
    go_ret
    exact ⟨rfl, Below.then (Below.then hb0 (Nat.le_refl _) hB1) (Nat.le_refl _) hB2⟩
  have HG := Lib.hid hg
  clear hg
  go_enter Tryz.func16, Tryz.ntmps16
  go_upto_region 1 with fail
  rw [← HW.out]
  obtain ⟨xc0, xc1, xc2, xc3, xc4, xc5, xc6, xc7, xc8⟩ := (X).all
  go_wp2_with fail
  refine (fits1_any x _).mono ?_
  rintro e w1 ⟨rfl, hB1⟩
  rw [HF.out]
  have Y1 := Y.keep hB1
  obtain ⟨yc0, yc1, yc2, yc3, yc4, yc5, yc6, yc7, yc8⟩ := (Y1).all
  clear xc0 xc1 xc2 xc3 xc4 xc5 xc6 xc7 xc8
  go_wp2_with fail
  refine (fits1_any y _).mono ?_
  rintro e w2 ⟨rfl, hB2⟩
  rw [HG.out]
  clear yc0 yc1 yc2 yc3 yc4 yc5 yc6 yc7 yc8
  have hb2 := Below.then (Below.then hb0 (Nat.le_refl _) hB1) (Nat.le_refl _) hB2
  have X2 := (X.keep hB1).keep hB2
  have Y2 := Y1.keep hB2
  have HX2 := Lib.hid ((HX.out.keep hB1).keep hB2)
  have HY2 := Lib.hid ((HY.out.keep hB1).keep hB2)
  clear X Y Y1 HX HY hB1 hB2 hb0 HW
  go_upto_region 3 with fail
  obtain ⟨xc0, xc1, xc2, xc3, xc4, xc5, xc6, xc7, xc8⟩ := (X2).all
  go_wp2_with fail
  refine (lawPair_any x 8 _ HX2.out (by omega)).mono ?_
  rintro e w3 ⟨sA, aA, nA, cA, aB, nB, cB, sC, aC, nC, cC, aD, nD, cD, rfl, hR, hB3⟩
  clear xc0 xc1 xc2 xc3 xc4 xc5 xc6 xc7 xc8
  go_upto_region 4 with fail
  obtain ⟨W3, hW3⟩ : ∃ W3, W3 = (w3.alloc (.cells #[.bool sA, .slice aA nA cA, .slice aB nB cB] 31)).alloc (.cells #[.bool sC, .slice aC nC cC, .slice aD nD cD] 31) := ⟨_, rfl⟩
  rw [← hW3]
  have hk3 : Below w3.heap.size w3 W3 := by rw [hW3]; exact Below.alloc' (Below.alloc' (Below.refl _ _) _) _
  have hB3' : Below w2.heap.size w2 W3 := Below.then hB3 (Nat.le_refl _) hk3
  have A3 : RtBlk W3 w3.heap.size sA aA nA cA aB nB cB := by rw [hW3]; exact (RtBlk.new _ _ rfl _ _ _ _ _ _ _).keep ((Below.refl _ _).alloc (Nat.le_refl _) _)
  have C3 : RtBlk W3 (w3.heap.size + 1) sC aC nC cC aD nD cD := by rw [hW3]; exact RtBlk.new _ _ (by simp) _ _ _ _ _ _ _
  have R3 := Lib.hid (fun hb => show RtAt W3 sA aA nA cA aB nB cB (vrt x) (4 * 8) ∧ RtAt W3 sC aC nC cC aD nD cD (virt x) (4 * 8) from ⟨(hR hb).1.keep hk3, (hR hb).2.keep hk3⟩)
  have hb3 := Below.then hb2 (Nat.le_refl _) hB3'
  have X3 := X2.keep hB3'
  have Y3 := Y2.keep hB3'
  have HX3 := Lib.hid (HX2.out.keep hB3')
  have HY3 := Lib.hid (HY2.out.keep hB3')
  clear hW3 hR hB3 hk3 X2 Y2 HX2 HY2 hb2 hB3'
  obtain ⟨yc0, yc1, yc2, yc3, yc4, yc5, yc6, yc7, yc8⟩ := (Y3).all
  go_wp2_with fail
  refine (lawPair_any y 8 _ HY3.out (by omega)).mono ?_
  rintro e w4 ⟨sE, aE, nE, cE, aF, nF, cF, sG, aG, nG, cG, aH, nH, cH, rfl, hR, hB4⟩
  clear yc0 yc1 yc2 yc3 yc4 yc5 yc6 yc7 yc8
  go_upto_region 5 with fail
  obtain ⟨W4, hW4⟩ : ∃ W4, W4 = (w4.alloc (.cells #[.bool sE, .slice aE nE cE, .slice aF nF cF] 31)).alloc (.cells #[.bool sG, .slice aG nG cG, .slice aH nH cH] 31) := ⟨_, rfl⟩
  rw [← hW4]
  have hk4 : Below w4.heap.size w4 W4 := by rw [hW4]; exact Below.alloc' (Below.alloc' (Below.refl _ _) _) _
  have hB4' : Below W3.heap.size W3 W4 := Below.then hB4 (Nat.le_refl _) hk4
  have E4 : RtBlk W4 w4.heap.size sE aE nE cE aF nF cF := by rw [hW4]; exact (RtBlk.new _ _ rfl _ _ _ _ _ _ _).keep ((Below.refl _ _).alloc (Nat.le_refl _) _)
  have G4 : RtBlk W4 (w4.heap.size + 1) sG aG nG cG aH nH cH := by rw [hW4]; exact RtBlk.new _ _ (by simp) _ _ _ _ _ _ _
  have A4 := A3.keep hB4'
  have C4 := C3.keep hB4'
  have R4 := Lib.hid (fun hx hy => show RtAt W4 sA aA nA cA aB nB cB (vrt x) (4 * 8) ∧ RtAt W4 sC aC nC cC aD nD cD (virt x) (4 * 8) ∧ RtAt W4 sE aE nE cE aF nF cF (vrt y) (4 * 8) ∧ RtAt W4 sG aG nG cG aH nH cH (virt y) (4 * 8) from ⟨(R3.out hx).1.keep hB4', (R3.out hx).2.keep hB4', (hR hy).1.keep hk4, (hR hy).2.keep hk4⟩)
  have hb4 := Below.then hb3 (Nat.le_refl _) hB4'
  have X4 := X3.keep hB4'
  have Y4 := Y3.keep hB4'
  have HX4 := Lib.hid (HX3.out.keep hB4')
  have HY4 := Lib.hid (HY3.out.keep hB4')
  have HB4 := Lib.hid hb4
  clear hW4 hR hB4 hk4 hB4' X3 Y3 A3 C3 R3 HX3 HY3 hb3 hb4
  cases hbx : lpairB x 8
  · clear R4 X4 Y4 A4 C4 E4 G4
    go_wp2
    go_ret
    exact ⟨rfl, HB4.out⟩
  cases hby : lpairB y 8
  · clear R4 X4 Y4 A4 C4 E4 G4
    go_wp2
    go_ret
    exact ⟨rfl, HB4.out⟩
  have MX := Lib.hid (madeC_pair hbx (by omega) (by omega))
  have MY := Lib.hid (madeC_pair hby (by omega) (by omega))
  have PX := Lib.hid (plt_pair HX4.out hbx (by omega) (by omega))
  have PY := Lib.hid (plt_pair HY4.out hby (by omega) (by omega))
  obtain ⟨rA, rC, rE, rG⟩ := R4.out hbx hby
  have RA := Lib.hid rA
  have RC := Lib.hid rC
  have RE := Lib.hid rE
  have RG := Lib.hid rG
  have HT4 := Lib.hid (HT.out.keep HB4.out)
  have HD4 := Lib.hid (HDD.out.keep HB4.out)
  clear rA rC rE rG hbx hby R4
  have hd0 : Below W4.heap.size W4 W4.drew := (Below.refl _ _).drew
  have SA := Lib.hid (signOf_minus (x := vrt x) (y := vrt y) PX.out.ok1.den)
  have SB := Lib.hid (signOf_minus (x := virt x) (y := virt y) PX.out.ok2.den)
  have SC := Lib.hid (cmpC_self (vrt x) (virt x))
  obtain ⟨a0, a1, a2⟩ := A4
  obtain ⟨e0, e1, e2⟩ := E4
  go_wp2_with fail
  refine (minus_any sA sE aA nA cA aB nB cB aE nE cE aF nF cF (vrt x) (vrt y) 32 _ RA.out RE.out PX.out.ok1.den PY.out.ok1.den (by omega)).mono ?_
  rintro e w5 ⟨sM, aM, nM, cM, aN, nN, cN, rfl, hM, hB5⟩
  have hb5 := Below.then HB4.out (Nat.le_refl _) hB5
  have X5 := X4.keep hB5
  have Y5 := Y4.keep hB5
  have C5 := C4.keep hB5
  have G5 := G4.keep hB5
  have HX5 := Lib.hid (HX4.out.keep hB5)
  have HY5 := Lib.hid (HY4.out.keep hB5)
  have HT5 := Lib.hid (HT4.out.keep hB5)
  have HD5 := Lib.hid (HD4.out.keep hB5)
  have RC5 := Lib.hid (RC.out.keep hB5)
  have RG5 := Lib.hid (RG.out.keep hB5)
  clear a0 a1 a2 e0 e1 e2 X4 Y4 C4 G4 HX4 HY4 HT4 HD4 hd0 hB5
  go_wp2_with fail
  refine (signOf_any sM aM nM cM aN nN cN 65 (Rt.minus (vrt x) (vrt y)) _ (hM.mono (by omega)) (by omega)).mono ?_
  rintro e w6 ⟨rfl, hB6⟩
  have hb6 := Below.then hb5 (Nat.le_refl _) hB6
  have X6 := X5.keep hB6
  have Y6 := Y5.keep hB6
  have C6 := C5.keep hB6
  have G6 := G5.keep hB6
  have HX6 := Lib.hid (HX5.out.keep hB6)
  have HY6 := Lib.hid (HY5.out.keep hB6)
  have HT6 := Lib.hid (HT5.out.keep hB6)
  have HD6 := Lib.hid (HD5.out.keep hB6)
  have RC6 := Lib.hid (RC5.out.keep hB6)
  have RG6 := Lib.hid (RG5.out.keep hB6)
  clear X5 Y5 C5 G5 HX5 HY5 HT5 HD5 RC5 RG5 hb5 hB6 hM
  rw [SA.out]
  obtain ⟨u, hu⟩ : ∃ u, u = cmpQ (vrt x) (vrt y) := ⟨_, rfl⟩
  rw [← hu]
  have HU := Lib.hid hu
  clear hu
  by_cases h0 : u = 0
  · subst h0
    obtain ⟨c0, c1, c2⟩ := C6
    obtain ⟨g0, g1, g2⟩ := G6
    go_wp2_with fail
    refine (minus_any sC sG aC nC cC aD nD cD aG nG cG aH nH cH (virt x) (virt y) 32 _ RC6.out RG6.out PX.out.ok2.den PY.out.ok2.den (by omega)).mono ?_
    rintro e w7 ⟨sP, aP, nP, cP, aQ, nQ, cQ, rfl, hM, hB7⟩
    have hb7 := Below.then hb6 (Nat.le_refl _) hB7
    clear c0 c1 c2 g0 g1 g2
    go_wp2_with fail
    refine (signOf_any sP aP nP cP aQ nQ cQ 65 (Rt.minus (virt x) (virt y)) _ (hM.mono (by omega)) (by omega)).mono ?_
    rintro e w8 ⟨rfl, hB8⟩
    have hb8 := Below.then hb7 (Nat.le_refl _) hB8
    have hk := Below.then hB7 (Nat.le_refl _) hB8
    have X8 := X6.keep hk
    have Y8 := Y6.keep hk
    have HX8 := Lib.hid (HX6.out.keep hk)
    have HY8 := Lib.hid (HY6.out.keep hk)
    have HT8 := Lib.hid (HT6.out.keep hk)
    have HD8 := Lib.hid (HD6.out.keep hk)
    clear X6 Y6 HX6 HY6 HT6 HD6 hb6 hb7 hB7 hB8 hk hM RC6 RG6
    rw [SB.out]
    obtain ⟨v, hv⟩ : ∃ v, v = cmpQ (virt x) (virt y) := ⟨_, rfl⟩
    rw [← hv]
    have HV := Lib.hid hv
    clear hv
    by_cases h1 : v = 0
    · subst h1
      have HC0 := Lib.hid (show cmpC 0 (vrt x) (virt x) (vrt y) (virt y) = true from by unfold cmpC; rw [← HU.out, ← HV.out]; rfl)
      have HC1 := Lib.hid (show cmpC 1 (vrt x) (virt x) (vrt y) (virt y) = false from by unfold cmpC; rw [← HU.out, ← HV.out]; rfl)
      cases no
      · obtain ⟨xc0, xc1, xc2, xc3, xc4, xc5, xc6, xc7, xc8⟩ := (X8).all
        obtain ⟨yc0, yc1, yc2, yc3, yc4, yc5, yc6, yc7, yc8⟩ := (Y8).all
        go_wp2_with fail
        with_reducible refine (cmpEqC x y (vrt x) (virt x) (vrt y) (virt y) _ HT8.out HD8.out HX8.out HY8.out MX.out MY.out PX.out PY.out).mono ?_
        rintro e w9 ⟨rfl, hB9⟩
        rw [HC0.out]
        have hb9 := Below.then hb8 (Nat.le_refl _) hB9
        have X9 := X8.keep hB9
        have HX9 := Lib.hid (HX8.out.keep hB9)
        have HT9 := Lib.hid (HT8.out.keep hB9)
        have HD9 := Lib.hid (HD8.out.keep hB9)
        clear xc0 xc1 xc2 xc3 xc4 xc5 xc6 xc7 xc8 yc0 yc1 yc2 yc3 yc4 yc5 yc6 yc7 yc8 hB9
        obtain ⟨xc0, xc1, xc2, xc3, xc4, xc5, xc6, xc7, xc8⟩ := (X9).all
        go_wp2_with fail
        with_reducible refine (cmpEqC x x (vrt x) (virt x) (vrt x) (virt x) _ HT9.out HD9.out HX9.out HX9.out MX.out MX.out PX.out PX.out).mono ?_
        rintro e w10 ⟨rfl, hB10⟩
        rw [SC.out]
        have hb10 := Below.then hb9 (Nat.le_refl _) hB10
        clear xc0 xc1 xc2 xc3 xc4 xc5 xc6 xc7 xc8
        go_wp2
        go_ret
        exact ⟨rfl, hb10⟩
      · obtain ⟨xc0, xc1, xc2, xc3, xc4, xc5, xc6, xc7, xc8⟩ := (X8).all
        obtain ⟨yc0, yc1, yc2, yc3, yc4, yc5, yc6, yc7, yc8⟩ := (Y8).all
        go_wp2_with fail
        with_reducible refine (cmpNeC x y (vrt x) (virt x) (vrt y) (virt y) _ HT8.out HD8.out HX8.out HY8.out MX.out MY.out PX.out PY.out).mono ?_
        rintro e w9 ⟨rfl, hB9⟩
        rw [HC1.out]
        have hb9 := Below.then hb8 (Nat.le_refl _) hB9
        have X9 := X8.keep hB9
        have HX9 := Lib.hid (HX8.out.keep hB9)
        have HT9 := Lib.hid (HT8.out.keep hB9)
        have HD9 := Lib.hid (HD8.out.keep hB9)
        clear xc0 xc1 xc2 xc3 xc4 xc5 xc6 xc7 xc8 yc0 yc1 yc2 yc3 yc4 yc5 yc6 yc7 yc8 hB9
        obtain ⟨xc0, xc1, xc2, xc3, xc4, xc5, xc6, xc7, xc8⟩ := (X9).all
        go_wp2_with fail
        with_reducible refine (cmpEqC x x (vrt x) (virt x) (vrt x) (virt x) _ HT9.out HD9.out HX9.out HX9.out MX.out MX.out PX.out PX.out).mono ?_
        rintro e w10 ⟨rfl, hB10⟩
        rw [SC.out]
        have hb10 := Below.then hb9 (Nat.le_refl _) hB10
        clear xc0 xc1 xc2 xc3 xc4 xc5 xc6 xc7 xc8
        go_wp2
        go_ret
        exact ⟨rfl, hb10⟩
    · have hne : (v == 0) = false := by simp; exact h1
      have hne2 : decide (v = 0) = false := decide_eq_false h1
      have HC0 := Lib.hid (show cmpC 0 (vrt x) (virt x) (vrt y) (virt y) = false from by unfold cmpC; rw [← HU.out, ← HV.out]; simp [cmpB, h1])
      have HC1 := Lib.hid (show cmpC 1 (vrt x) (virt x) (vrt y) (virt y) = true from by unfold cmpC; rw [← HU.out, ← HV.out]; simp [cmpB, h1])
      clear h1
      cases no
      · obtain ⟨xc0, xc1, xc2, xc3, xc4, xc5, xc6, xc7, xc8⟩ := (X8).all
        obtain ⟨yc0, yc1, yc2, yc3, yc4, yc5, yc6, yc7, yc8⟩ := (Y8).all
        go_wp2_with fail
        with_reducible refine (cmpEqC x y (vrt x) (virt x) (vrt y) (virt y) _ HT8.out HD8.out HX8.out HY8.out MX.out MY.out PX.out PY.out).mono ?_
        rintro e w9 ⟨rfl, hB9⟩
        rw [HC0.out]
        have hb9 := Below.then hb8 (Nat.le_refl _) hB9
        have X9 := X8.keep hB9
        have HX9 := Lib.hid (HX8.out.keep hB9)
        have HT9 := Lib.hid (HT8.out.keep hB9)
        have HD9 := Lib.hid (HD8.out.keep hB9)
        clear xc0 xc1 xc2 xc3 xc4 xc5 xc6 xc7 xc8 yc0 yc1 yc2 yc3 yc4 yc5 yc6 yc7 yc8 hB9
        obtain ⟨xc0, xc1, xc2, xc3, xc4, xc5, xc6, xc7, xc8⟩ := (X9).all
        go_wp2_with fail
        with_reducible refine (cmpEqC x x (vrt x) (virt x) (vrt x) (virt x) _ HT9.out HD9.out HX9.out HX9.out MX.out MX.out PX.out PX.out).mono ?_
        rintro e w10 ⟨rfl, hB10⟩
        rw [SC.out]
        have hb10 := Below.then hb9 (Nat.le_refl _) hB10
        clear xc0 xc1 xc2 xc3 xc4 xc5 xc6 xc7 xc8
        go_wp2
        go_ret
        exact ⟨rfl, hb10⟩
      · obtain ⟨xc0, xc1, xc2, xc3, xc4, xc5, xc6, xc7, xc8⟩ := (X8).all
        obtain ⟨yc0, yc1, yc2, yc3, yc4, yc5, yc6, yc7, yc8⟩ := (Y8).all
        go_wp2_with fail
        with_reducible refine (cmpNeC x y (vrt x) (virt x) (vrt y) (virt y) _ HT8.out HD8.out HX8.out HY8.out MX.out MY.out PX.out PY.out).mono ?_
        rintro e w9 ⟨rfl, hB9⟩
        rw [HC1.out]
        have hb9 := Below.then hb8 (Nat.le_refl _) hB9
        have X9 := X8.keep hB9
        have HX9 := Lib.hid (HX8.out.keep hB9)
        have HT9 := Lib.hid (HT8.out.keep hB9)
        have HD9 := Lib.hid (HD8.out.keep hB9)
        clear xc0 xc1 xc2 xc3 xc4 xc5 xc6 xc7 xc8 yc0 yc1 yc2 yc3 yc4 yc5 yc6 yc7 yc8 hB9
        obtain ⟨xc0, xc1, xc2, xc3, xc4, xc5, xc6, xc7, xc8⟩ := (X9).all
        go_wp2_with fail
        with_reducible refine (cmpEqC x x (vrt x) (virt x) (vrt x) (virt x) _ HT9.out HD9.out HX9.out HX9.out MX.out MX.out PX.out PX.out).mono ?_
        rintro e w10 ⟨rfl, hB10⟩
        rw [SC.out]
        have hb10 := Below.then hb9 (Nat.le_refl _) hB10
        clear xc0 xc1 xc2 xc3 xc4 xc5 xc6 xc7 xc8
        go_wp2
        go_ret
        exact ⟨rfl, hb10⟩
  · have hne : (u == 0) = false := by simp; exact h0
    have hne2 : decide (u = 0) = false := decide_eq_false h0
    have HC0 := Lib.hid (show cmpC 0 (vrt x) (virt x) (vrt y) (virt y) = false from by unfold cmpC; rw [← HU.out]; simp [cmpB, h0])
    have HC1 := Lib.hid (show cmpC 1 (vrt x) (virt x) (vrt y) (virt y) = true from by unfold cmpC; rw [← HU.out]; simp [cmpB, h0])
    clear h0
    cases no
    · obtain ⟨xc0, xc1, xc2, xc3, xc4, xc5, xc6, xc7, xc8⟩ := (X6).all
      obtain ⟨yc0, yc1, yc2, yc3, yc4, yc5, yc6, yc7, yc8⟩ := (Y6).all
      go_wp2_with fail
      with_reducible refine (cmpEqC x y (vrt x) (virt x) (vrt y) (virt y) _ HT6.out HD6.out HX6.out HY6.out MX.out MY.out PX.out PY.out).mono ?_
      rintro e w9 ⟨rfl, hB9⟩
      rw [HC0.out]
      have hb9 := Below.then hb6 (Nat.le_refl _) hB9
      have X9 := X6.keep hB9
      have HX9 := Lib.hid (HX6.out.keep hB9)
      have HT9 := Lib.hid (HT6.out.keep hB9)
      have HD9 := Lib.hid (HD6.out.keep hB9)
      clear xc0 xc1 xc2 xc3 xc4 xc5 xc6 xc7 xc8 yc0 yc1 yc2 yc3 yc4 yc5 yc6 yc7 yc8 hB9
      obtain ⟨xc0, xc1, xc2, xc3, xc4, xc5, xc6, xc7, xc8⟩ := (X9).all
      go_wp2_with fail
      with_reducible refine (cmpEqC x x (vrt x) (virt x) (vrt x) (virt x) _ HT9.out HD9.out HX9.out HX9.out MX.out MX.out PX.out PX.out).mono ?_
      rintro e w10 ⟨rfl, hB10⟩
      rw [SC.out]
      have hb10 := Below.then hb9 (Nat.le_refl _) hB10
      clear xc0 xc1 xc2 xc3 xc4 xc5 xc6 xc7 xc8
      go_wp2
      go_ret
      exact ⟨rfl, hb10⟩
    · obtain ⟨xc0, xc1, xc2, xc3, xc4, xc5, xc6, xc7, xc8⟩ := (X6).all
      obtain ⟨yc0, yc1, yc2, yc3, yc4, yc5, yc6, yc7, yc8⟩ := (Y6).all
      go_wp2_with fail
      with_reducible refine (cmpNeC x y (vrt x) (virt x) (vrt y) (virt y) _ HT6.out HD6.out HX6.out HY6.out MX.out MY.out PX.out PY.out).mono ?_
      rintro e w9 ⟨rfl, hB9⟩
      rw [HC1.out]
      have hb9 := Below.then hb6 (Nat.le_refl _) hB9
      have X9 := X6.keep hB9
      have HX9 := Lib.hid (HX6.out.keep hB9)
      have HT9 := Lib.hid (HT6.out.keep hB9)
      have HD9 := Lib.hid (HD6.out.keep hB9)
      clear xc0 xc1 xc2 xc3 xc4 xc5 xc6 xc7 xc8 yc0 yc1 yc2 yc3 yc4 yc5 yc6 yc7 yc8 hB9
      obtain ⟨xc0, xc1, xc2, xc3, xc4, xc5, xc6, xc7, xc8⟩ := (X9).all
      go_wp2_with fail
      with_reducible refine (cmpEqC x x (vrt x) (virt x) (vrt x) (virt x) _ HT9.out HD9.out HX9.out HX9.out MX.out MX.out PX.out PX.out).mono ?_
      rintro e w10 ⟨rfl, hB10⟩
      rw [SC.out]
      have hb10 := Below.then hb9 (Nat.le_refl _) hB10
      clear xc0 xc1 xc2 xc3 xc4 xc5 xc6 xc7 xc8
      go_wp2
      go_ret
      exact ⟨rfl, hb10⟩
end Go.Proofs.YtececkbcinmmpaaGreatDoor
