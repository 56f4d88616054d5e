/-
  FnComplexProduct walked. PRINTED BY wip/gen_lcpx.py.
-/
import Derived.Test.YtececkbcinmmpaaGreatDoorN5
import Derived.Test.YtececkbcinmmpaaGreatDoorN9
import Derived.Test.YtececkbcinmmpaaGreatDoorK38
set_option linter.unusedSimpArgs false
set_option linter.unusedVariables false
namespace Go.Proofs.YtececkbcinmmpaaGreatDoor
open Go.RowKit Go.Bg Dg

set_option maxRecDepth 100000 in
set_option maxHeartbeats 8000000 in
theorem lawFnComplexProduct_any (x y : Vl) (w : World) (hT : Thr w) (hDD : ThrD w) (h1 : VlAt w x) (h2 : VlAt w y) :
    Calls Tryz.prog 11 #[.agg #[.int .i64 x.kind, .bool x.truth, .string x.text, .bool x.neg, .slice x.wa x.wn x.wc, .slice x.da x.dn x.dc, .bool x.ineg, .slice x.ia x.inn x.ic, .slice x.ea x.en x.ec], .agg #[.int .i64 y.kind, .bool y.truth, .string y.text, .bool y.neg, .slice y.wa y.wn y.wc, .slice y.da y.dn y.dc, .bool y.ineg, .slice y.ia y.inn y.ic, .slice y.ea y.en y.ec]] w fun e w' => e = .returned (.bool true) ∧ Below w.heap.size w w' := by
  have HT := Lib.hid hT
  have HDD := Lib.hid hDD
  clear hT hDD
  obtain ⟨W0, hW0⟩ : ∃ W0, W0 = (w.alloc (.cells #[.int .i64 x.kind, .bool x.truth, .string x.text, .bool x.neg, .slice x.wa x.wn x.wc, .slice x.da x.dn x.dc, .bool x.ineg, .slice x.ia x.inn x.ic, .slice x.ea x.en x.ec] 26)).alloc (.cells #[.int .i64 y.kind, .bool y.truth, .string y.text, .bool y.neg, .slice y.wa y.wn y.wc, .slice y.da y.dn y.dc, .bool y.ineg, .slice y.ia y.inn y.ic, .slice y.ea y.en y.ec] 26) := ⟨_, rfl⟩
  have HW := Lib.hid hW0
  have hb0 : Below w.heap.size w W0 := by rw [hW0]; exact Below.alloc' (Below.alloc' (Below.refl _ _) _) _
  have X : Box9 W0 w.heap.size x := by rw [hW0]; exact (Box9.new w x _ rfl).alloc _
  have Y : Box9 W0 (w.heap.size + 1) y := by rw [hW0]; exact Box9.new _ y _ (by simp)
  have HX := Lib.hid (h1.keep hb0)
  have HY := Lib.hid (h2.keep hb0)
  clear hW0 h1 h2
  cases hf : fitsB x
  · have HF := Lib.hid hf
    clear hf
    go_enter Tryz.func11, Tryz.ntmps11
    go_upto_region 1 with fail
    rw [← HW.out]
    obtain ⟨xc0, xc1, xc2, xc3, xc4, xc5, xc6, xc7, xc8⟩ := (X).all
    go_wp2_with fail
    refine (fits1_any x _).mono ?_
    rintro e w1 ⟨rfl, hB1⟩
    rw [HF.out]
    go_wp2
    go_ret
    exact ⟨rfl, Below.then hb0 (Nat.le_refl _) hB1⟩
  have HF := Lib.hid hf
  clear hf
  cases hg : fitsB y
  · have HG := Lib.hid hg
    clear hg
    go_enter Tryz.func11, Tryz.ntmps11
    go_upto_region 1 with fail
    rw [← HW.out]
    obtain ⟨xc0, xc1, xc2, xc3, xc4, xc5, xc6, xc7, xc8⟩ := (X).all
    go_wp2_with fail
    refine (fits1_any x _).mono ?_
    rintro e w1 ⟨rfl, hB1⟩
    rw [HF.out]
    have Y1 := Y.keep hB1
    obtain ⟨yc0, yc1, yc2, yc3, yc4, yc5, yc6, yc7, yc8⟩ := (Y1).all
    clear xc0 xc1 xc2 xc3 xc4 xc5 xc6 xc7 xc8
    go_wp2_with fail
    refine (fits1_any y _).mono ?_
    rintro e w2 ⟨rfl, hB2⟩
    rw [HG.out]
    go_wp2
    go_ret
    exact ⟨rfl, Below.then (Below.then hb0 (Nat.le_refl _) hB1) (Nat.le_refl _) hB2⟩
  have HG := Lib.hid hg
  clear hg
  go_enter Tryz.func11, Tryz.ntmps11
  go_upto_region 1 with fail
  rw [← HW.out]
  obtain ⟨xc0, xc1, xc2, xc3, xc4, xc5, xc6, xc7, xc8⟩ := (X).all
  go_wp2_with fail
  refine (fits1_any x _).mono ?_
  rintro e w1 ⟨rfl, hB1⟩
  rw [HF.out]
  have Y1 := Y.keep hB1
  obtain ⟨yc0, yc1, yc2, yc3, yc4, yc5, yc6, yc7, yc8⟩ := (Y1).all
  clear xc0 xc1 xc2 xc3 xc4 xc5 xc6 xc7 xc8
  go_wp2_with fail
  refine (fits1_any y _).mono ?_
  rintro e w2 ⟨rfl, hB2⟩
  rw [HG.out]
  clear yc0 yc1 yc2 yc3 yc4 yc5 yc6 yc7 yc8
  have hb2 := Below.then (Below.then hb0 (Nat.le_refl _) hB1) (Nat.le_refl _) hB2
  have X2 := (X.keep hB1).keep hB2
  have Y2 := Y1.keep hB2
  have HX2 := Lib.hid ((HX.out.keep hB1).keep hB2)
  have HY2 := Lib.hid ((HY.out.keep hB1).keep hB2)
  clear X Y Y1 HX HY hB1 hB2 hb0 HW
  go_upto_region 3 with fail
  obtain ⟨xc0, xc1, xc2, xc3, xc4, xc5, xc6, xc7, xc8⟩ := (X2).all
  go_wp2_with fail
  refine (lawPair_any x 4 _ HX2.out (by omega)).mono ?_
  rintro e w3 ⟨sA, aA, nA, cA, aB, nB, cB, sC, aC, nC, cC, aD, nD, cD, rfl, hR, hB3⟩
  clear xc0 xc1 xc2 xc3 xc4 xc5 xc6 xc7 xc8
  go_upto_region 4 with fail
  obtain ⟨W3, hW3⟩ : ∃ W3, W3 = (w3.alloc (.cells #[.bool sA, .slice aA nA cA, .slice aB nB cB] 31)).alloc (.cells #[.bool sC, .slice aC nC cC, .slice aD nD cD] 31) := ⟨_, rfl⟩
  rw [← hW3]
  have hk3 : Below w3.heap.size w3 W3 := by rw [hW3]; exact Below.alloc' (Below.alloc' (Below.refl _ _) _) _
  have hB3' : Below w2.heap.size w2 W3 := Below.then hB3 (Nat.le_refl _) hk3
  have A3 : RtBlk W3 w3.heap.size sA aA nA cA aB nB cB := by rw [hW3]; exact (RtBlk.new _ _ rfl _ _ _ _ _ _ _).keep ((Below.refl _ _).alloc (Nat.le_refl _) _)
  have C3 : RtBlk W3 (w3.heap.size + 1) sC aC nC cC aD nD cD := by rw [hW3]; exact RtBlk.new _ _ (by simp) _ _ _ _ _ _ _
  have R3 := Lib.hid (fun hb => show RtAt W3 sA aA nA cA aB nB cB (vrt x) (4 * 4) ∧ RtAt W3 sC aC nC cC aD nD cD (virt x) (4 * 4) from ⟨(hR hb).1.keep hk3, (hR hb).2.keep hk3⟩)
  have hb3 := Below.then hb2 (Nat.le_refl _) hB3'
  have X3 := X2.keep hB3'
  have Y3 := Y2.keep hB3'
  have HX3 := Lib.hid (HX2.out.keep hB3')
  have HY3 := Lib.hid (HY2.out.keep hB3')
  clear hW3 hR hB3 hk3 X2 Y2 HX2 HY2 hb2 hB3'
  obtain ⟨yc0, yc1, yc2, yc3, yc4, yc5, yc6, yc7, yc8⟩ := (Y3).all
  go_wp2_with fail
  refine (lawPair_any y 4 _ HY3.out (by omega)).mono ?_
  rintro e w4 ⟨sE, aE, nE, cE, aF, nF, cF, sG, aG, nG, cG, aH, nH, cH, rfl, hR, hB4⟩
  clear yc0 yc1 yc2 yc3 yc4 yc5 yc6 yc7 yc8
  go_upto_region 5 with fail
  obtain ⟨W4, hW4⟩ : ∃ W4, W4 = (w4.alloc (.cells #[.bool sE, .slice aE nE cE, .slice aF nF cF] 31)).alloc (.cells #[.bool sG, .slice aG nG cG, .slice aH nH cH] 31) := ⟨_, rfl⟩
  rw [← hW4]
  have hk4 : Below w4.heap.size w4 W4 := by rw [hW4]; exact Below.alloc' (Below.alloc' (Below.refl _ _) _) _
  have hB4' : Below W3.heap.size W3 W4 := Below.then hB4 (Nat.le_refl _) hk4
  have E4 : RtBlk W4 w4.heap.size sE aE nE cE aF nF cF := by rw [hW4]; exact (RtBlk.new _ _ rfl _ _ _ _ _ _ _).keep ((Below.refl _ _).alloc (Nat.le_refl _) _)
  have G4 : RtBlk W4 (w4.heap.size + 1) sG aG nG cG aH nH cH := by rw [hW4]; exact RtBlk.new _ _ (by simp) _ _ _ _ _ _ _
  have A4 := A3.keep hB4'
  have C4 := C3.keep hB4'
  have R4 := Lib.hid (fun hx hy => show RtAt W4 sA aA nA cA aB nB cB (vrt x) (4 * 4) ∧ RtAt W4 sC aC nC cC aD nD cD (virt x) (4 * 4) ∧ RtAt W4 sE aE nE cE aF nF cF (vrt y) (4 * 4) ∧ RtAt W4 sG aG nG cG aH nH cH (virt y) (4 * 4) from ⟨(R3.out hx).1.keep hB4', (R3.out hx).2.keep hB4', (hR hy).1.keep hk4, (hR hy).2.keep hk4⟩)
  have hb4 := Below.then hb3 (Nat.le_refl _) hB4'
  have X4 := X3.keep hB4'
  have Y4 := Y3.keep hB4'
  have HX4 := Lib.hid (HX3.out.keep hB4')
  have HY4 := Lib.hid (HY3.out.keep hB4')
  have HB4 := Lib.hid hb4
  clear hW4 hR hB4 hk4 hB4' X3 Y3 A3 C3 R3 HX3 HY3 hb3 hb4
  cases hbx : lpairB x 4
  · clear R4 X4 Y4 A4 C4 E4 G4
    go_wp2
    go_ret
    exact ⟨rfl, HB4.out⟩
  cases hby : lpairB y 4
  · clear R4 X4 Y4 A4 C4 E4 G4
    go_wp2
    go_ret
    exact ⟨rfl, HB4.out⟩
  have MX := Lib.hid (madeC_pair hbx (by omega) (by omega))
  have MY := Lib.hid (madeC_pair hby (by omega) (by omega))
  have PX := Lib.hid (plt_pair HX4.out hbx (by omega) (by omega))
  have PY := Lib.hid (plt_pair HY4.out hby (by omega) (by omega))
  obtain ⟨rA, rC, rE, rG⟩ := R4.out hbx hby
  have RA := Lib.hid rA
  have RC := Lib.hid rC
  have RE := Lib.hid rE
  have RG := Lib.hid rG
  have HT4 := Lib.hid (HT.out.keep HB4.out)
  have HD4 := Lib.hid (HDD.out.keep HB4.out)
  clear rA rC rE rG hbx hby R4
  have hd0 : Below W4.heap.size W4 W4.drew := (Below.refl _ _).drew
  obtain ⟨a0, a1, a2⟩ := A4
  obtain ⟨c0, c1, c2⟩ := C4
  obtain ⟨e0, e1, e2⟩ := E4
  obtain ⟨g0, g1, g2⟩ := G4
  go_wp2_with fail
  refine (product_any sA aA nA cA aB nB cB sC aC nC cC aD nD cD sE aE nE cE aF nF cF sG aG nG cG aH nH cH (vrt x) (virt x) (vrt y) (virt y) 16 _ RA.out RC.out RE.out RG.out PX.out.ok1.den PX.out.ok2.den PY.out.ok1.den PY.out.ok2.den (by omega)).mono ?_
  rintro e w5 ⟨sM, aM, nM, cM, aN, nN, cN, sP, aP, nP, cP, aQ, nQ, cQ, rfl, hM, hP, hB5⟩
  clear a0 a1 a2 c0 c1 c2 e0 e1 e2 g0 g1 g2
  go_upto_region 8 with fail
  obtain ⟨W6, hW6⟩ : ∃ W6, W6 = (w5.alloc (.cells #[.bool sM, .slice aM nM cM, .slice aN nN cN] 31)).alloc (.cells #[.bool sP, .slice aP nP cP, .slice aQ nQ cQ] 31) := ⟨_, rfl⟩
  rw [← hW6]
  have hk6 : Below w5.heap.size w5 W6 := by rw [hW6]; exact Below.alloc' (Below.alloc' (Below.refl _ _) _) _
  have hB6 : Below W4.heap.size W4 W6 := Below.then hB5 (Nat.le_refl _) hk6
  have M6 : RtBlk W6 w5.heap.size sM aM nM cM aN nN cN := by rw [hW6]; exact (RtBlk.new _ _ rfl _ _ _ _ _ _ _).keep ((Below.refl _ _).alloc (Nat.le_refl _) _)
  have P6 : RtBlk W6 (w5.heap.size + 1) sP aP nP cP aQ nQ cQ := by rw [hW6]; exact RtBlk.new _ _ (by simp) _ _ _ _ _ _ _
  have RM := Lib.hid (hM.keep hk6)
  have RP := Lib.hid (hP.keep hk6)
  have X6 := X4.keep hB6
  have Y6 := Y4.keep hB6
  have HX6 := Lib.hid (HX4.out.keep hB6)
  have HY6 := Lib.hid (HY4.out.keep hB6)
  have HT6 := Lib.hid (HT4.out.keep hB6)
  have HD6 := Lib.hid (HD4.out.keep hB6)
  have HB6 := Lib.hid (Below.then HB4.out (Nat.le_refl _) hB6)
  clear hW6 hk6 hB6 hB5 hM hP X4 Y4 HX4 HY4 HT4 HD4 hd0
  have hd6 : Below W6.heap.size W6 W6.drew := (Below.refl _ _).drew
  go_region_held3 (fun w' => (w'.cell? ⟨w.heap.size, 0, none⟩ = some (.int .i64 x.kind) ∧ w'.cell? ⟨w.heap.size, 1, none⟩ = some (.bool x.truth) ∧ w'.cell? ⟨w.heap.size, 2, none⟩ = some (.string x.text) ∧ w'.cell? ⟨w.heap.size, 3, none⟩ = some (.bool x.neg) ∧ w'.cell? ⟨w.heap.size, 4, none⟩ = some (.slice x.wa x.wn x.wc) ∧ w'.cell? ⟨w.heap.size, 5, none⟩ = some (.slice x.da x.dn x.dc) ∧ w'.cell? ⟨w.heap.size, 6, none⟩ = some (.bool x.ineg) ∧ w'.cell? ⟨w.heap.size, 7, none⟩ = some (.slice x.ia x.inn x.ic) ∧ w'.cell? ⟨w.heap.size, 8, none⟩ = some (.slice x.ea x.en x.ec)) ∧ (w'.cell? ⟨(w.heap.size + 1), 0, none⟩ = some (.int .i64 y.kind) ∧ w'.cell? ⟨(w.heap.size + 1), 1, none⟩ = some (.bool y.truth) ∧ w'.cell? ⟨(w.heap.size + 1), 2, none⟩ = some (.string y.text) ∧ w'.cell? ⟨(w.heap.size + 1), 3, none⟩ = some (.bool y.neg) ∧ w'.cell? ⟨(w.heap.size + 1), 4, none⟩ = some (.slice y.wa y.wn y.wc) ∧ w'.cell? ⟨(w.heap.size + 1), 5, none⟩ = some (.slice y.da y.dn y.dc) ∧ w'.cell? ⟨(w.heap.size + 1), 6, none⟩ = some (.bool y.ineg) ∧ w'.cell? ⟨(w.heap.size + 1), 7, none⟩ = some (.slice y.ia y.inn y.ic) ∧ w'.cell? ⟨(w.heap.size + 1), 8, none⟩ = some (.slice y.ea y.en y.ec)) ∧ (w'.cell? ⟨w5.heap.size, 0, none⟩ = some (.bool sM) ∧ w'.cell? ⟨w5.heap.size, 1, none⟩ = some (.slice aM nM cM) ∧ w'.cell? ⟨w5.heap.size, 2, none⟩ = some (.slice aN nN cN)) ∧ (w'.cell? ⟨(w5.heap.size + 1), 0, none⟩ = some (.bool sP) ∧ w'.cell? ⟨(w5.heap.size + 1), 1, none⟩ = some (.slice aP nP cP) ∧ w'.cell? ⟨(w5.heap.size + 1), 2, none⟩ = some (.slice aQ nQ cQ)))
    (first | with_reducible exact ⟨X6.all, Y6.all, M6.all, P6.all⟩ | with_reducible exact ⟨(X6.keep (by assumption)).all, (Y6.keep (by assumption)).all, (M6.keep (by assumption)).all, (P6.keep (by assumption)).all⟩)
    (first | (go_at_call 20; (with_reducible refine (implBinMulC_any x y (vrt x) (virt x) (vrt y) (virt y) 4 _ ?_ ?_ ?_ ?_ MX.out MY.out PX.out PY.out (by omega)).mono ?_); exact HT6.out.keep (by assumption); exact HD6.out.keep (by assumption); exact HX6.out.keep (by assumption); exact HY6.out.keep (by assumption); rintro e w7 ⟨r, rfl, hy, hP0, hB7⟩; have hb7 := Below.then hd6 (Nat.le_refl _) hB7; have hP := hP0; rw [plus_comm (Rt.times (virt x) (vrt y))] at hP) | (go_at_call 32; (with_reducible refine (isPair_any r sM aM nM cM aN nN cN (Rt.minus (Rt.times (vrt x) (vrt y)) (Rt.times (virt x) (virt y))) sP aP nP cP aQ nQ cQ (Rt.plus (Rt.times (vrt x) (virt y)) (Rt.times (virt x) (vrt y))) 65 _ hy ?_ ?_ ?_ ?_ ?_ ?_ ?_).mono ?_); exact RM.out.keep hb7; exact RP.out.keep hb7; omega; exact Nat.le_trans hP.2.2.2.1 (by omega); exact Nat.le_trans hP.2.2.2.2.1 (by omega); exact Nat.le_trans hP.2.2.2.2.2.1 (by omega); exact Nat.le_trans hP.2.2.2.2.2.2 (by omega); rintro e w8 ⟨rfl, hB8⟩; have hb8 := Below.then hb7 (Nat.le_refl _) hB8; rw [isC_same hP]))
  go_wp2
  go_ret
  exact ⟨rfl, Below.then HB6.out (Nat.le_refl _) hb8⟩
end Go.Proofs.YtececkbcinmmpaaGreatDoor
