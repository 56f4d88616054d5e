/-
  FnComplexDifference walked. PRINTED BY wip/gen_lcpx.py.
-/
import Derived.Test.YtececkbcinmmpaaGreatDoorN3
import Derived.Test.YtececkbcinmmpaaGreatDoorK38
import Derived.Test.YtececkbcinmmpaaGreatDoorK07
set_option linter.unusedSimpArgs false
set_option linter.unusedVariables false
namespace Go.Proofs.YtececkbcinmmpaaGreatDoor
open Go.RowKit Go.Bg Dg

set_option maxRecDepth 100000 in
set_option maxHeartbeats 8000000 in
theorem lawFnComplexDifference_any (x y : Vl) (w : World) (hT : Thr w) (hDD : ThrD w) (h1 : VlAt w x) (h2 : VlAt w y) :
    Calls Tryz.prog 10 #[.agg #[.int .i64 x.kind, .bool x.truth, .string x.text, .bool x.neg, .slice x.wa x.wn x.wc, .slice x.da x.dn x.dc, .bool x.ineg, .slice x.ia x.inn x.ic, .slice x.ea x.en x.ec], .agg #[.int .i64 y.kind, .bool y.truth, .string y.text, .bool y.neg, .slice y.wa y.wn y.wc, .slice y.da y.dn y.dc, .bool y.ineg, .slice y.ia y.inn y.ic, .slice y.ea y.en y.ec]] w fun e w' => e = .returned (.bool true) ∧ Below w.heap.size w w' := by
  have HT := Lib.hid hT
  have HDD := Lib.hid hDD
  clear hT hDD
  obtain ⟨W0, hW0⟩ : ∃ W0, W0 = (w.alloc (.cells #[.int .i64 x.kind, .bool x.truth, .string x.text, .bool x.neg, .slice x.wa x.wn x.wc, .slice x.da x.dn x.dc, .bool x.ineg, .slice x.ia x.inn x.ic, .slice x.ea x.en x.ec] 26)).alloc (.cells #[.int .i64 y.kind, .bool y.truth, .string y.text, .bool y.neg, .slice y.wa y.wn y.wc, .slice y.da y.dn y.dc, .bool y.ineg, .slice y.ia y.inn y.ic, .slice y.ea y.en y.ec] 26) := ⟨_, rfl⟩
  have HW := Lib.hid hW0
  have hb0 : Below w.heap.size w W0 := by rw [hW0]; exact Below.alloc' (Below.alloc' (Below.refl _ _) _) _
  have X : Box9 W0 w.heap.size x := by rw [hW0]; exact (Box9.new w x _ rfl).alloc _
  have Y : Box9 W0 (w.heap.size + 1) y := by rw [hW0]; exact Box9.new _ y _ (by simp)
  have HX := Lib.hid (h1.keep hb0)
  have HY := Lib.hid (h2.keep hb0)
  clear hW0 h1 h2
  cases hf : fitsB x
  · have HF := Lib.hid hf
    clear hf
    go_enter Tryz.func10, Tryz.ntmps10
    go_upto_region 1 with fail
    rw [← HW.out]
    obtain ⟨xc0, xc1, xc2, xc3, xc4, xc5, xc6, xc7, xc8⟩ := (X).all
    go_wp2_with fail
    refine (fits1_any x _).mono ?_
    rintro e w1 ⟨rfl, hB1⟩
    rw [HF.out]
    go_wp2
    go_ret
    exact ⟨rfl, Below.then hb0 (Nat.le_refl _) hB1⟩
  have HF := Lib.hid hf
  clear hf
  cases hg : fitsB y
  · have HG := Lib.hid hg
    clear hg
    go_enter Tryz.func10, Tryz.ntmps10
    go_upto_region 1 with fail
    rw [← HW.out]
    obtain ⟨xc0, xc1, xc2, xc3, xc4, xc5, xc6, xc7, xc8⟩ := (X).all
    go_wp2_with fail
    refine (fits1_any x _).mono ?_
    rintro e w1 ⟨rfl, hB1⟩
    rw [HF.out]
    have Y1 := Y.keep hB1
    obtain ⟨yc0, yc1, yc2, yc3, yc4, yc5, yc6, yc7, yc8⟩ := (Y1).all
    clear xc0 xc1 xc2 xc3 xc4 xc5 xc6 xc7 xc8
    go_wp2_with fail
    refine (fits1_any y _).mono ?_
    rintro e w2 ⟨rfl, hB2⟩
    rw [HG.out]
    go_wp2
    go_ret
    exact ⟨rfl, Below.then (Below.then hb0 (Nat.le_refl _) hB1) (Nat.le_refl _) hB2⟩
  have HG := Lib.hid hg
  clear hg
  go_enter Tryz.func10, Tryz.ntmps10
  go_upto_region 1 with fail
  rw [← HW.out]
  obtain ⟨xc0, xc1, xc2, xc3, xc4, xc5, xc6, xc7, xc8⟩ := (X).all
  go_wp2_with fail
  refine (fits1_any x _).mono ?_
  rintro e w1 ⟨rfl, hB1⟩
  rw [HF.out]
  have Y1 := Y.keep hB1
  obtain ⟨yc0, yc1, yc2, yc3, yc4, yc5, yc6, yc7, yc8⟩ := (Y1).all
  clear xc0 xc1 xc2 xc3 xc4 xc5 xc6 xc7 xc8
  go_wp2_with fail
  refine (fits1_any y _).mono ?_
  rintro e w2 ⟨rfl, hB2⟩
  rw [HG.out]
  clear yc0 yc1 yc2 yc3 yc4 yc5 yc6 yc7 yc8
  have hb2 := Below.then (Below.then hb0 (Nat.le_refl _) hB1) (Nat.le_refl _) hB2
  have X2 := (X.keep hB1).keep hB2
  have Y2 := Y1.keep hB2
  have HX2 := Lib.hid ((HX.out.keep hB1).keep hB2)
  have HY2 := Lib.hid ((HY.out.keep hB1).keep hB2)
  clear X Y Y1 HX HY hB1 hB2 hb0 HW
  go_upto_region 3 with fail
  obtain ⟨xc0, xc1, xc2, xc3, xc4, xc5, xc6, xc7, xc8⟩ := (X2).all
  go_wp2_with fail
  refine (lawPair_any x 4 _ HX2.out (by omega)).mono ?_
  rintro e w3 ⟨sA, aA, nA, cA, aB, nB, cB, sC, aC, nC, cC, aD, nD, cD, rfl, hR, hB3⟩
  clear xc0 xc1 xc2 xc3 xc4 xc5 xc6 xc7 xc8
  go_upto_region 4 with fail
  obtain ⟨W3, hW3⟩ : ∃ W3, W3 = (w3.alloc (.cells #[.bool sA, .slice aA nA cA, .slice aB nB cB] 31)).alloc (.cells #[.bool sC, .slice aC nC cC, .slice aD nD cD] 31) := ⟨_, rfl⟩
  rw [← hW3]
  have hk3 : Below w3.heap.size w3 W3 := by rw [hW3]; exact Below.alloc' (Below.alloc' (Below.refl _ _) _) _
  have hB3' : Below w2.heap.size w2 W3 := Below.then hB3 (Nat.le_refl _) hk3
  have A3 : RtBlk W3 w3.heap.size sA aA nA cA aB nB cB := by rw [hW3]; exact (RtBlk.new _ _ rfl _ _ _ _ _ _ _).keep ((Below.refl _ _).alloc (Nat.le_refl _) _)
  have C3 : RtBlk W3 (w3.heap.size + 1) sC aC nC cC aD nD cD := by rw [hW3]; exact RtBlk.new _ _ (by simp) _ _ _ _ _ _ _
  have R3 := Lib.hid (fun hb => show RtAt W3 sA aA nA cA aB nB cB (vrt x) (4 * 4) ∧ RtAt W3 sC aC nC cC aD nD cD (virt x) (4 * 4) from ⟨(hR hb).1.keep hk3, (hR hb).2.keep hk3⟩)
  have hb3 := Below.then hb2 (Nat.le_refl _) hB3'
  have X3 := X2.keep hB3'
  have Y3 := Y2.keep hB3'
  have HX3 := Lib.hid (HX2.out.keep hB3')
  have HY3 := Lib.hid (HY2.out.keep hB3')
  clear hW3 hR hB3 hk3 X2 Y2 HX2 HY2 hb2 hB3'
  obtain ⟨yc0, yc1, yc2, yc3, yc4, yc5, yc6, yc7, yc8⟩ := (Y3).all
  go_wp2_with fail
  refine (lawPair_any y 4 _ HY3.out (by omega)).mono ?_
  rintro e w4 ⟨sE, aE, nE, cE, aF, nF, cF, sG, aG, nG, cG, aH, nH, cH, rfl, hR, hB4⟩
  clear yc0 yc1 yc2 yc3 yc4 yc5 yc6 yc7 yc8
  go_upto_region 5 with fail
  obtain ⟨W4, hW4⟩ : ∃ W4, W4 = (w4.alloc (.cells #[.bool sE, .slice aE nE cE, .slice aF nF cF] 31)).alloc (.cells #[.bool sG, .slice aG nG cG, .slice aH nH cH] 31) := ⟨_, rfl⟩
  rw [← hW4]
  have hk4 : Below w4.heap.size w4 W4 := by rw [hW4]; exact Below.alloc' (Below.alloc' (Below.refl _ _) _) _
  have hB4' : Below W3.heap.size W3 W4 := Below.then hB4 (Nat.le_refl _) hk4
  have E4 : RtBlk W4 w4.heap.size sE aE nE cE aF nF cF := by rw [hW4]; exact (RtBlk.new _ _ rfl _ _ _ _ _ _ _).keep ((Below.refl _ _).alloc (Nat.le_refl _) _)
  have G4 : RtBlk W4 (w4.heap.size + 1) sG aG nG cG aH nH cH := by rw [hW4]; exact RtBlk.new _ _ (by simp) _ _ _ _ _ _ _
  have A4 := A3.keep hB4'
  have C4 := C3.keep hB4'
  have R4 := Lib.hid (fun hx hy => show RtAt W4 sA aA nA cA aB nB cB (vrt x) (4 * 4) ∧ RtAt W4 sC aC nC cC aD nD cD (virt x) (4 * 4) ∧ RtAt W4 sE aE nE cE aF nF cF (vrt y) (4 * 4) ∧ RtAt W4 sG aG nG cG aH nH cH (virt y) (4 * 4) from ⟨(R3.out hx).1.keep hB4', (R3.out hx).2.keep hB4', (hR hy).1.keep hk4, (hR hy).2.keep hk4⟩)
  have hb4 := Below.then hb3 (Nat.le_refl _) hB4'
  have X4 := X3.keep hB4'
  have Y4 := Y3.keep hB4'
  have HX4 := Lib.hid (HX3.out.keep hB4')
  have HY4 := Lib.hid (HY3.out.keep hB4')
  have HB4 := Lib.hid hb4
  clear hW4 hR hB4 hk4 hB4' X3 Y3 A3 C3 R3 HX3 HY3 hb3 hb4
  cases hbx : lpairB x 4
  · clear R4 X4 Y4 A4 C4 E4 G4
    go_quiet (fail)
    go_wp2
    go_ret
    exact ⟨rfl, HB4.out.trans (below_of_drewN ⟨_, rfl⟩)⟩
  cases hby : lpairB y 4
  · clear R4 X4 Y4 A4 C4 E4 G4
    go_quiet (fail)
    go_wp2
    go_ret
    exact ⟨rfl, HB4.out.trans (below_of_drewN ⟨_, rfl⟩)⟩
  have MX := Lib.hid (madeC_pair hbx (by omega) (by omega))
  have MY := Lib.hid (madeC_pair hby (by omega) (by omega))
  have PX := Lib.hid (plt_pair HX4.out hbx (by omega) (by omega))
  have PY := Lib.hid (plt_pair HY4.out hby (by omega) (by omega))
  obtain ⟨rA, rC, rE, rG⟩ := R4.out hbx hby
  have RA := Lib.hid rA
  have RC := Lib.hid rC
  have RE := Lib.hid rE
  have RG := Lib.hid rG
  have HT4 := Lib.hid (HT.out.keep HB4.out)
  have HD4 := Lib.hid (HDD.out.keep HB4.out)
  clear rA rC rE rG hbx hby R4
  have hd0 : Below W4.heap.size W4 W4.drew := (Below.refl _ _).drew
  go_region_held3 (fun w' => (w'.cell? ⟨w.heap.size, 0, none⟩ = some (.int .i64 x.kind) ∧ w'.cell? ⟨w.heap.size, 1, none⟩ = some (.bool x.truth) ∧ w'.cell? ⟨w.heap.size, 2, none⟩ = some (.string x.text) ∧ w'.cell? ⟨w.heap.size, 3, none⟩ = some (.bool x.neg) ∧ w'.cell? ⟨w.heap.size, 4, none⟩ = some (.slice x.wa x.wn x.wc) ∧ w'.cell? ⟨w.heap.size, 5, none⟩ = some (.slice x.da x.dn x.dc) ∧ w'.cell? ⟨w.heap.size, 6, none⟩ = some (.bool x.ineg) ∧ w'.cell? ⟨w.heap.size, 7, none⟩ = some (.slice x.ia x.inn x.ic) ∧ w'.cell? ⟨w.heap.size, 8, none⟩ = some (.slice x.ea x.en x.ec)) ∧ (w'.cell? ⟨(w.heap.size + 1), 0, none⟩ = some (.int .i64 y.kind) ∧ w'.cell? ⟨(w.heap.size + 1), 1, none⟩ = some (.bool y.truth) ∧ w'.cell? ⟨(w.heap.size + 1), 2, none⟩ = some (.string y.text) ∧ w'.cell? ⟨(w.heap.size + 1), 3, none⟩ = some (.bool y.neg) ∧ w'.cell? ⟨(w.heap.size + 1), 4, none⟩ = some (.slice y.wa y.wn y.wc) ∧ w'.cell? ⟨(w.heap.size + 1), 5, none⟩ = some (.slice y.da y.dn y.dc) ∧ w'.cell? ⟨(w.heap.size + 1), 6, none⟩ = some (.bool y.ineg) ∧ w'.cell? ⟨(w.heap.size + 1), 7, none⟩ = some (.slice y.ia y.inn y.ic) ∧ w'.cell? ⟨(w.heap.size + 1), 8, none⟩ = some (.slice y.ea y.en y.ec)) ∧ (w'.cell? ⟨w3.heap.size, 0, none⟩ = some (.bool sA) ∧ w'.cell? ⟨w3.heap.size, 1, none⟩ = some (.slice aA nA cA) ∧ w'.cell? ⟨w3.heap.size, 2, none⟩ = some (.slice aB nB cB)) ∧ (w'.cell? ⟨(w3.heap.size + 1), 0, none⟩ = some (.bool sC) ∧ w'.cell? ⟨(w3.heap.size + 1), 1, none⟩ = some (.slice aC nC cC) ∧ w'.cell? ⟨(w3.heap.size + 1), 2, none⟩ = some (.slice aD nD cD)) ∧ (w'.cell? ⟨w4.heap.size, 0, none⟩ = some (.bool sE) ∧ w'.cell? ⟨w4.heap.size, 1, none⟩ = some (.slice aE nE cE) ∧ w'.cell? ⟨w4.heap.size, 2, none⟩ = some (.slice aF nF cF)) ∧ (w'.cell? ⟨(w4.heap.size + 1), 0, none⟩ = some (.bool sG) ∧ w'.cell? ⟨(w4.heap.size + 1), 1, none⟩ = some (.slice aG nG cG) ∧ w'.cell? ⟨(w4.heap.size + 1), 2, none⟩ = some (.slice aH nH cH)))
    (first | with_reducible exact ⟨X4.all, Y4.all, A4.all, C4.all, E4.all, G4.all⟩ | with_reducible exact ⟨(X4.keep (by assumption)).all, (Y4.keep (by assumption)).all, (A4.keep (by assumption)).all, (C4.keep (by assumption)).all, (E4.keep (by assumption)).all, (G4.keep (by assumption)).all⟩)
    (first | (go_at_call 20; (with_reducible refine (implBinSubC_any x y (vrt x) (virt x) (vrt y) (virt y) 4 _ ?_ ?_ ?_ ?_ MX.out MY.out PX.out PY.out (by omega)).mono ?_); exact HT4.out.keep (by assumption); exact HD4.out.keep (by assumption); exact HX4.out.keep (by assumption); exact HY4.out.keep (by assumption); rintro e w5 ⟨r, rfl, hy, hP, hB5⟩; have hb5 := Below.then hd0 (Nat.le_refl _) hB5) | (go_at_call 22; (with_reducible refine (minus_any sA sE aA nA cA aB nB cB aE nE cE aF nF cF (vrt x) (vrt y) 16 _ ?_ ?_ ?_ ?_ ?_).mono ?_); exact RA.out.keep hb5; exact RE.out.keep hb5; exact PX.out.ok1.den; exact PY.out.ok1.den; omega; rintro e w6 ⟨sI, aI, nI, cI, aJ, nJ, cJ, rfl, hI, hB6⟩; have hb6 := Below.then hb5 (Nat.le_refl _) hB6) | (go_at_call 22; (with_reducible refine (minus_any sC sG aC nC cC aD nD cD aG nG cG aH nH cH (virt x) (virt y) 16 _ ?_ ?_ ?_ ?_ ?_).mono ?_); exact RC.out.keep hb6; exact RG.out.keep hb6; exact PX.out.ok2.den; exact PY.out.ok2.den; omega; rintro e w7 ⟨sK, aK, nK, cK, aL, nL, cL, rfl, hK, hB7⟩; have hb7 := Below.then hb6 (Nat.le_refl _) hB7) | (go_at_call 32; (with_reducible refine (isPair_any r sI aI nI cI aJ nJ cJ (Rt.minus (vrt x) (vrt y)) sK aK nK cK aL nL cL (Rt.minus (virt x) (virt y)) 33 _ ?_ ?_ ?_ ?_ ?_ ?_ ?_ ?_).mono ?_); exact (hy.keep hB6).keep hB7; exact (hI.keep hB7).mono (by omega); exact hK.mono (by omega); omega; exact Nat.le_trans hP.2.2.2.1 (by omega); exact Nat.le_trans hP.2.2.2.2.1 (by omega); exact Nat.le_trans hP.2.2.2.2.2.1 (by omega); exact Nat.le_trans hP.2.2.2.2.2.2 (by omega); rintro e w8 ⟨rfl, hB8⟩; have hb8 := Below.then hb7 (Nat.le_refl _) hB8; rw [isC_same hP]))
  go_wp2
  go_ret
  exact ⟨rfl, Below.then HB4.out (Nat.le_refl _) hb8⟩
end Go.Proofs.YtececkbcinmmpaaGreatDoor
