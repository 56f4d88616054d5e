/-
  FnSame walked. PRINTED BY wip/gen_lcpx.py.
-/
import Derived.Test.YtececkbcinmmpaaGreatDoorN2
import Derived.Test.YtececkbcinmmpaaGreatDoorK38
set_option linter.unusedSimpArgs false
set_option linter.unusedVariables false
namespace Go.Proofs.YtececkbcinmmpaaGreatDoor
open Go.RowKit Go.Bg Dg

set_option maxRecDepth 100000 in
set_option maxHeartbeats 8000000 in
theorem lawFnSame_any (x : Vl) (w : World) (hT : Thr w) (hDD : ThrD w) (h1 : VlAt w x) :
    Calls Tryz.prog 7 #[.agg #[.int .i64 x.kind, .bool x.truth, .string x.text, .bool x.neg, .slice x.wa x.wn x.wc, .slice x.da x.dn x.dc, .bool x.ineg, .slice x.ia x.inn x.ic, .slice x.ea x.en x.ec]] w fun e w' => e = .returned (.bool true) ∧ Below w.heap.size w w' := by
  have HT := Lib.hid hT
  have HDD := Lib.hid hDD
  clear hT hDD
  obtain ⟨W0, hW0⟩ : ∃ W0, W0 = w.alloc (.cells #[.int .i64 x.kind, .bool x.truth, .string x.text, .bool x.neg, .slice x.wa x.wn x.wc, .slice x.da x.dn x.dc, .bool x.ineg, .slice x.ia x.inn x.ic, .slice x.ea x.en x.ec] 26) := ⟨_, rfl⟩
  have HW := Lib.hid hW0
  have hb0 : Below w.heap.size w W0 := by rw [hW0]; exact Below.alloc' (Below.refl _ _) _
  have X : Box9 W0 w.heap.size x := by rw [hW0]; exact Box9.new w x _ rfl
  have HX := Lib.hid (h1.keep hb0)
  clear hW0 h1
  cases hf : fitsB x
  · have HF := Lib.hid hf
    clear hf
    go_enter Tryz.func7, Tryz.ntmps7
    go_upto_region 1 with fail
    rw [← HW.out]
    obtain ⟨xc0, xc1, xc2, xc3, xc4, xc5, xc6, xc7, xc8⟩ := (X).all
    go_wp2_with fail
    refine (fits1_any x _).mono ?_
    rintro e w1 ⟨rfl, hB1⟩
    rw [HF.out]
    go_wp2
    go_ret
    exact ⟨rfl, Below.then hb0 (Nat.le_refl _) hB1⟩
  have HF := Lib.hid hf
  clear hf
  go_enter Tryz.func7, Tryz.ntmps7
  go_upto_region 1 with fail
  rw [← HW.out]
  obtain ⟨xc0, xc1, xc2, xc3, xc4, xc5, xc6, xc7, xc8⟩ := (X).all
  go_wp2_with fail
  refine (fits1_any x _).mono ?_
  rintro e w1 ⟨rfl, hB1⟩
  rw [HF.out]
  clear xc0 xc1 xc2 xc3 xc4 xc5 xc6 xc7 xc8
  have hb1 := Below.then hb0 (Nat.le_refl _) hB1
  have X1 := X.keep hB1
  have HX1 := Lib.hid (HX.out.keep hB1)
  clear X HX hB1 hb0 HW
  go_upto_region 3 with fail
  obtain ⟨xc0, xc1, xc2, xc3, xc4, xc5, xc6, xc7, xc8⟩ := (X1).all
  go_wp2_with fail
  refine (lawWhole_any x 20 _ HX1.out (by omega)).mono ?_
  rintro e w2 ⟨sA, aA, nA, cA, aB, nB, cB, rfl, hR, hB2⟩
  clear xc0 xc1 xc2 xc3 xc4 xc5 xc6 xc7 xc8
  go_upto_region 4 with fail
  obtain ⟨W3, hW3⟩ : ∃ W3, W3 = w2.alloc (.cells #[.bool sA, .slice aA nA cA, .slice aB nB cB] 31) := ⟨_, rfl⟩
  rw [← hW3]
  have hB3 : Below w1.heap.size w1 W3 := by rw [hW3]; exact Below.alloc' hB2 _
  have A3 : RtBlk W3 w2.heap.size sA aA nA cA aB nB cB := by rw [hW3]; exact RtBlk.new _ _ rfl _ _ _ _ _ _ _
  have hb3 := Below.then hb1 (Nat.le_refl _) hB3
  have X3 := X1.keep hB3
  have HX3 := Lib.hid (HX1.out.keep hB3)
  have HB3 := Lib.hid hb3
  have HS3 := Lib.hid (show ∀ o : Obj, w2.heap.size < (w2.alloc o).heap.size from fun o => by simp)
  have R3 := Lib.hid (show wholeB x 20 = true → RtAt W3 sA aA nA cA aB nB cB (Rt.whole x.neg (val W64 x.wf x.wn)) 81 from fun hb => by
    rw [hW3]
    have := (wholeB_parts hb).2
    exact ((hR hb).keep ((Below.refl _ _).alloc (Nat.le_refl _) _)).mono (by omega))
  clear hW3 hR hB2 hB3 X1 HX1 hb1 hb3
  cases hb : wholeB x 20
  · clear R3 hb
    go_upto_region 6 with fail
    obtain ⟨xc0, xc1, xc2, xc3, xc4, xc5, xc6, xc7, xc8⟩ := (X3).all
    go_wp2_with fail
    refine (lawRational_any x 20 _ HX3.out (by omega)).mono ?_
    rintro e w4 ⟨sC, aC, nC, cC, aD, nD, cD, rfl, hR4, hB4⟩
    clear xc0 xc1 xc2 xc3 xc4 xc5 xc6 xc7 xc8
    go_upto_region 7 with fail
    obtain ⟨W5, hW5⟩ : ∃ W5, W5 = w4.alloc (.cells #[.bool sC, .slice aC nC cC, .slice aD nD cD] 31) := ⟨_, rfl⟩
    rw [← hW5]
    have A5 : RtBlk W5 w4.heap.size sC aC nC cC aD nD cD := by rw [hW5]; exact RtBlk.new _ _ rfl _ _ _ _ _ _ _
    have hB5 : Below W3.heap.size W3 W5 := by rw [hW5]; exact Below.alloc' hB4 _
    have X5 := X3.keep hB5
    have R5 := Lib.hid (show lratB x 20 = true → RtAt W5 sC aC nC cC aD nD cD (vrt x) 81 from fun hb => by rw [hW5]; exact ((hR4 hb).keep ((Below.refl _ _).alloc (Nat.le_refl _) _)).mono (by omega))
    have HX5 := Lib.hid (HX3.out.keep hB5)
    have HB5 := Lib.hid (Below.then HB3.out (Nat.le_refl _) hB5)
    clear hW5 hR4 hB4 hB5 X3 A3 HX3
    cases hc : lratB x 20
    · clear R5 hc A5
      go_upto_region 9 with fail
      obtain ⟨xc0, xc1, xc2, xc3, xc4, xc5, xc6, xc7, xc8⟩ := (X5).all
      go_wp2_with fail
      refine (lawPair_any x 20 _ HX5.out (by omega)).mono ?_
      rintro e w6 ⟨sE, aE, nE, cE, aF, nF, cF, sG, aG, nG, cG, aH, nH, cH, rfl, hR6, hB6⟩
      clear xc0 xc1 xc2 xc3 xc4 xc5 xc6 xc7 xc8
      go_upto_region 10 with fail
      obtain ⟨W7, hW7⟩ : ∃ W7, W7 = (w6.alloc (.cells #[.bool sE, .slice aE nE cE, .slice aF nF cF] 31)).alloc (.cells #[.bool sG, .slice aG nG cG, .slice aH nH cH] 31) := ⟨_, rfl⟩
      rw [← hW7]
      have hk7 : Below w6.heap.size w6 W7 := by rw [hW7]; exact Below.alloc' (Below.alloc' (Below.refl _ _) _) _
      have hB7 : Below W5.heap.size W5 W7 := Below.then hB6 (Nat.le_refl _) hk7
      have E7 : RtBlk W7 w6.heap.size sE aE nE cE aF nF cF := by rw [hW7]; exact (RtBlk.new _ _ rfl _ _ _ _ _ _ _).keep ((Below.refl _ _).alloc (Nat.le_refl _) _)
      have G7 : RtBlk W7 (w6.heap.size + 1) sG aG nG cG aH nH cH := by rw [hW7]; exact RtBlk.new _ _ (by simp) _ _ _ _ _ _ _
      have X7 := X5.keep hB7
      have R7 := Lib.hid (fun hb => show RtAt W7 sE aE nE cE aF nF cF (vrt x) 80 ∧ RtAt W7 sG aG nG cG aH nH cH (virt x) 80 from ⟨(hR6 hb).1.keep hk7, (hR6 hb).2.keep hk7⟩)
      have HX7 := Lib.hid (HX5.out.keep hB7)
      have HB7 := Lib.hid (Below.then HB5.out (Nat.le_refl _) hB7)
      clear hW7 hR6 hB6 hB7 hk7 X5 HX5
      cases hd : lpairB x 20
      · clear X7 E7 G7 R7
        go_quiet (fail)
        go_wp2
        go_ret
        exact ⟨rfl, HB7.out.trans (below_of_drewN ⟨_, rfl⟩)⟩
      · have MX := Lib.hid (madeC_pair hd (by omega) (by omega))
        have PX := Lib.hid (plt_pair HX7.out hd (by omega) (by omega))
        obtain ⟨rE, rG⟩ := R7.out hd
        have RE := Lib.hid rE
        have RG := Lib.hid rG
        have HT7 := Lib.hid (HT.out.keep HB7.out)
        have HD7 := Lib.hid (HDD.out.keep HB7.out)
        clear rE rG hd R7
        have hd0 : Below W7.heap.size W7 W7.drew := (Below.refl _ _).drew
        have HSM := Lib.hid (fun (w' : World) (hw : Below W7.heap.size W7 w') => implSame_any x (fun w v => CPair w'.heap.size w v (vrt x) (virt x)) (IsC (vrt x) (virt x) 20) w' (HX7.out.keep hw) (fun w2 hb hV => (MX.out w2 ((HT7.out.keep hw).keep hb) ((HD7.out.keep hw).keep hb) hV).mono fun e w3 ⟨u, he, ⟨b1, b2, e', a1, a2, a3, a4⟩, hB⟩ => ⟨u, he, ⟨b1, b2, e', a1, a2, Nat.le_trans hb.size a3, Nat.le_trans hb.size a4⟩, hB⟩) (fun w2 v hv => toldCpx_any v _ _ w2 hv.cpx PX.out.ok1 PX.out.ok2 20 (by omega) (by omega) PX.out.n1 PX.out.d1 PX.out.n2 PX.out.d2))
        go_region_held3 (fun w' => (w'.cell? ⟨w.heap.size, 0, none⟩ = some (.int .i64 x.kind) ∧ w'.cell? ⟨w.heap.size, 1, none⟩ = some (.bool x.truth) ∧ w'.cell? ⟨w.heap.size, 2, none⟩ = some (.string x.text) ∧ w'.cell? ⟨w.heap.size, 3, none⟩ = some (.bool x.neg) ∧ w'.cell? ⟨w.heap.size, 4, none⟩ = some (.slice x.wa x.wn x.wc) ∧ w'.cell? ⟨w.heap.size, 5, none⟩ = some (.slice x.da x.dn x.dc) ∧ w'.cell? ⟨w.heap.size, 6, none⟩ = some (.bool x.ineg) ∧ w'.cell? ⟨w.heap.size, 7, none⟩ = some (.slice x.ia x.inn x.ic) ∧ w'.cell? ⟨w.heap.size, 8, none⟩ = some (.slice x.ea x.en x.ec)) ∧ (w'.cell? ⟨w6.heap.size, 0, none⟩ = some (.bool sE) ∧ w'.cell? ⟨w6.heap.size, 1, none⟩ = some (.slice aE nE cE) ∧ w'.cell? ⟨w6.heap.size, 2, none⟩ = some (.slice aF nF cF)) ∧ (w'.cell? ⟨(w6.heap.size + 1), 0, none⟩ = some (.bool sG) ∧ w'.cell? ⟨(w6.heap.size + 1), 1, none⟩ = some (.slice aG nG cG) ∧ w'.cell? ⟨(w6.heap.size + 1), 2, none⟩ = some (.slice aH nH cH)))
          (first | with_reducible exact ⟨X7.all, E7.all, G7.all⟩ | with_reducible exact ⟨(X7.keep (by assumption)).all, (E7.keep (by assumption)).all, (G7.keep (by assumption)).all⟩)
          (first | (go_at_call 30; (with_reducible refine (HSM.out _ ?_).mono ?_); assumption; rintro e w8 ⟨y, rfl, hy, hP, hB8⟩; have hb8 := Below.then hd0 (Nat.le_refl _) hB8) | (go_at_call 32; (with_reducible refine (isPair_any y sE aE nE cE aF nF cF (vrt x) sG aG nG cG aH nH cH (virt x) 80 _ hy ?_ ?_ ?_ ?_ ?_ ?_ ?_).mono ?_); exact RE.out.keep hb8; exact RG.out.keep hb8; omega; exact Nat.le_trans hP.2.2.2.1 (by omega); exact Nat.le_trans hP.2.2.2.2.1 (by omega); exact Nat.le_trans hP.2.2.2.2.2.1 (by omega); exact Nat.le_trans hP.2.2.2.2.2.2 (by omega); rintro e w9 ⟨rfl, hB9⟩; have hb9 := Below.then hb8 (Nat.le_refl _) hB9; rw [isC_same hP]))
        go_wp2
        go_ret
        exact ⟨rfl, Below.then HB7.out (Nat.le_refl _) hb9⟩
    · go_upto_region 8 with fail
      have HSM := Lib.hid (fun (w' : World) (hV : VlAt w' x) => implSame_any x (fun w v => CRat w v (vrt x)) (IsQ (vrt x) 20) w' hV (fun w2 _ hV => madeAs_rat hc (by omega) w2 hV) (fun w2 v hv => toldRat_any v (vrt x) w2 hv (numV_rat hc (by omega)).ok 20 (by omega) (lrat_lt2 HX5.out hc).1 (lrat_lt2 HX5.out hc).2))
      have RA := Lib.hid (R5.out hc)
      have hd0 : Below W5.heap.size W5 W5.drew := (Below.refl _ _).drew
      clear hc R5
      go_region_held3 (fun w' => (w'.cell? ⟨w.heap.size, 0, none⟩ = some (.int .i64 x.kind) ∧ w'.cell? ⟨w.heap.size, 1, none⟩ = some (.bool x.truth) ∧ w'.cell? ⟨w.heap.size, 2, none⟩ = some (.string x.text) ∧ w'.cell? ⟨w.heap.size, 3, none⟩ = some (.bool x.neg) ∧ w'.cell? ⟨w.heap.size, 4, none⟩ = some (.slice x.wa x.wn x.wc) ∧ w'.cell? ⟨w.heap.size, 5, none⟩ = some (.slice x.da x.dn x.dc) ∧ w'.cell? ⟨w.heap.size, 6, none⟩ = some (.bool x.ineg) ∧ w'.cell? ⟨w.heap.size, 7, none⟩ = some (.slice x.ia x.inn x.ic) ∧ w'.cell? ⟨w.heap.size, 8, none⟩ = some (.slice x.ea x.en x.ec)) ∧ (w'.cell? ⟨w4.heap.size, 0, none⟩ = some (.bool sC) ∧ w'.cell? ⟨w4.heap.size, 1, none⟩ = some (.slice aC nC cC) ∧ w'.cell? ⟨w4.heap.size, 2, none⟩ = some (.slice aD nD cD)))
        (first | exact ⟨X5.all, A5.all⟩ | exact ⟨(X5.keep (by assumption)).all, (A5.keep (by assumption)).all⟩)
        (first | (go_at_call 30; (with_reducible refine (HSM.out _ ?_).mono ?_); exact HX5.out.keep (by assumption); rintro e w6 ⟨y, rfl, hy, hP, hB6⟩; have hb6 := Below.then hd0 (Nat.le_refl _) hB6) | (go_at_call 19; (with_reducible refine (isFloat_any y sC aC nC cC aD nD cD (vrt x) 81 _ hy ?_ ?_ ?_ ?_).mono ?_); exact RA.out.keep hb6; omega; exact Nat.le_trans hP.2.2.1 (by omega); exact Nat.le_trans hP.2.2.2 (by omega); rintro e w9 ⟨rfl, hB9⟩; have hb9 := Below.then hb6 (Nat.le_refl _) hB9; rw [isQ_same hP]))
      go_wp2
      go_ret
      exact ⟨rfl, Below.then HB5.out (Nat.le_refl _) hb9⟩
  · go_upto_region 5 with fail
    obtain ⟨kx, nx⟩ := wholeB_parts hb
    have HSM := Lib.hid (fun (w' : World) (hV : VlAt w' x) => implSame_any x (fun w v => CInt w v (sg x.neg (val W64 x.wf x.wn))) (IsZ (sg x.neg (val W64 x.wf x.wn)) 20) w' hV (fun w2 _ hV => madeInt_any x w2 hV kx (by omega)) (fun w2 v hv => toldZ_any v _ w2 hv 20 (by omega) (vl_lt HX3.out nx)))
    have RA := Lib.hid (R3.out hb)
    have hd0 : Below W3.heap.size W3 W3.drew := (Below.refl _ _).drew
    clear hb R3 kx nx
    go_region_held3 (fun w' => (w'.cell? ⟨w.heap.size, 0, none⟩ = some (.int .i64 x.kind) ∧ w'.cell? ⟨w.heap.size, 1, none⟩ = some (.bool x.truth) ∧ w'.cell? ⟨w.heap.size, 2, none⟩ = some (.string x.text) ∧ w'.cell? ⟨w.heap.size, 3, none⟩ = some (.bool x.neg) ∧ w'.cell? ⟨w.heap.size, 4, none⟩ = some (.slice x.wa x.wn x.wc) ∧ w'.cell? ⟨w.heap.size, 5, none⟩ = some (.slice x.da x.dn x.dc) ∧ w'.cell? ⟨w.heap.size, 6, none⟩ = some (.bool x.ineg) ∧ w'.cell? ⟨w.heap.size, 7, none⟩ = some (.slice x.ia x.inn x.ic) ∧ w'.cell? ⟨w.heap.size, 8, none⟩ = some (.slice x.ea x.en x.ec)) ∧ (w'.cell? ⟨w2.heap.size, 0, none⟩ = some (.bool sA) ∧ w'.cell? ⟨w2.heap.size, 1, none⟩ = some (.slice aA nA cA) ∧ w'.cell? ⟨w2.heap.size, 2, none⟩ = some (.slice aB nB cB)))
      (first | exact ⟨X3.all, A3.all⟩ | exact ⟨(X3.keep (by assumption)).all, (A3.keep (by assumption)).all⟩)
      (first | (go_at_call 30; (with_reducible refine (HSM.out _ ?_).mono ?_); exact HX3.out.keep (by assumption); rintro e w6 ⟨y, rfl, hy, hP, hB6⟩; have hb6 := Below.then hd0 (Nat.le_refl _) hB6) | (go_at_call 29; (with_reducible refine (isInt_any y sA aA nA cA aB nB cB (Rt.whole x.neg (val W64 x.wf x.wn)) 81 _ ?_ ?_ ?_ ?_).mono ?_); exact hy; exact RA.out.keep hb6; omega; exact Nat.le_trans hP.2.2.2 (by omega); rintro e w9 ⟨rfl, hB9⟩; have hb9 := Below.then hb6 (Nat.le_refl _) hB9; rw [isZ_same hP (whole_rz _ _)]))
    go_wp2
    go_ret
    exact ⟨rfl, Below.then HB3.out (Nat.le_refl _) hb9⟩
end Go.Proofs.YtececkbcinmmpaaGreatDoor
