/-
  FnDenominator walked (printed by gen_laws1.py).
-/
import Derived.Test.YtnecaaoalfndnaaGreatDoorBuN
set_option linter.unusedSimpArgs false
set_option linter.unusedVariables false
namespace Go.Proofs.YtnecaaoalfndnaaGreatDoor
open Go.RowKit Go.Bg Dg

set_option maxRecDepth 100000 in
set_option maxHeartbeats 4000000 in
theorem lawFnDenominator_any (x : Vl) (w : World) (h1 : VlAt w x) :
    Calls Tryz.prog 9 #[.agg #[.int .i64 x.kind, .bool x.truth, .string x.text, .bool x.neg, .slice x.wa x.wn x.wc, .slice x.da x.dn x.dc, .bool x.ineg, .slice x.ia x.inn x.ic, .slice x.ea x.en x.ec]] w fun e w' => e = .returned (.bool true) ∧ Below w.heap.size w w' := by
  have H1 := Lib.hid h1
  obtain ⟨W0, hW0⟩ : ∃ W0, W0 = w.alloc (.cells #[.int .i64 x.kind, .bool x.truth, .string x.text, .bool x.neg, .slice x.wa x.wn x.wc, .slice x.da x.dn x.dc, .bool x.ineg, .slice x.ia x.inn x.ic, .slice x.ea x.en x.ec] 26) := ⟨_, rfl⟩
  have HW := Lib.hid hW0
  have hb0 : Below w.heap.size w W0 := by rw [hW0]; exact Below.alloc' (Below.refl _ _) _
  have X : Box9 W0 w.heap.size x := by rw [hW0]; exact Box9.new w x _ rfl
  have HX := Lib.hid (h1.keep hb0)
  clear hW0 h1
  cases hf : fitsB x
  · have HF := Lib.hid hf
    clear hf
    go_enter Tryz.func9, Tryz.ntmps9
    go_upto_region 1 with fail
    rw [← HW.out]
    obtain ⟨xc0, xc1, xc2, xc3, xc4, xc5, xc6, xc7, xc8⟩ := (X).all
    go_wp2_with fail
    refine (fits1_any x _).mono ?_
    rintro e w1 ⟨rfl, hB1⟩
    rw [HF.out]
    go_wp2
    go_ret
    exact ⟨rfl, Below.then hb0 (Nat.le_refl _) hB1⟩
  have HF := Lib.hid hf
  clear hf
  go_enter Tryz.func9, Tryz.ntmps9
  go_upto_region 1 with fail
  rw [← HW.out]
  obtain ⟨xc0, xc1, xc2, xc3, xc4, xc5, xc6, xc7, xc8⟩ := (X).all
  go_wp2_with fail
  refine (fits1_any x _).mono ?_
  rintro e w1 ⟨rfl, hB1⟩
  rw [HF.out]
  clear xc0 xc1 xc2 xc3 xc4 xc5 xc6 xc7 xc8
  have hb1 := Below.then hb0 (Nat.le_refl _) hB1
  have X1 := X.keep hB1
  have HX1 := Lib.hid (HX.out.keep hB1)
  clear X HX hB1 hb0 HW
  go_upto_region 3 with fail
  obtain ⟨xc0, xc1, xc2, xc3, xc4, xc5, xc6, xc7, xc8⟩ := (X1).all
  go_wp2_with fail
  refine (lawWhole_any x 20 _ HX1.out (by omega)).mono ?_
  rintro e w2 ⟨sA, aA, nA, cA, aB, nB, cB, rfl, hR, hB2⟩
  clear xc0 xc1 xc2 xc3 xc4 xc5 xc6 xc7 xc8
  go_upto_region 4 with fail
  obtain ⟨W3, hW3⟩ : ∃ W3, W3 = w2.alloc (.cells #[.bool sA, .slice aA nA cA, .slice aB nB cB] 31) := ⟨_, rfl⟩
  rw [← hW3]
  have hB3 : Below w1.heap.size w1 W3 := by rw [hW3]; exact Below.alloc' hB2 _
  have A3 : RtBlk W3 w2.heap.size sA aA nA cA aB nB cB := by rw [hW3]; exact RtBlk.new _ _ rfl _ _ _ _ _ _ _
  have hb3 := Below.then hb1 (Nat.le_refl _) hB3
  have X3 := X1.keep hB3
  have HX3 := Lib.hid (HX1.out.keep hB3)
  have HB3 := Lib.hid hb3
  have HS3 := Lib.hid (show ∀ o : Obj, w2.heap.size < (w2.alloc o).heap.size from fun o => by simp)
  have R3 := Lib.hid (show wholeB x 20 = true → RtAt W3 sA aA nA cA aB nB cB (Rt.whole x.neg (val W64 x.wf x.wn)) 81 from fun hb => by
    rw [hW3]
    have := (wholeB_parts hb).2
    exact ((hR hb).keep ((Below.refl _ _).alloc (Nat.le_refl _) _)).mono (by omega))
  have RES3 : ResBlk W3 w2.heap.size := by rw [hW3]; exact resBlk_new _ _ _ _ _ _ _ _ _
  have hlt2 : w.heap.size < w2.heap.size := Nat.lt_of_lt_of_le (block_lt X1.c0) hB2.size
  clear hW3 hR hB2 hB3 X1 HX1 hb1 hb3
  cases hb : wholeB x 20
  · clear R3 hb
    go_upto_region 5 with fail
    obtain ⟨xc0, xc1, xc2, xc3, xc4, xc5, xc6, xc7, xc8⟩ := (X3).all
    go_wp2_with fail
    refine (lawRational_any x 20 _ HX3.out (by omega)).mono ?_
    rintro e w4 ⟨sC, aC, nC, cC, aD, nD, cD, rfl, hR4, hB4⟩
    clear xc0 xc1 xc2 xc3 xc4 xc5 xc6 xc7 xc8
    have RV := RES3.below RES3.lt hB4
    obtain ⟨⟨u0, r0⟩, ⟨u1, r1⟩, ⟨u2, r2⟩⟩ := (RV).cells; have f0 := (RV).frozen 0; have f1 := (RV).frozen 1; have f2 := (RV).frozen 2
    go_upto_region 6 with fail
    obtain ⟨W5, hW5⟩ : ∃ W5, W5 = ((w4.setCell ⟨w2.heap.size, 0, none⟩ (.bool sC)).setCell ⟨w2.heap.size, 1, none⟩ (.slice aC nC cC)).setCell ⟨w2.heap.size, 2, none⟩ (.slice aD nD cD) := ⟨_, rfl⟩
    rw [← hW5]
    have A5 : RtBlk W5 w2.heap.size sC aC nC cC aD nD cD := by rw [hW5]; exact rtBlk_stored RV _ _ _ _ _ _ _
    have hle := Nat.le_of_lt hlt2
    have hB5 : Below w.heap.size w W5 := by rw [hW5]; exact (((Below.then HB3.out (Nat.le_refl _) hB4).setCell hle _).setCell hle _).setCell hle _
    have X5 : Box9 W5 w.heap.size x := by
      rw [hW5]
      have hne : w.heap.size ≠ w2.heap.size := Nat.ne_of_lt hlt2
      exact (((X3.keep hB4).setOther hne _ _).setOther hne _ _).setOther hne _ _
    have R5 := Lib.hid (show lratB x 20 = true → RtAt W5 sC aC nC cC aD nD cD (vrt x) 81 from fun hb => by rw [hW5]; exact (stored3 RV (hR4 hb)).mono (by omega))
    have HX5 := Lib.hid (H1.out.keep hB5)
    have HB5 := Lib.hid hB5
    clear hW5 hR4 hB4 hB5 RV u0 r0 u1 r1 u2 r2 f0 f1 f2 X3 A3 RES3 HX3 hle
    cases hc : lratB x 20
    · clear X5 A5 R5
      go_quiet (fail)
      go_wp2
      go_ret
      exact ⟨rfl, HB5.out.trans (below_of_drewN ⟨_, rfl⟩)⟩
    · have hb := hc
      have NV := Lib.hid (numV_rat hb (by omega))
      have RA := Lib.hid (R5.out hb)
      have hd0 : Below W5.heap.size W5 W5.drew := (Below.refl _ _).drew
      clear hb hc R5
      go_region_held3 (fun w' => (w'.cell? ⟨w.heap.size, 0, none⟩ = some (.int .i64 x.kind) ∧ w'.cell? ⟨w.heap.size, 1, none⟩ = some (.bool x.truth) ∧ w'.cell? ⟨w.heap.size, 2, none⟩ = some (.string x.text) ∧ w'.cell? ⟨w.heap.size, 3, none⟩ = some (.bool x.neg) ∧ w'.cell? ⟨w.heap.size, 4, none⟩ = some (.slice x.wa x.wn x.wc) ∧ w'.cell? ⟨w.heap.size, 5, none⟩ = some (.slice x.da x.dn x.dc) ∧ w'.cell? ⟨w.heap.size, 6, none⟩ = some (.bool x.ineg) ∧ w'.cell? ⟨w.heap.size, 7, none⟩ = some (.slice x.ia x.inn x.ic) ∧ w'.cell? ⟨w.heap.size, 8, none⟩ = some (.slice x.ea x.en x.ec)) ∧ (w'.cell? ⟨w2.heap.size, 0, none⟩ = some (.bool sC) ∧ w'.cell? ⟨w2.heap.size, 1, none⟩ = some (.slice aC nC cC) ∧ w'.cell? ⟨w2.heap.size, 2, none⟩ = some (.slice aD nD cD)))
        (first | exact ⟨X5.all, A5.all⟩ | exact ⟨(X5.keep (by assumption)).all, (A5.keep (by assumption)).all⟩)
        (first | (go_at_call 26; (with_reducible refine (implDenominator_any x (vrt x) _ ?_ NV.out).mono ?_); exact HX5.out.keep (by assumption); rintro e w5 ⟨y, rfl, hy, hP, hBw5⟩; have hb5 := Below.then hd0 (Nat.le_refl _) hBw5) | (go_at_call 27; (with_reducible refine (whole_any false aD nD cD (Rt.den (vrt x)) 81 _ ?_ ?_ ?_ ?_).mono ?_); exact (RA.out.keep hb5).den; exact RA.out.denL; omega; omega; rintro e w6 ⟨sM, aM, nM, cM, aN, nN, cN, rfl, hM, hB6⟩; have hb6 := Below.then hb5 (Nat.le_refl _) hB6) | (go_at_call 13; (with_reducible refine (isInt_any y sM aM nM cM aN nN cN (Rt.whole false (Rt.den (vrt x))) 81 _ ?_ hM ?_ ?_).mono ?_); exact hy.keep hB6; omega; exact Nat.le_trans hP.2.2.2 (by omega); rintro e w7 ⟨rfl, hB7⟩; have hb7 := Below.then hb6 (Nat.le_refl _) hB7; rw [isZ_same hP (by rw [whole_rz]; rfl)]))
      go_wp2
      go_ret
      exact ⟨rfl, Below.then HB5.out (Nat.le_refl _) hb7⟩
  · clear RES3
    go_upto_region 6 with fail
    have NV := Lib.hid (numV_whole hb (by omega))
    have RA := Lib.hid (R3.out hb)
    have hd0 : Below W3.heap.size W3 W3.drew := (Below.refl _ _).drew
    clear hb R3
    go_region_held3 (fun w' => (w'.cell? ⟨w.heap.size, 0, none⟩ = some (.int .i64 x.kind) ∧ w'.cell? ⟨w.heap.size, 1, none⟩ = some (.bool x.truth) ∧ w'.cell? ⟨w.heap.size, 2, none⟩ = some (.string x.text) ∧ w'.cell? ⟨w.heap.size, 3, none⟩ = some (.bool x.neg) ∧ w'.cell? ⟨w.heap.size, 4, none⟩ = some (.slice x.wa x.wn x.wc) ∧ w'.cell? ⟨w.heap.size, 5, none⟩ = some (.slice x.da x.dn x.dc) ∧ w'.cell? ⟨w.heap.size, 6, none⟩ = some (.bool x.ineg) ∧ w'.cell? ⟨w.heap.size, 7, none⟩ = some (.slice x.ia x.inn x.ic) ∧ w'.cell? ⟨w.heap.size, 8, none⟩ = some (.slice x.ea x.en x.ec)) ∧ (w'.cell? ⟨w2.heap.size, 0, none⟩ = some (.bool sA) ∧ w'.cell? ⟨w2.heap.size, 1, none⟩ = some (.slice aA nA cA) ∧ w'.cell? ⟨w2.heap.size, 2, none⟩ = some (.slice aB nB cB)))
      (first | exact ⟨X3.all, A3.all⟩ | exact ⟨(X3.keep (by assumption)).all, (A3.keep (by assumption)).all⟩)
      (first | (go_at_call 26; (with_reducible refine (implDenominator_any x (Rt.whole x.neg (val W64 x.wf x.wn)) _ ?_ NV.out).mono ?_); exact HX3.out.keep (by assumption); rintro e w5 ⟨y, rfl, hy, hP, hBw5⟩; have hb5 := Below.then hd0 (Nat.le_refl _) hBw5) | (go_at_call 27; (with_reducible refine (whole_any false aB nB cB (Rt.den (Rt.whole x.neg (val W64 x.wf x.wn))) 81 _ ?_ ?_ ?_ ?_).mono ?_); exact (RA.out.keep hb5).den; exact RA.out.denL; omega; omega; rintro e w6 ⟨sM, aM, nM, cM, aN, nN, cN, rfl, hM, hB6⟩; have hb6 := Below.then hb5 (Nat.le_refl _) hB6) | (go_at_call 13; (with_reducible refine (isInt_any y sM aM nM cM aN nN cN (Rt.whole false (Rt.den (Rt.whole x.neg (val W64 x.wf x.wn)))) 81 _ ?_ hM ?_ ?_).mono ?_); exact hy.keep hB6; omega; exact Nat.le_trans hP.2.2.2 (by omega); rintro e w7 ⟨rfl, hB7⟩; have hb7 := Below.then hb6 (Nat.le_refl _) hB7; rw [isZ_same hP (by rw [whole_rz]; rfl)]))
    go_wp2
    go_ret
    exact ⟨rfl, Below.then HB3.out (Nat.le_refl _) hb7⟩
end Go.Proofs.YtnecaaoalfndnaaGreatDoor
