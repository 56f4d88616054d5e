/-
  FnFloatProduct walked. PRINTED BY wip/gen_ratmul.py.
-/
import Derived.Test.YtececkbcinmmpaaGreatDoorKM
import Derived.Test.YtececkbcinmmpaaGreatDoorK38
set_option linter.unusedSimpArgs false
set_option linter.unusedVariables false
set_option maxRecDepth 100000
set_option maxHeartbeats 8000000
namespace Go.Proofs.YtececkbcinmmpaaGreatDoor
open Go.RowKit Go.Bg Dg
theorem lawFnFloatProduct_any (x y : Vl) (w : World) (hT : Thr w) (hDD : ThrD w) (h1 : VlAt w x) (h2 : VlAt w y) :
    Calls Tryz.prog 5 #[.agg #[.int .i64 x.kind, .bool x.truth, .string x.text, .bool x.neg, .slice x.wa x.wn x.wc, .slice x.da x.dn x.dc, .bool x.ineg, .slice x.ia x.inn x.ic, .slice x.ea x.en x.ec], .agg #[.int .i64 y.kind, .bool y.truth, .string y.text, .bool y.neg, .slice y.wa y.wn y.wc, .slice y.da y.dn y.dc, .bool y.ineg, .slice y.ia y.inn y.ic, .slice y.ea y.en y.ec]] w fun e w' => e = .returned (.bool true) ∧ Below w.heap.size w w' := by
  have HT := Lib.hid hT
  have HDD := Lib.hid hDD
  clear hT hDD
  obtain ⟨W0, hW0⟩ : ∃ W0, W0 = (w.alloc (.cells #[.int .i64 x.kind, .bool x.truth, .string x.text, .bool x.neg, .slice x.wa x.wn x.wc, .slice x.da x.dn x.dc, .bool x.ineg, .slice x.ia x.inn x.ic, .slice x.ea x.en x.ec] 26)).alloc (.cells #[.int .i64 y.kind, .bool y.truth, .string y.text, .bool y.neg, .slice y.wa y.wn y.wc, .slice y.da y.dn y.dc, .bool y.ineg, .slice y.ia y.inn y.ic, .slice y.ea y.en y.ec] 26) := ⟨_, rfl⟩
  have HW := Lib.hid hW0
  have hb0 : Below w.heap.size w W0 := by rw [hW0]; exact Below.alloc' (Below.alloc' (Below.refl _ _) _) _
  have X : Box9 W0 w.heap.size x := by rw [hW0]; exact (Box9.new w x _ rfl).alloc _
  have Y : Box9 W0 (w.heap.size + 1) y := by rw [hW0]; exact Box9.new _ y _ (by simp)
  have HX := Lib.hid (h1.keep hb0)
  have HY := Lib.hid (h2.keep hb0)
  clear hW0 h1 h2
  cases hf : fitsB x
  · have HF := Lib.hid hf
    clear hf
    go_enter Tryz.func5, Tryz.ntmps5
    go_upto_region 1 with fail
    rw [← HW.out]
    obtain ⟨xc0, xc1, xc2, xc3, xc4, xc5, xc6, xc7, xc8⟩ := (X).all
    go_wp2_with fail
    refine (fits1_any x _).mono ?_
    rintro e w1 ⟨rfl, hB1⟩
    rw [HF.out]
    go_wp2
    go_ret
    exact ⟨rfl, Below.then hb0 (Nat.le_refl _) hB1⟩
  have HF := Lib.hid hf
  clear hf
  cases hg : fitsB y
  · have HG := Lib.hid hg
    clear hg
    go_enter Tryz.func5, Tryz.ntmps5
    go_upto_region 1 with fail
    rw [← HW.out]
    obtain ⟨xc0, xc1, xc2, xc3, xc4, xc5, xc6, xc7, xc8⟩ := (X).all
    go_wp2_with fail
    refine (fits1_any x _).mono ?_
    rintro e w1 ⟨rfl, hB1⟩
    rw [HF.out]
    have Y1 := Y.keep hB1
    obtain ⟨yc0, yc1, yc2, yc3, yc4, yc5, yc6, yc7, yc8⟩ := (Y1).all
    clear xc0 xc1 xc2 xc3 xc4 xc5 xc6 xc7 xc8
    go_wp2_with fail
    refine (fits1_any y _).mono ?_
    rintro e w2 ⟨rfl, hB2⟩
    rw [HG.out]
    go_wp2
    go_ret
    exact ⟨rfl, Below.then (Below.then hb0 (Nat.le_refl _) hB1) (Nat.le_refl _) hB2⟩
  have HG := Lib.hid hg
  clear hg
  go_enter Tryz.func5, Tryz.ntmps5
  go_upto_region 1 with fail
  rw [← HW.out]
  obtain ⟨xc0, xc1, xc2, xc3, xc4, xc5, xc6, xc7, xc8⟩ := (X).all
  go_wp2_with fail
  refine (fits1_any x _).mono ?_
  rintro e w1 ⟨rfl, hB1⟩
  rw [HF.out]
  have Y1 := Y.keep hB1
  obtain ⟨yc0, yc1, yc2, yc3, yc4, yc5, yc6, yc7, yc8⟩ := (Y1).all
  clear xc0 xc1 xc2 xc3 xc4 xc5 xc6 xc7 xc8
  go_wp2_with fail
  refine (fits1_any y _).mono ?_
  rintro e w2 ⟨rfl, hB2⟩
  rw [HG.out]
  clear yc0 yc1 yc2 yc3 yc4 yc5 yc6 yc7 yc8
  have hb2 := Below.then (Below.then hb0 (Nat.le_refl _) hB1) (Nat.le_refl _) hB2
  have X2 := (X.keep hB1).keep hB2
  have Y2 := Y1.keep hB2
  have HX2 := Lib.hid ((HX.out.keep hB1).keep hB2)
  have HY2 := Lib.hid ((HY.out.keep hB1).keep hB2)
  clear X Y Y1 HX HY hB1 hB2 hb0 HW
  go_upto_region 3 with fail
  obtain ⟨xc0, xc1, xc2, xc3, xc4, xc5, xc6, xc7, xc8⟩ := (X2).all
  obtain ⟨yc0, yc1, yc2, yc3, yc4, yc5, yc6, yc7, yc8⟩ := (Y2).all
  go_wp2_with fail
  refine (lawRationals_any x y 10 _ HX2.out HY2.out (by omega)).mono ?_
  rintro e w3 ⟨sA, aA, nA, cA, aB, nB, cB, sC, aC, nC, cC, aD, nD, cD, rfl, hR, hB3⟩
  clear xc0 xc1 xc2 xc3 xc4 xc5 xc6 xc7 xc8 yc0 yc1 yc2 yc3 yc4 yc5 yc6 yc7 yc8
  go_upto_region 4 with fail
  obtain ⟨W4, hW4⟩ : ∃ W4, W4 = (w3.alloc (.cells #[.bool sA, .slice aA nA cA, .slice aB nB cB] 31)).alloc (.cells #[.bool sC, .slice aC nC cC, .slice aD nD cD] 31) := ⟨_, rfl⟩
  rw [← hW4]
  have hB4 : Below w2.heap.size w2 W4 := by rw [hW4]; exact Below.alloc' (Below.alloc' hB3 _) _
  have A4 : RtBlk W4 w3.heap.size sA aA nA cA aB nB cB := by rw [hW4]; exact (RtBlk.new _ _ rfl _ _ _ _ _ _ _).keep ((Below.refl _ _).alloc (Nat.le_refl _) _)
  have C4 : RtBlk W4 (w3.heap.size + 1) sC aC nC cC aD nD cD := by rw [hW4]; exact RtBlk.new _ _ (by simp) _ _ _ _ _ _ _
  have R4 := Lib.hid (show (lratB x 10 && lratB y 10) = true → RtAt W4 sA aA nA cA aB nB cB (vrt x) (4 * 10 + 1) ∧ RtAt W4 sC aC nC cC aD nD cD (vrt y) (4 * 10 + 1) from fun hb => by
    rw [hW4]
    have hk : Below w3.heap.size w3 ((w3.alloc (.cells #[.bool sA, .slice aA nA cA, .slice aB nB cB] 31)).alloc (.cells #[.bool sC, .slice aC nC cC, .slice aD nD cD] 31)) := Below.alloc' (Below.alloc' (Below.refl _ _) _) _
    exact ⟨(hR hb).1.keep hk, (hR hb).2.keep hk⟩)
  clear hW4 hR hB3
  have hb4 := Below.then hb2 (Nat.le_refl _) hB4
  have X4 := X2.keep hB4
  have Y4 := Y2.keep hB4
  have HX4 := Lib.hid (HX2.out.keep hB4)
  have HY4 := Lib.hid (HY2.out.keep hB4)
  have HB4 := Lib.hid hb4
  clear X2 Y2 HX2 HY2 hb2 hB4 hb4
  cases hb : (lratB x 10 && lratB y 10)
  · clear R4
    clear X4 Y4 A4 C4
    go_quiet (fail)
    go_wp2
    go_ret
    exact ⟨rfl, HB4.out.trans (below_of_drewN ⟨_, rfl⟩)⟩
  · have hbb := hb
    simp only [Bool.and_eq_true] at hbb
    have NX := Lib.hid (numV_rat hbb.1 (by omega))
    have NY := Lib.hid (numV_rat hbb.2 (by omega))
    have BX := Lib.hid hbb.1
    have BY := Lib.hid hbb.2
    obtain ⟨rA, rC⟩ := R4.out hb
    have RA := Lib.hid rA
    have RC := Lib.hid rC
    have HT4 := Lib.hid (HT.out.keep HB4.out)
    have HD4 := Lib.hid (HDD.out.keep HB4.out)
    clear rA rC hb hbb R4
    have hd0 : Below W4.heap.size W4 W4.drew := (Below.refl _ _).drew
    all_goals
      go_region_held3 (fun w' => (w'.cell? ⟨w.heap.size, 0, none⟩ = some (.int .i64 x.kind) ∧ w'.cell? ⟨w.heap.size, 1, none⟩ = some (.bool x.truth) ∧ w'.cell? ⟨w.heap.size, 2, none⟩ = some (.string x.text) ∧ w'.cell? ⟨w.heap.size, 3, none⟩ = some (.bool x.neg) ∧ w'.cell? ⟨w.heap.size, 4, none⟩ = some (.slice x.wa x.wn x.wc) ∧ w'.cell? ⟨w.heap.size, 5, none⟩ = some (.slice x.da x.dn x.dc) ∧ w'.cell? ⟨w.heap.size, 6, none⟩ = some (.bool x.ineg) ∧ w'.cell? ⟨w.heap.size, 7, none⟩ = some (.slice x.ia x.inn x.ic) ∧ w'.cell? ⟨w.heap.size, 8, none⟩ = some (.slice x.ea x.en x.ec)) ∧ (w'.cell? ⟨(w.heap.size + 1), 0, none⟩ = some (.int .i64 y.kind) ∧ w'.cell? ⟨(w.heap.size + 1), 1, none⟩ = some (.bool y.truth) ∧ w'.cell? ⟨(w.heap.size + 1), 2, none⟩ = some (.string y.text) ∧ w'.cell? ⟨(w.heap.size + 1), 3, none⟩ = some (.bool y.neg) ∧ w'.cell? ⟨(w.heap.size + 1), 4, none⟩ = some (.slice y.wa y.wn y.wc) ∧ w'.cell? ⟨(w.heap.size + 1), 5, none⟩ = some (.slice y.da y.dn y.dc) ∧ w'.cell? ⟨(w.heap.size + 1), 6, none⟩ = some (.bool y.ineg) ∧ w'.cell? ⟨(w.heap.size + 1), 7, none⟩ = some (.slice y.ia y.inn y.ic) ∧ w'.cell? ⟨(w.heap.size + 1), 8, none⟩ = some (.slice y.ea y.en y.ec)) ∧ (w'.cell? ⟨w3.heap.size, 0, none⟩ = some (.bool sA) ∧ w'.cell? ⟨w3.heap.size, 1, none⟩ = some (.slice aA nA cA) ∧ w'.cell? ⟨w3.heap.size, 2, none⟩ = some (.slice aB nB cB)) ∧ (w'.cell? ⟨(w3.heap.size + 1), 0, none⟩ = some (.bool sC) ∧ w'.cell? ⟨(w3.heap.size + 1), 1, none⟩ = some (.slice aC nC cC) ∧ w'.cell? ⟨(w3.heap.size + 1), 2, none⟩ = some (.slice aD nD cD)))
        (first | with_reducible exact ⟨X4.all, Y4.all, A4.all, C4.all⟩ | with_reducible exact ⟨(X4.keep (by assumption)).all, (Y4.keep (by assumption)).all, (A4.keep (by assumption)).all, (C4.keep (by assumption)).all⟩)
        (first | (go_at_call 20; (with_reducible refine (implRMul_any x y _ ?_ ?_ ?_ ?_ BX.out BY.out).mono ?_); exact HT4.out.keep (by assumption); exact HD4.out.keep (by assumption); exact HX4.out.keep (by assumption); exact HY4.out.keep (by assumption); rintro e w6 ⟨r, rfl, hy, hP, hB6⟩; have hb6 := Below.then hd0 (Nat.le_refl _) hB6) | (go_at_call 23; (with_reducible refine (times_any sA sC aA nA cA aB nB cB aC nC cC aD nD cD (vrt x) (vrt y) 41 _ ?_ ?_ ?_ ?_ ?_).mono ?_); exact RA.out.keep (by assumption); exact RC.out.keep (by assumption); exact NX.out.ok.den; exact NY.out.ok.den; omega; rintro e w8 ⟨sM, aM, nM, cM, aN, nN, cN, rfl, hM, hB8⟩; have hb8 := Below.then hb6 (Nat.le_refl _) hB8) | (go_at_call 19; (with_reducible refine (isFloat_any r sM aM nM cM aN nN cN (Rt.times (vrt x) (vrt y)) 82 _ ?_ hM ?_ ?_ ?_).mono ?_); exact hy.keep hB8; omega; exact Nat.le_trans hP.2.2.1 (by omega); exact Nat.le_trans hP.2.2.2 (by omega); rintro e w9 ⟨rfl, hB9⟩; have hb9 := Below.then hb8 (Nat.le_refl _) hB9; rw [isQ_same hP]))
      go_wp2
      go_ret
      exact ⟨rfl, Below.then HB4.out (Nat.le_refl _) hb9⟩
end Go.Proofs.YtececkbcinmmpaaGreatDoor
