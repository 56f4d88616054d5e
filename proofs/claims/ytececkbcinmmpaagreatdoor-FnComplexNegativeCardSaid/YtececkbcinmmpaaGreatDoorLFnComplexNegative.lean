/-
  FnComplexNegative walked. PRINTED BY wip/gen_lcpx.py.
-/
import Derived.Test.YtececkbcinmmpaaGreatDoorN4
import Derived.Test.YtececkbcinmmpaaGreatDoorK38
set_option linter.unusedSimpArgs false
set_option linter.unusedVariables false
namespace Go.Proofs.YtececkbcinmmpaaGreatDoor
open Go.RowKit Go.Bg Dg

set_option maxRecDepth 100000 in
set_option maxHeartbeats 8000000 in
theorem lawFnComplexNegative_any (x : Vl) (w : World) (hT : Thr w) (hDD : ThrD w) (h1 : VlAt w x) :
    Calls Tryz.prog 15 #[.agg #[.int .i64 x.kind, .bool x.truth, .string x.text, .bool x.neg, .slice x.wa x.wn x.wc, .slice x.da x.dn x.dc, .bool x.ineg, .slice x.ia x.inn x.ic, .slice x.ea x.en x.ec]] w fun e w' => e = .returned (.bool true) ∧ Below w.heap.size w w' := by
  have HT := Lib.hid hT
  have HDD := Lib.hid hDD
  clear hT hDD
  obtain ⟨W0, hW0⟩ : ∃ W0, W0 = w.alloc (.cells #[.int .i64 x.kind, .bool x.truth, .string x.text, .bool x.neg, .slice x.wa x.wn x.wc, .slice x.da x.dn x.dc, .bool x.ineg, .slice x.ia x.inn x.ic, .slice x.ea x.en x.ec] 26) := ⟨_, rfl⟩
  have HW := Lib.hid hW0
  have hb0 : Below w.heap.size w W0 := by rw [hW0]; exact Below.alloc' (Below.refl _ _) _
  have X : Box9 W0 w.heap.size x := by rw [hW0]; exact Box9.new w x _ rfl
  have HX := Lib.hid (h1.keep hb0)
  clear hW0 h1
  cases hf : fitsB x
  · have HF := Lib.hid hf
    clear hf
    go_enter Tryz.func15, Tryz.ntmps15
    go_upto_region 1 with fail
    rw [← HW.out]
    obtain ⟨xc0, xc1, xc2, xc3, xc4, xc5, xc6, xc7, xc8⟩ := (X).all
    go_wp2_with fail
    refine (fits1_any x _).mono ?_
    rintro e w1 ⟨rfl, hB1⟩
    rw [HF.out]
    go_wp2
    go_ret
    exact ⟨rfl, Below.then hb0 (Nat.le_refl _) hB1⟩
  have HF := Lib.hid hf
  clear hf
  go_enter Tryz.func15, Tryz.ntmps15
  go_upto_region 1 with fail
  rw [← HW.out]
  obtain ⟨xc0, xc1, xc2, xc3, xc4, xc5, xc6, xc7, xc8⟩ := (X).all
  go_wp2_with fail
  refine (fits1_any x _).mono ?_
  rintro e w1 ⟨rfl, hB1⟩
  rw [HF.out]
  clear xc0 xc1 xc2 xc3 xc4 xc5 xc6 xc7 xc8
  have hb1 := Below.then hb0 (Nat.le_refl _) hB1
  have X1 := X.keep hB1
  have HX1 := Lib.hid (HX.out.keep hB1)
  clear X HX hB1 hb0 HW
  go_upto_region 3 with fail
  obtain ⟨xc0, xc1, xc2, xc3, xc4, xc5, xc6, xc7, xc8⟩ := (X1).all
  go_wp2_with fail
  refine (lawPair_any x 8 _ HX1.out (by omega)).mono ?_
  rintro e w2 ⟨sA, aA, nA, cA, aB, nB, cB, sC, aC, nC, cC, aD, nD, cD, rfl, hR, hB2⟩
  clear xc0 xc1 xc2 xc3 xc4 xc5 xc6 xc7 xc8
  go_upto_region 4 with fail
  obtain ⟨W3, hW3⟩ : ∃ W3, W3 = (w2.alloc (.cells #[.bool sA, .slice aA nA cA, .slice aB nB cB] 31)).alloc (.cells #[.bool sC, .slice aC nC cC, .slice aD nD cD] 31) := ⟨_, rfl⟩
  rw [← hW3]
  have hk3 : Below w2.heap.size w2 W3 := by rw [hW3]; exact Below.alloc' (Below.alloc' (Below.refl _ _) _) _
  have hB3 : Below w1.heap.size w1 W3 := Below.then hB2 (Nat.le_refl _) hk3
  have A3 : RtBlk W3 w2.heap.size sA aA nA cA aB nB cB := by rw [hW3]; exact (RtBlk.new _ _ rfl _ _ _ _ _ _ _).keep ((Below.refl _ _).alloc (Nat.le_refl _) _)
  have C3 : RtBlk W3 (w2.heap.size + 1) sC aC nC cC aD nD cD := by rw [hW3]; exact RtBlk.new _ _ (by simp) _ _ _ _ _ _ _
  have R3 := Lib.hid (fun hb => show RtAt W3 sA aA nA cA aB nB cB (vrt x) (4 * 8) ∧ RtAt W3 sC aC nC cC aD nD cD (virt x) (4 * 8) from ⟨(hR hb).1.keep hk3, (hR hb).2.keep hk3⟩)
  have hb3 := Below.then hb1 (Nat.le_refl _) hB3
  have X3 := X1.keep hB3
  have HX3 := Lib.hid (HX1.out.keep hB3)
  have HB3 := Lib.hid hb3
  clear hW3 hR hB2 hB3 hk3 X1 HX1 hb1 hb3
  cases hb : lpairB x 8
  · clear R3
    clear X3 A3 C3
    go_quiet (fail)
    go_wp2
    go_ret
    exact ⟨rfl, HB3.out.trans (below_of_drewN ⟨_, rfl⟩)⟩
  · have MX := Lib.hid (madeC_pair hb (by omega) (by omega))
    have PX := Lib.hid (plt_pair HX3.out hb (by omega) (by omega))
    obtain ⟨rA, rC⟩ := R3.out hb
    have RA := Lib.hid rA
    have RC := Lib.hid rC
    have HT3 := Lib.hid (HT.out.keep HB3.out)
    have HD3 := Lib.hid (HDD.out.keep HB3.out)
    clear rA rC hb R3
    have hd0 : Below W3.heap.size W3 W3.drew := (Below.refl _ _).drew
    go_region_held3 (fun w' => (w'.cell? ⟨w.heap.size, 0, none⟩ = some (.int .i64 x.kind) ∧ w'.cell? ⟨w.heap.size, 1, none⟩ = some (.bool x.truth) ∧ w'.cell? ⟨w.heap.size, 2, none⟩ = some (.string x.text) ∧ w'.cell? ⟨w.heap.size, 3, none⟩ = some (.bool x.neg) ∧ w'.cell? ⟨w.heap.size, 4, none⟩ = some (.slice x.wa x.wn x.wc) ∧ w'.cell? ⟨w.heap.size, 5, none⟩ = some (.slice x.da x.dn x.dc) ∧ w'.cell? ⟨w.heap.size, 6, none⟩ = some (.bool x.ineg) ∧ w'.cell? ⟨w.heap.size, 7, none⟩ = some (.slice x.ia x.inn x.ic) ∧ w'.cell? ⟨w.heap.size, 8, none⟩ = some (.slice x.ea x.en x.ec)) ∧ (w'.cell? ⟨w2.heap.size, 0, none⟩ = some (.bool sA) ∧ w'.cell? ⟨w2.heap.size, 1, none⟩ = some (.slice aA nA cA) ∧ w'.cell? ⟨w2.heap.size, 2, none⟩ = some (.slice aB nB cB)) ∧ (w'.cell? ⟨(w2.heap.size + 1), 0, none⟩ = some (.bool sC) ∧ w'.cell? ⟨(w2.heap.size + 1), 1, none⟩ = some (.slice aC nC cC) ∧ w'.cell? ⟨(w2.heap.size + 1), 2, none⟩ = some (.slice aD nD cD)))
      (first | with_reducible exact ⟨X3.all, A3.all, C3.all⟩ | with_reducible exact ⟨(X3.keep (by assumption)).all, (A3.keep (by assumption)).all, (C3.keep (by assumption)).all⟩)
      (first | (go_at_call 40; (with_reducible refine (implUnSubC_any x (vrt x) (virt x) 8 0 _ ?_ ?_ ?_ MX.out PX.out).mono ?_); exact HT3.out.keep (by assumption); exact HD3.out.keep (by assumption); exact HX3.out.keep (by assumption); rintro e w5 ⟨y, rfl, hy, hP, hB5⟩; have hb5 := Below.then hd0 (Nat.le_refl _) hB5) | (go_at_call 41; (with_reducible refine (negated_any sA aA nA cA aB nB cB 32 (vrt x) _ ?_ (by omega)).mono ?_); exact RA.out.keep hb5; rintro e w6 ⟨sE, aE, nE, cE, aF, nF, cF, rfl, hE, hB6⟩; have hb6 := Below.then hb5 (Nat.le_refl _) hB6) | (go_at_call 41; (with_reducible refine (negated_any sC aC nC cC aD nD cD 32 (virt x) _ ?_ (by omega)).mono ?_); exact RC.out.keep hb6; rintro e w7 ⟨sG, aG, nG, cG, aH, nH, cH, rfl, hG, hB7⟩; have hb7 := Below.then hb6 (Nat.le_refl _) hB7) | (go_at_call 32; (with_reducible refine (isPair_any y sE aE nE cE aF nF cF (vrt x).negated sG aG nG cG aH nH cH (virt x).negated 32 _ ?_ ?_ hG ?_ ?_ ?_ ?_ ?_).mono ?_); exact (hy.keep hB6).keep hB7; exact hE.keep hB7; omega; exact Nat.le_trans hP.2.2.2.1 (by omega); exact Nat.le_trans hP.2.2.2.2.1 (by omega); exact Nat.le_trans hP.2.2.2.2.2.1 (by omega); exact Nat.le_trans hP.2.2.2.2.2.2 (by omega); rintro e w8 ⟨rfl, hB8⟩; have hb8 := Below.then hb7 (Nat.le_refl _) hB8; rw [isC_same hP]) | (go_at_call 40; (with_reducible refine (implUnAddC_any x (vrt x) (virt x) 8 0 _ ?_ ?_ ?_ MX.out PX.out).mono ?_); exact HT3.out.keep (by assumption); exact HD3.out.keep (by assumption); exact HX3.out.keep (by assumption); rintro e w9 ⟨y2, rfl, hy2, hP2, hB9⟩; have hb9 := Below.then hb8 (Nat.le_refl _) hB9) | (go_at_call 32; (with_reducible refine (isPair_any y2 sA aA nA cA aB nB cB (vrt x) sC aC nC cC aD nD cD (virt x) 32 _ hy2 ?_ ?_ ?_ ?_ ?_ ?_ ?_).mono ?_); exact RA.out.keep hb9; exact RC.out.keep hb9; omega; exact Nat.le_trans hP2.2.2.2.1 (by omega); exact Nat.le_trans hP2.2.2.2.2.1 (by omega); exact Nat.le_trans hP2.2.2.2.2.2.1 (by omega); exact Nat.le_trans hP2.2.2.2.2.2.2 (by omega); rintro e w10 ⟨rfl, hB10⟩; have hb10 := Below.then hb9 (Nat.le_refl _) hB10; rw [isC_same hP2]))
    go_wp2
    go_ret
    exact ⟨rfl, Below.then HB3.out (Nat.le_refl _) hb10⟩
end Go.Proofs.YtececkbcinmmpaaGreatDoor
