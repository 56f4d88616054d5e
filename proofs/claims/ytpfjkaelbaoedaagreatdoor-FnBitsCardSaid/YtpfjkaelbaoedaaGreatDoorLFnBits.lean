/-
  FnBits walked. PRINTED BY wip/gen_lbits.py.
-/
import Derived.Test.YtpfjkaelbaoedaaGreatDoorOpsBit
import Derived.Test.YtpfjkaelbaoedaaGreatDoorBuLL
import Derived.Test.YtpfjkaelbaoedaaGreatDoorBuN
import Derived.Test.YtpfjkaelbaoedaaGreatDoorBuE
set_option linter.unusedSimpArgs false
set_option linter.unusedVariables false
namespace Go.Proofs.YtpfjkaelbaoedaaGreatDoor
open Go.RowKit Go.Bg Dg

theorem whole_pos {s : Bool} {n : Bool} {N : Nat} (h : s = (Rt.whole n N).neg) (hs : s = true) : 1 ≤ N := by
  rw [hs] at h
  have h' : (n && decide (0 < N)) = true := h.symm
  simp at h'
  omega

set_option maxRecDepth 100000 in
set_option maxHeartbeats 4000000 in
theorem lawFnBits_0 (op : Nat) (hop : op < 256) (hj : op % 4 = 0) (x y : Vl) (w : World) (h1 : VlAt w x) (h2 : VlAt w y) :
    Calls Tryz.prog 5 #[.int .u8 op, .agg #[.int .i64 x.kind, .bool x.truth, .string x.text, .bool x.neg, .slice x.wa x.wn x.wc, .slice x.da x.dn x.dc, .bool x.ineg, .slice x.ia x.inn x.ic, .slice x.ea x.en x.ec], .agg #[.int .i64 y.kind, .bool y.truth, .string y.text, .bool y.neg, .slice y.wa y.wn y.wc, .slice y.da y.dn y.dc, .bool y.ineg, .slice y.ia y.inn y.ic, .slice y.ea y.en y.ec]] w fun e w' => e = .returned (.bool true) ∧ Below w.heap.size w w' := by
  have hop4 : (op : Int) % 4 = 0 := by omega
  have hopT : (op : Int).tmod 4 = 0 := by rw [Int.tmod_eq_emod_of_nonneg (by omega)]; exact hop4
  clear hj
  obtain ⟨W0, hW0⟩ : ∃ W0, W0 = (w.alloc (.cells #[.int .i64 x.kind, .bool x.truth, .string x.text, .bool x.neg, .slice x.wa x.wn x.wc, .slice x.da x.dn x.dc, .bool x.ineg, .slice x.ia x.inn x.ic, .slice x.ea x.en x.ec] 26)).alloc (.cells #[.int .i64 y.kind, .bool y.truth, .string y.text, .bool y.neg, .slice y.wa y.wn y.wc, .slice y.da y.dn y.dc, .bool y.ineg, .slice y.ia y.inn y.ic, .slice y.ea y.en y.ec] 26) := ⟨_, rfl⟩
  have HW := Lib.hid hW0
  have hb0 : Below w.heap.size w W0 := by rw [hW0]; exact Below.alloc' (Below.alloc' (Below.refl _ _) _) _
  have X : Box9 W0 w.heap.size x := by rw [hW0]; exact (Box9.new w x _ rfl).alloc _
  have Y : Box9 W0 (w.heap.size + 1) y := by rw [hW0]; exact Box9.new _ y _ (by simp)
  have HX := Lib.hid (h1.keep hb0)
  have HY := Lib.hid (h2.keep hb0)
  clear hW0 h1 h2
  cases hf : fitsB x
  · have HF := Lib.hid hf
    clear hf
    go_enter Tryz.func5, Tryz.ntmps5
    go_upto_region 1 with fail
    rw [← HW.out]
    obtain ⟨xc0, xc1, xc2, xc3, xc4, xc5, xc6, xc7, xc8⟩ := (X).all
    go_wp2_with fail
    refine (fits1_any x _).mono ?_
    rintro e w1 ⟨rfl, hB1⟩
    rw [HF.out]
    go_wp2
    go_ret
    exact ⟨rfl, Below.then hb0 (Nat.le_refl _) hB1⟩
  have HF := Lib.hid hf
  clear hf
  cases hg : fitsB y
  · have HG := Lib.hid hg
    clear hg
    go_enter Tryz.func5, Tryz.ntmps5
    go_upto_region 1 with fail
    rw [← HW.out]
    obtain ⟨xc0, xc1, xc2, xc3, xc4, xc5, xc6, xc7, xc8⟩ := (X).all
    go_wp2_with fail
    refine (fits1_any x _).mono ?_
    rintro e w1 ⟨rfl, hB1⟩
    rw [HF.out]
    have Y1 := Y.keep hB1
    obtain ⟨yc0, yc1, yc2, yc3, yc4, yc5, yc6, yc7, yc8⟩ := (Y1).all
    clear xc0 xc1 xc2 xc3 xc4 xc5 xc6 xc7 xc8
    go_wp2_with fail
    refine (fits1_any y _).mono ?_
    rintro e w2 ⟨rfl, hB2⟩
    rw [HG.out]
    go_wp2
    go_ret
    exact ⟨rfl, Below.then (Below.then hb0 (Nat.le_refl _) hB1) (Nat.le_refl _) hB2⟩
  have HG := Lib.hid hg
  clear hg
  go_enter Tryz.func5, Tryz.ntmps5
  go_upto_region 1 with fail
  rw [← HW.out]
  obtain ⟨xc0, xc1, xc2, xc3, xc4, xc5, xc6, xc7, xc8⟩ := (X).all
  go_wp2_with fail
  refine (fits1_any x _).mono ?_
  rintro e w1 ⟨rfl, hB1⟩
  rw [HF.out]
  have Y1 := Y.keep hB1
  obtain ⟨yc0, yc1, yc2, yc3, yc4, yc5, yc6, yc7, yc8⟩ := (Y1).all
  clear xc0 xc1 xc2 xc3 xc4 xc5 xc6 xc7 xc8
  go_wp2_with fail
  refine (fits1_any y _).mono ?_
  rintro e w2 ⟨rfl, hB2⟩
  rw [HG.out]
  clear yc0 yc1 yc2 yc3 yc4 yc5 yc6 yc7 yc8
  have hb2 := Below.then (Below.then hb0 (Nat.le_refl _) hB1) (Nat.le_refl _) hB2
  have X2 := (X.keep hB1).keep hB2
  have Y2 := Y1.keep hB2
  have HX2 := Lib.hid ((HX.out.keep hB1).keep hB2)
  have HY2 := Lib.hid ((HY.out.keep hB1).keep hB2)
  clear X Y Y1 HX HY hB1 hB2 hb0 HW
  go_upto_region 3 with fail
  obtain ⟨xc0, xc1, xc2, xc3, xc4, xc5, xc6, xc7, xc8⟩ := (X2).all
  obtain ⟨yc0, yc1, yc2, yc3, yc4, yc5, yc6, yc7, yc8⟩ := (Y2).all
  go_wp2_with fail
  refine (lawWholes_any x y 20 _ HX2.out HY2.out (by omega)).mono ?_
  rintro e w3 ⟨sA, aA, nA, cA, aB, nB, cB, sC, aC, nC, cC, aD, nD, cD, rfl, hR, hB3⟩
  clear xc0 xc1 xc2 xc3 xc4 xc5 xc6 xc7 xc8 yc0 yc1 yc2 yc3 yc4 yc5 yc6 yc7 yc8
  go_upto_region 4 with fail
  obtain ⟨W4, hW4⟩ : ∃ W4, W4 = (w3.alloc (.cells #[.bool sA, .slice aA nA cA, .slice aB nB cB] 31)).alloc (.cells #[.bool sC, .slice aC nC cC, .slice aD nD cD] 31) := ⟨_, rfl⟩
  rw [← hW4]
  have hB4 : Below w2.heap.size w2 W4 := by rw [hW4]; exact Below.alloc' (Below.alloc' hB3 _) _
  have A4 : RtBlk W4 w3.heap.size sA aA nA cA aB nB cB := by rw [hW4]; exact (RtBlk.new _ _ rfl _ _ _ _ _ _ _).keep ((Below.refl _ _).alloc (Nat.le_refl _) _)
  have C4 : RtBlk W4 (w3.heap.size + 1) sC aC nC cC aD nD cD := by rw [hW4]; exact RtBlk.new _ _ (by simp) _ _ _ _ _ _ _
  have R4 := Lib.hid (show (wholeB x 20 && wholeB y 20) = true → RtAt W4 sA aA nA cA aB nB cB (Rt.whole x.neg (val W64 x.wf x.wn)) (4 * 20 + 1) ∧ RtAt W4 sC aC nC cC aD nD cD (Rt.whole y.neg (val W64 y.wf y.wn)) (4 * 20 + 1) from fun hb => by
    rw [hW4]
    have hk : Below w3.heap.size w3 ((w3.alloc (.cells #[.bool sA, .slice aA nA cA, .slice aB nB cB] 31)).alloc (.cells #[.bool sC, .slice aC nC cC, .slice aD nD cD] 31)) := Below.alloc' (Below.alloc' (Below.refl _ _) _) _
    exact ⟨(hR hb).1.keep hk, (hR hb).2.keep hk⟩)
  clear hW4 hR hB3
  have hb4 := Below.then hb2 (Nat.le_refl _) hB4
  have X4 := X2.keep hB4
  have Y4 := Y2.keep hB4
  have HX4 := Lib.hid (HX2.out.keep hB4)
  have HY4 := Lib.hid (HY2.out.keep hB4)
  have HB4 := Lib.hid hb4
  clear X2 Y2 HX2 HY2 hb2 hB4 hb4
  obtain ⟨W5, hW5⟩ : ∃ W5, W5 = W4.alloc (.cells #[.bool false, .bool false, .bool false, .bool true, .bool false, .bool true, .bool true, .bool true, .bool false, .bool true, .bool true, .bool false, .bool false, .bool false, .bool true, .bool false] 42) := ⟨_, rfl⟩
  have hB5 : Below W4.heap.size W4 W5 := by rw [hW5]; exact Below.alloc' (Below.refl _ _) _
  have T5 : W5.cell? ⟨W4.heap.size, 0, none⟩ = some (.bool false) ∧ W5.cell? ⟨W4.heap.size, 1, none⟩ = some (.bool false) ∧ W5.cell? ⟨W4.heap.size, 2, none⟩ = some (.bool false) ∧ W5.cell? ⟨W4.heap.size, 3, none⟩ = some (.bool true) := by
    rw [hW5]
    exact ⟨alloc_new _ _ _ rfl rfl, alloc_new _ _ _ rfl rfl, alloc_new _ _ _ rfl rfl, alloc_new _ _ _ rfl rfl⟩
  have HW5 := Lib.hid hW5
  have X5 := X4.keep hB5
  have Y5 := Y4.keep hB5
  have A5 := A4.keep hB5
  have C5 := C4.keep hB5
  have HX5 := Lib.hid (HX4.out.keep hB5)
  have HY5 := Lib.hid (HY4.out.keep hB5)
  have HB5 := Lib.hid (Below.then HB4.out (Nat.le_refl _) hB5)
  have R5 := Lib.hid (fun hb => (show _ ∧ _ from ⟨(R4.out hb).1.keep hB5, (R4.out hb).2.keep hB5⟩))
  clear hW5 X4 Y4 A4 C4 HX4 HY4 HB4 R4 hB5
  go_upto_region 5 with fail
  rw [← HW5.out]
  clear HW5
  cases hb : (wholeB x 20 && wholeB y 20)
  · clear R5 X5 Y5 A5 C5 T5
    go_quiet (fail)
    go_wp2
    go_ret
    exact ⟨rfl, HB5.out.trans (below_of_drewN ⟨_, rfl⟩)⟩
  · have hw := hb
    unfold wholeB intB at hw
    simp only [Bool.and_eq_true, decide_eq_true_eq] at hw
    obtain ⟨⟨nX, ⟨⟨⟨kX, -⟩, -⟩, -⟩⟩, ⟨nY, ⟨⟨⟨kY, -⟩, -⟩, -⟩⟩⟩ := hw
    obtain ⟨rA, rC⟩ := R5.out hb
    have RA := Lib.hid rA
    have RC := Lib.hid rC
    have PA := Lib.hid (whole_pos rA.neg)
    have PC := Lib.hid (whole_pos rC.neg)
    have HBI := Lib.hid (show ∀ w', VlAt w' x → VlAt w' y → Calls Tryz.prog 21 #[.int .i64 6, .agg #[.int .i64 x.kind, .bool x.truth, .string x.text, .bool x.neg, .slice x.wa x.wn x.wc, .slice x.da x.dn x.dc, .bool x.ineg, .slice x.ia x.inn x.ic, .slice x.ea x.en x.ec], .agg #[.int .i64 y.kind, .bool y.truth, .string y.text, .bool y.neg, .slice y.wa y.wn y.wc, .slice y.da y.dn y.dc, .bool y.ineg, .slice y.ia y.inn y.ic, .slice y.ea y.en y.ec]] w' (GivesV (IsZ (jz andT (sg x.neg (val W64 x.wf x.wn)) (sg y.neg (val W64 y.wf y.wn))) 21) w') from
      fun w' e1 e2 => implJoin_any 0 (by omega) x y 20 w' e1 e2 kX kY nX nY (by omega))
    have HJO := Lib.hid (show ∀ w', RtAt w' sA aA nA cA aB nB cB (Rt.whole x.neg (val W64 x.wf x.wn)) 81 → RtAt w' sC aC nC cC aD nD cD (Rt.whole y.neg (val W64 y.wf y.wn)) 81 → Calls Tryz.prog 22 #[.agg #[.bool sA, .slice aA nA cA, .slice aB nB cB], .agg #[.bool sC, .slice aC nC cC, .slice aD nD cD], .agg #[.bool false, .bool false, .bool false, .bool true]] w' (GivesR (Rt.joined (Rt.whole x.neg (val W64 x.wf x.wn)) (Rt.whole y.neg (val W64 y.wf y.wn)) andT) 82 w') from
      fun w' e1 e2 => joined_any andT sA sC aA nA cA aB nB cB aC nC cC aD nD cD (Rt.whole x.neg (val W64 x.wf x.wn)) (Rt.whole y.neg (val W64 y.wf y.wn)) 81 w' e1 e2 PA.out PC.out (by omega))
    clear nX nY kX kY rA rC hb R5
    have hd0 : Below W5.heap.size W5 W5.drew := (Below.refl _ _).drew
    go_region_held3 (fun w' => (w'.cell? ⟨w.heap.size, 0, none⟩ = some (.int .i64 x.kind) ∧ w'.cell? ⟨w.heap.size, 1, none⟩ = some (.bool x.truth) ∧ w'.cell? ⟨w.heap.size, 2, none⟩ = some (.string x.text) ∧ w'.cell? ⟨w.heap.size, 3, none⟩ = some (.bool x.neg) ∧ w'.cell? ⟨w.heap.size, 4, none⟩ = some (.slice x.wa x.wn x.wc) ∧ w'.cell? ⟨w.heap.size, 5, none⟩ = some (.slice x.da x.dn x.dc) ∧ w'.cell? ⟨w.heap.size, 6, none⟩ = some (.bool x.ineg) ∧ w'.cell? ⟨w.heap.size, 7, none⟩ = some (.slice x.ia x.inn x.ic) ∧ w'.cell? ⟨w.heap.size, 8, none⟩ = some (.slice x.ea x.en x.ec)) ∧ (w'.cell? ⟨(w.heap.size + 1), 0, none⟩ = some (.int .i64 y.kind) ∧ w'.cell? ⟨(w.heap.size + 1), 1, none⟩ = some (.bool y.truth) ∧ w'.cell? ⟨(w.heap.size + 1), 2, none⟩ = some (.string y.text) ∧ w'.cell? ⟨(w.heap.size + 1), 3, none⟩ = some (.bool y.neg) ∧ w'.cell? ⟨(w.heap.size + 1), 4, none⟩ = some (.slice y.wa y.wn y.wc) ∧ w'.cell? ⟨(w.heap.size + 1), 5, none⟩ = some (.slice y.da y.dn y.dc) ∧ w'.cell? ⟨(w.heap.size + 1), 6, none⟩ = some (.bool y.ineg) ∧ w'.cell? ⟨(w.heap.size + 1), 7, none⟩ = some (.slice y.ia y.inn y.ic) ∧ w'.cell? ⟨(w.heap.size + 1), 8, none⟩ = some (.slice y.ea y.en y.ec)) ∧ (w'.cell? ⟨w3.heap.size, 0, none⟩ = some (.bool sA) ∧ w'.cell? ⟨w3.heap.size, 1, none⟩ = some (.slice aA nA cA) ∧ w'.cell? ⟨w3.heap.size, 2, none⟩ = some (.slice aB nB cB)) ∧ (w'.cell? ⟨(w3.heap.size + 1), 0, none⟩ = some (.bool sC) ∧ w'.cell? ⟨(w3.heap.size + 1), 1, none⟩ = some (.slice aC nC cC) ∧ w'.cell? ⟨(w3.heap.size + 1), 2, none⟩ = some (.slice aD nD cD)) ∧ (w'.cell? ⟨W4.heap.size, 0, none⟩ = some (.bool false) ∧ w'.cell? ⟨W4.heap.size, 1, none⟩ = some (.bool false) ∧ w'.cell? ⟨W4.heap.size, 2, none⟩ = some (.bool false) ∧ w'.cell? ⟨W4.heap.size, 3, none⟩ = some (.bool true)))
      (first | with_reducible exact ⟨X5.all, Y5.all, A5.all, C5.all, T5⟩ | with_reducible exact ⟨(X5.keep (by assumption)).all, (Y5.keep (by assumption)).all, (A5.keep (by assumption)).all, (C5.keep (by assumption)).all, cell_keep T5.1 (by assumption), cell_keep T5.2.1 (by assumption), cell_keep T5.2.2.1 (by assumption), cell_keep T5.2.2.2 (by assumption)⟩)
      (first | (go_at_call 21; (refine (HBI.out _ ?_ ?_).mono ?_); exact HX5.out.keep (by assumption); exact HY5.out.keep (by assumption); rintro e w5 ⟨r, rfl, hy, hP, hB5⟩; have hb5 := Below.then hd0 (Nat.le_refl _) hB5) | (go_at_call 22; (with_reducible refine (HJO.out _ ?_ ?_).mono ?_); exact RA.out.keep (by assumption); exact RC.out.keep (by assumption); rintro e w6 ⟨sM, aM, nM, cM, aN, nN, cN, rfl, hM, hB6⟩; have hb6 := Below.then hb5 (Nat.le_refl _) hB6) | (go_at_call 20; (with_reducible refine (isInt_any r sM aM nM cM aN nN cN (Rt.joined (Rt.whole x.neg (val W64 x.wf x.wn)) (Rt.whole y.neg (val W64 y.wf y.wn)) andT) 82 _ ?_ ?_ ?_ ?_).mono ?_); exact hy.keep hB6; exact hM; omega; exact Nat.le_trans hP.2.2.2 (by omega); rintro e w7 ⟨rfl, hB7⟩; have hb7 := Below.then hb6 (Nat.le_refl _) hB7; rw [isZ_same hP (by rw [whole_rz, whole_rz, joined_rz])]))
    go_wp2
    go_ret
    exact ⟨rfl, Below.then HB5.out (Nat.le_refl _) hb7⟩

set_option maxRecDepth 100000 in
set_option maxHeartbeats 4000000 in
theorem lawFnBits_1 (op : Nat) (hop : op < 256) (hj : op % 4 = 1) (x y : Vl) (w : World) (h1 : VlAt w x) (h2 : VlAt w y) :
    Calls Tryz.prog 5 #[.int .u8 op, .agg #[.int .i64 x.kind, .bool x.truth, .string x.text, .bool x.neg, .slice x.wa x.wn x.wc, .slice x.da x.dn x.dc, .bool x.ineg, .slice x.ia x.inn x.ic, .slice x.ea x.en x.ec], .agg #[.int .i64 y.kind, .bool y.truth, .string y.text, .bool y.neg, .slice y.wa y.wn y.wc, .slice y.da y.dn y.dc, .bool y.ineg, .slice y.ia y.inn y.ic, .slice y.ea y.en y.ec]] w fun e w' => e = .returned (.bool true) ∧ Below w.heap.size w w' := by
  have hop4 : (op : Int) % 4 = 1 := by omega
  have hopT : (op : Int).tmod 4 = 1 := by rw [Int.tmod_eq_emod_of_nonneg (by omega)]; exact hop4
  clear hj
  obtain ⟨W0, hW0⟩ : ∃ W0, W0 = (w.alloc (.cells #[.int .i64 x.kind, .bool x.truth, .string x.text, .bool x.neg, .slice x.wa x.wn x.wc, .slice x.da x.dn x.dc, .bool x.ineg, .slice x.ia x.inn x.ic, .slice x.ea x.en x.ec] 26)).alloc (.cells #[.int .i64 y.kind, .bool y.truth, .string y.text, .bool y.neg, .slice y.wa y.wn y.wc, .slice y.da y.dn y.dc, .bool y.ineg, .slice y.ia y.inn y.ic, .slice y.ea y.en y.ec] 26) := ⟨_, rfl⟩
  have HW := Lib.hid hW0
  have hb0 : Below w.heap.size w W0 := by rw [hW0]; exact Below.alloc' (Below.alloc' (Below.refl _ _) _) _
  have X : Box9 W0 w.heap.size x := by rw [hW0]; exact (Box9.new w x _ rfl).alloc _
  have Y : Box9 W0 (w.heap.size + 1) y := by rw [hW0]; exact Box9.new _ y _ (by simp)
  have HX := Lib.hid (h1.keep hb0)
  have HY := Lib.hid (h2.keep hb0)
  clear hW0 h1 h2
  cases hf : fitsB x
  · have HF := Lib.hid hf
    clear hf
    go_enter Tryz.func5, Tryz.ntmps5
    go_upto_region 1 with fail
    rw [← HW.out]
    obtain ⟨xc0, xc1, xc2, xc3, xc4, xc5, xc6, xc7, xc8⟩ := (X).all
    go_wp2_with fail
    refine (fits1_any x _).mono ?_
    rintro e w1 ⟨rfl, hB1⟩
    rw [HF.out]
    go_wp2
    go_ret
    exact ⟨rfl, Below.then hb0 (Nat.le_refl _) hB1⟩
  have HF := Lib.hid hf
  clear hf
  cases hg : fitsB y
  · have HG := Lib.hid hg
    clear hg
    go_enter Tryz.func5, Tryz.ntmps5
    go_upto_region 1 with fail
    rw [← HW.out]
    obtain ⟨xc0, xc1, xc2, xc3, xc4, xc5, xc6, xc7, xc8⟩ := (X).all
    go_wp2_with fail
    refine (fits1_any x _).mono ?_
    rintro e w1 ⟨rfl, hB1⟩
    rw [HF.out]
    have Y1 := Y.keep hB1
    obtain ⟨yc0, yc1, yc2, yc3, yc4, yc5, yc6, yc7, yc8⟩ := (Y1).all
    clear xc0 xc1 xc2 xc3 xc4 xc5 xc6 xc7 xc8
    go_wp2_with fail
    refine (fits1_any y _).mono ?_
    rintro e w2 ⟨rfl, hB2⟩
    rw [HG.out]
    go_wp2
    go_ret
    exact ⟨rfl, Below.then (Below.then hb0 (Nat.le_refl _) hB1) (Nat.le_refl _) hB2⟩
  have HG := Lib.hid hg
  clear hg
  go_enter Tryz.func5, Tryz.ntmps5
  go_upto_region 1 with fail
  rw [← HW.out]
  obtain ⟨xc0, xc1, xc2, xc3, xc4, xc5, xc6, xc7, xc8⟩ := (X).all
  go_wp2_with fail
  refine (fits1_any x _).mono ?_
  rintro e w1 ⟨rfl, hB1⟩
  rw [HF.out]
  have Y1 := Y.keep hB1
  obtain ⟨yc0, yc1, yc2, yc3, yc4, yc5, yc6, yc7, yc8⟩ := (Y1).all
  clear xc0 xc1 xc2 xc3 xc4 xc5 xc6 xc7 xc8
  go_wp2_with fail
  refine (fits1_any y _).mono ?_
  rintro e w2 ⟨rfl, hB2⟩
  rw [HG.out]
  clear yc0 yc1 yc2 yc3 yc4 yc5 yc6 yc7 yc8
  have hb2 := Below.then (Below.then hb0 (Nat.le_refl _) hB1) (Nat.le_refl _) hB2
  have X2 := (X.keep hB1).keep hB2
  have Y2 := Y1.keep hB2
  have HX2 := Lib.hid ((HX.out.keep hB1).keep hB2)
  have HY2 := Lib.hid ((HY.out.keep hB1).keep hB2)
  clear X Y Y1 HX HY hB1 hB2 hb0 HW
  go_upto_region 3 with fail
  obtain ⟨xc0, xc1, xc2, xc3, xc4, xc5, xc6, xc7, xc8⟩ := (X2).all
  obtain ⟨yc0, yc1, yc2, yc3, yc4, yc5, yc6, yc7, yc8⟩ := (Y2).all
  go_wp2_with fail
  refine (lawWholes_any x y 20 _ HX2.out HY2.out (by omega)).mono ?_
  rintro e w3 ⟨sA, aA, nA, cA, aB, nB, cB, sC, aC, nC, cC, aD, nD, cD, rfl, hR, hB3⟩
  clear xc0 xc1 xc2 xc3 xc4 xc5 xc6 xc7 xc8 yc0 yc1 yc2 yc3 yc4 yc5 yc6 yc7 yc8
  go_upto_region 4 with fail
  obtain ⟨W4, hW4⟩ : ∃ W4, W4 = (w3.alloc (.cells #[.bool sA, .slice aA nA cA, .slice aB nB cB] 31)).alloc (.cells #[.bool sC, .slice aC nC cC, .slice aD nD cD] 31) := ⟨_, rfl⟩
  rw [← hW4]
  have hB4 : Below w2.heap.size w2 W4 := by rw [hW4]; exact Below.alloc' (Below.alloc' hB3 _) _
  have A4 : RtBlk W4 w3.heap.size sA aA nA cA aB nB cB := by rw [hW4]; exact (RtBlk.new _ _ rfl _ _ _ _ _ _ _).keep ((Below.refl _ _).alloc (Nat.le_refl _) _)
  have C4 : RtBlk W4 (w3.heap.size + 1) sC aC nC cC aD nD cD := by rw [hW4]; exact RtBlk.new _ _ (by simp) _ _ _ _ _ _ _
  have R4 := Lib.hid (show (wholeB x 20 && wholeB y 20) = true → RtAt W4 sA aA nA cA aB nB cB (Rt.whole x.neg (val W64 x.wf x.wn)) (4 * 20 + 1) ∧ RtAt W4 sC aC nC cC aD nD cD (Rt.whole y.neg (val W64 y.wf y.wn)) (4 * 20 + 1) from fun hb => by
    rw [hW4]
    have hk : Below w3.heap.size w3 ((w3.alloc (.cells #[.bool sA, .slice aA nA cA, .slice aB nB cB] 31)).alloc (.cells #[.bool sC, .slice aC nC cC, .slice aD nD cD] 31)) := Below.alloc' (Below.alloc' (Below.refl _ _) _) _
    exact ⟨(hR hb).1.keep hk, (hR hb).2.keep hk⟩)
  clear hW4 hR hB3
  have hb4 := Below.then hb2 (Nat.le_refl _) hB4
  have X4 := X2.keep hB4
  have Y4 := Y2.keep hB4
  have HX4 := Lib.hid (HX2.out.keep hB4)
  have HY4 := Lib.hid (HY2.out.keep hB4)
  have HB4 := Lib.hid hb4
  clear X2 Y2 HX2 HY2 hb2 hB4 hb4
  obtain ⟨W5, hW5⟩ : ∃ W5, W5 = W4.alloc (.cells #[.bool false, .bool false, .bool false, .bool true, .bool false, .bool true, .bool true, .bool true, .bool false, .bool true, .bool true, .bool false, .bool false, .bool false, .bool true, .bool false] 42) := ⟨_, rfl⟩
  have hB5 : Below W4.heap.size W4 W5 := by rw [hW5]; exact Below.alloc' (Below.refl _ _) _
  have T5 : W5.cell? ⟨W4.heap.size, 4, none⟩ = some (.bool false) ∧ W5.cell? ⟨W4.heap.size, 5, none⟩ = some (.bool true) ∧ W5.cell? ⟨W4.heap.size, 6, none⟩ = some (.bool true) ∧ W5.cell? ⟨W4.heap.size, 7, none⟩ = some (.bool true) := by
    rw [hW5]
    exact ⟨alloc_new _ _ _ rfl rfl, alloc_new _ _ _ rfl rfl, alloc_new _ _ _ rfl rfl, alloc_new _ _ _ rfl rfl⟩
  have HW5 := Lib.hid hW5
  have X5 := X4.keep hB5
  have Y5 := Y4.keep hB5
  have A5 := A4.keep hB5
  have C5 := C4.keep hB5
  have HX5 := Lib.hid (HX4.out.keep hB5)
  have HY5 := Lib.hid (HY4.out.keep hB5)
  have HB5 := Lib.hid (Below.then HB4.out (Nat.le_refl _) hB5)
  have R5 := Lib.hid (fun hb => (show _ ∧ _ from ⟨(R4.out hb).1.keep hB5, (R4.out hb).2.keep hB5⟩))
  clear hW5 X4 Y4 A4 C4 HX4 HY4 HB4 R4 hB5
  go_upto_region 5 with fail
  rw [← HW5.out]
  clear HW5
  cases hb : (wholeB x 20 && wholeB y 20)
  · clear R5 X5 Y5 A5 C5 T5
    go_quiet (fail)
    go_wp2
    go_ret
    exact ⟨rfl, HB5.out.trans (below_of_drewN ⟨_, rfl⟩)⟩
  · have hw := hb
    unfold wholeB intB at hw
    simp only [Bool.and_eq_true, decide_eq_true_eq] at hw
    obtain ⟨⟨nX, ⟨⟨⟨kX, -⟩, -⟩, -⟩⟩, ⟨nY, ⟨⟨⟨kY, -⟩, -⟩, -⟩⟩⟩ := hw
    obtain ⟨rA, rC⟩ := R5.out hb
    have RA := Lib.hid rA
    have RC := Lib.hid rC
    have PA := Lib.hid (whole_pos rA.neg)
    have PC := Lib.hid (whole_pos rC.neg)
    have HBI := Lib.hid (show ∀ w', VlAt w' x → VlAt w' y → Calls Tryz.prog 21 #[.int .i64 7, .agg #[.int .i64 x.kind, .bool x.truth, .string x.text, .bool x.neg, .slice x.wa x.wn x.wc, .slice x.da x.dn x.dc, .bool x.ineg, .slice x.ia x.inn x.ic, .slice x.ea x.en x.ec], .agg #[.int .i64 y.kind, .bool y.truth, .string y.text, .bool y.neg, .slice y.wa y.wn y.wc, .slice y.da y.dn y.dc, .bool y.ineg, .slice y.ia y.inn y.ic, .slice y.ea y.en y.ec]] w' (GivesV (IsZ (jz orT (sg x.neg (val W64 x.wf x.wn)) (sg y.neg (val W64 y.wf y.wn))) 21) w') from
      fun w' e1 e2 => implJoin_any 1 (by omega) x y 20 w' e1 e2 kX kY nX nY (by omega))
    have HJO := Lib.hid (show ∀ w', RtAt w' sA aA nA cA aB nB cB (Rt.whole x.neg (val W64 x.wf x.wn)) 81 → RtAt w' sC aC nC cC aD nD cD (Rt.whole y.neg (val W64 y.wf y.wn)) 81 → Calls Tryz.prog 22 #[.agg #[.bool sA, .slice aA nA cA, .slice aB nB cB], .agg #[.bool sC, .slice aC nC cC, .slice aD nD cD], .agg #[.bool false, .bool true, .bool true, .bool true]] w' (GivesR (Rt.joined (Rt.whole x.neg (val W64 x.wf x.wn)) (Rt.whole y.neg (val W64 y.wf y.wn)) orT) 82 w') from
      fun w' e1 e2 => joined_any orT sA sC aA nA cA aB nB cB aC nC cC aD nD cD (Rt.whole x.neg (val W64 x.wf x.wn)) (Rt.whole y.neg (val W64 y.wf y.wn)) 81 w' e1 e2 PA.out PC.out (by omega))
    clear nX nY kX kY rA rC hb R5
    have hd0 : Below W5.heap.size W5 W5.drew := (Below.refl _ _).drew
    go_region_held3 (fun w' => (w'.cell? ⟨w.heap.size, 0, none⟩ = some (.int .i64 x.kind) ∧ w'.cell? ⟨w.heap.size, 1, none⟩ = some (.bool x.truth) ∧ w'.cell? ⟨w.heap.size, 2, none⟩ = some (.string x.text) ∧ w'.cell? ⟨w.heap.size, 3, none⟩ = some (.bool x.neg) ∧ w'.cell? ⟨w.heap.size, 4, none⟩ = some (.slice x.wa x.wn x.wc) ∧ w'.cell? ⟨w.heap.size, 5, none⟩ = some (.slice x.da x.dn x.dc) ∧ w'.cell? ⟨w.heap.size, 6, none⟩ = some (.bool x.ineg) ∧ w'.cell? ⟨w.heap.size, 7, none⟩ = some (.slice x.ia x.inn x.ic) ∧ w'.cell? ⟨w.heap.size, 8, none⟩ = some (.slice x.ea x.en x.ec)) ∧ (w'.cell? ⟨(w.heap.size + 1), 0, none⟩ = some (.int .i64 y.kind) ∧ w'.cell? ⟨(w.heap.size + 1), 1, none⟩ = some (.bool y.truth) ∧ w'.cell? ⟨(w.heap.size + 1), 2, none⟩ = some (.string y.text) ∧ w'.cell? ⟨(w.heap.size + 1), 3, none⟩ = some (.bool y.neg) ∧ w'.cell? ⟨(w.heap.size + 1), 4, none⟩ = some (.slice y.wa y.wn y.wc) ∧ w'.cell? ⟨(w.heap.size + 1), 5, none⟩ = some (.slice y.da y.dn y.dc) ∧ w'.cell? ⟨(w.heap.size + 1), 6, none⟩ = some (.bool y.ineg) ∧ w'.cell? ⟨(w.heap.size + 1), 7, none⟩ = some (.slice y.ia y.inn y.ic) ∧ w'.cell? ⟨(w.heap.size + 1), 8, none⟩ = some (.slice y.ea y.en y.ec)) ∧ (w'.cell? ⟨w3.heap.size, 0, none⟩ = some (.bool sA) ∧ w'.cell? ⟨w3.heap.size, 1, none⟩ = some (.slice aA nA cA) ∧ w'.cell? ⟨w3.heap.size, 2, none⟩ = some (.slice aB nB cB)) ∧ (w'.cell? ⟨(w3.heap.size + 1), 0, none⟩ = some (.bool sC) ∧ w'.cell? ⟨(w3.heap.size + 1), 1, none⟩ = some (.slice aC nC cC) ∧ w'.cell? ⟨(w3.heap.size + 1), 2, none⟩ = some (.slice aD nD cD)) ∧ (w'.cell? ⟨W4.heap.size, 4, none⟩ = some (.bool false) ∧ w'.cell? ⟨W4.heap.size, 5, none⟩ = some (.bool true) ∧ w'.cell? ⟨W4.heap.size, 6, none⟩ = some (.bool true) ∧ w'.cell? ⟨W4.heap.size, 7, none⟩ = some (.bool true)))
      (first | with_reducible exact ⟨X5.all, Y5.all, A5.all, C5.all, T5⟩ | with_reducible exact ⟨(X5.keep (by assumption)).all, (Y5.keep (by assumption)).all, (A5.keep (by assumption)).all, (C5.keep (by assumption)).all, cell_keep T5.1 (by assumption), cell_keep T5.2.1 (by assumption), cell_keep T5.2.2.1 (by assumption), cell_keep T5.2.2.2 (by assumption)⟩)
      (first | (go_at_call 21; (refine (HBI.out _ ?_ ?_).mono ?_); exact HX5.out.keep (by assumption); exact HY5.out.keep (by assumption); rintro e w5 ⟨r, rfl, hy, hP, hB5⟩; have hb5 := Below.then hd0 (Nat.le_refl _) hB5) | (go_at_call 22; (with_reducible refine (HJO.out _ ?_ ?_).mono ?_); exact RA.out.keep (by assumption); exact RC.out.keep (by assumption); rintro e w6 ⟨sM, aM, nM, cM, aN, nN, cN, rfl, hM, hB6⟩; have hb6 := Below.then hb5 (Nat.le_refl _) hB6) | (go_at_call 20; (with_reducible refine (isInt_any r sM aM nM cM aN nN cN (Rt.joined (Rt.whole x.neg (val W64 x.wf x.wn)) (Rt.whole y.neg (val W64 y.wf y.wn)) orT) 82 _ ?_ ?_ ?_ ?_).mono ?_); exact hy.keep hB6; exact hM; omega; exact Nat.le_trans hP.2.2.2 (by omega); rintro e w7 ⟨rfl, hB7⟩; have hb7 := Below.then hb6 (Nat.le_refl _) hB7; rw [isZ_same hP (by rw [whole_rz, whole_rz, joined_rz])]))
    go_wp2
    go_ret
    exact ⟨rfl, Below.then HB5.out (Nat.le_refl _) hb7⟩

set_option maxRecDepth 100000 in
set_option maxHeartbeats 4000000 in
theorem lawFnBits_2 (op : Nat) (hop : op < 256) (hj : op % 4 = 2) (x y : Vl) (w : World) (h1 : VlAt w x) (h2 : VlAt w y) :
    Calls Tryz.prog 5 #[.int .u8 op, .agg #[.int .i64 x.kind, .bool x.truth, .string x.text, .bool x.neg, .slice x.wa x.wn x.wc, .slice x.da x.dn x.dc, .bool x.ineg, .slice x.ia x.inn x.ic, .slice x.ea x.en x.ec], .agg #[.int .i64 y.kind, .bool y.truth, .string y.text, .bool y.neg, .slice y.wa y.wn y.wc, .slice y.da y.dn y.dc, .bool y.ineg, .slice y.ia y.inn y.ic, .slice y.ea y.en y.ec]] w fun e w' => e = .returned (.bool true) ∧ Below w.heap.size w w' := by
  have hop4 : (op : Int) % 4 = 2 := by omega
  have hopT : (op : Int).tmod 4 = 2 := by rw [Int.tmod_eq_emod_of_nonneg (by omega)]; exact hop4
  clear hj
  obtain ⟨W0, hW0⟩ : ∃ W0, W0 = (w.alloc (.cells #[.int .i64 x.kind, .bool x.truth, .string x.text, .bool x.neg, .slice x.wa x.wn x.wc, .slice x.da x.dn x.dc, .bool x.ineg, .slice x.ia x.inn x.ic, .slice x.ea x.en x.ec] 26)).alloc (.cells #[.int .i64 y.kind, .bool y.truth, .string y.text, .bool y.neg, .slice y.wa y.wn y.wc, .slice y.da y.dn y.dc, .bool y.ineg, .slice y.ia y.inn y.ic, .slice y.ea y.en y.ec] 26) := ⟨_, rfl⟩
  have HW := Lib.hid hW0
  have hb0 : Below w.heap.size w W0 := by rw [hW0]; exact Below.alloc' (Below.alloc' (Below.refl _ _) _) _
  have X : Box9 W0 w.heap.size x := by rw [hW0]; exact (Box9.new w x _ rfl).alloc _
  have Y : Box9 W0 (w.heap.size + 1) y := by rw [hW0]; exact Box9.new _ y _ (by simp)
  have HX := Lib.hid (h1.keep hb0)
  have HY := Lib.hid (h2.keep hb0)
  clear hW0 h1 h2
  cases hf : fitsB x
  · have HF := Lib.hid hf
    clear hf
    go_enter Tryz.func5, Tryz.ntmps5
    go_upto_region 1 with fail
    rw [← HW.out]
    obtain ⟨xc0, xc1, xc2, xc3, xc4, xc5, xc6, xc7, xc8⟩ := (X).all
    go_wp2_with fail
    refine (fits1_any x _).mono ?_
    rintro e w1 ⟨rfl, hB1⟩
    rw [HF.out]
    go_wp2
    go_ret
    exact ⟨rfl, Below.then hb0 (Nat.le_refl _) hB1⟩
  have HF := Lib.hid hf
  clear hf
  cases hg : fitsB y
  · have HG := Lib.hid hg
    clear hg
    go_enter Tryz.func5, Tryz.ntmps5
    go_upto_region 1 with fail
    rw [← HW.out]
    obtain ⟨xc0, xc1, xc2, xc3, xc4, xc5, xc6, xc7, xc8⟩ := (X).all
    go_wp2_with fail
    refine (fits1_any x _).mono ?_
    rintro e w1 ⟨rfl, hB1⟩
    rw [HF.out]
    have Y1 := Y.keep hB1
    obtain ⟨yc0, yc1, yc2, yc3, yc4, yc5, yc6, yc7, yc8⟩ := (Y1).all
    clear xc0 xc1 xc2 xc3 xc4 xc5 xc6 xc7 xc8
    go_wp2_with fail
    refine (fits1_any y _).mono ?_
    rintro e w2 ⟨rfl, hB2⟩
    rw [HG.out]
    go_wp2
    go_ret
    exact ⟨rfl, Below.then (Below.then hb0 (Nat.le_refl _) hB1) (Nat.le_refl _) hB2⟩
  have HG := Lib.hid hg
  clear hg
  go_enter Tryz.func5, Tryz.ntmps5
  go_upto_region 1 with fail
  rw [← HW.out]
  obtain ⟨xc0, xc1, xc2, xc3, xc4, xc5, xc6, xc7, xc8⟩ := (X).all
  go_wp2_with fail
  refine (fits1_any x _).mono ?_
  rintro e w1 ⟨rfl, hB1⟩
  rw [HF.out]
  have Y1 := Y.keep hB1
  obtain ⟨yc0, yc1, yc2, yc3, yc4, yc5, yc6, yc7, yc8⟩ := (Y1).all
  clear xc0 xc1 xc2 xc3 xc4 xc5 xc6 xc7 xc8
  go_wp2_with fail
  refine (fits1_any y _).mono ?_
  rintro e w2 ⟨rfl, hB2⟩
  rw [HG.out]
  clear yc0 yc1 yc2 yc3 yc4 yc5 yc6 yc7 yc8
  have hb2 := Below.then (Below.then hb0 (Nat.le_refl _) hB1) (Nat.le_refl _) hB2
  have X2 := (X.keep hB1).keep hB2
  have Y2 := Y1.keep hB2
  have HX2 := Lib.hid ((HX.out.keep hB1).keep hB2)
  have HY2 := Lib.hid ((HY.out.keep hB1).keep hB2)
  clear X Y Y1 HX HY hB1 hB2 hb0 HW
  go_upto_region 3 with fail
  obtain ⟨xc0, xc1, xc2, xc3, xc4, xc5, xc6, xc7, xc8⟩ := (X2).all
  obtain ⟨yc0, yc1, yc2, yc3, yc4, yc5, yc6, yc7, yc8⟩ := (Y2).all
  go_wp2_with fail
  refine (lawWholes_any x y 20 _ HX2.out HY2.out (by omega)).mono ?_
  rintro e w3 ⟨sA, aA, nA, cA, aB, nB, cB, sC, aC, nC, cC, aD, nD, cD, rfl, hR, hB3⟩
  clear xc0 xc1 xc2 xc3 xc4 xc5 xc6 xc7 xc8 yc0 yc1 yc2 yc3 yc4 yc5 yc6 yc7 yc8
  go_upto_region 4 with fail
  obtain ⟨W4, hW4⟩ : ∃ W4, W4 = (w3.alloc (.cells #[.bool sA, .slice aA nA cA, .slice aB nB cB] 31)).alloc (.cells #[.bool sC, .slice aC nC cC, .slice aD nD cD] 31) := ⟨_, rfl⟩
  rw [← hW4]
  have hB4 : Below w2.heap.size w2 W4 := by rw [hW4]; exact Below.alloc' (Below.alloc' hB3 _) _
  have A4 : RtBlk W4 w3.heap.size sA aA nA cA aB nB cB := by rw [hW4]; exact (RtBlk.new _ _ rfl _ _ _ _ _ _ _).keep ((Below.refl _ _).alloc (Nat.le_refl _) _)
  have C4 : RtBlk W4 (w3.heap.size + 1) sC aC nC cC aD nD cD := by rw [hW4]; exact RtBlk.new _ _ (by simp) _ _ _ _ _ _ _
  have R4 := Lib.hid (show (wholeB x 20 && wholeB y 20) = true → RtAt W4 sA aA nA cA aB nB cB (Rt.whole x.neg (val W64 x.wf x.wn)) (4 * 20 + 1) ∧ RtAt W4 sC aC nC cC aD nD cD (Rt.whole y.neg (val W64 y.wf y.wn)) (4 * 20 + 1) from fun hb => by
    rw [hW4]
    have hk : Below w3.heap.size w3 ((w3.alloc (.cells #[.bool sA, .slice aA nA cA, .slice aB nB cB] 31)).alloc (.cells #[.bool sC, .slice aC nC cC, .slice aD nD cD] 31)) := Below.alloc' (Below.alloc' (Below.refl _ _) _) _
    exact ⟨(hR hb).1.keep hk, (hR hb).2.keep hk⟩)
  clear hW4 hR hB3
  have hb4 := Below.then hb2 (Nat.le_refl _) hB4
  have X4 := X2.keep hB4
  have Y4 := Y2.keep hB4
  have HX4 := Lib.hid (HX2.out.keep hB4)
  have HY4 := Lib.hid (HY2.out.keep hB4)
  have HB4 := Lib.hid hb4
  clear X2 Y2 HX2 HY2 hb2 hB4 hb4
  obtain ⟨W5, hW5⟩ : ∃ W5, W5 = W4.alloc (.cells #[.bool false, .bool false, .bool false, .bool true, .bool false, .bool true, .bool true, .bool true, .bool false, .bool true, .bool true, .bool false, .bool false, .bool false, .bool true, .bool false] 42) := ⟨_, rfl⟩
  have hB5 : Below W4.heap.size W4 W5 := by rw [hW5]; exact Below.alloc' (Below.refl _ _) _
  have T5 : W5.cell? ⟨W4.heap.size, 8, none⟩ = some (.bool false) ∧ W5.cell? ⟨W4.heap.size, 9, none⟩ = some (.bool true) ∧ W5.cell? ⟨W4.heap.size, 10, none⟩ = some (.bool true) ∧ W5.cell? ⟨W4.heap.size, 11, none⟩ = some (.bool false) := by
    rw [hW5]
    exact ⟨alloc_new _ _ _ rfl rfl, alloc_new _ _ _ rfl rfl, alloc_new _ _ _ rfl rfl, alloc_new _ _ _ rfl rfl⟩
  have HW5 := Lib.hid hW5
  have X5 := X4.keep hB5
  have Y5 := Y4.keep hB5
  have A5 := A4.keep hB5
  have C5 := C4.keep hB5
  have HX5 := Lib.hid (HX4.out.keep hB5)
  have HY5 := Lib.hid (HY4.out.keep hB5)
  have HB5 := Lib.hid (Below.then HB4.out (Nat.le_refl _) hB5)
  have R5 := Lib.hid (fun hb => (show _ ∧ _ from ⟨(R4.out hb).1.keep hB5, (R4.out hb).2.keep hB5⟩))
  clear hW5 X4 Y4 A4 C4 HX4 HY4 HB4 R4 hB5
  go_upto_region 5 with fail
  rw [← HW5.out]
  clear HW5
  cases hb : (wholeB x 20 && wholeB y 20)
  · clear R5 X5 Y5 A5 C5 T5
    go_quiet (fail)
    go_wp2
    go_ret
    exact ⟨rfl, HB5.out.trans (below_of_drewN ⟨_, rfl⟩)⟩
  · have hw := hb
    unfold wholeB intB at hw
    simp only [Bool.and_eq_true, decide_eq_true_eq] at hw
    obtain ⟨⟨nX, ⟨⟨⟨kX, -⟩, -⟩, -⟩⟩, ⟨nY, ⟨⟨⟨kY, -⟩, -⟩, -⟩⟩⟩ := hw
    obtain ⟨rA, rC⟩ := R5.out hb
    have RA := Lib.hid rA
    have RC := Lib.hid rC
    have PA := Lib.hid (whole_pos rA.neg)
    have PC := Lib.hid (whole_pos rC.neg)
    have HBI := Lib.hid (show ∀ w', VlAt w' x → VlAt w' y → Calls Tryz.prog 21 #[.int .i64 8, .agg #[.int .i64 x.kind, .bool x.truth, .string x.text, .bool x.neg, .slice x.wa x.wn x.wc, .slice x.da x.dn x.dc, .bool x.ineg, .slice x.ia x.inn x.ic, .slice x.ea x.en x.ec], .agg #[.int .i64 y.kind, .bool y.truth, .string y.text, .bool y.neg, .slice y.wa y.wn y.wc, .slice y.da y.dn y.dc, .bool y.ineg, .slice y.ia y.inn y.ic, .slice y.ea y.en y.ec]] w' (GivesV (IsZ (jz xorT (sg x.neg (val W64 x.wf x.wn)) (sg y.neg (val W64 y.wf y.wn))) 21) w') from
      fun w' e1 e2 => implJoin_any 2 (by omega) x y 20 w' e1 e2 kX kY nX nY (by omega))
    have HJO := Lib.hid (show ∀ w', RtAt w' sA aA nA cA aB nB cB (Rt.whole x.neg (val W64 x.wf x.wn)) 81 → RtAt w' sC aC nC cC aD nD cD (Rt.whole y.neg (val W64 y.wf y.wn)) 81 → Calls Tryz.prog 22 #[.agg #[.bool sA, .slice aA nA cA, .slice aB nB cB], .agg #[.bool sC, .slice aC nC cC, .slice aD nD cD], .agg #[.bool false, .bool true, .bool true, .bool false]] w' (GivesR (Rt.joined (Rt.whole x.neg (val W64 x.wf x.wn)) (Rt.whole y.neg (val W64 y.wf y.wn)) xorT) 82 w') from
      fun w' e1 e2 => joined_any xorT sA sC aA nA cA aB nB cB aC nC cC aD nD cD (Rt.whole x.neg (val W64 x.wf x.wn)) (Rt.whole y.neg (val W64 y.wf y.wn)) 81 w' e1 e2 PA.out PC.out (by omega))
    clear nX nY kX kY rA rC hb R5
    have hd0 : Below W5.heap.size W5 W5.drew := (Below.refl _ _).drew
    go_region_held3 (fun w' => (w'.cell? ⟨w.heap.size, 0, none⟩ = some (.int .i64 x.kind) ∧ w'.cell? ⟨w.heap.size, 1, none⟩ = some (.bool x.truth) ∧ w'.cell? ⟨w.heap.size, 2, none⟩ = some (.string x.text) ∧ w'.cell? ⟨w.heap.size, 3, none⟩ = some (.bool x.neg) ∧ w'.cell? ⟨w.heap.size, 4, none⟩ = some (.slice x.wa x.wn x.wc) ∧ w'.cell? ⟨w.heap.size, 5, none⟩ = some (.slice x.da x.dn x.dc) ∧ w'.cell? ⟨w.heap.size, 6, none⟩ = some (.bool x.ineg) ∧ w'.cell? ⟨w.heap.size, 7, none⟩ = some (.slice x.ia x.inn x.ic) ∧ w'.cell? ⟨w.heap.size, 8, none⟩ = some (.slice x.ea x.en x.ec)) ∧ (w'.cell? ⟨(w.heap.size + 1), 0, none⟩ = some (.int .i64 y.kind) ∧ w'.cell? ⟨(w.heap.size + 1), 1, none⟩ = some (.bool y.truth) ∧ w'.cell? ⟨(w.heap.size + 1), 2, none⟩ = some (.string y.text) ∧ w'.cell? ⟨(w.heap.size + 1), 3, none⟩ = some (.bool y.neg) ∧ w'.cell? ⟨(w.heap.size + 1), 4, none⟩ = some (.slice y.wa y.wn y.wc) ∧ w'.cell? ⟨(w.heap.size + 1), 5, none⟩ = some (.slice y.da y.dn y.dc) ∧ w'.cell? ⟨(w.heap.size + 1), 6, none⟩ = some (.bool y.ineg) ∧ w'.cell? ⟨(w.heap.size + 1), 7, none⟩ = some (.slice y.ia y.inn y.ic) ∧ w'.cell? ⟨(w.heap.size + 1), 8, none⟩ = some (.slice y.ea y.en y.ec)) ∧ (w'.cell? ⟨w3.heap.size, 0, none⟩ = some (.bool sA) ∧ w'.cell? ⟨w3.heap.size, 1, none⟩ = some (.slice aA nA cA) ∧ w'.cell? ⟨w3.heap.size, 2, none⟩ = some (.slice aB nB cB)) ∧ (w'.cell? ⟨(w3.heap.size + 1), 0, none⟩ = some (.bool sC) ∧ w'.cell? ⟨(w3.heap.size + 1), 1, none⟩ = some (.slice aC nC cC) ∧ w'.cell? ⟨(w3.heap.size + 1), 2, none⟩ = some (.slice aD nD cD)) ∧ (w'.cell? ⟨W4.heap.size, 8, none⟩ = some (.bool false) ∧ w'.cell? ⟨W4.heap.size, 9, none⟩ = some (.bool true) ∧ w'.cell? ⟨W4.heap.size, 10, none⟩ = some (.bool true) ∧ w'.cell? ⟨W4.heap.size, 11, none⟩ = some (.bool false)))
      (first | with_reducible exact ⟨X5.all, Y5.all, A5.all, C5.all, T5⟩ | with_reducible exact ⟨(X5.keep (by assumption)).all, (Y5.keep (by assumption)).all, (A5.keep (by assumption)).all, (C5.keep (by assumption)).all, cell_keep T5.1 (by assumption), cell_keep T5.2.1 (by assumption), cell_keep T5.2.2.1 (by assumption), cell_keep T5.2.2.2 (by assumption)⟩)
      (first | (go_at_call 21; (refine (HBI.out _ ?_ ?_).mono ?_); exact HX5.out.keep (by assumption); exact HY5.out.keep (by assumption); rintro e w5 ⟨r, rfl, hy, hP, hB5⟩; have hb5 := Below.then hd0 (Nat.le_refl _) hB5) | (go_at_call 22; (with_reducible refine (HJO.out _ ?_ ?_).mono ?_); exact RA.out.keep (by assumption); exact RC.out.keep (by assumption); rintro e w6 ⟨sM, aM, nM, cM, aN, nN, cN, rfl, hM, hB6⟩; have hb6 := Below.then hb5 (Nat.le_refl _) hB6) | (go_at_call 20; (with_reducible refine (isInt_any r sM aM nM cM aN nN cN (Rt.joined (Rt.whole x.neg (val W64 x.wf x.wn)) (Rt.whole y.neg (val W64 y.wf y.wn)) xorT) 82 _ ?_ ?_ ?_ ?_).mono ?_); exact hy.keep hB6; exact hM; omega; exact Nat.le_trans hP.2.2.2 (by omega); rintro e w7 ⟨rfl, hB7⟩; have hb7 := Below.then hb6 (Nat.le_refl _) hB7; rw [isZ_same hP (by rw [whole_rz, whole_rz, joined_rz])]))
    go_wp2
    go_ret
    exact ⟨rfl, Below.then HB5.out (Nat.le_refl _) hb7⟩

set_option maxRecDepth 100000 in
set_option maxHeartbeats 4000000 in
theorem lawFnBits_3 (op : Nat) (hop : op < 256) (hj : op % 4 = 3) (x y : Vl) (w : World) (h1 : VlAt w x) (h2 : VlAt w y) :
    Calls Tryz.prog 5 #[.int .u8 op, .agg #[.int .i64 x.kind, .bool x.truth, .string x.text, .bool x.neg, .slice x.wa x.wn x.wc, .slice x.da x.dn x.dc, .bool x.ineg, .slice x.ia x.inn x.ic, .slice x.ea x.en x.ec], .agg #[.int .i64 y.kind, .bool y.truth, .string y.text, .bool y.neg, .slice y.wa y.wn y.wc, .slice y.da y.dn y.dc, .bool y.ineg, .slice y.ia y.inn y.ic, .slice y.ea y.en y.ec]] w fun e w' => e = .returned (.bool true) ∧ Below w.heap.size w w' := by
  have hop4 : (op : Int) % 4 = 3 := by omega
  have hopT : (op : Int).tmod 4 = 3 := by rw [Int.tmod_eq_emod_of_nonneg (by omega)]; exact hop4
  clear hj
  obtain ⟨W0, hW0⟩ : ∃ W0, W0 = (w.alloc (.cells #[.int .i64 x.kind, .bool x.truth, .string x.text, .bool x.neg, .slice x.wa x.wn x.wc, .slice x.da x.dn x.dc, .bool x.ineg, .slice x.ia x.inn x.ic, .slice x.ea x.en x.ec] 26)).alloc (.cells #[.int .i64 y.kind, .bool y.truth, .string y.text, .bool y.neg, .slice y.wa y.wn y.wc, .slice y.da y.dn y.dc, .bool y.ineg, .slice y.ia y.inn y.ic, .slice y.ea y.en y.ec] 26) := ⟨_, rfl⟩
  have HW := Lib.hid hW0
  have hb0 : Below w.heap.size w W0 := by rw [hW0]; exact Below.alloc' (Below.alloc' (Below.refl _ _) _) _
  have X : Box9 W0 w.heap.size x := by rw [hW0]; exact (Box9.new w x _ rfl).alloc _
  have Y : Box9 W0 (w.heap.size + 1) y := by rw [hW0]; exact Box9.new _ y _ (by simp)
  have HX := Lib.hid (h1.keep hb0)
  have HY := Lib.hid (h2.keep hb0)
  clear hW0 h1 h2
  cases hf : fitsB x
  · have HF := Lib.hid hf
    clear hf
    go_enter Tryz.func5, Tryz.ntmps5
    go_upto_region 1 with fail
    rw [← HW.out]
    obtain ⟨xc0, xc1, xc2, xc3, xc4, xc5, xc6, xc7, xc8⟩ := (X).all
    go_wp2_with fail
    refine (fits1_any x _).mono ?_
    rintro e w1 ⟨rfl, hB1⟩
    rw [HF.out]
    go_wp2
    go_ret
    exact ⟨rfl, Below.then hb0 (Nat.le_refl _) hB1⟩
  have HF := Lib.hid hf
  clear hf
  cases hg : fitsB y
  · have HG := Lib.hid hg
    clear hg
    go_enter Tryz.func5, Tryz.ntmps5
    go_upto_region 1 with fail
    rw [← HW.out]
    obtain ⟨xc0, xc1, xc2, xc3, xc4, xc5, xc6, xc7, xc8⟩ := (X).all
    go_wp2_with fail
    refine (fits1_any x _).mono ?_
    rintro e w1 ⟨rfl, hB1⟩
    rw [HF.out]
    have Y1 := Y.keep hB1
    obtain ⟨yc0, yc1, yc2, yc3, yc4, yc5, yc6, yc7, yc8⟩ := (Y1).all
    clear xc0 xc1 xc2 xc3 xc4 xc5 xc6 xc7 xc8
    go_wp2_with fail
    refine (fits1_any y _).mono ?_
    rintro e w2 ⟨rfl, hB2⟩
    rw [HG.out]
    go_wp2
    go_ret
    exact ⟨rfl, Below.then (Below.then hb0 (Nat.le_refl _) hB1) (Nat.le_refl _) hB2⟩
  have HG := Lib.hid hg
  clear hg
  go_enter Tryz.func5, Tryz.ntmps5
  go_upto_region 1 with fail
  rw [← HW.out]
  obtain ⟨xc0, xc1, xc2, xc3, xc4, xc5, xc6, xc7, xc8⟩ := (X).all
  go_wp2_with fail
  refine (fits1_any x _).mono ?_
  rintro e w1 ⟨rfl, hB1⟩
  rw [HF.out]
  have Y1 := Y.keep hB1
  obtain ⟨yc0, yc1, yc2, yc3, yc4, yc5, yc6, yc7, yc8⟩ := (Y1).all
  clear xc0 xc1 xc2 xc3 xc4 xc5 xc6 xc7 xc8
  go_wp2_with fail
  refine (fits1_any y _).mono ?_
  rintro e w2 ⟨rfl, hB2⟩
  rw [HG.out]
  clear yc0 yc1 yc2 yc3 yc4 yc5 yc6 yc7 yc8
  have hb2 := Below.then (Below.then hb0 (Nat.le_refl _) hB1) (Nat.le_refl _) hB2
  have X2 := (X.keep hB1).keep hB2
  have Y2 := Y1.keep hB2
  have HX2 := Lib.hid ((HX.out.keep hB1).keep hB2)
  have HY2 := Lib.hid ((HY.out.keep hB1).keep hB2)
  clear X Y Y1 HX HY hB1 hB2 hb0 HW
  go_upto_region 3 with fail
  obtain ⟨xc0, xc1, xc2, xc3, xc4, xc5, xc6, xc7, xc8⟩ := (X2).all
  obtain ⟨yc0, yc1, yc2, yc3, yc4, yc5, yc6, yc7, yc8⟩ := (Y2).all
  go_wp2_with fail
  refine (lawWholes_any x y 20 _ HX2.out HY2.out (by omega)).mono ?_
  rintro e w3 ⟨sA, aA, nA, cA, aB, nB, cB, sC, aC, nC, cC, aD, nD, cD, rfl, hR, hB3⟩
  clear xc0 xc1 xc2 xc3 xc4 xc5 xc6 xc7 xc8 yc0 yc1 yc2 yc3 yc4 yc5 yc6 yc7 yc8
  go_upto_region 4 with fail
  obtain ⟨W4, hW4⟩ : ∃ W4, W4 = (w3.alloc (.cells #[.bool sA, .slice aA nA cA, .slice aB nB cB] 31)).alloc (.cells #[.bool sC, .slice aC nC cC, .slice aD nD cD] 31) := ⟨_, rfl⟩
  rw [← hW4]
  have hB4 : Below w2.heap.size w2 W4 := by rw [hW4]; exact Below.alloc' (Below.alloc' hB3 _) _
  have A4 : RtBlk W4 w3.heap.size sA aA nA cA aB nB cB := by rw [hW4]; exact (RtBlk.new _ _ rfl _ _ _ _ _ _ _).keep ((Below.refl _ _).alloc (Nat.le_refl _) _)
  have C4 : RtBlk W4 (w3.heap.size + 1) sC aC nC cC aD nD cD := by rw [hW4]; exact RtBlk.new _ _ (by simp) _ _ _ _ _ _ _
  have R4 := Lib.hid (show (wholeB x 20 && wholeB y 20) = true → RtAt W4 sA aA nA cA aB nB cB (Rt.whole x.neg (val W64 x.wf x.wn)) (4 * 20 + 1) ∧ RtAt W4 sC aC nC cC aD nD cD (Rt.whole y.neg (val W64 y.wf y.wn)) (4 * 20 + 1) from fun hb => by
    rw [hW4]
    have hk : Below w3.heap.size w3 ((w3.alloc (.cells #[.bool sA, .slice aA nA cA, .slice aB nB cB] 31)).alloc (.cells #[.bool sC, .slice aC nC cC, .slice aD nD cD] 31)) := Below.alloc' (Below.alloc' (Below.refl _ _) _) _
    exact ⟨(hR hb).1.keep hk, (hR hb).2.keep hk⟩)
  clear hW4 hR hB3
  have hb4 := Below.then hb2 (Nat.le_refl _) hB4
  have X4 := X2.keep hB4
  have Y4 := Y2.keep hB4
  have HX4 := Lib.hid (HX2.out.keep hB4)
  have HY4 := Lib.hid (HY2.out.keep hB4)
  have HB4 := Lib.hid hb4
  clear X2 Y2 HX2 HY2 hb2 hB4 hb4
  obtain ⟨W5, hW5⟩ : ∃ W5, W5 = W4.alloc (.cells #[.bool false, .bool false, .bool false, .bool true, .bool false, .bool true, .bool true, .bool true, .bool false, .bool true, .bool true, .bool false, .bool false, .bool false, .bool true, .bool false] 42) := ⟨_, rfl⟩
  have hB5 : Below W4.heap.size W4 W5 := by rw [hW5]; exact Below.alloc' (Below.refl _ _) _
  have T5 : W5.cell? ⟨W4.heap.size, 12, none⟩ = some (.bool false) ∧ W5.cell? ⟨W4.heap.size, 13, none⟩ = some (.bool false) ∧ W5.cell? ⟨W4.heap.size, 14, none⟩ = some (.bool true) ∧ W5.cell? ⟨W4.heap.size, 15, none⟩ = some (.bool false) := by
    rw [hW5]
    exact ⟨alloc_new _ _ _ rfl rfl, alloc_new _ _ _ rfl rfl, alloc_new _ _ _ rfl rfl, alloc_new _ _ _ rfl rfl⟩
  have HW5 := Lib.hid hW5
  have X5 := X4.keep hB5
  have Y5 := Y4.keep hB5
  have A5 := A4.keep hB5
  have C5 := C4.keep hB5
  have HX5 := Lib.hid (HX4.out.keep hB5)
  have HY5 := Lib.hid (HY4.out.keep hB5)
  have HB5 := Lib.hid (Below.then HB4.out (Nat.le_refl _) hB5)
  have R5 := Lib.hid (fun hb => (show _ ∧ _ from ⟨(R4.out hb).1.keep hB5, (R4.out hb).2.keep hB5⟩))
  clear hW5 X4 Y4 A4 C4 HX4 HY4 HB4 R4 hB5
  go_upto_region 5 with fail
  rw [← HW5.out]
  clear HW5
  cases hb : (wholeB x 20 && wholeB y 20)
  · clear R5 X5 Y5 A5 C5 T5
    go_quiet (fail)
    go_wp2
    go_ret
    exact ⟨rfl, HB5.out.trans (below_of_drewN ⟨_, rfl⟩)⟩
  · have hw := hb
    unfold wholeB intB at hw
    simp only [Bool.and_eq_true, decide_eq_true_eq] at hw
    obtain ⟨⟨nX, ⟨⟨⟨kX, -⟩, -⟩, -⟩⟩, ⟨nY, ⟨⟨⟨kY, -⟩, -⟩, -⟩⟩⟩ := hw
    obtain ⟨rA, rC⟩ := R5.out hb
    have RA := Lib.hid rA
    have RC := Lib.hid rC
    have PA := Lib.hid (whole_pos rA.neg)
    have PC := Lib.hid (whole_pos rC.neg)
    have HBI := Lib.hid (show ∀ w', VlAt w' x → VlAt w' y → Calls Tryz.prog 21 #[.int .i64 9, .agg #[.int .i64 x.kind, .bool x.truth, .string x.text, .bool x.neg, .slice x.wa x.wn x.wc, .slice x.da x.dn x.dc, .bool x.ineg, .slice x.ia x.inn x.ic, .slice x.ea x.en x.ec], .agg #[.int .i64 y.kind, .bool y.truth, .string y.text, .bool y.neg, .slice y.wa y.wn y.wc, .slice y.da y.dn y.dc, .bool y.ineg, .slice y.ia y.inn y.ic, .slice y.ea y.en y.ec]] w' (GivesV (IsZ (jz andnT (sg x.neg (val W64 x.wf x.wn)) (sg y.neg (val W64 y.wf y.wn))) 21) w') from
      fun w' e1 e2 => implJoin_any 3 (by omega) x y 20 w' e1 e2 kX kY nX nY (by omega))
    have HJO := Lib.hid (show ∀ w', RtAt w' sA aA nA cA aB nB cB (Rt.whole x.neg (val W64 x.wf x.wn)) 81 → RtAt w' sC aC nC cC aD nD cD (Rt.whole y.neg (val W64 y.wf y.wn)) 81 → Calls Tryz.prog 22 #[.agg #[.bool sA, .slice aA nA cA, .slice aB nB cB], .agg #[.bool sC, .slice aC nC cC, .slice aD nD cD], .agg #[.bool false, .bool false, .bool true, .bool false]] w' (GivesR (Rt.joined (Rt.whole x.neg (val W64 x.wf x.wn)) (Rt.whole y.neg (val W64 y.wf y.wn)) andnT) 82 w') from
      fun w' e1 e2 => joined_any andnT sA sC aA nA cA aB nB cB aC nC cC aD nD cD (Rt.whole x.neg (val W64 x.wf x.wn)) (Rt.whole y.neg (val W64 y.wf y.wn)) 81 w' e1 e2 PA.out PC.out (by omega))
    clear nX nY kX kY rA rC hb R5
    have hd0 : Below W5.heap.size W5 W5.drew := (Below.refl _ _).drew
    go_region_held3 (fun w' => (w'.cell? ⟨w.heap.size, 0, none⟩ = some (.int .i64 x.kind) ∧ w'.cell? ⟨w.heap.size, 1, none⟩ = some (.bool x.truth) ∧ w'.cell? ⟨w.heap.size, 2, none⟩ = some (.string x.text) ∧ w'.cell? ⟨w.heap.size, 3, none⟩ = some (.bool x.neg) ∧ w'.cell? ⟨w.heap.size, 4, none⟩ = some (.slice x.wa x.wn x.wc) ∧ w'.cell? ⟨w.heap.size, 5, none⟩ = some (.slice x.da x.dn x.dc) ∧ w'.cell? ⟨w.heap.size, 6, none⟩ = some (.bool x.ineg) ∧ w'.cell? ⟨w.heap.size, 7, none⟩ = some (.slice x.ia x.inn x.ic) ∧ w'.cell? ⟨w.heap.size, 8, none⟩ = some (.slice x.ea x.en x.ec)) ∧ (w'.cell? ⟨(w.heap.size + 1), 0, none⟩ = some (.int .i64 y.kind) ∧ w'.cell? ⟨(w.heap.size + 1), 1, none⟩ = some (.bool y.truth) ∧ w'.cell? ⟨(w.heap.size + 1), 2, none⟩ = some (.string y.text) ∧ w'.cell? ⟨(w.heap.size + 1), 3, none⟩ = some (.bool y.neg) ∧ w'.cell? ⟨(w.heap.size + 1), 4, none⟩ = some (.slice y.wa y.wn y.wc) ∧ w'.cell? ⟨(w.heap.size + 1), 5, none⟩ = some (.slice y.da y.dn y.dc) ∧ w'.cell? ⟨(w.heap.size + 1), 6, none⟩ = some (.bool y.ineg) ∧ w'.cell? ⟨(w.heap.size + 1), 7, none⟩ = some (.slice y.ia y.inn y.ic) ∧ w'.cell? ⟨(w.heap.size + 1), 8, none⟩ = some (.slice y.ea y.en y.ec)) ∧ (w'.cell? ⟨w3.heap.size, 0, none⟩ = some (.bool sA) ∧ w'.cell? ⟨w3.heap.size, 1, none⟩ = some (.slice aA nA cA) ∧ w'.cell? ⟨w3.heap.size, 2, none⟩ = some (.slice aB nB cB)) ∧ (w'.cell? ⟨(w3.heap.size + 1), 0, none⟩ = some (.bool sC) ∧ w'.cell? ⟨(w3.heap.size + 1), 1, none⟩ = some (.slice aC nC cC) ∧ w'.cell? ⟨(w3.heap.size + 1), 2, none⟩ = some (.slice aD nD cD)) ∧ (w'.cell? ⟨W4.heap.size, 12, none⟩ = some (.bool false) ∧ w'.cell? ⟨W4.heap.size, 13, none⟩ = some (.bool false) ∧ w'.cell? ⟨W4.heap.size, 14, none⟩ = some (.bool true) ∧ w'.cell? ⟨W4.heap.size, 15, none⟩ = some (.bool false)))
      (first | with_reducible exact ⟨X5.all, Y5.all, A5.all, C5.all, T5⟩ | with_reducible exact ⟨(X5.keep (by assumption)).all, (Y5.keep (by assumption)).all, (A5.keep (by assumption)).all, (C5.keep (by assumption)).all, cell_keep T5.1 (by assumption), cell_keep T5.2.1 (by assumption), cell_keep T5.2.2.1 (by assumption), cell_keep T5.2.2.2 (by assumption)⟩)
      (first | (go_at_call 21; (refine (HBI.out _ ?_ ?_).mono ?_); exact HX5.out.keep (by assumption); exact HY5.out.keep (by assumption); rintro e w5 ⟨r, rfl, hy, hP, hB5⟩; have hb5 := Below.then hd0 (Nat.le_refl _) hB5) | (go_at_call 22; (with_reducible refine (HJO.out _ ?_ ?_).mono ?_); exact RA.out.keep (by assumption); exact RC.out.keep (by assumption); rintro e w6 ⟨sM, aM, nM, cM, aN, nN, cN, rfl, hM, hB6⟩; have hb6 := Below.then hb5 (Nat.le_refl _) hB6) | (go_at_call 20; (with_reducible refine (isInt_any r sM aM nM cM aN nN cN (Rt.joined (Rt.whole x.neg (val W64 x.wf x.wn)) (Rt.whole y.neg (val W64 y.wf y.wn)) andnT) 82 _ ?_ ?_ ?_ ?_).mono ?_); exact hy.keep hB6; exact hM; omega; exact Nat.le_trans hP.2.2.2 (by omega); rintro e w7 ⟨rfl, hB7⟩; have hb7 := Below.then hb6 (Nat.le_refl _) hB7; rw [isZ_same hP (by rw [whole_rz, whole_rz, joined_rz])]))
    go_wp2
    go_ret
    exact ⟨rfl, Below.then HB5.out (Nat.le_refl _) hb7⟩

theorem lawFnBits_any (op : Nat) (hop : op < 256) (x y : Vl) (w : World) (h1 : VlAt w x) (h2 : VlAt w y) :
    Calls Tryz.prog 5 #[.int .u8 op, .agg #[.int .i64 x.kind, .bool x.truth, .string x.text, .bool x.neg, .slice x.wa x.wn x.wc, .slice x.da x.dn x.dc, .bool x.ineg, .slice x.ia x.inn x.ic, .slice x.ea x.en x.ec], .agg #[.int .i64 y.kind, .bool y.truth, .string y.text, .bool y.neg, .slice y.wa y.wn y.wc, .slice y.da y.dn y.dc, .bool y.ineg, .slice y.ia y.inn y.ic, .slice y.ea y.en y.ec]] w fun e w' => e = .returned (.bool true) ∧ Below w.heap.size w w' := by
  rcases (by omega : op % 4 = 0 ∨ op % 4 = 1 ∨ op % 4 = 2 ∨ op % 4 = 3) with h | h | h | h
  · exact lawFnBits_0 op hop h x y w h1 h2
  · exact lawFnBits_1 op hop h x y w h1 h2
  · exact lawFnBits_2 op hop h x y w h1 h2
  · exact lawFnBits_3 op hop h x y w h1 h2
end Go.Proofs.YtpfjkaelbaoedaaGreatDoor
