/-
  FnOrder walked.
-/
import Derived.Test.YtgcpjlniamebgaaGreatDoorBuU
import Derived.Test.YtgcpjlniamebgaaGreatDoorBuW
import Derived.Test.YtgcpjlniamebgaaGreatDoorBuW
import Derived.Test.YtgcpjlniamebgaaGreatDoorBuW
import Derived.Test.YtgcpjlniamebgaaGreatDoorBuE
set_option linter.unusedSimpArgs false
set_option linter.unusedVariables false
namespace Go.Proofs.YtgcpjlniamebgaaGreatDoor
open Go.RowKit Go.Bg Dg

theorem cmpGt_any (x y : Vl) (w : World) (h1 : VlAt w x) (h2 : VlAt w y) (k1 : x.kind = 3) (k2 : y.kind = 3) (n1 : x.wn ≤ 1000000) (n2 : y.wn ≤ 1000000) :
    Calls Tryz.prog 22 #[.int .i64 4, .agg #[.int .i64 x.kind, .bool x.truth, .string x.text, .bool x.neg, .slice x.wa x.wn x.wc, .slice x.da x.dn x.dc, .bool x.ineg, .slice x.ia x.inn x.ic, .slice x.ea x.en x.ec], .agg #[.int .i64 y.kind, .bool y.truth, .string y.text, .bool y.neg, .slice y.wa y.wn y.wc, .slice y.da y.dn y.dc, .bool y.ineg, .slice y.ia y.inn y.ic, .slice y.ea y.en y.ec]] w fun e w' => e = .returned (.bool (cmpB 4 (cmpZ (sg x.neg (val W64 x.wf x.wn)) (sg y.neg (val W64 y.wf y.wn))))) ∧ Below w.heap.size w w' :=
  implCompareInt_any 4 (by omega) x y w h1 h2 k1 k2 n1 n2

set_option maxRecDepth 100000 in
set_option maxHeartbeats 4000000 in
theorem lawFnOrder_any (op : Nat) (hop : op < 256) (x y : Vl) (w : World) (h1 : VlAt w x) (h2 : VlAt w y) :
    Calls Tryz.prog 8 #[.int .u8 op, .agg #[.int .i64 x.kind, .bool x.truth, .string x.text, .bool x.neg, .slice x.wa x.wn x.wc, .slice x.da x.dn x.dc, .bool x.ineg, .slice x.ia x.inn x.ic, .slice x.ea x.en x.ec], .agg #[.int .i64 y.kind, .bool y.truth, .string y.text, .bool y.neg, .slice y.wa y.wn y.wc, .slice y.da y.dn y.dc, .bool y.ineg, .slice y.ia y.inn y.ic, .slice y.ea y.en y.ec]] w fun e w' => e = .returned (.bool true) ∧ Below w.heap.size w w' := by
  have HO := Lib.hid hop
  clear hop
  obtain ⟨W0, hW0⟩ : ∃ W0, W0 = (w.alloc (.cells #[.int .i64 x.kind, .bool x.truth, .string x.text, .bool x.neg, .slice x.wa x.wn x.wc, .slice x.da x.dn x.dc, .bool x.ineg, .slice x.ia x.inn x.ic, .slice x.ea x.en x.ec] 26)).alloc (.cells #[.int .i64 y.kind, .bool y.truth, .string y.text, .bool y.neg, .slice y.wa y.wn y.wc, .slice y.da y.dn y.dc, .bool y.ineg, .slice y.ia y.inn y.ic, .slice y.ea y.en y.ec] 26) := ⟨_, rfl⟩
  have HW := Lib.hid hW0
  have hb0 : Below w.heap.size w W0 := by rw [hW0]; exact Below.alloc' (Below.alloc' (Below.refl _ _) _) _
  have X : Box9 W0 w.heap.size x := by rw [hW0]; exact (Box9.new w x _ rfl).alloc _
  have Y : Box9 W0 (w.heap.size + 1) y := by rw [hW0]; exact Box9.new _ y _ (by simp)
  have HX := Lib.hid (h1.keep hb0)
  have HY := Lib.hid (h2.keep hb0)
  clear hW0 h1 h2
  cases hf : fitsB x
  · have HF := Lib.hid hf
    clear hf
    go_enter Tryz.func8, Tryz.ntmps8
    go_upto_region 1 with fail
    rw [← HW.out]
    obtain ⟨xc0, xc1, xc2, xc3, xc4, xc5, xc6, xc7, xc8⟩ := (X).all
    go_wp2_with fail
    refine (fits1_any x _).mono ?_
    rintro e w1 ⟨rfl, hB1⟩
    rw [HF.out]
    go_wp2
    go_ret
    exact ⟨rfl, Below.then hb0 (Nat.le_refl _) hB1⟩
  have HF := Lib.hid hf
  clear hf
  cases hg : fitsB y
  · have HG := Lib.hid hg
    clear hg
    go_enter Tryz.func8, Tryz.ntmps8
    go_upto_region 1 with fail
    rw [← HW.out]
    obtain ⟨xc0, xc1, xc2, xc3, xc4, xc5, xc6, xc7, xc8⟩ := (X).all
    go_wp2_with fail
    refine (fits1_any x _).mono ?_
    rintro e w1 ⟨rfl, hB1⟩
    rw [HF.out]
    have Y1 := Y.keep hB1
    obtain ⟨yc0, yc1, yc2, yc3, yc4, yc5, yc6, yc7, yc8⟩ := (Y1).all
    clear xc0 xc1 xc2 xc3 xc4 xc5 xc6 xc7 xc8
    go_wp2_with fail
    refine (fits1_any y _).mono ?_
    rintro e w2 ⟨rfl, hB2⟩
    rw [HG.out]
    go_wp2
    go_ret
    exact ⟨rfl, Below.then (Below.then hb0 (Nat.le_refl _) hB1) (Nat.le_refl _) hB2⟩
  have HG := Lib.hid hg
  clear hg
  go_enter Tryz.func8, Tryz.ntmps8
  go_upto_region 1 with fail
  rw [← HW.out]
  obtain ⟨xc0, xc1, xc2, xc3, xc4, xc5, xc6, xc7, xc8⟩ := (X).all
  go_wp2_with fail
  refine (fits1_any x _).mono ?_
  rintro e w1 ⟨rfl, hB1⟩
  rw [HF.out]
  have Y1 := Y.keep hB1
  obtain ⟨yc0, yc1, yc2, yc3, yc4, yc5, yc6, yc7, yc8⟩ := (Y1).all
  clear xc0 xc1 xc2 xc3 xc4 xc5 xc6 xc7 xc8
  go_wp2_with fail
  refine (fits1_any y _).mono ?_
  rintro e w2 ⟨rfl, hB2⟩
  rw [HG.out]
  clear yc0 yc1 yc2 yc3 yc4 yc5 yc6 yc7 yc8
  have hb2 := Below.then (Below.then hb0 (Nat.le_refl _) hB1) (Nat.le_refl _) hB2
  have X2 := (X.keep hB1).keep hB2
  have Y2 := Y1.keep hB2
  have HX2 := Lib.hid ((HX.out.keep hB1).keep hB2)
  have HY2 := Lib.hid ((HY.out.keep hB1).keep hB2)
  clear X Y Y1 HX HY hB1 hB2 hb0 HW
  go_upto_region 3 with fail
  obtain ⟨xc0, xc1, xc2, xc3, xc4, xc5, xc6, xc7, xc8⟩ := (X2).all
  obtain ⟨yc0, yc1, yc2, yc3, yc4, yc5, yc6, yc7, yc8⟩ := (Y2).all
  go_wp2_with fail
  refine (lawWholes_any x y 20 _ HX2.out HY2.out (by omega)).mono ?_
  rintro e w3 ⟨sA, aA, nA, cA, aB, nB, cB, sC, aC, nC, cC, aD, nD, cD, rfl, hR, hB3⟩
  clear xc0 xc1 xc2 xc3 xc4 xc5 xc6 xc7 xc8 yc0 yc1 yc2 yc3 yc4 yc5 yc6 yc7 yc8
  go_upto_region 4 with fail
  obtain ⟨W4, hW4⟩ : ∃ W4, W4 = (w3.alloc (.cells #[.bool sA, .slice aA nA cA, .slice aB nB cB] 31)).alloc (.cells #[.bool sC, .slice aC nC cC, .slice aD nD cD] 31) := ⟨_, rfl⟩
  rw [← hW4]
  have hB4 : Below w2.heap.size w2 W4 := by rw [hW4]; exact Below.alloc' (Below.alloc' hB3 _) _
  have A4 : RtBlk W4 w3.heap.size sA aA nA cA aB nB cB := by rw [hW4]; exact (RtBlk.new _ _ rfl _ _ _ _ _ _ _).keep ((Below.refl _ _).alloc (Nat.le_refl _) _)
  have C4 : RtBlk W4 (w3.heap.size + 1) sC aC nC cC aD nD cD := by rw [hW4]; exact RtBlk.new _ _ (by simp) _ _ _ _ _ _ _
  have R4 := Lib.hid (show (wholeB x 20 && wholeB y 20) = true → RtAt W4 sA aA nA cA aB nB cB (Rt.whole x.neg (val W64 x.wf x.wn)) (4 * 20 + 1) ∧ RtAt W4 sC aC nC cC aD nD cD (Rt.whole y.neg (val W64 y.wf y.wn)) (4 * 20 + 1) from fun hb => by
    rw [hW4]
    have hk : Below w3.heap.size w3 ((w3.alloc (.cells #[.bool sA, .slice aA nA cA, .slice aB nB cB] 31)).alloc (.cells #[.bool sC, .slice aC nC cC, .slice aD nD cD] 31)) := Below.alloc' (Below.alloc' (Below.refl _ _) _) _
    exact ⟨(hR hb).1.keep hk, (hR hb).2.keep hk⟩)
  clear hW4 hR hB3
  have hb4 := Below.then hb2 (Nat.le_refl _) hB4
  have X4 := X2.keep hB4
  have Y4 := Y2.keep hB4
  have HX4 := Lib.hid (HX2.out.keep hB4)
  have HY4 := Lib.hid (HY2.out.keep hB4)
  have HB4 := Lib.hid hb4
  clear X2 Y2 HX2 HY2 hb2 hB4 hb4
  have hop := HO.out
  go_upto_region 5 with fail
  have hop6 : (op : Int) % 6 = ((op % 6 : Nat) : Int) := by omega
  rw [hop6]
  have hk6 : op % 6 < 6 := Nat.mod_lt _ (by decide)
  clear hop6 hop HO
  generalize op % 6 = k at *
  have HK := Lib.hid hk6
  clear hk6
  -- the two numbers of one byte
  obtain ⟨W5, hW5⟩ : ∃ W5, W5 = W4.alloc (.cells #[.int .u8 2] 5) := ⟨_, rfl⟩
  have HF2 := Lib.hid (fromByte_any W4.heap.size 2 W5 (by omega) (by omega) (by rw [hW5]; exact alloc_new _ _ _ rfl rfl))
  have hB5 : Below W4.heap.size W4 W5 := by rw [hW5]; exact Below.alloc' (Below.refl _ _) _
  have HW5 := Lib.hid hW5
  clear hW5
  go_wp2_with fail
  rw [← HW5.out]
  refine HF2.out.mono ?_
  rintro e w6 ⟨p, rfl, hp, hP, hB6⟩
  obtain ⟨W7, hW7⟩ : ∃ W7, W7 = w6.alloc (.cells #[.int .u8 1] 5) := ⟨_, rfl⟩
  have HF1 := Lib.hid (fromByte_any w6.heap.size 1 W7 (by omega) (by omega) (by rw [hW7]; exact alloc_new _ _ _ rfl rfl))
  have hB7 : Below w6.heap.size w6 W7 := by rw [hW7]; exact Below.alloc' (Below.refl _ _) _
  have HW7 := Lib.hid hW7
  clear hW7
  go_wp2_with fail
  rw [← HW7.out]
  refine HF1.out.mono ?_
  rintro e w8 ⟨q, rfl, hq, hQ, hB8⟩
  have hp8 := (hp.keep hB7).keep hB8
  have hb8 := Below.then (Below.then (Below.then hB5 (Nat.le_refl _) hB6) (Nat.le_refl _) hB7) (Nat.le_refl _) hB8
  go_upto_region 6 with fail
  obtain ⟨W9, hW9⟩ : ∃ W9, W9 = (w8.alloc (.cells #[.int .i64 p.kind, .bool p.truth, .string p.text, .bool p.neg, .slice p.wa p.wn p.wc, .slice p.da p.dn p.dc, .bool p.ineg, .slice p.ia p.inn p.ic, .slice p.ea p.en p.ec] 26)).alloc (.cells #[.int .i64 q.kind, .bool q.truth, .string q.text, .bool q.neg, .slice q.wa q.wn q.wc, .slice q.da q.dn q.dc, .bool q.ineg, .slice q.ia q.inn q.ic, .slice q.ea q.en q.ec] 26) := ⟨_, rfl⟩
  rw [← hW9]
  have hB9 : Below w8.heap.size w8 W9 := by rw [hW9]; exact Below.alloc' (Below.alloc' (Below.refl _ _) _) _
  have hb9 := Below.then hb8 (Nat.le_refl _) hB9
  have P9 : Box9 W9 w8.heap.size p := by rw [hW9]; exact (Box9.new w8 p _ rfl).alloc _
  have Q9 : Box9 W9 (w8.heap.size + 1) q := by rw [hW9]; exact Box9.new _ q _ (by simp)
  have X9 := X4.keep hb9
  have Y9 := Y4.keep hb9
  have HX9 := Lib.hid (HX4.out.keep hb9)
  have HY9 := Lib.hid (HY4.out.keep hb9)
  have HP9 := Lib.hid (hp8.keep hB9)
  have HQ9 := Lib.hid (hq.keep hB9)
  have HB9 := Lib.hid (Below.then HB4.out (Nat.le_refl _) hb9)
  have PK := Lib.hid (isZ_kind hP)
  have QK := Lib.hid (isZ_kind hQ)
  have PN := Lib.hid hP.2.2.2
  have QN := Lib.hid hQ.2.2.2
  have HC := Lib.hid (show cmpB 4 (cmpZ (sg p.neg (val W64 p.wf p.wn)) (sg q.neg (val W64 q.wf q.wn))) = true from by rw [isZ_sg hP, isZ_sg hQ]; decide)
  clear hW9 hB9 hb9 hb8 hp8 hp hq hP hQ hB5 hB6 hB7 hB8 HF1 HF2 HW5 HW7 X4 Y4 A4 C4 HX4 HY4
  have hd0 : Below W9.heap.size W9 W9.drew := (Below.refl _ _).drew
  cases hb : (wholeB x 20 && wholeB y 20)
  · clear X9 Y9 P9 Q9 R4
    go_quiet (fail)
    go_wp2
    go_ret
    exact ⟨rfl, HB9.out.trans (below_of_drewN ⟨_, rfl⟩)⟩
  · have hw := hb
    unfold wholeB intB at hw
    simp only [Bool.and_eq_true, decide_eq_true_eq] at hw
    obtain ⟨⟨nX, ⟨⟨⟨kX, -⟩, -⟩, -⟩⟩, ⟨nY, ⟨⟨⟨kY, -⟩, -⟩, -⟩⟩⟩ := hw
    have KX := Lib.hid kX
    have KY := Lib.hid kY
    have NX := Lib.hid nX
    have NY := Lib.hid nY
    clear nX nY kX kY hb R4
    go_region_held3 (fun w' => (w'.cell? ⟨w.heap.size, 0, none⟩ = some (.int .i64 x.kind) ∧ w'.cell? ⟨w.heap.size, 1, none⟩ = some (.bool x.truth) ∧ w'.cell? ⟨w.heap.size, 2, none⟩ = some (.string x.text) ∧ w'.cell? ⟨w.heap.size, 3, none⟩ = some (.bool x.neg) ∧ w'.cell? ⟨w.heap.size, 4, none⟩ = some (.slice x.wa x.wn x.wc) ∧ w'.cell? ⟨w.heap.size, 5, none⟩ = some (.slice x.da x.dn x.dc) ∧ w'.cell? ⟨w.heap.size, 6, none⟩ = some (.bool x.ineg) ∧ w'.cell? ⟨w.heap.size, 7, none⟩ = some (.slice x.ia x.inn x.ic) ∧ w'.cell? ⟨w.heap.size, 8, none⟩ = some (.slice x.ea x.en x.ec)) ∧ (w'.cell? ⟨(w.heap.size + 1), 0, none⟩ = some (.int .i64 y.kind) ∧ w'.cell? ⟨(w.heap.size + 1), 1, none⟩ = some (.bool y.truth) ∧ w'.cell? ⟨(w.heap.size + 1), 2, none⟩ = some (.string y.text) ∧ w'.cell? ⟨(w.heap.size + 1), 3, none⟩ = some (.bool y.neg) ∧ w'.cell? ⟨(w.heap.size + 1), 4, none⟩ = some (.slice y.wa y.wn y.wc) ∧ w'.cell? ⟨(w.heap.size + 1), 5, none⟩ = some (.slice y.da y.dn y.dc) ∧ w'.cell? ⟨(w.heap.size + 1), 6, none⟩ = some (.bool y.ineg) ∧ w'.cell? ⟨(w.heap.size + 1), 7, none⟩ = some (.slice y.ia y.inn y.ic) ∧ w'.cell? ⟨(w.heap.size + 1), 8, none⟩ = some (.slice y.ea y.en y.ec)) ∧ (w'.cell? ⟨w8.heap.size, 0, none⟩ = some (.int .i64 p.kind) ∧ w'.cell? ⟨w8.heap.size, 1, none⟩ = some (.bool p.truth) ∧ w'.cell? ⟨w8.heap.size, 2, none⟩ = some (.string p.text) ∧ w'.cell? ⟨w8.heap.size, 3, none⟩ = some (.bool p.neg) ∧ w'.cell? ⟨w8.heap.size, 4, none⟩ = some (.slice p.wa p.wn p.wc) ∧ w'.cell? ⟨w8.heap.size, 5, none⟩ = some (.slice p.da p.dn p.dc) ∧ w'.cell? ⟨w8.heap.size, 6, none⟩ = some (.bool p.ineg) ∧ w'.cell? ⟨w8.heap.size, 7, none⟩ = some (.slice p.ia p.inn p.ic) ∧ w'.cell? ⟨w8.heap.size, 8, none⟩ = some (.slice p.ea p.en p.ec)) ∧ (w'.cell? ⟨(w8.heap.size + 1), 0, none⟩ = some (.int .i64 q.kind) ∧ w'.cell? ⟨(w8.heap.size + 1), 1, none⟩ = some (.bool q.truth) ∧ w'.cell? ⟨(w8.heap.size + 1), 2, none⟩ = some (.string q.text) ∧ w'.cell? ⟨(w8.heap.size + 1), 3, none⟩ = some (.bool q.neg) ∧ w'.cell? ⟨(w8.heap.size + 1), 4, none⟩ = some (.slice q.wa q.wn q.wc) ∧ w'.cell? ⟨(w8.heap.size + 1), 5, none⟩ = some (.slice q.da q.dn q.dc) ∧ w'.cell? ⟨(w8.heap.size + 1), 6, none⟩ = some (.bool q.ineg) ∧ w'.cell? ⟨(w8.heap.size + 1), 7, none⟩ = some (.slice q.ia q.inn q.ic) ∧ w'.cell? ⟨(w8.heap.size + 1), 8, none⟩ = some (.slice q.ea q.en q.ec)))
      (first | with_reducible exact ⟨X9.all, Y9.all, P9.all, Q9.all⟩ | with_reducible exact ⟨(X9.keep (by assumption)).all, (Y9.keep (by assumption)).all, (P9.keep (by assumption)).all, (Q9.keep (by assumption)).all⟩)
      (first | (go_at_call 22; (with_reducible refine (cmpGt_any p q _ ?_ ?_ PK.out QK.out ?_ ?_).mono ?_); exact HP9.out.keep (by assumption); exact HQ9.out.keep (by assumption); exact Nat.le_trans PN.out (by omega); exact Nat.le_trans QN.out (by omega); rintro e w10 ⟨rfl, hB10⟩; have hb10 := Below.then hd0 (Nat.le_refl _) hB10; rw [HC.out]) | (go_at_call 22; (with_reducible refine (implCompareInt_any k HK.out x y _ ?_ ?_ KX.out KY.out ?_ ?_).mono ?_); exact HX9.out.keep (by assumption); exact HY9.out.keep (by assumption); exact Nat.le_trans NX.out (by omega); exact Nat.le_trans NY.out (by omega); rintro e w11 ⟨rfl, hB11⟩; have hb11 := Below.then hb10 (Nat.le_refl _) hB11) | (go_at_call 14; (with_reducible refine (implDiff_any x y 20 _ ?_ ?_ KX.out KY.out NX.out NY.out (by omega)).mono ?_); exact HX9.out.keep (by assumption); exact HY9.out.keep (by assumption); rintro e w12 ⟨r, rfl, hr, hR, hB12⟩; have hb12 := Below.then hb11 (Nat.le_refl _) hB12; have RK := Lib.hid (isZ_kind hR); have RN := Lib.hid hR.2.2.2; have HS := Lib.hid (show cmpZ (sg r.neg (val W64 r.wf r.wn)) 0 = cmpZ (sg x.neg (val W64 x.wf x.wn)) (sg y.neg (val W64 y.wf y.wn)) from by rw [isZ_sg hR, cmpZ_sub])) | (go_at_call 24; (with_reducible refine (implSign_any r _ ?_ RK.out ?_).mono ?_); exact hr; exact Nat.le_trans RN.out (by omega); rintro e w13 ⟨rfl, hB13⟩; have hb13 := Below.then hb12 (Nat.le_refl _) hB13; rw [HS.out]) | (go_at_call 23; (with_reducible refine (order_any k (cmpZ (sg x.neg (val W64 x.wf x.wn)) (sg y.neg (val W64 y.wf y.wn))) _ HK.out ?_ ?_).mono ?_); exact (cmpZ_bd _ _).1; exact (cmpZ_bd _ _).2; rintro e w14 ⟨rfl, rfl⟩))
    go_wp2
    go_ret
    refine ⟨ret_bool ?_, Below.then HB9.out (Nat.le_refl _) hb13⟩
    simp [cmpB, ordB]
end Go.Proofs.YtgcpjlniamebgaaGreatDoor
