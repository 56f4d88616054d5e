/-
  FnMixedCompare walked.
-/
import Derived.Test.YtpfjkaelbaoedaaGreatDoorLFnFloatCompare
import Derived.Test.YtpfjkaelbaoedaaGreatDoorLFnToInt
import Derived.Test.YtpfjkaelbaoedaaGreatDoorBuE
set_option linter.unusedSimpArgs false
set_option linter.unusedVariables false
namespace Go.Proofs.YtpfjkaelbaoedaaGreatDoor
open Go.RowKit Go.Bg Dg

theorem cmpZ_neg (a b : Int) : cmpZ b a = -cmpZ a b := by unfold cmpZ; split <;> split <;> (try split) <;> omega
theorem cmpQ_neg (r q : Rt) : cmpQ q r = -cmpQ r q := by unfold cmpQ; exact cmpZ_neg _ _
theorem ordB_cmpB (k : Nat) (hk : k < 6) (c : Int) : cmpB k c = ordB k c := by simp [cmpB, ordB]

set_option maxRecDepth 100000 in
set_option maxHeartbeats 4000000 in
theorem lawFnMixedCompare_any (op : Nat) (hop : op < 256) (x y : Vl) (w : World) (hT : Thr w) (h1 : VlAt w x) (h2 : VlAt w y) :
    Calls Tryz.prog 4 #[.int .u8 op, .agg #[.int .i64 x.kind, .bool x.truth, .string x.text, .bool x.neg, .slice x.wa x.wn x.wc, .slice x.da x.dn x.dc, .bool x.ineg, .slice x.ia x.inn x.ic, .slice x.ea x.en x.ec], .agg #[.int .i64 y.kind, .bool y.truth, .string y.text, .bool y.neg, .slice y.wa y.wn y.wc, .slice y.da y.dn y.dc, .bool y.ineg, .slice y.ia y.inn y.ic, .slice y.ea y.en y.ec]] w fun e w' => e = .returned (.bool true) ∧ Below w.heap.size w w' := by
  have HO := Lib.hid hop
  have HT := Lib.hid hT
  clear hop hT
  obtain ⟨W0, hW0⟩ : ∃ W0, W0 = (w.alloc (.cells #[.int .i64 x.kind, .bool x.truth, .string x.text, .bool x.neg, .slice x.wa x.wn x.wc, .slice x.da x.dn x.dc, .bool x.ineg, .slice x.ia x.inn x.ic, .slice x.ea x.en x.ec] 26)).alloc (.cells #[.int .i64 y.kind, .bool y.truth, .string y.text, .bool y.neg, .slice y.wa y.wn y.wc, .slice y.da y.dn y.dc, .bool y.ineg, .slice y.ia y.inn y.ic, .slice y.ea y.en y.ec] 26) := ⟨_, rfl⟩
  have HW := Lib.hid hW0
  have hb0 : Below w.heap.size w W0 := by rw [hW0]; exact Below.alloc' (Below.alloc' (Below.refl _ _) _) _
  have X : Box9 W0 w.heap.size x := by rw [hW0]; exact (Box9.new w x _ rfl).alloc _
  have Y : Box9 W0 (w.heap.size + 1) y := by rw [hW0]; exact Box9.new _ y _ (by simp)
  have HX := Lib.hid (h1.keep hb0)
  have HY := Lib.hid (h2.keep hb0)
  clear hW0 h1 h2
  cases hf : fitsB x
  · have HF := Lib.hid hf
    clear hf
    go_enter Tryz.func4, Tryz.ntmps4
    go_upto_region 1 with fail
    rw [← HW.out]
    obtain ⟨xc0, xc1, xc2, xc3, xc4, xc5, xc6, xc7, xc8⟩ := (X).all
    go_wp2_with fail
    refine (fits1_any x _).mono ?_
    rintro e w1 ⟨rfl, hB1⟩
    rw [HF.out]
    go_wp2
    go_ret
    exact ⟨rfl, Below.then hb0 (Nat.le_refl _) hB1⟩
  have HF := Lib.hid hf
  clear hf
  cases hg : fitsB y
  · have HG := Lib.hid hg
    clear hg
    go_enter Tryz.func4, Tryz.ntmps4
    go_upto_region 1 with fail
    rw [← HW.out]
    obtain ⟨xc0, xc1, xc2, xc3, xc4, xc5, xc6, xc7, xc8⟩ := (X).all
    go_wp2_with fail
    refine (fits1_any x _).mono ?_
    rintro e w1 ⟨rfl, hB1⟩
    rw [HF.out]
    have Y1 := Y.keep hB1
    obtain ⟨yc0, yc1, yc2, yc3, yc4, yc5, yc6, yc7, yc8⟩ := (Y1).all
    clear xc0 xc1 xc2 xc3 xc4 xc5 xc6 xc7 xc8
    go_wp2_with fail
    refine (fits1_any y _).mono ?_
    rintro e w2 ⟨rfl, hB2⟩
    rw [HG.out]
    go_wp2
    go_ret
    exact ⟨rfl, Below.then (Below.then hb0 (Nat.le_refl _) hB1) (Nat.le_refl _) hB2⟩
  have HG := Lib.hid hg
  clear hg
  go_enter Tryz.func4, Tryz.ntmps4
  go_upto_region 1 with fail
  rw [← HW.out]
  obtain ⟨xc0, xc1, xc2, xc3, xc4, xc5, xc6, xc7, xc8⟩ := (X).all
  go_wp2_with fail
  refine (fits1_any x _).mono ?_
  rintro e w1 ⟨rfl, hB1⟩
  rw [HF.out]
  have Y1 := Y.keep hB1
  obtain ⟨yc0, yc1, yc2, yc3, yc4, yc5, yc6, yc7, yc8⟩ := (Y1).all
  clear xc0 xc1 xc2 xc3 xc4 xc5 xc6 xc7 xc8
  go_wp2_with fail
  refine (fits1_any y _).mono ?_
  rintro e w2 ⟨rfl, hB2⟩
  rw [HG.out]
  clear yc0 yc1 yc2 yc3 yc4 yc5 yc6 yc7 yc8
  have hb2 := Below.then (Below.then hb0 (Nat.le_refl _) hB1) (Nat.le_refl _) hB2
  have X2 := (X.keep hB1).keep hB2
  have Y2 := Y1.keep hB2
  have HX2 := Lib.hid ((HX.out.keep hB1).keep hB2)
  have HY2 := Lib.hid ((HY.out.keep hB1).keep hB2)
  clear X Y Y1 HX HY hB1 hB2 hb0 HW
  go_upto_region 3 with fail
  obtain ⟨xc0, xc1, xc2, xc3, xc4, xc5, xc6, xc7, xc8⟩ := (X2).all
  go_wp2_with fail
  refine (lawWhole_any x 10 _ HX2.out (by omega)).mono ?_
  rintro e w3 ⟨sA, aA, nA, cA, aB, nB, cB, rfl, hR, hB3⟩
  clear xc0 xc1 xc2 xc3 xc4 xc5 xc6 xc7 xc8
  go_upto_region 4 with fail
  obtain ⟨W3, hW3⟩ : ∃ W3, W3 = w3.alloc (.cells #[.bool sA, .slice aA nA cA, .slice aB nB cB] 31) := ⟨_, rfl⟩
  rw [← hW3]
  have hB3' : Below w2.heap.size w2 W3 := by rw [hW3]; exact Below.alloc' hB3 _
  have A3 : RtBlk W3 w3.heap.size sA aA nA cA aB nB cB := by rw [hW3]; exact RtBlk.new _ _ rfl _ _ _ _ _ _ _
  have R3 := Lib.hid (show wholeB x 10 = true → RtAt W3 sA aA nA cA aB nB cB (Rt.whole x.neg (val W64 x.wf x.wn)) (4 * 10 + 1) from fun hb => by
    rw [hW3]
    have := (wholeB_parts hb).2
    exact ((hR hb).keep ((Below.refl _ _).alloc (Nat.le_refl _) _)).mono (by omega))
  clear hW3 hR hB3
  have hb3 := Below.then hb2 (Nat.le_refl _) hB3'
  have X3 := X2.keep hB3'
  have Y3 := Y2.keep hB3'
  have HX3 := Lib.hid (HX2.out.keep hB3')
  have HY3 := Lib.hid (HY2.out.keep hB3')
  clear X2 Y2 HX2 HY2 hb2 hB3'
  obtain ⟨yc0, yc1, yc2, yc3, yc4, yc5, yc6, yc7, yc8⟩ := (Y3).all
  go_wp2_with fail
  refine (lawRational_any y 10 _ HY3.out (by omega)).mono ?_
  rintro e w4 ⟨sC, aC, nC, cC, aD, nD, cD, rfl, hR, hB4⟩
  clear yc0 yc1 yc2 yc3 yc4 yc5 yc6 yc7 yc8
  go_upto_region 5 with fail
  obtain ⟨W4, hW4⟩ : ∃ W4, W4 = w4.alloc (.cells #[.bool sC, .slice aC nC cC, .slice aD nD cD] 31) := ⟨_, rfl⟩
  rw [← hW4]
  have hB4' : Below W3.heap.size W3 W4 := by rw [hW4]; exact Below.alloc' hB4 _
  have C4 : RtBlk W4 w4.heap.size sC aC nC cC aD nD cD := by rw [hW4]; exact RtBlk.new _ _ rfl _ _ _ _ _ _ _
  have R4 := Lib.hid (show lratB y 10 = true → RtAt W4 sC aC nC cC aD nD cD (vrt y) (4 * 10 + 1) from fun hb => by
    rw [hW4]
    exact ((hR hb).keep ((Below.refl _ _).alloc (Nat.le_refl _) _)).mono (by omega))
  have R3' := Lib.hid (fun hb => (R3.out hb).keep hB4')
  clear hW4 hR hB4
  have hb4 := Below.then hb3 (Nat.le_refl _) hB4'
  have A4 := A3.keep hB4'
  have X4 := X3.keep hB4'
  have Y4 := Y3.keep hB4'
  have HX4 := Lib.hid (HX3.out.keep hB4')
  have HY4 := Lib.hid (HY3.out.keep hB4')
  have HB4 := Lib.hid hb4
  clear X3 Y3 A3 R3 HX3 HY3 hb3 hB4' hb4
  have hop := HO.out
  go_upto_region 6 with fail
  have hop6 : (op : Int) % 6 = ((op % 6 : Nat) : Int) := by omega
  rw [hop6]
  have hk6 : op % 6 < 6 := Nat.mod_lt _ (by decide)
  clear hop6 hop HO
  generalize op % 6 = k at *
  cases hb : wholeB x 10
  · clear R4 R3' X4 Y4 A4 C4
    go_wp2
    go_ret
    exact ⟨rfl, HB4.out⟩
  cases hc : lratB y 10
  · clear R4 R3' X4 Y4 A4 C4
    go_wp2
    go_ret
    exact ⟨rfl, HB4.out⟩
  have NX := Lib.hid (numV_whole hb (by omega))
  have NY := Lib.hid (numV_rat hc (by omega))
  have LX := Lib.hid (show (Rt.whole x.neg (val W64 x.wf x.wn)).num < W64 ^ 10 ∧ (Rt.whole x.neg (val W64 x.wf x.wn)).den < W64 ^ 10 from
    ⟨Nat.lt_of_lt_of_le (val_lt HX4.out.ws.lt) (Nat.pow_le_pow_right W64_pos (wholeB_parts hb).2), Nat.lt_of_lt_of_le W64_gt (by rw [show (10 : Nat) = 9 + 1 from rfl, Nat.pow_succ]; exact Nat.le_mul_of_pos_left _ (Nat.pow_pos W64_pos))⟩)
  have LY := Lib.hid (lrat_lt HY4.out hc)
  have RA := Lib.hid (R3'.out hb)
  have RC := Lib.hid (R4.out hc)
  have HS := Lib.hid (signOf_minus (x := Rt.whole x.neg (val W64 x.wf x.wn)) (y := vrt y) NX.out.ok.den)
  have HK := Lib.hid hk6
  have HT4 := Lib.hid (HT.out.keep HB4.out)
  clear hb hc R4 R3' hk6
  generalize Rt.whole x.neg (val W64 x.wf x.wn) = rx at *
  obtain ⟨a0, a1, a2⟩ := A4.all
  obtain ⟨d0, d1, d2⟩ := C4.all
  go_upto_region 8 with fail
  go_wp2_with fail
  refine (minus_any sA sC aA nA cA aB nB cB aC nC cC aD nD cD rx (vrt y) 41 _ RA.out RC.out NX.out.ok.den NY.out.ok.den (by omega)).mono ?_
  rintro e w6 ⟨sM, aM, nM, cM, aN, nN, cN, rfl, hM, hB6⟩
  go_wp2_with fail
  refine (signOf_any sM aM nM cM aN nN cN 83 (Rt.minus rx (vrt y)) _ hM (by omega)).mono ?_
  rintro e w7 ⟨rfl, hB7⟩
  have hb7 := Below.then hB6 (Nat.le_refl _) hB7
  have X7 := X4.keep hb7
  have Y7 := Y4.keep hb7
  have HX7 := Lib.hid (HX4.out.keep hb7)
  have HY7 := Lib.hid (HY4.out.keep hb7)
  have HT7 := Lib.hid (HT4.out.keep hb7)
  have HB7 := Lib.hid (Below.then HB4.out (Nat.le_refl _) hb7)
  have hc1 := (signOf_bd (Rt.minus rx (vrt y))).1
  have hc2 := (signOf_bd (Rt.minus rx (vrt y))).2
  have HS2 := Lib.hid (cmpQ_neg rx (vrt y))
  rw [← HS.out] at HS2
  clear a0 a1 a2 d0 d1 d2 X4 Y4 HX4 HY4 HT4 HB4 hb7 hB6 hB7 A4 C4 RA RC hM
  generalize Rt.signOf (Rt.minus rx (vrt y)) = c at *
  have E1 := Lib.hid (show cmpB k (cmpQ rx (vrt y)) = ordB k c from by rw [← HS.out]; exact ordB_cmpB k HK.out c)
  have E2 := Lib.hid (show cmpB k (cmpQ (vrt y) rx) = ordB k (-c) from by rw [HS2.out]; exact ordB_cmpB k HK.out (-c))
  clear HS HS2
  go_upto_region 9 with fail
  obtain ⟨xc0, xc1, xc2, xc3, xc4, xc5, xc6, xc7, xc8⟩ := (X7).all
  obtain ⟨yc0, yc1, yc2, yc3, yc4, yc5, yc6, yc7, yc8⟩ := (Y7).all
  go_wp2_with fail
  refine (implCompareNum_any k HK.out x y rx (vrt y) _ HT7.out HX7.out HY7.out NX.out NY.out 10 (by omega) (by omega) LX.out LY.out).mono ?_
  rintro e w8 ⟨rfl, hB8⟩
  rw [E1.out]
  have X8 := X7.keep hB8
  have Y8 := Y7.keep hB8
  have HX8 := Lib.hid (HX7.out.keep hB8)
  have HY8 := Lib.hid (HY7.out.keep hB8)
  have HT8 := Lib.hid (HT7.out.keep hB8)
  have HB8 := Lib.hid (Below.then HB7.out (Nat.le_refl _) hB8)
  clear xc0 xc1 xc2 xc3 xc4 xc5 xc6 xc7 xc8 yc0 yc1 yc2 yc3 yc4 yc5 yc6 yc7 yc8 X7 Y7 HX7 HY7 HT7 hB8
  obtain ⟨xc0, xc1, xc2, xc3, xc4, xc5, xc6, xc7, xc8⟩ := (X8).all
  obtain ⟨yc0, yc1, yc2, yc3, yc4, yc5, yc6, yc7, yc8⟩ := (Y8).all
  go_wp2_with fail
  refine (order_any k c _ HK.out hc1 hc2).mono ?_
  rintro e w9 ⟨rfl, rfl⟩
  have hneg : wrap64 (-c) = -c := by unfold wrap64; omega
  go_wp2_with fail
  refine (implCompareNum_any k HK.out y x (vrt y) rx _ HT8.out HY8.out HX8.out NY.out NX.out 10 (by omega) (by omega) LY.out LX.out).mono ?_
  rintro e w10 ⟨rfl, hB10⟩
  rw [E2.out]
  have HB10 := Lib.hid (Below.then HB8.out (Nat.le_refl _) hB10)
  clear xc0 xc1 xc2 xc3 xc4 xc5 xc6 xc7 xc8 yc0 yc1 yc2 yc3 yc4 yc5 yc6 yc7 yc8 X8 Y8 HX8 HY8 HT8 hB10
  go_wp2_with fail
  refine (order_any k (-c) _ HK.out (by omega) (by omega)).mono ?_
  rintro e w11 ⟨rfl, rfl⟩
  go_wp2
  go_ret
  exact ⟨rfl, HB10.out⟩
end Go.Proofs.YtpfjkaelbaoedaaGreatDoor
