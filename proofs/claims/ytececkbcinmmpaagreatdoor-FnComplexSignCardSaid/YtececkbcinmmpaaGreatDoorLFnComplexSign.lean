/-
  FnComplexSign walked. PRINTED BY wip/gen_lcpx.py.
-/
import Derived.Test.YtececkbcinmmpaaGreatDoorN8
import Derived.Test.YtececkbcinmmpaaGreatDoorK38
import Derived.Test.YtececkbcinmmpaaGreatDoorKF
set_option linter.unusedSimpArgs false
set_option linter.unusedVariables false
namespace Go.Proofs.YtececkbcinmmpaaGreatDoor
open Go.RowKit Go.Bg Dg

theorem numV_z {z : Int} {L : Nat} {y : Vl} (h : IsZ z L y) (hL : L ≤ 63) : NumV y (rz z) :=
  ⟨.inl ⟨isZ_kind h, by rw [isZ_sg h]⟩, Nat.le_trans (isZ_len h).1 hL, Nat.le_trans (isZ_len h).2 hL, rok_rz z⟩
theorem rz1_lt : (rz 1).num < W64 ^ 1 ∧ (rz 1).den < W64 ^ 1 := ⟨Nat.one_lt_pow (by decide) W64_gt, Nat.one_lt_pow (by decide) W64_gt⟩

set_option maxRecDepth 100000 in
set_option maxHeartbeats 8000000 in
theorem lawFnComplexSign_any (x : Vl) (w : World) (hT : Thr w) (hDD : ThrD w) (h1 : VlAt w x) :
    Calls Tryz.prog 14 #[.agg #[.int .i64 x.kind, .bool x.truth, .string x.text, .bool x.neg, .slice x.wa x.wn x.wc, .slice x.da x.dn x.dc, .bool x.ineg, .slice x.ia x.inn x.ic, .slice x.ea x.en x.ec]] w fun e w' => e = .returned (.bool true) ∧ Below w.heap.size w w' := by
  have HT := Lib.hid hT
  have HDD := Lib.hid hDD
  clear hT hDD
  obtain ⟨W0, hW0⟩ : ∃ W0, W0 = w.alloc (.cells #[.int .i64 x.kind, .bool x.truth, .string x.text, .bool x.neg, .slice x.wa x.wn x.wc, .slice x.da x.dn x.dc, .bool x.ineg, .slice x.ia x.inn x.ic, .slice x.ea x.en x.ec] 26) := ⟨_, rfl⟩
  have HW := Lib.hid hW0
  have hb0 : Below w.heap.size w W0 := by rw [hW0]; exact Below.alloc' (Below.refl _ _) _
  have X : Box9 W0 w.heap.size x := by rw [hW0]; exact Box9.new w x _ rfl
  have HX := Lib.hid (h1.keep hb0)
  clear hW0 h1
  cases hf : fitsB x
  · have HF := Lib.hid hf
    clear hf
    go_enter Tryz.func14, Tryz.ntmps14
    go_upto_region 1 with fail
    rw [← HW.out]
    obtain ⟨xc0, xc1, xc2, xc3, xc4, xc5, xc6, xc7, xc8⟩ := (X).all
    go_wp2_with fail
    refine (fits1_any x _).mono ?_
    rintro e w1 ⟨rfl, hB1⟩
    rw [HF.out]
    go_wp2
    go_ret
    exact ⟨rfl, Below.then hb0 (Nat.le_refl _) hB1⟩
  have HF := Lib.hid hf
  clear hf
  go_enter Tryz.func14, Tryz.ntmps14
  go_upto_region 1 with fail
  rw [← HW.out]
  obtain ⟨xc0, xc1, xc2, xc3, xc4, xc5, xc6, xc7, xc8⟩ := (X).all
  go_wp2_with fail
  refine (fits1_any x _).mono ?_
  rintro e w1 ⟨rfl, hB1⟩
  rw [HF.out]
  clear xc0 xc1 xc2 xc3 xc4 xc5 xc6 xc7 xc8
  have hb1 := Below.then hb0 (Nat.le_refl _) hB1
  have X1 := X.keep hB1
  have HX1 := Lib.hid (HX.out.keep hB1)
  clear X HX hB1 hb0 HW
  go_upto_region 3 with fail
  obtain ⟨xc0, xc1, xc2, xc3, xc4, xc5, xc6, xc7, xc8⟩ := (X1).all
  go_wp2_with fail
  refine (lawPair_any x 8 _ HX1.out (by omega)).mono ?_
  rintro e w2 ⟨sA, aA, nA, cA, aB, nB, cB, sC, aC, nC, cC, aD, nD, cD, rfl, hR, hB2⟩
  clear xc0 xc1 xc2 xc3 xc4 xc5 xc6 xc7 xc8
  go_upto_region 4 with fail
  obtain ⟨W3, hW3⟩ : ∃ W3, W3 = (w2.alloc (.cells #[.bool sA, .slice aA nA cA, .slice aB nB cB] 31)).alloc (.cells #[.bool sC, .slice aC nC cC, .slice aD nD cD] 31) := ⟨_, rfl⟩
  rw [← hW3]
  have hk3 : Below w2.heap.size w2 W3 := by rw [hW3]; exact Below.alloc' (Below.alloc' (Below.refl _ _) _) _
  have hB3 : Below w1.heap.size w1 W3 := Below.then hB2 (Nat.le_refl _) hk3
  have A3 : RtBlk W3 w2.heap.size sA aA nA cA aB nB cB := by rw [hW3]; exact (RtBlk.new _ _ rfl _ _ _ _ _ _ _).keep ((Below.refl _ _).alloc (Nat.le_refl _) _)
  have C3 : RtBlk W3 (w2.heap.size + 1) sC aC nC cC aD nD cD := by rw [hW3]; exact RtBlk.new _ _ (by simp) _ _ _ _ _ _ _
  have R3 := Lib.hid (fun hb => show RtAt W3 sA aA nA cA aB nB cB (vrt x) (4 * 8) ∧ RtAt W3 sC aC nC cC aD nD cD (virt x) (4 * 8) from ⟨(hR hb).1.keep hk3, (hR hb).2.keep hk3⟩)
  have hb3 := Below.then hb1 (Nat.le_refl _) hB3
  have X3 := X1.keep hB3
  have HX3 := Lib.hid (HX1.out.keep hB3)
  have HB3 := Lib.hid hb3
  clear hW3 hR hB2 hB3 hk3 X1 HX1 hb1 hb3
  obtain ⟨a0, a1, a2⟩ := A3
  go_wp2_with fail
  refine (signRaw_any sA aA nA cA aB nB cB _).mono ?_
  rintro e w4 ⟨rfl, hB4⟩
  have X4 := X3.keep hB4
  have C4 := C3.keep hB4
  have HX4 := Lib.hid (HX3.out.keep hB4)
  have HB4 := Lib.hid (Below.then HB3.out (Nat.le_refl _) hB4)
  have R4 := Lib.hid (fun hb => show RtAt w4 sA aA nA cA aB nB cB (vrt x) 32 ∧ RtAt w4 sC aC nC cC aD nD cD (virt x) 32 from ⟨(R3.out hb).1.keep hB4, (R3.out hb).2.keep hB4⟩)
  clear a0 a1 a2 hB4 X3 C3 R3 HX3
  have HR1 := Lib.hid (fun (hb : lpairB x 8 = true) => rawSign_rt (R4.out hb).1)
  have HR2 := Lib.hid (fun (hb : lpairB x 8 = true) => rawSign_rt (R4.out hb).2)
  have ho := @rawSign_one sA nA
  have ho2 := @rawSign_one sC nC
  generalize rawSign sA nA = u at *
  generalize hv : rawSign sC nC = v at *
  have HV := Lib.hid hv
  clear hv
  by_cases h0 : u = 0
  · clear ho
    subst h0
    obtain ⟨c0, c1, c2⟩ := C4
    go_wp2_with fail
    refine (signRaw_any sC aC nC cC aD nD cD _).mono ?_
    rintro e w5 ⟨rfl, hB5⟩
    rw [HV.out]
    have X5 := X4.keep hB5
    have HX5 := Lib.hid (HX4.out.keep hB5)
    have HB5 := Lib.hid (Below.then HB4.out (Nat.le_refl _) hB5)
    clear c0 c1 c2 hB5 X4 HX4 R4
    by_cases h1 : v = 0
    · clear ho2
      subst h1
      cases hb : lpairB x 8
      · clear X5
        go_wp2
        go_ret
        exact ⟨rfl, HB5.out⟩
      · have MX := Lib.hid (madeC_pair hb (by omega) (by omega))
        have E1 := Lib.hid (HR1.out hb)
        have E2 := Lib.hid (HR2.out hb)
        have HT5 := Lib.hid (HT.out.keep HB5.out)
        have HD5 := Lib.hid (HDD.out.keep HB5.out)
        clear hb
        obtain ⟨xc0, xc1, xc2, xc3, xc4, xc5, xc6, xc7, xc8⟩ := (X5).all
        go_wp2_with fail
        refine (implSignC_any x (vrt x) (virt x) _ HT5.out HD5.out HX5.out MX.out).mono ?_
        rintro e w6 ⟨s, rfl, hs, hB6⟩
        rw [← E1.out, ← E2.out] at hs
        have HB6 := Lib.hid (Below.then HB5.out (Nat.le_refl _) hB6)
        have hs2 : (s == 0) = true := by simpa using hs
        clear xc0 xc1 xc2 xc3 xc4 xc5 xc6 xc7 xc8 X5 hB6 hs
        obtain ⟨W7, hW7⟩ : ∃ W7, W7 = w6.alloc (.cells #[.int .u8 1] 5) := ⟨_, rfl⟩
        have hk7 : W7.cell? ⟨w6.heap.size, 0, none⟩ = some (.int .u8 1) := by rw [hW7]; exact alloc_new _ _ _ rfl rfl
        have HB7 := Lib.hid (Below.then HB6.out (Nat.le_refl _) (show Below w6.heap.size w6 W7 from by rw [hW7]; exact Below.alloc' (Below.refl _ _) _))
        have HF := Lib.hid (fromByte_any w6.heap.size 1 W7 (by omega) (by omega) hk7)
        have HW7 := Lib.hid hW7
        clear hW7 hk7
        go_wp2_with fail
        rw [← HW7.out]
        refine HF.out.mono ?_
        rintro e w8 ⟨q, rfl, hq, hQ, hB8⟩
        have HB8 := Lib.hid (Below.then HB7.out (Nat.le_refl _) hB8)
        have NQ := Lib.hid (numV_z hQ (by omega))
        have HQ := Lib.hid hq
        clear hB8 hQ hq
        go_wp2_with fail
        refine (implImaginary_any q (rz 1) _ HQ.out NQ.out).mono ?_
        rintro e w9 ⟨z, rfl, hz, hZ, hB9⟩
        have HB9 := Lib.hid (Below.then HB8.out (Nat.le_refl _) hB9)
        have HZ := Lib.hid hz
        have MZ := Lib.hid (madeC_isC hZ (plt_zero (r := rz 1) (L := 1) (by omega) (by omega) rz1_lt.1 rz1_lt.2 (rok_rz 1)) (by omega))
        have HT9 := Lib.hid (HT.out.keep HB9.out)
        have HD9 := Lib.hid (HDD.out.keep HB9.out)
        clear hB9 hZ hz
        go_wp2_with fail
        refine (implSignC_any z (rz 0) (rz 1) _ HT9.out HD9.out HZ.out MZ.out).mono ?_
        rintro e w10 ⟨s', rfl, hs', hB10⟩
        have HB10 := Lib.hid (Below.then HB9.out (Nat.le_refl _) hB10)
        have hs3 : (s' != 0) = true := by
          have h : ¬ s' = 0 := by rw [hs']; decide
          simpa using h
        have hs4 : (s' == 0) = false := by
          have h : ¬ s' = 0 := by rw [hs']; decide
          simpa using h
        clear hs' hB10
        go_wp2
        go_ret
        exact ⟨rfl, HB10.out⟩
    · rcases ho2 h1 with rfl | rfl
      all_goals
        clear ho2 h1
        cases hb : lpairB x 8
        · clear X5
          go_wp2
          go_ret
          exact ⟨rfl, HB5.out⟩
        · have MX := Lib.hid (madeC_pair hb (by omega) (by omega))
          have E1 := Lib.hid (HR1.out hb)
          have E2 := Lib.hid (HR2.out hb)
          have HT5 := Lib.hid (HT.out.keep HB5.out)
          have HD5 := Lib.hid (HDD.out.keep HB5.out)
          clear hb
          obtain ⟨xc0, xc1, xc2, xc3, xc4, xc5, xc6, xc7, xc8⟩ := (X5).all
          go_wp2_with fail
          refine (implSignC_any x (vrt x) (virt x) _ HT5.out HD5.out HX5.out MX.out).mono ?_
          rintro e w6 ⟨s, rfl, hs, hB6⟩
          rw [← E1.out, ← E2.out] at hs
          have HB6 := Lib.hid (Below.then HB5.out (Nat.le_refl _) hB6)
          have hs2 : (s == 0) = false := by simpa using hs
          clear xc0 xc1 xc2 xc3 xc4 xc5 xc6 xc7 xc8 X5 hB6 hs
          obtain ⟨W7, hW7⟩ : ∃ W7, W7 = w6.alloc (.cells #[.int .u8 1] 5) := ⟨_, rfl⟩
          have hk7 : W7.cell? ⟨w6.heap.size, 0, none⟩ = some (.int .u8 1) := by rw [hW7]; exact alloc_new _ _ _ rfl rfl
          have HB7 := Lib.hid (Below.then HB6.out (Nat.le_refl _) (show Below w6.heap.size w6 W7 from by rw [hW7]; exact Below.alloc' (Below.refl _ _) _))
          have HF := Lib.hid (fromByte_any w6.heap.size 1 W7 (by omega) (by omega) hk7)
          have HW7 := Lib.hid hW7
          clear hW7 hk7
          go_wp2_with fail
          rw [← HW7.out]
          refine HF.out.mono ?_
          rintro e w8 ⟨q, rfl, hq, hQ, hB8⟩
          have HB8 := Lib.hid (Below.then HB7.out (Nat.le_refl _) hB8)
          have NQ := Lib.hid (numV_z hQ (by omega))
          have HQ := Lib.hid hq
          clear hB8 hQ hq
          go_wp2_with fail
          refine (implImaginary_any q (rz 1) _ HQ.out NQ.out).mono ?_
          rintro e w9 ⟨z, rfl, hz, hZ, hB9⟩
          have HB9 := Lib.hid (Below.then HB8.out (Nat.le_refl _) hB9)
          have HZ := Lib.hid hz
          have MZ := Lib.hid (madeC_isC hZ (plt_zero (r := rz 1) (L := 1) (by omega) (by omega) rz1_lt.1 rz1_lt.2 (rok_rz 1)) (by omega))
          have HT9 := Lib.hid (HT.out.keep HB9.out)
          have HD9 := Lib.hid (HDD.out.keep HB9.out)
          clear hB9 hZ hz
          go_wp2_with fail
          refine (implSignC_any z (rz 0) (rz 1) _ HT9.out HD9.out HZ.out MZ.out).mono ?_
          rintro e w10 ⟨s', rfl, hs', hB10⟩
          have HB10 := Lib.hid (Below.then HB9.out (Nat.le_refl _) hB10)
          have hs3 : (s' != 0) = true := by
            have h : ¬ s' = 0 := by rw [hs']; decide
            simpa using h
          have hs4 : (s' == 0) = false := by
            have h : ¬ s' = 0 := by rw [hs']; decide
            simpa using h
          clear hs' hB10
          go_wp2
          go_ret
          exact ⟨rfl, HB10.out⟩
  · rcases ho h0 with rfl | rfl
    all_goals
      clear ho ho2 h0
      cases hb : lpairB x 8
      · clear X4
        go_wp2
        go_ret
        exact ⟨rfl, HB4.out⟩
      · have MX := Lib.hid (madeC_pair hb (by omega) (by omega))
        have E1 := Lib.hid (HR1.out hb)
        have E2 := Lib.hid (HR2.out hb)
        have HT4 := Lib.hid (HT.out.keep HB4.out)
        have HD4 := Lib.hid (HDD.out.keep HB4.out)
        clear hb
        obtain ⟨xc0, xc1, xc2, xc3, xc4, xc5, xc6, xc7, xc8⟩ := (X4).all
        go_wp2_with fail
        refine (implSignC_any x (vrt x) (virt x) _ HT4.out HD4.out HX4.out MX.out).mono ?_
        rintro e w6 ⟨s, rfl, hs, hB6⟩
        rw [← E1.out, ← E2.out] at hs
        have HB6 := Lib.hid (Below.then HB4.out (Nat.le_refl _) hB6)
        have hs2 : (s == 0) = false := by simpa using hs
        clear xc0 xc1 xc2 xc3 xc4 xc5 xc6 xc7 xc8 X4 hB6 hs
        obtain ⟨W7, hW7⟩ : ∃ W7, W7 = w6.alloc (.cells #[.int .u8 1] 5) := ⟨_, rfl⟩
        have hk7 : W7.cell? ⟨w6.heap.size, 0, none⟩ = some (.int .u8 1) := by rw [hW7]; exact alloc_new _ _ _ rfl rfl
        have HB7 := Lib.hid (Below.then HB6.out (Nat.le_refl _) (show Below w6.heap.size w6 W7 from by rw [hW7]; exact Below.alloc' (Below.refl _ _) _))
        have HF := Lib.hid (fromByte_any w6.heap.size 1 W7 (by omega) (by omega) hk7)
        have HW7 := Lib.hid hW7
        clear hW7 hk7
        go_wp2_with fail
        rw [← HW7.out]
        refine HF.out.mono ?_
        rintro e w8 ⟨q, rfl, hq, hQ, hB8⟩
        have HB8 := Lib.hid (Below.then HB7.out (Nat.le_refl _) hB8)
        have NQ := Lib.hid (numV_z hQ (by omega))
        have HQ := Lib.hid hq
        clear hB8 hQ hq
        go_wp2_with fail
        refine (implImaginary_any q (rz 1) _ HQ.out NQ.out).mono ?_
        rintro e w9 ⟨z, rfl, hz, hZ, hB9⟩
        have HB9 := Lib.hid (Below.then HB8.out (Nat.le_refl _) hB9)
        have HZ := Lib.hid hz
        have MZ := Lib.hid (madeC_isC hZ (plt_zero (r := rz 1) (L := 1) (by omega) (by omega) rz1_lt.1 rz1_lt.2 (rok_rz 1)) (by omega))
        have HT9 := Lib.hid (HT.out.keep HB9.out)
        have HD9 := Lib.hid (HDD.out.keep HB9.out)
        clear hB9 hZ hz
        go_wp2_with fail
        refine (implSignC_any z (rz 0) (rz 1) _ HT9.out HD9.out HZ.out MZ.out).mono ?_
        rintro e w10 ⟨s', rfl, hs', hB10⟩
        have HB10 := Lib.hid (Below.then HB9.out (Nat.le_refl _) hB10)
        have hs3 : (s' != 0) = true := by
          have h : ¬ s' = 0 := by rw [hs']; decide
          simpa using h
        have hs4 : (s' == 0) = false := by
          have h : ¬ s' = 0 := by rw [hs']; decide
          simpa using h
        clear hs' hB10
        go_wp2
        go_ret
        exact ⟨rfl, HB10.out⟩
end Go.Proofs.YtececkbcinmmpaaGreatDoor
