/-
  FnToInt walked.
-/
import Derived.Test.YtgcpjlniamebgaaGreatDoorBuX
import Derived.Test.YtgcpjlniamebgaaGreatDoorBuW
import Derived.Test.YtgcpjlniamebgaaGreatDoorBuW
set_option linter.unusedSimpArgs false
set_option linter.unusedVariables false
namespace Go.Proofs.YtgcpjlniamebgaaGreatDoor
open Go.RowKit Go.Bg Dg

theorem numV_z {z : Int} {L : Nat} {y : Vl} (h : IsZ z L y) (hL : L ≤ 63) : NumV y (rz z) :=
  ⟨.inl ⟨isZ_kind h, by rw [isZ_sg h]⟩, Nat.le_trans (isZ_len h).1 hL, Nat.le_trans (isZ_len h).2 hL, rok_rz z⟩

set_option maxRecDepth 100000 in
set_option maxHeartbeats 4000000 in
theorem lawFnToInt_any (x : Vl) (w : World) (h1 : VlAt w x) :
    Calls Tryz.prog 9 #[.agg #[.int .i64 x.kind, .bool x.truth, .string x.text, .bool x.neg, .slice x.wa x.wn x.wc, .slice x.da x.dn x.dc, .bool x.ineg, .slice x.ia x.inn x.ic, .slice x.ea x.en x.ec]] w fun e w' => e = .returned (.bool true) ∧ Below w.heap.size w w' := by
  obtain ⟨W0, hW0⟩ : ∃ W0, W0 = w.alloc (.cells #[.int .i64 x.kind, .bool x.truth, .string x.text, .bool x.neg, .slice x.wa x.wn x.wc, .slice x.da x.dn x.dc, .bool x.ineg, .slice x.ia x.inn x.ic, .slice x.ea x.en x.ec] 26) := ⟨_, rfl⟩
  have HW := Lib.hid hW0
  have hb0 : Below w.heap.size w W0 := by rw [hW0]; exact Below.alloc' (Below.refl _ _) _
  have X : Box9 W0 w.heap.size x := by rw [hW0]; exact Box9.new w x _ rfl
  have HX := Lib.hid (h1.keep hb0)
  clear hW0 h1
  cases hf : fitsB x
  · have HF := Lib.hid hf
    clear hf
    go_enter Tryz.func9, Tryz.ntmps9
    go_upto_region 1 with fail
    rw [← HW.out]
    obtain ⟨xc0, xc1, xc2, xc3, xc4, xc5, xc6, xc7, xc8⟩ := (X).all
    go_wp2_with fail
    refine (fits1_any x _).mono ?_
    rintro e w1 ⟨rfl, hB1⟩
    rw [HF.out]
    go_wp2
    go_ret
    exact ⟨rfl, Below.then hb0 (Nat.le_refl _) hB1⟩
  have HF := Lib.hid hf
  clear hf
  go_enter Tryz.func9, Tryz.ntmps9
  go_upto_region 1 with fail
  rw [← HW.out]
  obtain ⟨xc0, xc1, xc2, xc3, xc4, xc5, xc6, xc7, xc8⟩ := (X).all
  go_wp2_with fail
  refine (fits1_any x _).mono ?_
  rintro e w1 ⟨rfl, hB1⟩
  rw [HF.out]
  clear xc0 xc1 xc2 xc3 xc4 xc5 xc6 xc7 xc8
  have hb1 := Below.then hb0 (Nat.le_refl _) hB1
  have X1 := X.keep hB1
  have HX1 := Lib.hid (HX.out.keep hB1)
  clear X HX hB1 hb0 HW
  go_upto_region 3 with fail
  obtain ⟨xc0, xc1, xc2, xc3, xc4, xc5, xc6, xc7, xc8⟩ := (X1).all
  go_wp2_with fail
  refine (lawWhole_any x 20 _ HX1.out (by omega)).mono ?_
  rintro e w2 ⟨sA, aA, nA, cA, aB, nB, cB, rfl, hR, hB2⟩
  clear xc0 xc1 xc2 xc3 xc4 xc5 xc6 xc7 xc8
  go_upto_region 4 with fail
  obtain ⟨W3, hW3⟩ : ∃ W3, W3 = w2.alloc (.cells #[.bool sA, .slice aA nA cA, .slice aB nB cB] 31) := ⟨_, rfl⟩
  rw [← hW3]
  have hB3 : Below w1.heap.size w1 W3 := by rw [hW3]; exact Below.alloc' hB2 _
  have A3 : RtBlk W3 w2.heap.size sA aA nA cA aB nB cB := by rw [hW3]; exact RtBlk.new _ _ rfl _ _ _ _ _ _ _
  have hb3 := Below.then hb1 (Nat.le_refl _) hB3
  have X3 := X1.keep hB3
  have HX3 := Lib.hid (HX1.out.keep hB3)
  have HB3 := Lib.hid hb3
  have HS3 := Lib.hid (show ∀ o : Obj, w2.heap.size < (w2.alloc o).heap.size from fun o => by simp)
  have R3 := Lib.hid (show wholeB x 20 = true → RtAt W3 sA aA nA cA aB nB cB (Rt.whole x.neg (val W64 x.wf x.wn)) 81 from fun hb => by
    rw [hW3]
    have := (wholeB_parts hb).2
    exact ((hR hb).keep ((Below.refl _ _).alloc (Nat.le_refl _) _)).mono (by omega))
  clear hW3 hR hB2 hB3 X1 HX1 hb1 hb3
  cases hb : wholeB x 20
  · clear R3 hb
    go_upto_region 6 with fail
    obtain ⟨xc0, xc1, xc2, xc3, xc4, xc5, xc6, xc7, xc8⟩ := (X3).all
    go_wp2_with fail
    refine (lawRational_any x 20 _ HX3.out (by omega)).mono ?_
    rintro e w4 ⟨sC, aC, nC, cC, aD, nD, cD, rfl, hR4, hB4⟩
    clear xc0 xc1 xc2 xc3 xc4 xc5 xc6 xc7 xc8
    go_upto_region 7 with fail
    obtain ⟨W5, hW5⟩ : ∃ W5, W5 = w4.alloc (.cells #[.bool sC, .slice aC nC cC, .slice aD nD cD] 31) := ⟨_, rfl⟩
    rw [← hW5]
    have A5 : RtBlk W5 w4.heap.size sC aC nC cC aD nD cD := by rw [hW5]; exact RtBlk.new _ _ rfl _ _ _ _ _ _ _
    have hB5 : Below W3.heap.size W3 W5 := by rw [hW5]; exact Below.alloc' hB4 _
    have X5 := X3.keep hB5
    have R5 := Lib.hid (show lratB x 20 = true → RtAt W5 sC aC nC cC aD nD cD (vrt x) 81 from fun hb => by rw [hW5]; exact ((hR4 hb).keep ((Below.refl _ _).alloc (Nat.le_refl _) _)).mono (by omega))
    have HX5 := Lib.hid (HX3.out.keep hB5)
    have HB5 := Lib.hid (Below.then HB3.out (Nat.le_refl _) hB5)
    clear hW5 hR4 hB4 hB5 X3 A3 HX3
    cases hc : lratB x 20
    · clear X5 A5 R5
      first
        | (go_quiet (fail); go_wp2; go_ret; exact ⟨rfl, HB5.out.trans (below_of_drewN ⟨_, rfl⟩)⟩)
        | (go_wp2; go_ret; exact ⟨rfl, HB5.out⟩)
    · have NV := Lib.hid (numV_rat hc (by omega))
      have RA := Lib.hid (R5.out hc)
      clear hc R5
      obtain ⟨xc0, xc1, xc2, xc3, xc4, xc5, xc6, xc7, xc8⟩ := (X5).all
      by_cases hd : (vrt x).den = 1
      · have HD := Lib.hid hd
        have hdd : decide ((vrt x).den = 1) = true := decide_eq_true hd
        clear hd
        go_wp2_with fail
        refine (implToIntZ_any x (vrt x) _ HX5.out NV.out HD.out).mono ?_
        rintro e w6 ⟨y, rfl, hy, hP, hB6⟩
        clear xc0 xc1 xc2 xc3 xc4 xc5 xc6 xc7 xc8
        go_upto_region 10 with fail
        obtain ⟨W7, hW7⟩ : ∃ W7, W7 = w6.alloc (.cells #[.int .i64 y.kind, .bool y.truth, .string y.text, .bool y.neg, .slice y.wa y.wn y.wc, .slice y.da y.dn y.dc, .bool y.ineg, .slice y.ia y.inn y.ic, .slice y.ea y.en y.ec] 26) := ⟨_, rfl⟩
        rw [← hW7]
        have hB7 : Below W5.heap.size W5 W7 := by rw [hW7]; exact Below.alloc' hB6 _
        have Y7 : Box9 W7 w6.heap.size y := by rw [hW7]; exact Box9.new w6 y _ rfl
        have HY7 := Lib.hid (hy.keep (show Below w6.heap.size w6 W7 from by rw [hW7]; exact Below.alloc' (Below.refl _ _) _))
        have A7 := A5.keep hB7
        have RA7 := Lib.hid (RA.out.keep hB7)
        have HB7 := Lib.hid (Below.then HB5.out (Nat.le_refl _) hB7)
        clear hW7 hB7 hB6 hy X5 A5 HX5
        obtain ⟨a0, a1, a2⟩ := A7.all
        go_wp2_with fail
        refine (isWhole_any sC aC nC cC aD nD cD 81 (vrt x) _ RA7.out (by omega)).mono ?_
        rintro e w8 ⟨rfl, hB8⟩
        rw [hdd]
        have Y8 := Y7.keep hB8
        have A8 := A7.keep hB8
        have HB8 := Lib.hid (Below.then HB7.out (Nat.le_refl _) hB8)
        have HY8 := Lib.hid (HY7.out.keep hB8)
        have RA8 := Lib.hid (RA7.out.keep hB8)
        clear a0 a1 a2 hB8 Y7 A7
        obtain ⟨a0, a1, a2⟩ := A8.all
        obtain ⟨yc0, yc1, yc2, yc3, yc4, yc5, yc6, yc7, yc8⟩ := (Y8).all
        go_wp2_with fail
        refine (isInt_any y sC aC nC cC aD nD cD (vrt x) 81 _ HY8.out RA8.out (by omega) (Nat.le_trans hP.2.2.2 (by omega))).mono ?_
        rintro e w9 ⟨rfl, hB9⟩
        have HB9 := Lib.hid (Below.then HB8.out (Nat.le_refl _) hB9)
        rw [isZ_same hP (rt_whole1 NV.out.ok HD.out)]
        clear a0 a1 a2 yc0 yc1 yc2 yc3 yc4 yc5 yc6 yc7 yc8 hB9 hP
        go_wp2
        go_ret
        exact ⟨rfl, HB9.out⟩
      · have HD := Lib.hid hd
        have hdd : decide ((vrt x).den = 1) = false := decide_eq_false hd
        clear hd
        go_wp2_with fail
        refine (implToIntN_any x (vrt x) _ HX5.out NV.out HD.out).mono ?_
        rintro e w6 ⟨y, rfl, hy, hP, hB6⟩
        clear xc0 xc1 xc2 xc3 xc4 xc5 xc6 xc7 xc8
        go_upto_region 10 with fail
        obtain ⟨W7, hW7⟩ : ∃ W7, W7 = w6.alloc (.cells #[.int .i64 y.kind, .bool y.truth, .string y.text, .bool y.neg, .slice y.wa y.wn y.wc, .slice y.da y.dn y.dc, .bool y.ineg, .slice y.ia y.inn y.ic, .slice y.ea y.en y.ec] 26) := ⟨_, rfl⟩
        rw [← hW7]
        have hB7 : Below W5.heap.size W5 W7 := by rw [hW7]; exact Below.alloc' hB6 _
        have Y7 : Box9 W7 w6.heap.size y := by rw [hW7]; exact Box9.new w6 y _ rfl
        have A7 := A5.keep hB7
        have RA7 := Lib.hid (RA.out.keep hB7)
        have HB7 := Lib.hid (Below.then HB5.out (Nat.le_refl _) hB7)
        have HK := Lib.hid (show y.kind = 0 from hP)
        clear hW7 hB7 hB6 hy X5 A5 HX5 hP
        obtain ⟨a0, a1, a2⟩ := A7.all
        go_wp2_with fail
        refine (isWhole_any sC aC nC cC aD nD cD 81 (vrt x) _ RA7.out (by omega)).mono ?_
        rintro e w8 ⟨rfl, hB8⟩
        rw [hdd]
        have yk := (Y7.keep hB8).c0
        have HB8 := Lib.hid (Below.then HB7.out (Nat.le_refl _) hB8)
        rw [HK.out] at yk
        clear a0 a1 a2 hB8 Y7 A7
        obtain ⟨W9, hW9⟩ : ∃ W9, W9 = w8.alloc (.cells #[.int .u8 3] 5) := ⟨_, rfl⟩
        have hk9 : W9.cell? ⟨w8.heap.size, 0, none⟩ = some (.int .u8 3) := by rw [hW9]; exact alloc_new _ _ _ rfl rfl
        have HB9 := Lib.hid (Below.then HB8.out (Nat.le_refl _) (show Below w8.heap.size w8 W9 from by rw [hW9]; exact Below.alloc' (Below.refl _ _) _))
        have HF := Lib.hid (fromByte_any w8.heap.size 3 W9 (by omega) (by omega) hk9)
        have HW9 := Lib.hid hW9
        clear hW9 hk9
        go_wp2_with fail
        rw [← HW9.out]
        refine HF.out.mono ?_
        rintro e w10 ⟨q, rfl, hq, hQ, hB10⟩
        have HB10 := Lib.hid (Below.then HB9.out (Nat.le_refl _) hB10)
        have NQ := Lib.hid (numV_z hQ (by omega))
        clear hB10 hQ
        go_wp2_with fail
        refine (implToIntZ_any q (rz 3) _ hq NQ.out rfl).mono ?_
        rintro e w11 ⟨z, rfl, hz, hZ, hB11⟩
        have HB11 := Lib.hid (Below.then HB10.out (Nat.le_refl _) hB11)
        have hzk := isZ_kind hZ
        rw [hzk]
        have hfld := field_kind
        clear hB11 hZ hq hz
        go_wp2
        go_ret
        exact ⟨rfl, HB11.out⟩
  · go_upto_region 5 with fail
    have NV := Lib.hid (numV_whole hb (by omega))
    have RA := Lib.hid (R3.out hb)
    have hd0 : Below W3.heap.size W3 W3.drew := (Below.refl _ _).drew
    clear hb R3
    go_region_held3 (fun w' => (w'.cell? ⟨w.heap.size, 0, none⟩ = some (.int .i64 x.kind) ∧ w'.cell? ⟨w.heap.size, 1, none⟩ = some (.bool x.truth) ∧ w'.cell? ⟨w.heap.size, 2, none⟩ = some (.string x.text) ∧ w'.cell? ⟨w.heap.size, 3, none⟩ = some (.bool x.neg) ∧ w'.cell? ⟨w.heap.size, 4, none⟩ = some (.slice x.wa x.wn x.wc) ∧ w'.cell? ⟨w.heap.size, 5, none⟩ = some (.slice x.da x.dn x.dc) ∧ w'.cell? ⟨w.heap.size, 6, none⟩ = some (.bool x.ineg) ∧ w'.cell? ⟨w.heap.size, 7, none⟩ = some (.slice x.ia x.inn x.ic) ∧ w'.cell? ⟨w.heap.size, 8, none⟩ = some (.slice x.ea x.en x.ec)) ∧ (w'.cell? ⟨w2.heap.size, 0, none⟩ = some (.bool sA) ∧ w'.cell? ⟨w2.heap.size, 1, none⟩ = some (.slice aA nA cA) ∧ w'.cell? ⟨w2.heap.size, 2, none⟩ = some (.slice aB nB cB)))
      (first | exact ⟨X3.all, A3.all⟩ | exact ⟨(X3.keep (by assumption)).all, (A3.keep (by assumption)).all⟩)
      (first | (go_at_call 25; (with_reducible refine (implToIntZ_any x (Rt.whole x.neg (val W64 x.wf x.wn)) _ ?_ NV.out rfl).mono ?_); exact HX3.out.keep (by assumption); rintro e w6 ⟨y, rfl, hy, hP, hB6⟩; have hb6 := Below.then hd0 (Nat.le_refl _) hB6) | (go_at_call 13; (with_reducible refine (isInt_any y sA aA nA cA aB nB cB (Rt.whole x.neg (val W64 x.wf x.wn)) 81 _ ?_ ?_ ?_ ?_).mono ?_); exact hy; exact RA.out.keep hb6; omega; exact Nat.le_trans hP.2.2.2 (by omega); rintro e w9 ⟨rfl, hB9⟩; have hb9 := Below.then hb6 (Nat.le_refl _) hB9; rw [isZ_same hP (rt_whole1 NV.out.ok rfl)]))
    go_wp2
    go_ret
    exact ⟨rfl, Below.then HB3.out (Nat.le_refl _) hb9⟩
end Go.Proofs.YtgcpjlniamebgaaGreatDoor
