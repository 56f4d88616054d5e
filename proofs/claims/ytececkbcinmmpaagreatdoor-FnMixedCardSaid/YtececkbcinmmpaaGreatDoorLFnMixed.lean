/-
  FnMixed walked. PRINTED BY wip/gen_mixed.py.
-/
import Derived.Test.YtececkbcinmmpaaGreatDoorM20
import Derived.Test.YtececkbcinmmpaaGreatDoorM39
import Derived.Test.YtececkbcinmmpaaGreatDoorM03
import Derived.Test.YtececkbcinmmpaaGreatDoorM04
set_option linter.unusedSimpArgs false
set_option linter.unusedVariables false
namespace Go.Proofs.YtececkbcinmmpaaGreatDoor
open Go.RowKit Go.Bg Dg

set_option maxRecDepth 100000 in
set_option maxHeartbeats 16000000 in
theorem lawFnMixed_any (op : Nat) (hop : op < 256) (tn : Bool) (x y : Vl) (w : World) (hT : Thr w) (hDD : ThrD w) (h1 : VlAt w x) (h2 : VlAt w y) :
    Calls Tryz.prog 6 #[.int .u8 op, .bool tn, .agg #[.int .i64 x.kind, .bool x.truth, .string x.text, .bool x.neg, .slice x.wa x.wn x.wc, .slice x.da x.dn x.dc, .bool x.ineg, .slice x.ia x.inn x.ic, .slice x.ea x.en x.ec], .agg #[.int .i64 y.kind, .bool y.truth, .string y.text, .bool y.neg, .slice y.wa y.wn y.wc, .slice y.da y.dn y.dc, .bool y.ineg, .slice y.ia y.inn y.ic, .slice y.ea y.en y.ec]] w fun e w' => e = .returned (.bool true) ∧ Below w.heap.size w w' := by
  have HOP := Lib.hid hop
  have HT := Lib.hid hT
  have HDD := Lib.hid hDD
  clear hop hT hDD
  obtain ⟨W0, hW0⟩ : ∃ W0, W0 = (w.alloc (.cells #[.int .i64 x.kind, .bool x.truth, .string x.text, .bool x.neg, .slice x.wa x.wn x.wc, .slice x.da x.dn x.dc, .bool x.ineg, .slice x.ia x.inn x.ic, .slice x.ea x.en x.ec] 26)).alloc (.cells #[.int .i64 y.kind, .bool y.truth, .string y.text, .bool y.neg, .slice y.wa y.wn y.wc, .slice y.da y.dn y.dc, .bool y.ineg, .slice y.ia y.inn y.ic, .slice y.ea y.en y.ec] 26) := ⟨_, rfl⟩
  have HW := Lib.hid hW0
  have hb0 : Below w.heap.size w W0 := by rw [hW0]; exact Below.alloc' (Below.alloc' (Below.refl _ _) _) _
  have X : Box9 W0 w.heap.size x := by rw [hW0]; exact (Box9.new w x _ rfl).alloc _
  have Y : Box9 W0 (w.heap.size + 1) y := by rw [hW0]; exact Box9.new _ y _ (by simp)
  have BX := Lib.hid (show BlkAt W0 w.heap.size #[.int .i64 x.kind, .bool x.truth, .string x.text, .bool x.neg, .slice x.wa x.wn x.wc, .slice x.da x.dn x.dc, .bool x.ineg, .slice x.ia x.inn x.ic, .slice x.ea x.en x.ec] 26 from by rw [hW0]; exact BlkAt.keep (BlkAt.new w _ _) (Below.alloc' (Below.refl _ _) _))
  have BY := Lib.hid (show BlkAt W0 (w.heap.size + 1) #[.int .i64 y.kind, .bool y.truth, .string y.text, .bool y.neg, .slice y.wa y.wn y.wc, .slice y.da y.dn y.dc, .bool y.ineg, .slice y.ia y.inn y.ic, .slice y.ea y.en y.ec] 26 from by rw [hW0]; have := BlkAt.new (w.alloc (.cells #[.int .i64 x.kind, .bool x.truth, .string x.text, .bool x.neg, .slice x.wa x.wn x.wc, .slice x.da x.dn x.dc, .bool x.ineg, .slice x.ia x.inn x.ic, .slice x.ea x.en x.ec] 26)) #[.int .i64 y.kind, .bool y.truth, .string y.text, .bool y.neg, .slice y.wa y.wn y.wc, .slice y.da y.dn y.dc, .bool y.ineg, .slice y.ia y.inn y.ic, .slice y.ea y.en y.ec] 26; simpa using this)
  have HX := Lib.hid (h1.keep hb0)
  have HY := Lib.hid (h2.keep hb0)
  clear hW0 h1 h2
  cases hf : fitsB x
  · have HF := Lib.hid hf
    clear hf
    go_enter Tryz.func6, Tryz.ntmps6
    go_upto_region 1 with fail
    rw [← HW.out]
    obtain ⟨xc0, xc1, xc2, xc3, xc4, xc5, xc6, xc7, xc8⟩ := (X).all
    go_wp2_with fail
    refine (fits1_any x _).mono ?_
    rintro e w1 ⟨rfl, hB1⟩
    rw [HF.out]
    go_wp2
    go_ret
    exact ⟨rfl, Below.then hb0 (Nat.le_refl _) hB1⟩
  have HF := Lib.hid hf
  clear hf
  cases hg : fitsB y
  · have HG := Lib.hid hg
    clear hg
    go_enter Tryz.func6, Tryz.ntmps6
    go_upto_region 1 with fail
    rw [← HW.out]
    obtain ⟨xc0, xc1, xc2, xc3, xc4, xc5, xc6, xc7, xc8⟩ := (X).all
    go_wp2_with fail
    refine (fits1_any x _).mono ?_
    rintro e w1 ⟨rfl, hB1⟩
    rw [HF.out]
    have Y1 := Y.keep hB1
    obtain ⟨yc0, yc1, yc2, yc3, yc4, yc5, yc6, yc7, yc8⟩ := (Y1).all
    clear xc0 xc1 xc2 xc3 xc4 xc5 xc6 xc7 xc8
    go_wp2_with fail
    refine (fits1_any y _).mono ?_
    rintro e w2 ⟨rfl, hB2⟩
    rw [HG.out]
    go_wp2
    go_ret
    exact ⟨rfl, Below.then (Below.then hb0 (Nat.le_refl _) hB1) (Nat.le_refl _) hB2⟩
  have HG := Lib.hid hg
  clear hg
  go_enter Tryz.func6, Tryz.ntmps6
  go_upto_region 1 with fail
  rw [← HW.out]
  obtain ⟨xc0, xc1, xc2, xc3, xc4, xc5, xc6, xc7, xc8⟩ := (X).all
  go_wp2_with fail
  refine (fits1_any x _).mono ?_
  rintro e w1 ⟨rfl, hB1⟩
  rw [HF.out]
  have Y1 := Y.keep hB1
  obtain ⟨yc0, yc1, yc2, yc3, yc4, yc5, yc6, yc7, yc8⟩ := (Y1).all
  clear xc0 xc1 xc2 xc3 xc4 xc5 xc6 xc7 xc8
  go_wp2_with fail
  refine (fits1_any y _).mono ?_
  rintro e w2 ⟨rfl, hB2⟩
  rw [HG.out]
  clear yc0 yc1 yc2 yc3 yc4 yc5 yc6 yc7 yc8
  have hb2 := Below.then (Below.then hb0 (Nat.le_refl _) hB1) (Nat.le_refl _) hB2
  have X2 := (X.keep hB1).keep hB2
  have BX2 := Lib.hid ((BX.out.keep hB1).keep hB2)
  have BY2 := Lib.hid ((BY.out.keep hB1).keep hB2)
  have HS2 := Lib.hid (show w.heap.size + 1 < w2.heap.size from BY2.out.lt)
  have Y2 := Y1.keep hB2
  have HX2 := Lib.hid ((HX.out.keep hB1).keep hB2)
  have HY2 := Lib.hid ((HY.out.keep hB1).keep hB2)
  clear X Y Y1 HX HY hB1 hB2 hb0 HW BX BY
  go_upto_region 3 with fail
  obtain ⟨xc0, xc1, xc2, xc3, xc4, xc5, xc6, xc7, xc8⟩ := (X2).all
  go_wp2_with fail
  refine (lawWhole_new x 10 _ HX2.out (by omega)).mono ?_
  rintro e w3 ⟨sA, aA, nA, cA, aB, nB, cB, rfl, hR, hB3⟩
  clear xc0 xc1 xc2 xc3 xc4 xc5 xc6 xc7 xc8
  go_upto_region 4 with fail
  obtain ⟨W3, hW3⟩ : ∃ W3, W3 = w3.alloc (.cells #[.bool sA, .slice aA nA cA, .slice aB nB cB] 31) := ⟨_, rfl⟩
  rw [← hW3]
  have hB3' : Below w2.heap.size w2 W3 := by rw [hW3]; exact Below.alloc' hB3 _
  have A3 : RtBlk W3 w3.heap.size sA aA nA cA aB nB cB := by rw [hW3]; exact RtBlk.new _ _ rfl _ _ _ _ _ _ _
  have BA3 := Lib.hid (show BlkAt W3 w3.heap.size #[.bool sA, .slice aA nA cA, .slice aB nB cB] 31 from by rw [hW3]; exact BlkAt.new _ _ _)
  have HS3 := Lib.hid (show w2.heap.size ≤ w3.heap.size ∧ w3.heap.size < W3.heap.size from ⟨hB3.size, by rw [hW3]; simp⟩)
  have R3 := Lib.hid (show wholeB x 10 = true → RtAt W3 sA aA nA cA aB nB cB (Rt.whole x.neg (val W64 x.wf x.wn)) 41 ∧ (Fr w2.heap.size aA ∧ Fr w2.heap.size aB) from fun hb => by
    rw [hW3]
    have := (wholeB_parts hb).2
    exact ⟨((hR hb).1.keep ((Below.refl _ _).alloc (Nat.le_refl _) _)).mono (by omega), (hR hb).2⟩)
  clear hW3 hR hB3
  have hb3 := Below.then hb2 (Nat.le_refl _) hB3'
  have X3 := X2.keep hB3'
  have BX3 := Lib.hid (BX2.out.keep hB3')
  have BY3 := Lib.hid (BY2.out.keep hB3')
  have Y3 := Y2.keep hB3'
  have HX3 := Lib.hid (HX2.out.keep hB3')
  have HY3 := Lib.hid (HY2.out.keep hB3')
  clear X2 Y2 HX2 HY2 hb2 hB3' BX2 BY2
  obtain ⟨yc0, yc1, yc2, yc3, yc4, yc5, yc6, yc7, yc8⟩ := (Y3).all
  go_wp2_with fail
  refine (lawRational_new y 10 _ HY3.out (by omega)).mono ?_
  rintro e w4 ⟨sC, aC, nC, cC, aD, nD, cD, rfl, hR, hB4⟩
  clear yc0 yc1 yc2 yc3 yc4 yc5 yc6 yc7 yc8
  go_upto_region 5 with fail
  obtain ⟨W4, hW4⟩ : ∃ W4, W4 = w4.alloc (.cells #[.bool sC, .slice aC nC cC, .slice aD nD cD] 31) := ⟨_, rfl⟩
  rw [← hW4]
  have hB4' : Below W3.heap.size W3 W4 := by rw [hW4]; exact Below.alloc' hB4 _
  have C4 : RtBlk W4 w4.heap.size sC aC nC cC aD nD cD := by rw [hW4]; exact RtBlk.new _ _ rfl _ _ _ _ _ _ _
  have BC4 := Lib.hid (show BlkAt W4 w4.heap.size #[.bool sC, .slice aC nC cC, .slice aD nD cD] 31 from by rw [hW4]; exact BlkAt.new _ _ _)
  have HS4 := Lib.hid (show W3.heap.size ≤ w4.heap.size from hB4.size)
  have R4 := Lib.hid (show lratB y 10 = true → RtAt W4 sC aC nC cC aD nD cD (vrt y) 41 ∧ (Fr w2.heap.size aC ∧ Fr w2.heap.size aD) from fun hb => by
    rw [hW4]
    have hl : w2.heap.size ≤ W3.heap.size := Nat.le_trans HS3.out.1 (Nat.le_of_lt HS3.out.2)
    exact ⟨((hR hb).1.keep ((Below.refl _ _).alloc (Nat.le_refl _) _)).mono (by omega), (hR hb).2.1.le hl, (hR hb).2.2.le hl⟩)
  have R3' := Lib.hid (fun hb => show RtAt W4 sA aA nA cA aB nB cB (Rt.whole x.neg (val W64 x.wf x.wn)) 41 ∧ (Fr w2.heap.size aA ∧ Fr w2.heap.size aB) from ⟨(R3.out hb).1.keep hB4', (R3.out hb).2⟩)
  have BA4 := Lib.hid (BA3.out.keep hB4')
  have BX4 := Lib.hid (BX3.out.keep hB4')
  have BY4 := Lib.hid (BY3.out.keep hB4')
  clear hW4 hR hB4
  have hb4 := Below.then hb3 (Nat.le_refl _) hB4'
  have A4 := A3.keep hB4'
  have X4 := X3.keep hB4'
  have Y4 := Y3.keep hB4'
  have HX4 := Lib.hid (HX3.out.keep hB4')
  have HY4 := Lib.hid (HY3.out.keep hB4')
  have HB4 := Lib.hid hb4
  clear X3 Y3 A3 R3 HX3 HY3 hb3 hB4' hb4 BX3 BY3 BA3
  cases hbx : wholeB x 10
  · clear R3' R4 X4 Y4 A4 C4
    go_wp2
    go_ret
    exact ⟨rfl, HB4.out⟩
  cases hby : lratB y 10
  · clear R3' R4 X4 Y4 A4 C4
    go_wp2
    go_ret
    exact ⟨rfl, HB4.out⟩
  have V1 := Lib.hid (mixV_whole HX4.out hbx)
  have V2 := Lib.hid (mixV_rat HY4.out hby)
  obtain ⟨rA, fA⟩ := R3'.out hbx
  obtain ⟨rC, fC⟩ := R4.out hby
  have RA := Lib.hid rA
  have RC := Lib.hid rC
  have FA := Lib.hid fA
  have FC := Lib.hid fC
  have DX := Lib.hid (show 0 < (Rt.whole x.neg (val W64 x.wf x.wn)).den from Nat.one_pos)
  have DY := Lib.hid (show 0 < (vrt y).den from (numV_rat hby (by omega)).ok.den)
  clear rA rC fA fC hbx hby R3' R4
  cases tn
  · have PL : Placed w W4 w.heap.size (w.heap.size + 1) w3.heap.size w4.heap.size x y sA aA nA cA aB nB cB (Rt.whole x.neg (val W64 x.wf x.wn)) sC aC nC cC aD nD cD (vrt y) 41 := ⟨HB4.out, X4, Y4, A4, C4, HX4.out, HY4.out, RA.out, RC.out⟩
    have DN := Lib.hid (⟨DX.out, DY.out⟩ : 0 < (Rt.whole x.neg (val W64 x.wf x.wn)).den ∧ 0 < (vrt y).den)
    obtain ⟨P1, hP1⟩ : ∃ P1, P1 = (fun (w : World) v => ∃ z, CInt w v z ∧ (Rt.whole x.neg (val W64 x.wf x.wn)) = rz z) := ⟨_, rfl⟩
    obtain ⟨P2, hP2⟩ : ∃ P2, P2 = (fun (w : World) v => CRat w v (vrt y)) := ⟨_, rfl⟩
    have M1 := Lib.hid (show MixV x (Rt.whole x.neg (val W64 x.wf x.wn)) P1 from by rw [hP1]; exact V1.out)
    have M2 := Lib.hid (show MixV y (vrt y) P2 from by rw [hP2]; exact V2.out)
    have MM := Lib.hid (show ∀ w v1 v2, P1 w v1 → P2 w v2 → Mixd w v1 (Rt.whole x.neg (val W64 x.wf x.wn)) v2 (vrt y) from fun w v1 v2 h1 h2 => by rw [hP1] at h1; rw [hP2] at h2; obtain ⟨z, h, e⟩ := h1; exact .inl ⟨z, h, e, h2⟩)
    clear hP1 hP2 X4 Y4 A4 C4 HX4 HY4 RA RC V1 V2
    obtain ⟨W5, hW5⟩ : ∃ W5, W5 = W4 := ⟨_, rfl⟩
    rw [← hW5] at PL ⊢
    clear hW5
    have hop4 : (op : Int) % 4 = ((op % 4 : Nat) : Int) := by have := HOP.out; omega
    go_upto_region 10 with fail
    rw [hop4]
    have hk4 : op % 4 < 4 := Nat.mod_lt _ (by decide)
    have HK4 := Lib.hid hk4
    clear hop4
    generalize op % 4 = k at *
    obtain ⟨pa0, pa1, pa2⟩ := PL.A
    obtain ⟨pc0, pc1, pc2⟩ := PL.C
    go_wp2_with fail
    refine (plus_any sA sC aA nA cA aB nB cB aC nC cC aD nD cD (Rt.whole x.neg (val W64 x.wf x.wn)) (vrt y) 41 _ PL.ra PL.rc DN.out.1 DN.out.2 (by omega)).mono ?_
    rintro e w6 ⟨sM, aM, nM, cM, aN, nN, cN, rfl, hM, hB6⟩
    clear pa0 pa1 pa2 pc0 pc1 pc2
    go_upto_region 11 with fail
    obtain ⟨W7, hW7⟩ : ∃ W7, W7 = w6.alloc (.cells #[.bool sM, .slice aM nM cM, .slice aN nN cN] 31) := ⟨_, rfl⟩
    rw [← hW7]
    have hk7 : Below w6.heap.size w6 W7 := by rw [hW7]; exact Below.alloc' (Below.refl _ _) _
    have M7 : RtBlk W7 w6.heap.size sM aM nM cM aN nN cN := by rw [hW7]; exact RtBlk.new _ _ rfl _ _ _ _ _ _ _
    have RES7 : ResBlk W7 w6.heap.size := by rw [hW7]; exact resBlk_new _ _ _ _ _ _ _ _ _
    have PL7 := PL.keep (Below.then hB6 (Nat.le_refl _) hk7)
    have RM7 := Lib.hid (hM.keep hk7)
    have HS7 := Lib.hid (show W5.heap.size ≤ w6.heap.size from hB6.size)
    have HG7 := Lib.hid (⟨block_lt PL.X.c0, block_lt PL.Y.c0, block_lt PL.A.c0, block_lt PL.C.c0⟩ : w.heap.size < W5.heap.size ∧ w.heap.size + 1 < W5.heap.size ∧ w3.heap.size < W5.heap.size ∧ w4.heap.size < W5.heap.size)
    clear hW7 hk7 hB6 hM PL hk4
    rcases (show k = 0 ∨ k = 1 ∨ k = 2 ∨ k = 3 from by have := HK4.out; omega) with hk | hk | hk | hk
    · have f1 : ((k : Int) == 1) = false := by rw [hk]; rfl
      have f2 : ((k : Int) == 2) = false := by rw [hk]; rfl
      have f3 : ((k : Int) == 3) = false := by rw [hk]; rfl
      have d1 : decide ((k : Int) = 1) = false := by rw [hk]; rfl
      have d2 : decide ((k : Int) = 2) = false := by rw [hk]; rfl
      have d3 : decide ((k : Int) = 3) = false := by rw [hk]; rfl
      have m1 : decide (k = 1) = false := by rw [hk]; rfl
      have m2 : decide (k = 2) = false := by rw [hk]; rfl
      have m3 : decide (k = 3) = false := by rw [hk]; rfl
      have n1 : (k == 1) = false := by rw [hk]; rfl
      have n2 : (k == 2) = false := by rw [hk]; rfl
      have n3 : (k == 3) = false := by rw [hk]; rfl
      have HMX := Lib.hid (show mixZ k (Rt.whole x.neg (val W64 x.wf x.wn)) (vrt y) = Rt.plus (Rt.whole x.neg (val W64 x.wf x.wn)) (vrt y) from by rw [hk]; rfl)
      have H3 := Lib.hid (show k = 3 → 0 < ((vrt y)).num from fun h => by omega)
      clear hk
      have HBW := Lib.hid PL7.bel
      have HXW := Lib.hid PL7.vx
      have HYW := Lib.hid PL7.vy
      have HMW := RM7
      have XW := PL7.X
      have YW := PL7.Y
      clear PL7 RES7
      go_upto_region 20 with fail
      have hd9 : Below W7.heap.size W7 W7.drew := (Below.refl _ _).drew
      go_region_held3 (fun w' => (w'.cell? ⟨w.heap.size, 0, none⟩ = some (.int .i64 x.kind) ∧ w'.cell? ⟨w.heap.size, 1, none⟩ = some (.bool x.truth) ∧ w'.cell? ⟨w.heap.size, 2, none⟩ = some (.string x.text) ∧ w'.cell? ⟨w.heap.size, 3, none⟩ = some (.bool x.neg) ∧ w'.cell? ⟨w.heap.size, 4, none⟩ = some (.slice x.wa x.wn x.wc) ∧ w'.cell? ⟨w.heap.size, 5, none⟩ = some (.slice x.da x.dn x.dc) ∧ w'.cell? ⟨w.heap.size, 6, none⟩ = some (.bool x.ineg) ∧ w'.cell? ⟨w.heap.size, 7, none⟩ = some (.slice x.ia x.inn x.ic) ∧ w'.cell? ⟨w.heap.size, 8, none⟩ = some (.slice x.ea x.en x.ec)) ∧ (w'.cell? ⟨(w.heap.size + 1), 0, none⟩ = some (.int .i64 y.kind) ∧ w'.cell? ⟨(w.heap.size + 1), 1, none⟩ = some (.bool y.truth) ∧ w'.cell? ⟨(w.heap.size + 1), 2, none⟩ = some (.string y.text) ∧ w'.cell? ⟨(w.heap.size + 1), 3, none⟩ = some (.bool y.neg) ∧ w'.cell? ⟨(w.heap.size + 1), 4, none⟩ = some (.slice y.wa y.wn y.wc) ∧ w'.cell? ⟨(w.heap.size + 1), 5, none⟩ = some (.slice y.da y.dn y.dc) ∧ w'.cell? ⟨(w.heap.size + 1), 6, none⟩ = some (.bool y.ineg) ∧ w'.cell? ⟨(w.heap.size + 1), 7, none⟩ = some (.slice y.ia y.inn y.ic) ∧ w'.cell? ⟨(w.heap.size + 1), 8, none⟩ = some (.slice y.ea y.en y.ec)) ∧ (w'.cell? ⟨w6.heap.size, 0, none⟩ = some (.bool sM) ∧ w'.cell? ⟨w6.heap.size, 1, none⟩ = some (.slice aM nM cM) ∧ w'.cell? ⟨w6.heap.size, 2, none⟩ = some (.slice aN nN cN)))
        (first | with_reducible exact ⟨XW.all, YW.all, M7.all⟩ | with_reducible exact ⟨(XW.keep (by assumption)).all, (YW.keep (by assumption)).all, (M7.keep (by assumption)).all⟩)
        (first | (go_at_call 20; (with_reducible refine (implMix_any k HK4.out x y (Rt.whole x.neg (val W64 x.wf x.wn)) (vrt y) P1 P2 _ ?_ ?_ ?_ ?_ M1.out M2.out MM.out H3.out).mono ?_); exact (HT.out.keep HBW.out).keep (by assumption); exact (HDD.out.keep HBW.out).keep (by assumption); exact HXW.out.keep (by assumption); exact HYW.out.keep (by assumption); rintro e w20 ⟨o, rfl, ho, hO, hB20⟩; have hb20 := Below.then hd9 (Nat.le_refl _) hB20; rw [HMX.out] at hO) | (go_at_call 28; (with_reducible refine (isReal_any o sM aM nM cM aN nN cN (Rt.plus (Rt.whole x.neg (val W64 x.wf x.wn)) (vrt y)) 83 _ ho ?_ ?_ ?_ ?_).mono ?_); exact HMW.out.keep hb20; omega; exact Nat.le_trans hO.2.2.1 (by omega); exact Nat.le_trans hO.2.2.2 (by omega); rintro e w21 ⟨rfl, hB21⟩; have hb21 := Below.then hb20 (Nat.le_refl _) hB21; rw [isN_same (.inr hO)]))
      go_wp2
      go_ret
      exact ⟨rfl, Below.then HBW.out (Nat.le_refl _) hb21⟩
    · have f1 : ((k : Int) == 1) = true := by rw [hk]; rfl
      have f2 : ((k : Int) == 2) = false := by rw [hk]; rfl
      have f3 : ((k : Int) == 3) = false := by rw [hk]; rfl
      have d1 : decide ((k : Int) = 1) = true := by rw [hk]; rfl
      have d2 : decide ((k : Int) = 2) = false := by rw [hk]; rfl
      have d3 : decide ((k : Int) = 3) = false := by rw [hk]; rfl
      have m1 : decide (k = 1) = true := by rw [hk]; rfl
      have m2 : decide (k = 2) = false := by rw [hk]; rfl
      have m3 : decide (k = 3) = false := by rw [hk]; rfl
      have n1 : (k == 1) = true := by rw [hk]; rfl
      have n2 : (k == 2) = false := by rw [hk]; rfl
      have n3 : (k == 3) = false := by rw [hk]; rfl
      have HMX := Lib.hid (show mixZ k (Rt.whole x.neg (val W64 x.wf x.wn)) (vrt y) = Rt.minus (Rt.whole x.neg (val W64 x.wf x.wn)) (vrt y) from by rw [hk]; rfl)
      have H3 := Lib.hid (show k = 3 → 0 < ((vrt y)).num from fun h => by omega)
      clear hk
      obtain ⟨pa0, pa1, pa2⟩ := PL7.A
      obtain ⟨pc0, pc1, pc2⟩ := PL7.C
      go_wp2_with fail
      refine (minus_any sA sC aA nA cA aB nB cB aC nC cC aD nD cD (Rt.whole x.neg (val W64 x.wf x.wn)) (vrt y) 41 _ PL7.ra PL7.rc DN.out.1 DN.out.2 (by omega)).mono ?_
      rintro e w8 ⟨sP, aP, nP, cP, aQ, nQ, cQ, rfl, hP, hB8⟩
      have HM8 := Lib.hid hP
      clear pa0 pa1 pa2 pc0 pc1 pc2 hP
      have RV := RES7.below RES7.lt (hB8)
      obtain ⟨⟨u0, r0⟩, ⟨u1, r1⟩, ⟨u2, r2⟩⟩ := RV.cells
      have f0 := RV.frozen 0
      have f1_ := RV.frozen 1
      have f2_ := RV.frozen 2
      have PL8 := PL7.keep (hB8)
      have HRV := Lib.hid RV
      have HP8 := Lib.hid PL8
      clear PL7 RES7 M7
      go_upto_region 20 with fail
      obtain ⟨W9, hW9⟩ : ∃ W9, W9 = ((w8.setCell ⟨w6.heap.size, 0, none⟩ (.bool sP)).setCell ⟨w6.heap.size, 1, none⟩ (.slice aP nP cP)).setCell ⟨w6.heap.size, 2, none⟩ (.slice aQ nQ cQ) := ⟨_, rfl⟩
      rw [← hW9]
      have hne1 : w.heap.size ≠ w6.heap.size := by have := HG7.out.1; have := HS7.out; omega
      have hne2 : w.heap.size + 1 ≠ w6.heap.size := by have := HG7.out.2.1; have := HS7.out; omega
      have hle : w.heap.size ≤ w6.heap.size := by have := HG7.out.1; have := HS7.out; omega
      have M9 : RtBlk W9 w6.heap.size sP aP nP cP aQ nQ cQ := by rw [hW9]; exact rtBlk_stored HRV.out _ _ _ _ _ _ _
      have XW : Box9 W9 w.heap.size x := by rw [hW9]; exact ((HP8.out.X.setOther hne1 _ _).setOther hne1 _ _).setOther hne1 _ _
      have YW : Box9 W9 (w.heap.size + 1) y := by rw [hW9]; exact ((HP8.out.Y.setOther hne2 _ _).setOther hne2 _ _).setOther hne2 _ _
      have hU9 : Upd (· = w6.heap.size) w8 W9 := by
        rw [hW9]
        iterate 3 refine Upd.setCell ?_ (by exact rfl) _
        exact Upd.refl _ _
      have hN9 : ∀ k, k = w6.heap.size → NoU w8 k := fun k e o z h => by subst e; exact HRV.out.noInt o _ _ h
      have HXW := Lib.hid (vlAt_upd HP8.out.vx hU9 hN9)
      have HYW := Lib.hid (vlAt_upd HP8.out.vy hU9 hN9)
      have HMW := Lib.hid (show RtAt W9 sP aP nP cP aQ nQ cQ (Rt.minus (Rt.whole x.neg (val W64 x.wf x.wn)) (vrt y)) 83 from by rw [hW9]; exact stored3 HRV.out HM8.out)
      have HBW := Lib.hid (show Below w.heap.size w W9 from by rw [hW9]; exact ((HP8.out.bel.setCell hle _).setCell hle _).setCell hle _)
      clear hW9 hU9 hN9 hne1 hne2 hle u0 r0 u1 r1 u2 r2 f0 f1_ f2_ RV PL8
      have hd9 : Below W9.heap.size W9 W9.drew := (Below.refl _ _).drew
      go_region_held3 (fun w' => (w'.cell? ⟨w.heap.size, 0, none⟩ = some (.int .i64 x.kind) ∧ w'.cell? ⟨w.heap.size, 1, none⟩ = some (.bool x.truth) ∧ w'.cell? ⟨w.heap.size, 2, none⟩ = some (.string x.text) ∧ w'.cell? ⟨w.heap.size, 3, none⟩ = some (.bool x.neg) ∧ w'.cell? ⟨w.heap.size, 4, none⟩ = some (.slice x.wa x.wn x.wc) ∧ w'.cell? ⟨w.heap.size, 5, none⟩ = some (.slice x.da x.dn x.dc) ∧ w'.cell? ⟨w.heap.size, 6, none⟩ = some (.bool x.ineg) ∧ w'.cell? ⟨w.heap.size, 7, none⟩ = some (.slice x.ia x.inn x.ic) ∧ w'.cell? ⟨w.heap.size, 8, none⟩ = some (.slice x.ea x.en x.ec)) ∧ (w'.cell? ⟨(w.heap.size + 1), 0, none⟩ = some (.int .i64 y.kind) ∧ w'.cell? ⟨(w.heap.size + 1), 1, none⟩ = some (.bool y.truth) ∧ w'.cell? ⟨(w.heap.size + 1), 2, none⟩ = some (.string y.text) ∧ w'.cell? ⟨(w.heap.size + 1), 3, none⟩ = some (.bool y.neg) ∧ w'.cell? ⟨(w.heap.size + 1), 4, none⟩ = some (.slice y.wa y.wn y.wc) ∧ w'.cell? ⟨(w.heap.size + 1), 5, none⟩ = some (.slice y.da y.dn y.dc) ∧ w'.cell? ⟨(w.heap.size + 1), 6, none⟩ = some (.bool y.ineg) ∧ w'.cell? ⟨(w.heap.size + 1), 7, none⟩ = some (.slice y.ia y.inn y.ic) ∧ w'.cell? ⟨(w.heap.size + 1), 8, none⟩ = some (.slice y.ea y.en y.ec)) ∧ (w'.cell? ⟨w6.heap.size, 0, none⟩ = some (.bool sP) ∧ w'.cell? ⟨w6.heap.size, 1, none⟩ = some (.slice aP nP cP) ∧ w'.cell? ⟨w6.heap.size, 2, none⟩ = some (.slice aQ nQ cQ)))
        (first | with_reducible exact ⟨XW.all, YW.all, M9.all⟩ | with_reducible exact ⟨(XW.keep (by assumption)).all, (YW.keep (by assumption)).all, (M9.keep (by assumption)).all⟩)
        (first | (go_at_call 20; (with_reducible refine (implMix_any k HK4.out x y (Rt.whole x.neg (val W64 x.wf x.wn)) (vrt y) P1 P2 _ ?_ ?_ ?_ ?_ M1.out M2.out MM.out H3.out).mono ?_); exact (HT.out.keep HBW.out).keep (by assumption); exact (HDD.out.keep HBW.out).keep (by assumption); exact HXW.out.keep (by assumption); exact HYW.out.keep (by assumption); rintro e w20 ⟨o, rfl, ho, hO, hB20⟩; have hb20 := Below.then hd9 (Nat.le_refl _) hB20; rw [HMX.out] at hO) | (go_at_call 28; (with_reducible refine (isReal_any o sP aP nP cP aQ nQ cQ (Rt.minus (Rt.whole x.neg (val W64 x.wf x.wn)) (vrt y)) 83 _ ho ?_ ?_ ?_ ?_).mono ?_); exact HMW.out.keep hb20; omega; exact Nat.le_trans hO.2.2.1 (by omega); exact Nat.le_trans hO.2.2.2 (by omega); rintro e w21 ⟨rfl, hB21⟩; have hb21 := Below.then hb20 (Nat.le_refl _) hB21; rw [isN_same (.inr hO)]))
      go_wp2
      go_ret
      exact ⟨rfl, Below.then HBW.out (Nat.le_refl _) hb21⟩
    · have f1 : ((k : Int) == 1) = false := by rw [hk]; rfl
      have f2 : ((k : Int) == 2) = true := by rw [hk]; rfl
      have f3 : ((k : Int) == 3) = false := by rw [hk]; rfl
      have d1 : decide ((k : Int) = 1) = false := by rw [hk]; rfl
      have d2 : decide ((k : Int) = 2) = true := by rw [hk]; rfl
      have d3 : decide ((k : Int) = 3) = false := by rw [hk]; rfl
      have m1 : decide (k = 1) = false := by rw [hk]; rfl
      have m2 : decide (k = 2) = true := by rw [hk]; rfl
      have m3 : decide (k = 3) = false := by rw [hk]; rfl
      have n1 : (k == 1) = false := by rw [hk]; rfl
      have n2 : (k == 2) = true := by rw [hk]; rfl
      have n3 : (k == 3) = false := by rw [hk]; rfl
      have HMX := Lib.hid (show mixZ k (Rt.whole x.neg (val W64 x.wf x.wn)) (vrt y) = Rt.times (Rt.whole x.neg (val W64 x.wf x.wn)) (vrt y) from by rw [hk]; rfl)
      have H3 := Lib.hid (show k = 3 → 0 < ((vrt y)).num from fun h => by omega)
      clear hk
      obtain ⟨pa0, pa1, pa2⟩ := PL7.A
      obtain ⟨pc0, pc1, pc2⟩ := PL7.C
      go_wp2_with fail
      refine (times_any sA sC aA nA cA aB nB cB aC nC cC aD nD cD (Rt.whole x.neg (val W64 x.wf x.wn)) (vrt y) 41 _ PL7.ra PL7.rc DN.out.1 DN.out.2 (by omega)).mono ?_
      rintro e w8 ⟨sP, aP, nP, cP, aQ, nQ, cQ, rfl, hP, hB8⟩
      have HM8 := Lib.hid hP
      clear pa0 pa1 pa2 pc0 pc1 pc2 hP
      have RV := RES7.below RES7.lt (hB8)
      obtain ⟨⟨u0, r0⟩, ⟨u1, r1⟩, ⟨u2, r2⟩⟩ := RV.cells
      have f0 := RV.frozen 0
      have f1_ := RV.frozen 1
      have f2_ := RV.frozen 2
      have PL8 := PL7.keep (hB8)
      have HRV := Lib.hid RV
      have HP8 := Lib.hid PL8
      clear PL7 RES7 M7
      go_upto_region 20 with fail
      obtain ⟨W9, hW9⟩ : ∃ W9, W9 = ((w8.setCell ⟨w6.heap.size, 0, none⟩ (.bool sP)).setCell ⟨w6.heap.size, 1, none⟩ (.slice aP nP cP)).setCell ⟨w6.heap.size, 2, none⟩ (.slice aQ nQ cQ) := ⟨_, rfl⟩
      rw [← hW9]
      have hne1 : w.heap.size ≠ w6.heap.size := by have := HG7.out.1; have := HS7.out; omega
      have hne2 : w.heap.size + 1 ≠ w6.heap.size := by have := HG7.out.2.1; have := HS7.out; omega
      have hle : w.heap.size ≤ w6.heap.size := by have := HG7.out.1; have := HS7.out; omega
      have M9 : RtBlk W9 w6.heap.size sP aP nP cP aQ nQ cQ := by rw [hW9]; exact rtBlk_stored HRV.out _ _ _ _ _ _ _
      have XW : Box9 W9 w.heap.size x := by rw [hW9]; exact ((HP8.out.X.setOther hne1 _ _).setOther hne1 _ _).setOther hne1 _ _
      have YW : Box9 W9 (w.heap.size + 1) y := by rw [hW9]; exact ((HP8.out.Y.setOther hne2 _ _).setOther hne2 _ _).setOther hne2 _ _
      have hU9 : Upd (· = w6.heap.size) w8 W9 := by
        rw [hW9]
        iterate 3 refine Upd.setCell ?_ (by exact rfl) _
        exact Upd.refl _ _
      have hN9 : ∀ k, k = w6.heap.size → NoU w8 k := fun k e o z h => by subst e; exact HRV.out.noInt o _ _ h
      have HXW := Lib.hid (vlAt_upd HP8.out.vx hU9 hN9)
      have HYW := Lib.hid (vlAt_upd HP8.out.vy hU9 hN9)
      have HMW := Lib.hid (show RtAt W9 sP aP nP cP aQ nQ cQ (Rt.times (Rt.whole x.neg (val W64 x.wf x.wn)) (vrt y)) 82 from by rw [hW9]; exact stored3 HRV.out HM8.out)
      have HBW := Lib.hid (show Below w.heap.size w W9 from by rw [hW9]; exact ((HP8.out.bel.setCell hle _).setCell hle _).setCell hle _)
      clear hW9 hU9 hN9 hne1 hne2 hle u0 r0 u1 r1 u2 r2 f0 f1_ f2_ RV PL8
      have hd9 : Below W9.heap.size W9 W9.drew := (Below.refl _ _).drew
      go_region_held3 (fun w' => (w'.cell? ⟨w.heap.size, 0, none⟩ = some (.int .i64 x.kind) ∧ w'.cell? ⟨w.heap.size, 1, none⟩ = some (.bool x.truth) ∧ w'.cell? ⟨w.heap.size, 2, none⟩ = some (.string x.text) ∧ w'.cell? ⟨w.heap.size, 3, none⟩ = some (.bool x.neg) ∧ w'.cell? ⟨w.heap.size, 4, none⟩ = some (.slice x.wa x.wn x.wc) ∧ w'.cell? ⟨w.heap.size, 5, none⟩ = some (.slice x.da x.dn x.dc) ∧ w'.cell? ⟨w.heap.size, 6, none⟩ = some (.bool x.ineg) ∧ w'.cell? ⟨w.heap.size, 7, none⟩ = some (.slice x.ia x.inn x.ic) ∧ w'.cell? ⟨w.heap.size, 8, none⟩ = some (.slice x.ea x.en x.ec)) ∧ (w'.cell? ⟨(w.heap.size + 1), 0, none⟩ = some (.int .i64 y.kind) ∧ w'.cell? ⟨(w.heap.size + 1), 1, none⟩ = some (.bool y.truth) ∧ w'.cell? ⟨(w.heap.size + 1), 2, none⟩ = some (.string y.text) ∧ w'.cell? ⟨(w.heap.size + 1), 3, none⟩ = some (.bool y.neg) ∧ w'.cell? ⟨(w.heap.size + 1), 4, none⟩ = some (.slice y.wa y.wn y.wc) ∧ w'.cell? ⟨(w.heap.size + 1), 5, none⟩ = some (.slice y.da y.dn y.dc) ∧ w'.cell? ⟨(w.heap.size + 1), 6, none⟩ = some (.bool y.ineg) ∧ w'.cell? ⟨(w.heap.size + 1), 7, none⟩ = some (.slice y.ia y.inn y.ic) ∧ w'.cell? ⟨(w.heap.size + 1), 8, none⟩ = some (.slice y.ea y.en y.ec)) ∧ (w'.cell? ⟨w6.heap.size, 0, none⟩ = some (.bool sP) ∧ w'.cell? ⟨w6.heap.size, 1, none⟩ = some (.slice aP nP cP) ∧ w'.cell? ⟨w6.heap.size, 2, none⟩ = some (.slice aQ nQ cQ)))
        (first | with_reducible exact ⟨XW.all, YW.all, M9.all⟩ | with_reducible exact ⟨(XW.keep (by assumption)).all, (YW.keep (by assumption)).all, (M9.keep (by assumption)).all⟩)
        (first | (go_at_call 20; (with_reducible refine (implMix_any k HK4.out x y (Rt.whole x.neg (val W64 x.wf x.wn)) (vrt y) P1 P2 _ ?_ ?_ ?_ ?_ M1.out M2.out MM.out H3.out).mono ?_); exact (HT.out.keep HBW.out).keep (by assumption); exact (HDD.out.keep HBW.out).keep (by assumption); exact HXW.out.keep (by assumption); exact HYW.out.keep (by assumption); rintro e w20 ⟨o, rfl, ho, hO, hB20⟩; have hb20 := Below.then hd9 (Nat.le_refl _) hB20; rw [HMX.out] at hO) | (go_at_call 28; (with_reducible refine (isReal_any o sP aP nP cP aQ nQ cQ (Rt.times (Rt.whole x.neg (val W64 x.wf x.wn)) (vrt y)) 82 _ ho ?_ ?_ ?_ ?_).mono ?_); exact HMW.out.keep hb20; omega; exact Nat.le_trans hO.2.2.1 (by omega); exact Nat.le_trans hO.2.2.2 (by omega); rintro e w21 ⟨rfl, hB21⟩; have hb21 := Below.then hb20 (Nat.le_refl _) hB21; rw [isN_same (.inr hO)]))
      go_wp2
      go_ret
      exact ⟨rfl, Below.then HBW.out (Nat.le_refl _) hb21⟩
    · have f1 : ((k : Int) == 1) = false := by rw [hk]; rfl
      have f2 : ((k : Int) == 2) = false := by rw [hk]; rfl
      have f3 : ((k : Int) == 3) = true := by rw [hk]; rfl
      have d1 : decide ((k : Int) = 1) = false := by rw [hk]; rfl
      have d2 : decide ((k : Int) = 2) = false := by rw [hk]; rfl
      have d3 : decide ((k : Int) = 3) = true := by rw [hk]; rfl
      have m1 : decide (k = 1) = false := by rw [hk]; rfl
      have m2 : decide (k = 2) = false := by rw [hk]; rfl
      have m3 : decide (k = 3) = true := by rw [hk]; rfl
      have n1 : (k == 1) = false := by rw [hk]; rfl
      have n2 : (k == 2) = false := by rw [hk]; rfl
      have n3 : (k == 3) = true := by rw [hk]; rfl
      have HMX := Lib.hid (show mixZ k (Rt.whole x.neg (val W64 x.wf x.wn)) (vrt y) = Rt.times (Rt.whole x.neg (val W64 x.wf x.wn)) ((vrt y)).upside from by rw [hk]; rfl)
      clear hk
      obtain ⟨pc0, pc1, pc2⟩ := PL7.C
      go_wp2_with fail
      refine (signOf_any sC aC nC cC aD nD cD 41 (vrt y) _ PL7.rc (by omega)).mono ?_
      rintro e w8 ⟨rfl, hB8⟩
      have PL8 := PL7.keep hB8
      have RES8 := RES7.below RES7.lt hB8
      clear pc0 pc1 pc2 PL7 RES7 M7
      obtain ⟨v, hv⟩ : ∃ v, v = ((vrt y)).signOf := ⟨_, rfl⟩
      rw [← hv]
      have HV := Lib.hid hv
      clear hv
      by_cases hv0 : v = 0
      · subst hv0
        go_wp2
        go_ret
        exact ⟨rfl, PL8.bel⟩
      · have H3 := Lib.hid (show k = 3 → 0 < ((vrt y)).num from fun _ => signOf_pos (by rw [← HV.out]; exact hv0))
        have HP0 := Lib.hid (show 0 < ((vrt y)).num from signOf_pos (by rw [← HV.out]; exact hv0))
        have hv1 : v = 1 ∨ v = -1 := by rw [HV.out]; exact signOf_one (by rw [← HV.out]; exact hv0)
        clear hv0 HV
        have PA := PL8.A
        have PC := PL8.C
        have HRA := Lib.hid PL8.ra
        have HRC := Lib.hid PL8.rc
        have HP8 := Lib.hid PL8
        have HR8 := Lib.hid RES8
        have hs1 : w3.heap.size < w6.heap.size := by have := HG7.out.2.2.1; have := HS7.out; omega
        have hs2 : w4.heap.size < w6.heap.size := by have := HG7.out.2.2.2; have := HS7.out; omega
        clear PL8 RES8
        have hd0 : Below w8.heap.size w8 w8.drew := (Below.refl _ _).drew
        rcases hv1 with rfl | rfl
        all_goals
          go_upto_region 19 with fail
          go_region_held3 (fun w' => (w'.cell? ⟨w3.heap.size, 0, none⟩ = some (.bool sA) ∧ w'.cell? ⟨w3.heap.size, 1, none⟩ = some (.slice aA nA cA) ∧ w'.cell? ⟨w3.heap.size, 2, none⟩ = some (.slice aB nB cB)) ∧ (w'.cell? ⟨w4.heap.size, 0, none⟩ = some (.bool sC) ∧ w'.cell? ⟨w4.heap.size, 1, none⟩ = some (.slice aC nC cC) ∧ w'.cell? ⟨w4.heap.size, 2, none⟩ = some (.slice aD nD cD)))
            (first | with_reducible exact ⟨PA.all, PC.all⟩ | with_reducible exact ⟨(PA.keep (by assumption)).all, (PC.keep (by assumption)).all⟩ | with_reducible exact ⟨(rtBlk_set3m (PA.keep (by assumption)) (by omega) _ _ _).all, (rtBlk_set3m (PC.keep (by assumption)) (by omega) _ _ _).all⟩)
            (first | (go_at_call 27; (with_reducible refine (upside_any sC aC nC cC aD nD cD 41 (vrt y) _ ?_).mono ?_); exact HRC.out.keep (by assumption); rintro e w10 ⟨sU, aU, nU, cU, aV, nV, cV, rfl, hU, hB10⟩; have hb10 := Below.then hd0 (Nat.le_refl _) hB10) | (go_at_call 23; (with_reducible refine (times_any sA sU aA nA cA aB nB cB aU nU cU aV nV cV (Rt.whole x.neg (val W64 x.wf x.wn)) ((vrt y)).upside 41 _ ?_ ?_ DN.out.1 ?_ ?_).mono ?_); exact HRA.out.keep (by assumption); exact hU; exact HP0.out; omega; rintro e w11 ⟨sP, aP, nP, cP, aQ, nQ, cQ, rfl, hP, hB11⟩; have hb11 := Below.then hb10 (Nat.le_refl _) hB11; have RV := HR8.out.below HR8.out.lt hb11; obtain ⟨⟨u0, r0⟩, ⟨u1, r1⟩, ⟨u2, r2⟩⟩ := RV.cells; have f0 := RV.frozen 0; have f1_ := RV.frozen 1; have f2_ := RV.frozen 2))
          have HM8 := Lib.hid hP
          have RV := HR8.out.below HR8.out.lt hb11
          have RES7 := HR8.out
          have PL7 := HP8.out
          have M7 := trivial
          clear PA PC hP hB10 hB11 hU hb10 hs1 hs2 RV u0 r0 u1 r1 u2 r2 f0 f1_ f2_
          have RV := RES7.below RES7.lt (hb11)
          obtain ⟨⟨u0, r0⟩, ⟨u1, r1⟩, ⟨u2, r2⟩⟩ := RV.cells
          have f0 := RV.frozen 0
          have f1_ := RV.frozen 1
          have f2_ := RV.frozen 2
          have PL8 := PL7.keep (hb11)
          have HRV := Lib.hid RV
          have HP8 := Lib.hid PL8
          clear PL7 RES7 M7
          go_upto_region 20 with fail
          obtain ⟨W9, hW9⟩ : ∃ W9, W9 = ((w11.setCell ⟨w6.heap.size, 0, none⟩ (.bool sP)).setCell ⟨w6.heap.size, 1, none⟩ (.slice aP nP cP)).setCell ⟨w6.heap.size, 2, none⟩ (.slice aQ nQ cQ) := ⟨_, rfl⟩
          rw [← hW9]
          have hne1 : w.heap.size ≠ w6.heap.size := by have := HG7.out.1; have := HS7.out; omega
          have hne2 : w.heap.size + 1 ≠ w6.heap.size := by have := HG7.out.2.1; have := HS7.out; omega
          have hle : w.heap.size ≤ w6.heap.size := by have := HG7.out.1; have := HS7.out; omega
          have M9 : RtBlk W9 w6.heap.size sP aP nP cP aQ nQ cQ := by rw [hW9]; exact rtBlk_stored HRV.out _ _ _ _ _ _ _
          have XW : Box9 W9 w.heap.size x := by rw [hW9]; exact ((HP8.out.X.setOther hne1 _ _).setOther hne1 _ _).setOther hne1 _ _
          have YW : Box9 W9 (w.heap.size + 1) y := by rw [hW9]; exact ((HP8.out.Y.setOther hne2 _ _).setOther hne2 _ _).setOther hne2 _ _
          have hU9 : Upd (· = w6.heap.size) w11 W9 := by
            rw [hW9]
            iterate 3 refine Upd.setCell ?_ (by exact rfl) _
            exact Upd.refl _ _
          have hN9 : ∀ k, k = w6.heap.size → NoU w11 k := fun k e o z h => by subst e; exact HRV.out.noInt o _ _ h
          have HXW := Lib.hid (vlAt_upd HP8.out.vx hU9 hN9)
          have HYW := Lib.hid (vlAt_upd HP8.out.vy hU9 hN9)
          have HMW := Lib.hid (show RtAt W9 sP aP nP cP aQ nQ cQ (Rt.times (Rt.whole x.neg (val W64 x.wf x.wn)) ((vrt y)).upside) 82 from by rw [hW9]; exact stored3 HRV.out HM8.out)
          have HBW := Lib.hid (show Below w.heap.size w W9 from by rw [hW9]; exact ((HP8.out.bel.setCell hle _).setCell hle _).setCell hle _)
          clear hW9 hU9 hN9 hne1 hne2 hle u0 r0 u1 r1 u2 r2 f0 f1_ f2_ RV PL8
          have hd9 : Below W9.heap.size W9 W9.drew := (Below.refl _ _).drew
          go_region_held3 (fun w' => (w'.cell? ⟨w.heap.size, 0, none⟩ = some (.int .i64 x.kind) ∧ w'.cell? ⟨w.heap.size, 1, none⟩ = some (.bool x.truth) ∧ w'.cell? ⟨w.heap.size, 2, none⟩ = some (.string x.text) ∧ w'.cell? ⟨w.heap.size, 3, none⟩ = some (.bool x.neg) ∧ w'.cell? ⟨w.heap.size, 4, none⟩ = some (.slice x.wa x.wn x.wc) ∧ w'.cell? ⟨w.heap.size, 5, none⟩ = some (.slice x.da x.dn x.dc) ∧ w'.cell? ⟨w.heap.size, 6, none⟩ = some (.bool x.ineg) ∧ w'.cell? ⟨w.heap.size, 7, none⟩ = some (.slice x.ia x.inn x.ic) ∧ w'.cell? ⟨w.heap.size, 8, none⟩ = some (.slice x.ea x.en x.ec)) ∧ (w'.cell? ⟨(w.heap.size + 1), 0, none⟩ = some (.int .i64 y.kind) ∧ w'.cell? ⟨(w.heap.size + 1), 1, none⟩ = some (.bool y.truth) ∧ w'.cell? ⟨(w.heap.size + 1), 2, none⟩ = some (.string y.text) ∧ w'.cell? ⟨(w.heap.size + 1), 3, none⟩ = some (.bool y.neg) ∧ w'.cell? ⟨(w.heap.size + 1), 4, none⟩ = some (.slice y.wa y.wn y.wc) ∧ w'.cell? ⟨(w.heap.size + 1), 5, none⟩ = some (.slice y.da y.dn y.dc) ∧ w'.cell? ⟨(w.heap.size + 1), 6, none⟩ = some (.bool y.ineg) ∧ w'.cell? ⟨(w.heap.size + 1), 7, none⟩ = some (.slice y.ia y.inn y.ic) ∧ w'.cell? ⟨(w.heap.size + 1), 8, none⟩ = some (.slice y.ea y.en y.ec)) ∧ (w'.cell? ⟨w6.heap.size, 0, none⟩ = some (.bool sP) ∧ w'.cell? ⟨w6.heap.size, 1, none⟩ = some (.slice aP nP cP) ∧ w'.cell? ⟨w6.heap.size, 2, none⟩ = some (.slice aQ nQ cQ)))
            (first | with_reducible exact ⟨XW.all, YW.all, M9.all⟩ | with_reducible exact ⟨(XW.keep (by assumption)).all, (YW.keep (by assumption)).all, (M9.keep (by assumption)).all⟩)
            (first | (go_at_call 20; (with_reducible refine (implMix_any k HK4.out x y (Rt.whole x.neg (val W64 x.wf x.wn)) (vrt y) P1 P2 _ ?_ ?_ ?_ ?_ M1.out M2.out MM.out H3.out).mono ?_); exact (HT.out.keep HBW.out).keep (by assumption); exact (HDD.out.keep HBW.out).keep (by assumption); exact HXW.out.keep (by assumption); exact HYW.out.keep (by assumption); rintro e w20 ⟨o, rfl, ho, hO, hB20⟩; have hb20 := Below.then hd9 (Nat.le_refl _) hB20; rw [HMX.out] at hO) | (go_at_call 28; (with_reducible refine (isReal_any o sP aP nP cP aQ nQ cQ (Rt.times (Rt.whole x.neg (val W64 x.wf x.wn)) ((vrt y)).upside) 82 _ ho ?_ ?_ ?_ ?_).mono ?_); exact HMW.out.keep hb20; omega; exact Nat.le_trans hO.2.2.1 (by omega); exact Nat.le_trans hO.2.2.2 (by omega); rintro e w21 ⟨rfl, hB21⟩; have hb21 := Below.then hb20 (Nat.le_refl _) hB21; rw [isN_same (.inr hO)]))
          go_wp2
          go_ret
          exact ⟨rfl, Below.then HBW.out (Nat.le_refl _) hb21⟩
  · obtain ⟨W5, hW5⟩ : ∃ W5, W5 = (((((((((((((((((((((((((W4.setCell ⟨w.heap.size, 0, none⟩ (.int .i64 y.kind)).setCell ⟨w.heap.size, 1, none⟩ (.bool y.truth)).setCell ⟨w.heap.size, 2, none⟩ (.string y.text)).setCell ⟨w.heap.size, 3, none⟩ (.bool y.neg)).setCell ⟨w.heap.size, 4, none⟩ (.slice y.wa y.wn y.wc)).setCell ⟨w.heap.size, 5, none⟩ (.slice y.da y.dn y.dc)).setCell ⟨w.heap.size, 6, none⟩ (.bool y.ineg)).setCell ⟨w.heap.size, 7, none⟩ (.slice y.ia y.inn y.ic)).setCell ⟨w.heap.size, 8, none⟩ (.slice y.ea y.en y.ec)).setCell ⟨(w.heap.size + 1), 0, none⟩ (.int .i64 x.kind)).setCell ⟨(w.heap.size + 1), 1, none⟩ (.bool x.truth)).setCell ⟨(w.heap.size + 1), 2, none⟩ (.string x.text)).setCell ⟨(w.heap.size + 1), 3, none⟩ (.bool x.neg)).setCell ⟨(w.heap.size + 1), 4, none⟩ (.slice x.wa x.wn x.wc)).setCell ⟨(w.heap.size + 1), 5, none⟩ (.slice x.da x.dn x.dc)).setCell ⟨(w.heap.size + 1), 6, none⟩ (.bool x.ineg)).setCell ⟨(w.heap.size + 1), 7, none⟩ (.slice x.ia x.inn x.ic)).setCell ⟨(w.heap.size + 1), 8, none⟩ (.slice x.ea x.en x.ec)).setCell ⟨w3.heap.size, 0, none⟩ (.bool sC)).setCell ⟨w3.heap.size, 1, none⟩ (.slice aC nC cC)).setCell ⟨w3.heap.size, 2, none⟩ (.slice aD nD cD)).setCell ⟨w4.heap.size, 0, none⟩ (.bool sA)).setCell ⟨w4.heap.size, 1, none⟩ (.slice aA nA cA)).setCell ⟨w4.heap.size, 2, none⟩ (.slice aB nB cB))).drew := ⟨_, rfl⟩
    have hs2 := HS2.out
    have hs3 := HS3.out
    have hs4 := HS4.out
    have PL : Placed w W5 w.heap.size (w.heap.size + 1) w3.heap.size w4.heap.size y x sC aC nC cC aD nD cD (vrt y) sA aA nA cA aB nB cB (Rt.whole x.neg (val W64 x.wf x.wn)) 41 := by
      rw [hW5]
      exact (swapped HB4.out BX4.out BY4.out BA4.out BC4.out (by omega) (by omega) (by omega) (by omega) (by omega) (by omega) (Nat.le_refl _) (Nat.le_add_right _ 1) (by omega) (by omega) HX4.out HY4.out RA.out RC.out FA.out FC.out (by omega) (by omega)).keep (Below.refl _ _).drew
    have HPL := Lib.hid PL
    clear PL
    have hx4 := X4
    have xf0 := (BX4.out).frozen 0; have xf1 := (BX4.out).frozen 1; have xf2 := (BX4.out).frozen 2; have xf3 := (BX4.out).frozen 3; have xf4 := (BX4.out).frozen 4; have xf5 := (BX4.out).frozen 5; have xf6 := (BX4.out).frozen 6; have xf7 := (BX4.out).frozen 7; have xf8 := (BX4.out).frozen 8
    have yf0 := (BY4.out).frozen 0; have yf1 := (BY4.out).frozen 1; have yf2 := (BY4.out).frozen 2; have yf3 := (BY4.out).frozen 3; have yf4 := (BY4.out).frozen 4; have yf5 := (BY4.out).frozen 5; have yf6 := (BY4.out).frozen 6; have yf7 := (BY4.out).frozen 7; have yf8 := (BY4.out).frozen 8
    have af0 := BA4.out.frozen 0
    have af1 := BA4.out.frozen 1
    have af2 := BA4.out.frozen 2
    have cf0 := BC4.out.frozen 0
    have cf1 := BC4.out.frozen 1
    have cf2 := BC4.out.frozen 2
    obtain ⟨xc0, xc1, xc2, xc3, xc4, xc5, xc6, xc7, xc8⟩ := (X4).all
    obtain ⟨yc0, yc1, yc2, yc3, yc4, yc5, yc6, yc7, yc8⟩ := (Y4).all
    obtain ⟨pa0, pa1, pa2⟩ := A4
    obtain ⟨pc0, pc1, pc2⟩ := C4
    have HW5 := Lib.hid hW5
    clear hW5 hx4
    go_upto_region 8 with fail
    go_region
    all_goals
      go_upto_region 9 with fail
      rw [← HW5.out]
      clear xf0 xf1 xf2 xf3 xf4 xf5 xf6 xf7 xf8 yf0 yf1 yf2 yf3 yf4 yf5 yf6 yf7 yf8 af0 af1 af2 cf0 cf1 cf2 xc0 xc1 xc2 xc3 xc4 xc5 xc6 xc7 xc8 yc0 yc1 yc2 yc3 yc4 yc5 yc6 yc7 yc8 pa0 pa1 pa2 pc0 pc1 pc2 hs2 hs3 hs4 HW5
      have PL := HPL.out
      have DN := Lib.hid (⟨DY.out, DX.out⟩ : 0 < (vrt y).den ∧ 0 < (Rt.whole x.neg (val W64 x.wf x.wn)).den)
      obtain ⟨P2, hP2⟩ : ∃ P2, P2 = (fun (w : World) v => ∃ z, CInt w v z ∧ (Rt.whole x.neg (val W64 x.wf x.wn)) = rz z) := ⟨_, rfl⟩
      obtain ⟨P1, hP1⟩ : ∃ P1, P1 = (fun (w : World) v => CRat w v (vrt y)) := ⟨_, rfl⟩
      have M2 := Lib.hid (show MixV x (Rt.whole x.neg (val W64 x.wf x.wn)) P2 from by rw [hP2]; exact V1.out)
      have M1 := Lib.hid (show MixV y (vrt y) P1 from by rw [hP1]; exact V2.out)
      have MM := Lib.hid (show ∀ w v1 v2, P1 w v1 → P2 w v2 → Mixd w v1 (vrt y) v2 (Rt.whole x.neg (val W64 x.wf x.wn)) from fun w v1 v2 h1 h2 => by rw [hP1] at h1; rw [hP2] at h2; obtain ⟨z, h, e⟩ := h2; exact .inr ⟨h1, z, h, e⟩)
      clear hP1 hP2 HX4 HY4 RA RC V1 V2 HPL
      have hop4 : (op : Int) % 4 = ((op % 4 : Nat) : Int) := by have := HOP.out; omega
      go_upto_region 10 with fail
      rw [hop4]
      have hk4 : op % 4 < 4 := Nat.mod_lt _ (by decide)
      have HK4 := Lib.hid hk4
      clear hop4
      generalize op % 4 = k at *
      obtain ⟨pa0, pa1, pa2⟩ := PL.A
      obtain ⟨pc0, pc1, pc2⟩ := PL.C
      go_wp2_with fail
      refine (plus_any sC sA aC nC cC aD nD cD aA nA cA aB nB cB (vrt y) (Rt.whole x.neg (val W64 x.wf x.wn)) 41 _ PL.ra PL.rc DN.out.1 DN.out.2 (by omega)).mono ?_
      rintro e w6 ⟨sM, aM, nM, cM, aN, nN, cN, rfl, hM, hB6⟩
      clear pa0 pa1 pa2 pc0 pc1 pc2
      go_upto_region 11 with fail
      obtain ⟨W7, hW7⟩ : ∃ W7, W7 = w6.alloc (.cells #[.bool sM, .slice aM nM cM, .slice aN nN cN] 31) := ⟨_, rfl⟩
      rw [← hW7]
      have hk7 : Below w6.heap.size w6 W7 := by rw [hW7]; exact Below.alloc' (Below.refl _ _) _
      have M7 : RtBlk W7 w6.heap.size sM aM nM cM aN nN cN := by rw [hW7]; exact RtBlk.new _ _ rfl _ _ _ _ _ _ _
      have RES7 : ResBlk W7 w6.heap.size := by rw [hW7]; exact resBlk_new _ _ _ _ _ _ _ _ _
      have PL7 := PL.keep (Below.then hB6 (Nat.le_refl _) hk7)
      have RM7 := Lib.hid (hM.keep hk7)
      have HS7 := Lib.hid (show W5.heap.size ≤ w6.heap.size from hB6.size)
      have HG7 := Lib.hid (⟨block_lt PL.X.c0, block_lt PL.Y.c0, block_lt PL.A.c0, block_lt PL.C.c0⟩ : w.heap.size < W5.heap.size ∧ w.heap.size + 1 < W5.heap.size ∧ w3.heap.size < W5.heap.size ∧ w4.heap.size < W5.heap.size)
      clear hW7 hk7 hB6 hM PL hk4
      rcases (show k = 0 ∨ k = 1 ∨ k = 2 ∨ k = 3 from by have := HK4.out; omega) with hk | hk | hk | hk
      · have f1 : ((k : Int) == 1) = false := by rw [hk]; rfl
        have f2 : ((k : Int) == 2) = false := by rw [hk]; rfl
        have f3 : ((k : Int) == 3) = false := by rw [hk]; rfl
        have d1 : decide ((k : Int) = 1) = false := by rw [hk]; rfl
        have d2 : decide ((k : Int) = 2) = false := by rw [hk]; rfl
        have d3 : decide ((k : Int) = 3) = false := by rw [hk]; rfl
        have m1 : decide (k = 1) = false := by rw [hk]; rfl
        have m2 : decide (k = 2) = false := by rw [hk]; rfl
        have m3 : decide (k = 3) = false := by rw [hk]; rfl
        have n1 : (k == 1) = false := by rw [hk]; rfl
        have n2 : (k == 2) = false := by rw [hk]; rfl
        have n3 : (k == 3) = false := by rw [hk]; rfl
        have HMX := Lib.hid (show mixZ k (vrt y) (Rt.whole x.neg (val W64 x.wf x.wn)) = Rt.plus (vrt y) (Rt.whole x.neg (val W64 x.wf x.wn)) from by rw [hk]; rfl)
        have H3 := Lib.hid (show k = 3 → 0 < ((Rt.whole x.neg (val W64 x.wf x.wn))).num from fun h => by omega)
        clear hk
        have HBW := Lib.hid PL7.bel
        have HXW := Lib.hid PL7.vx
        have HYW := Lib.hid PL7.vy
        have HMW := RM7
        have XW := PL7.X
        have YW := PL7.Y
        clear PL7 RES7
        go_upto_region 20 with fail
        have hd9 : Below W7.heap.size W7 W7.drew := (Below.refl _ _).drew
        go_region_held3 (fun w' => (w'.cell? ⟨w.heap.size, 0, none⟩ = some (.int .i64 y.kind) ∧ w'.cell? ⟨w.heap.size, 1, none⟩ = some (.bool y.truth) ∧ w'.cell? ⟨w.heap.size, 2, none⟩ = some (.string y.text) ∧ w'.cell? ⟨w.heap.size, 3, none⟩ = some (.bool y.neg) ∧ w'.cell? ⟨w.heap.size, 4, none⟩ = some (.slice y.wa y.wn y.wc) ∧ w'.cell? ⟨w.heap.size, 5, none⟩ = some (.slice y.da y.dn y.dc) ∧ w'.cell? ⟨w.heap.size, 6, none⟩ = some (.bool y.ineg) ∧ w'.cell? ⟨w.heap.size, 7, none⟩ = some (.slice y.ia y.inn y.ic) ∧ w'.cell? ⟨w.heap.size, 8, none⟩ = some (.slice y.ea y.en y.ec)) ∧ (w'.cell? ⟨(w.heap.size + 1), 0, none⟩ = some (.int .i64 x.kind) ∧ w'.cell? ⟨(w.heap.size + 1), 1, none⟩ = some (.bool x.truth) ∧ w'.cell? ⟨(w.heap.size + 1), 2, none⟩ = some (.string x.text) ∧ w'.cell? ⟨(w.heap.size + 1), 3, none⟩ = some (.bool x.neg) ∧ w'.cell? ⟨(w.heap.size + 1), 4, none⟩ = some (.slice x.wa x.wn x.wc) ∧ w'.cell? ⟨(w.heap.size + 1), 5, none⟩ = some (.slice x.da x.dn x.dc) ∧ w'.cell? ⟨(w.heap.size + 1), 6, none⟩ = some (.bool x.ineg) ∧ w'.cell? ⟨(w.heap.size + 1), 7, none⟩ = some (.slice x.ia x.inn x.ic) ∧ w'.cell? ⟨(w.heap.size + 1), 8, none⟩ = some (.slice x.ea x.en x.ec)) ∧ (w'.cell? ⟨w6.heap.size, 0, none⟩ = some (.bool sM) ∧ w'.cell? ⟨w6.heap.size, 1, none⟩ = some (.slice aM nM cM) ∧ w'.cell? ⟨w6.heap.size, 2, none⟩ = some (.slice aN nN cN)))
          (first | with_reducible exact ⟨XW.all, YW.all, M7.all⟩ | with_reducible exact ⟨(XW.keep (by assumption)).all, (YW.keep (by assumption)).all, (M7.keep (by assumption)).all⟩)
          (first | (go_at_call 20; (with_reducible refine (implMix_any k HK4.out y x (vrt y) (Rt.whole x.neg (val W64 x.wf x.wn)) P1 P2 _ ?_ ?_ ?_ ?_ M1.out M2.out MM.out H3.out).mono ?_); exact (HT.out.keep HBW.out).keep (by assumption); exact (HDD.out.keep HBW.out).keep (by assumption); exact HXW.out.keep (by assumption); exact HYW.out.keep (by assumption); rintro e w20 ⟨o, rfl, ho, hO, hB20⟩; have hb20 := Below.then hd9 (Nat.le_refl _) hB20; rw [HMX.out] at hO) | (go_at_call 28; (with_reducible refine (isReal_any o sM aM nM cM aN nN cN (Rt.plus (vrt y) (Rt.whole x.neg (val W64 x.wf x.wn))) 83 _ ho ?_ ?_ ?_ ?_).mono ?_); exact HMW.out.keep hb20; omega; exact Nat.le_trans hO.2.2.1 (by omega); exact Nat.le_trans hO.2.2.2 (by omega); rintro e w21 ⟨rfl, hB21⟩; have hb21 := Below.then hb20 (Nat.le_refl _) hB21; rw [isN_same (.inr hO)]))
        go_wp2
        go_ret
        exact ⟨rfl, Below.then HBW.out (Nat.le_refl _) hb21⟩
      · have f1 : ((k : Int) == 1) = true := by rw [hk]; rfl
        have f2 : ((k : Int) == 2) = false := by rw [hk]; rfl
        have f3 : ((k : Int) == 3) = false := by rw [hk]; rfl
        have d1 : decide ((k : Int) = 1) = true := by rw [hk]; rfl
        have d2 : decide ((k : Int) = 2) = false := by rw [hk]; rfl
        have d3 : decide ((k : Int) = 3) = false := by rw [hk]; rfl
        have m1 : decide (k = 1) = true := by rw [hk]; rfl
        have m2 : decide (k = 2) = false := by rw [hk]; rfl
        have m3 : decide (k = 3) = false := by rw [hk]; rfl
        have n1 : (k == 1) = true := by rw [hk]; rfl
        have n2 : (k == 2) = false := by rw [hk]; rfl
        have n3 : (k == 3) = false := by rw [hk]; rfl
        have HMX := Lib.hid (show mixZ k (vrt y) (Rt.whole x.neg (val W64 x.wf x.wn)) = Rt.minus (vrt y) (Rt.whole x.neg (val W64 x.wf x.wn)) from by rw [hk]; rfl)
        have H3 := Lib.hid (show k = 3 → 0 < ((Rt.whole x.neg (val W64 x.wf x.wn))).num from fun h => by omega)
        clear hk
        obtain ⟨pa0, pa1, pa2⟩ := PL7.A
        obtain ⟨pc0, pc1, pc2⟩ := PL7.C
        go_wp2_with fail
        refine (minus_any sC sA aC nC cC aD nD cD aA nA cA aB nB cB (vrt y) (Rt.whole x.neg (val W64 x.wf x.wn)) 41 _ PL7.ra PL7.rc DN.out.1 DN.out.2 (by omega)).mono ?_
        rintro e w8 ⟨sP, aP, nP, cP, aQ, nQ, cQ, rfl, hP, hB8⟩
        have HM8 := Lib.hid hP
        clear pa0 pa1 pa2 pc0 pc1 pc2 hP
        have RV := RES7.below RES7.lt (hB8)
        obtain ⟨⟨u0, r0⟩, ⟨u1, r1⟩, ⟨u2, r2⟩⟩ := RV.cells
        have f0 := RV.frozen 0
        have f1_ := RV.frozen 1
        have f2_ := RV.frozen 2
        have PL8 := PL7.keep (hB8)
        have HRV := Lib.hid RV
        have HP8 := Lib.hid PL8
        clear PL7 RES7 M7
        go_upto_region 20 with fail
        obtain ⟨W9, hW9⟩ : ∃ W9, W9 = ((w8.setCell ⟨w6.heap.size, 0, none⟩ (.bool sP)).setCell ⟨w6.heap.size, 1, none⟩ (.slice aP nP cP)).setCell ⟨w6.heap.size, 2, none⟩ (.slice aQ nQ cQ) := ⟨_, rfl⟩
        rw [← hW9]
        have hne1 : w.heap.size ≠ w6.heap.size := by have := HG7.out.1; have := HS7.out; omega
        have hne2 : w.heap.size + 1 ≠ w6.heap.size := by have := HG7.out.2.1; have := HS7.out; omega
        have hle : w.heap.size ≤ w6.heap.size := by have := HG7.out.1; have := HS7.out; omega
        have M9 : RtBlk W9 w6.heap.size sP aP nP cP aQ nQ cQ := by rw [hW9]; exact rtBlk_stored HRV.out _ _ _ _ _ _ _
        have XW : Box9 W9 w.heap.size y := by rw [hW9]; exact ((HP8.out.X.setOther hne1 _ _).setOther hne1 _ _).setOther hne1 _ _
        have YW : Box9 W9 (w.heap.size + 1) x := by rw [hW9]; exact ((HP8.out.Y.setOther hne2 _ _).setOther hne2 _ _).setOther hne2 _ _
        have hU9 : Upd (· = w6.heap.size) w8 W9 := by
          rw [hW9]
          iterate 3 refine Upd.setCell ?_ (by exact rfl) _
          exact Upd.refl _ _
        have hN9 : ∀ k, k = w6.heap.size → NoU w8 k := fun k e o z h => by subst e; exact HRV.out.noInt o _ _ h
        have HXW := Lib.hid (vlAt_upd HP8.out.vx hU9 hN9)
        have HYW := Lib.hid (vlAt_upd HP8.out.vy hU9 hN9)
        have HMW := Lib.hid (show RtAt W9 sP aP nP cP aQ nQ cQ (Rt.minus (vrt y) (Rt.whole x.neg (val W64 x.wf x.wn))) 83 from by rw [hW9]; exact stored3 HRV.out HM8.out)
        have HBW := Lib.hid (show Below w.heap.size w W9 from by rw [hW9]; exact ((HP8.out.bel.setCell hle _).setCell hle _).setCell hle _)
        clear hW9 hU9 hN9 hne1 hne2 hle u0 r0 u1 r1 u2 r2 f0 f1_ f2_ RV PL8
        have hd9 : Below W9.heap.size W9 W9.drew := (Below.refl _ _).drew
        go_region_held3 (fun w' => (w'.cell? ⟨w.heap.size, 0, none⟩ = some (.int .i64 y.kind) ∧ w'.cell? ⟨w.heap.size, 1, none⟩ = some (.bool y.truth) ∧ w'.cell? ⟨w.heap.size, 2, none⟩ = some (.string y.text) ∧ w'.cell? ⟨w.heap.size, 3, none⟩ = some (.bool y.neg) ∧ w'.cell? ⟨w.heap.size, 4, none⟩ = some (.slice y.wa y.wn y.wc) ∧ w'.cell? ⟨w.heap.size, 5, none⟩ = some (.slice y.da y.dn y.dc) ∧ w'.cell? ⟨w.heap.size, 6, none⟩ = some (.bool y.ineg) ∧ w'.cell? ⟨w.heap.size, 7, none⟩ = some (.slice y.ia y.inn y.ic) ∧ w'.cell? ⟨w.heap.size, 8, none⟩ = some (.slice y.ea y.en y.ec)) ∧ (w'.cell? ⟨(w.heap.size + 1), 0, none⟩ = some (.int .i64 x.kind) ∧ w'.cell? ⟨(w.heap.size + 1), 1, none⟩ = some (.bool x.truth) ∧ w'.cell? ⟨(w.heap.size + 1), 2, none⟩ = some (.string x.text) ∧ w'.cell? ⟨(w.heap.size + 1), 3, none⟩ = some (.bool x.neg) ∧ w'.cell? ⟨(w.heap.size + 1), 4, none⟩ = some (.slice x.wa x.wn x.wc) ∧ w'.cell? ⟨(w.heap.size + 1), 5, none⟩ = some (.slice x.da x.dn x.dc) ∧ w'.cell? ⟨(w.heap.size + 1), 6, none⟩ = some (.bool x.ineg) ∧ w'.cell? ⟨(w.heap.size + 1), 7, none⟩ = some (.slice x.ia x.inn x.ic) ∧ w'.cell? ⟨(w.heap.size + 1), 8, none⟩ = some (.slice x.ea x.en x.ec)) ∧ (w'.cell? ⟨w6.heap.size, 0, none⟩ = some (.bool sP) ∧ w'.cell? ⟨w6.heap.size, 1, none⟩ = some (.slice aP nP cP) ∧ w'.cell? ⟨w6.heap.size, 2, none⟩ = some (.slice aQ nQ cQ)))
          (first | with_reducible exact ⟨XW.all, YW.all, M9.all⟩ | with_reducible exact ⟨(XW.keep (by assumption)).all, (YW.keep (by assumption)).all, (M9.keep (by assumption)).all⟩)
          (first | (go_at_call 20; (with_reducible refine (implMix_any k HK4.out y x (vrt y) (Rt.whole x.neg (val W64 x.wf x.wn)) P1 P2 _ ?_ ?_ ?_ ?_ M1.out M2.out MM.out H3.out).mono ?_); exact (HT.out.keep HBW.out).keep (by assumption); exact (HDD.out.keep HBW.out).keep (by assumption); exact HXW.out.keep (by assumption); exact HYW.out.keep (by assumption); rintro e w20 ⟨o, rfl, ho, hO, hB20⟩; have hb20 := Below.then hd9 (Nat.le_refl _) hB20; rw [HMX.out] at hO) | (go_at_call 28; (with_reducible refine (isReal_any o sP aP nP cP aQ nQ cQ (Rt.minus (vrt y) (Rt.whole x.neg (val W64 x.wf x.wn))) 83 _ ho ?_ ?_ ?_ ?_).mono ?_); exact HMW.out.keep hb20; omega; exact Nat.le_trans hO.2.2.1 (by omega); exact Nat.le_trans hO.2.2.2 (by omega); rintro e w21 ⟨rfl, hB21⟩; have hb21 := Below.then hb20 (Nat.le_refl _) hB21; rw [isN_same (.inr hO)]))
        go_wp2
        go_ret
        exact ⟨rfl, Below.then HBW.out (Nat.le_refl _) hb21⟩
      · have f1 : ((k : Int) == 1) = false := by rw [hk]; rfl
        have f2 : ((k : Int) == 2) = true := by rw [hk]; rfl
        have f3 : ((k : Int) == 3) = false := by rw [hk]; rfl
        have d1 : decide ((k : Int) = 1) = false := by rw [hk]; rfl
        have d2 : decide ((k : Int) = 2) = true := by rw [hk]; rfl
        have d3 : decide ((k : Int) = 3) = false := by rw [hk]; rfl
        have m1 : decide (k = 1) = false := by rw [hk]; rfl
        have m2 : decide (k = 2) = true := by rw [hk]; rfl
        have m3 : decide (k = 3) = false := by rw [hk]; rfl
        have n1 : (k == 1) = false := by rw [hk]; rfl
        have n2 : (k == 2) = true := by rw [hk]; rfl
        have n3 : (k == 3) = false := by rw [hk]; rfl
        have HMX := Lib.hid (show mixZ k (vrt y) (Rt.whole x.neg (val W64 x.wf x.wn)) = Rt.times (vrt y) (Rt.whole x.neg (val W64 x.wf x.wn)) from by rw [hk]; rfl)
        have H3 := Lib.hid (show k = 3 → 0 < ((Rt.whole x.neg (val W64 x.wf x.wn))).num from fun h => by omega)
        clear hk
        obtain ⟨pa0, pa1, pa2⟩ := PL7.A
        obtain ⟨pc0, pc1, pc2⟩ := PL7.C
        go_wp2_with fail
        refine (times_any sC sA aC nC cC aD nD cD aA nA cA aB nB cB (vrt y) (Rt.whole x.neg (val W64 x.wf x.wn)) 41 _ PL7.ra PL7.rc DN.out.1 DN.out.2 (by omega)).mono ?_
        rintro e w8 ⟨sP, aP, nP, cP, aQ, nQ, cQ, rfl, hP, hB8⟩
        have HM8 := Lib.hid hP
        clear pa0 pa1 pa2 pc0 pc1 pc2 hP
        have RV := RES7.below RES7.lt (hB8)
        obtain ⟨⟨u0, r0⟩, ⟨u1, r1⟩, ⟨u2, r2⟩⟩ := RV.cells
        have f0 := RV.frozen 0
        have f1_ := RV.frozen 1
        have f2_ := RV.frozen 2
        have PL8 := PL7.keep (hB8)
        have HRV := Lib.hid RV
        have HP8 := Lib.hid PL8
        clear PL7 RES7 M7
        go_upto_region 20 with fail
        obtain ⟨W9, hW9⟩ : ∃ W9, W9 = ((w8.setCell ⟨w6.heap.size, 0, none⟩ (.bool sP)).setCell ⟨w6.heap.size, 1, none⟩ (.slice aP nP cP)).setCell ⟨w6.heap.size, 2, none⟩ (.slice aQ nQ cQ) := ⟨_, rfl⟩
        rw [← hW9]
        have hne1 : w.heap.size ≠ w6.heap.size := by have := HG7.out.1; have := HS7.out; omega
        have hne2 : w.heap.size + 1 ≠ w6.heap.size := by have := HG7.out.2.1; have := HS7.out; omega
        have hle : w.heap.size ≤ w6.heap.size := by have := HG7.out.1; have := HS7.out; omega
        have M9 : RtBlk W9 w6.heap.size sP aP nP cP aQ nQ cQ := by rw [hW9]; exact rtBlk_stored HRV.out _ _ _ _ _ _ _
        have XW : Box9 W9 w.heap.size y := by rw [hW9]; exact ((HP8.out.X.setOther hne1 _ _).setOther hne1 _ _).setOther hne1 _ _
        have YW : Box9 W9 (w.heap.size + 1) x := by rw [hW9]; exact ((HP8.out.Y.setOther hne2 _ _).setOther hne2 _ _).setOther hne2 _ _
        have hU9 : Upd (· = w6.heap.size) w8 W9 := by
          rw [hW9]
          iterate 3 refine Upd.setCell ?_ (by exact rfl) _
          exact Upd.refl _ _
        have hN9 : ∀ k, k = w6.heap.size → NoU w8 k := fun k e o z h => by subst e; exact HRV.out.noInt o _ _ h
        have HXW := Lib.hid (vlAt_upd HP8.out.vx hU9 hN9)
        have HYW := Lib.hid (vlAt_upd HP8.out.vy hU9 hN9)
        have HMW := Lib.hid (show RtAt W9 sP aP nP cP aQ nQ cQ (Rt.times (vrt y) (Rt.whole x.neg (val W64 x.wf x.wn))) 82 from by rw [hW9]; exact stored3 HRV.out HM8.out)
        have HBW := Lib.hid (show Below w.heap.size w W9 from by rw [hW9]; exact ((HP8.out.bel.setCell hle _).setCell hle _).setCell hle _)
        clear hW9 hU9 hN9 hne1 hne2 hle u0 r0 u1 r1 u2 r2 f0 f1_ f2_ RV PL8
        have hd9 : Below W9.heap.size W9 W9.drew := (Below.refl _ _).drew
        go_region_held3 (fun w' => (w'.cell? ⟨w.heap.size, 0, none⟩ = some (.int .i64 y.kind) ∧ w'.cell? ⟨w.heap.size, 1, none⟩ = some (.bool y.truth) ∧ w'.cell? ⟨w.heap.size, 2, none⟩ = some (.string y.text) ∧ w'.cell? ⟨w.heap.size, 3, none⟩ = some (.bool y.neg) ∧ w'.cell? ⟨w.heap.size, 4, none⟩ = some (.slice y.wa y.wn y.wc) ∧ w'.cell? ⟨w.heap.size, 5, none⟩ = some (.slice y.da y.dn y.dc) ∧ w'.cell? ⟨w.heap.size, 6, none⟩ = some (.bool y.ineg) ∧ w'.cell? ⟨w.heap.size, 7, none⟩ = some (.slice y.ia y.inn y.ic) ∧ w'.cell? ⟨w.heap.size, 8, none⟩ = some (.slice y.ea y.en y.ec)) ∧ (w'.cell? ⟨(w.heap.size + 1), 0, none⟩ = some (.int .i64 x.kind) ∧ w'.cell? ⟨(w.heap.size + 1), 1, none⟩ = some (.bool x.truth) ∧ w'.cell? ⟨(w.heap.size + 1), 2, none⟩ = some (.string x.text) ∧ w'.cell? ⟨(w.heap.size + 1), 3, none⟩ = some (.bool x.neg) ∧ w'.cell? ⟨(w.heap.size + 1), 4, none⟩ = some (.slice x.wa x.wn x.wc) ∧ w'.cell? ⟨(w.heap.size + 1), 5, none⟩ = some (.slice x.da x.dn x.dc) ∧ w'.cell? ⟨(w.heap.size + 1), 6, none⟩ = some (.bool x.ineg) ∧ w'.cell? ⟨(w.heap.size + 1), 7, none⟩ = some (.slice x.ia x.inn x.ic) ∧ w'.cell? ⟨(w.heap.size + 1), 8, none⟩ = some (.slice x.ea x.en x.ec)) ∧ (w'.cell? ⟨w6.heap.size, 0, none⟩ = some (.bool sP) ∧ w'.cell? ⟨w6.heap.size, 1, none⟩ = some (.slice aP nP cP) ∧ w'.cell? ⟨w6.heap.size, 2, none⟩ = some (.slice aQ nQ cQ)))
          (first | with_reducible exact ⟨XW.all, YW.all, M9.all⟩ | with_reducible exact ⟨(XW.keep (by assumption)).all, (YW.keep (by assumption)).all, (M9.keep (by assumption)).all⟩)
          (first | (go_at_call 20; (with_reducible refine (implMix_any k HK4.out y x (vrt y) (Rt.whole x.neg (val W64 x.wf x.wn)) P1 P2 _ ?_ ?_ ?_ ?_ M1.out M2.out MM.out H3.out).mono ?_); exact (HT.out.keep HBW.out).keep (by assumption); exact (HDD.out.keep HBW.out).keep (by assumption); exact HXW.out.keep (by assumption); exact HYW.out.keep (by assumption); rintro e w20 ⟨o, rfl, ho, hO, hB20⟩; have hb20 := Below.then hd9 (Nat.le_refl _) hB20; rw [HMX.out] at hO) | (go_at_call 28; (with_reducible refine (isReal_any o sP aP nP cP aQ nQ cQ (Rt.times (vrt y) (Rt.whole x.neg (val W64 x.wf x.wn))) 82 _ ho ?_ ?_ ?_ ?_).mono ?_); exact HMW.out.keep hb20; omega; exact Nat.le_trans hO.2.2.1 (by omega); exact Nat.le_trans hO.2.2.2 (by omega); rintro e w21 ⟨rfl, hB21⟩; have hb21 := Below.then hb20 (Nat.le_refl _) hB21; rw [isN_same (.inr hO)]))
        go_wp2
        go_ret
        exact ⟨rfl, Below.then HBW.out (Nat.le_refl _) hb21⟩
      · have f1 : ((k : Int) == 1) = false := by rw [hk]; rfl
        have f2 : ((k : Int) == 2) = false := by rw [hk]; rfl
        have f3 : ((k : Int) == 3) = true := by rw [hk]; rfl
        have d1 : decide ((k : Int) = 1) = false := by rw [hk]; rfl
        have d2 : decide ((k : Int) = 2) = false := by rw [hk]; rfl
        have d3 : decide ((k : Int) = 3) = true := by rw [hk]; rfl
        have m1 : decide (k = 1) = false := by rw [hk]; rfl
        have m2 : decide (k = 2) = false := by rw [hk]; rfl
        have m3 : decide (k = 3) = true := by rw [hk]; rfl
        have n1 : (k == 1) = false := by rw [hk]; rfl
        have n2 : (k == 2) = false := by rw [hk]; rfl
        have n3 : (k == 3) = true := by rw [hk]; rfl
        have HMX := Lib.hid (show mixZ k (vrt y) (Rt.whole x.neg (val W64 x.wf x.wn)) = Rt.times (vrt y) ((Rt.whole x.neg (val W64 x.wf x.wn))).upside from by rw [hk]; rfl)
        clear hk
        obtain ⟨pc0, pc1, pc2⟩ := PL7.C
        go_wp2_with fail
        refine (signOf_any sA aA nA cA aB nB cB 41 (Rt.whole x.neg (val W64 x.wf x.wn)) _ PL7.rc (by omega)).mono ?_
        rintro e w8 ⟨rfl, hB8⟩
        have PL8 := PL7.keep hB8
        have RES8 := RES7.below RES7.lt hB8
        clear pc0 pc1 pc2 PL7 RES7 M7
        obtain ⟨v, hv⟩ : ∃ v, v = ((Rt.whole x.neg (val W64 x.wf x.wn))).signOf := ⟨_, rfl⟩
        rw [← hv]
        have HV := Lib.hid hv
        clear hv
        by_cases hv0 : v = 0
        · subst hv0
          go_wp2
          go_ret
          exact ⟨rfl, PL8.bel⟩
        · have H3 := Lib.hid (show k = 3 → 0 < ((Rt.whole x.neg (val W64 x.wf x.wn))).num from fun _ => signOf_pos (by rw [← HV.out]; exact hv0))
          have HP0 := Lib.hid (show 0 < ((Rt.whole x.neg (val W64 x.wf x.wn))).num from signOf_pos (by rw [← HV.out]; exact hv0))
          have hv1 : v = 1 ∨ v = -1 := by rw [HV.out]; exact signOf_one (by rw [← HV.out]; exact hv0)
          clear hv0 HV
          have PA := PL8.A
          have PC := PL8.C
          have HRA := Lib.hid PL8.ra
          have HRC := Lib.hid PL8.rc
          have HP8 := Lib.hid PL8
          have HR8 := Lib.hid RES8
          have hs1 : w3.heap.size < w6.heap.size := by have := HG7.out.2.2.1; have := HS7.out; omega
          have hs2 : w4.heap.size < w6.heap.size := by have := HG7.out.2.2.2; have := HS7.out; omega
          clear PL8 RES8
          have hd0 : Below w8.heap.size w8 w8.drew := (Below.refl _ _).drew
          rcases hv1 with rfl | rfl
          all_goals
            go_upto_region 19 with fail
            go_region_held3 (fun w' => (w'.cell? ⟨w3.heap.size, 0, none⟩ = some (.bool sC) ∧ w'.cell? ⟨w3.heap.size, 1, none⟩ = some (.slice aC nC cC) ∧ w'.cell? ⟨w3.heap.size, 2, none⟩ = some (.slice aD nD cD)) ∧ (w'.cell? ⟨w4.heap.size, 0, none⟩ = some (.bool sA) ∧ w'.cell? ⟨w4.heap.size, 1, none⟩ = some (.slice aA nA cA) ∧ w'.cell? ⟨w4.heap.size, 2, none⟩ = some (.slice aB nB cB)))
              (first | with_reducible exact ⟨PA.all, PC.all⟩ | with_reducible exact ⟨(PA.keep (by assumption)).all, (PC.keep (by assumption)).all⟩ | with_reducible exact ⟨(rtBlk_set3m (PA.keep (by assumption)) (by omega) _ _ _).all, (rtBlk_set3m (PC.keep (by assumption)) (by omega) _ _ _).all⟩)
              (first | (go_at_call 27; (with_reducible refine (upside_any sA aA nA cA aB nB cB 41 (Rt.whole x.neg (val W64 x.wf x.wn)) _ ?_).mono ?_); exact HRC.out.keep (by assumption); rintro e w10 ⟨sU, aU, nU, cU, aV, nV, cV, rfl, hU, hB10⟩; have hb10 := Below.then hd0 (Nat.le_refl _) hB10) | (go_at_call 23; (with_reducible refine (times_any sC sU aC nC cC aD nD cD aU nU cU aV nV cV (vrt y) ((Rt.whole x.neg (val W64 x.wf x.wn))).upside 41 _ ?_ ?_ DN.out.1 ?_ ?_).mono ?_); exact HRA.out.keep (by assumption); exact hU; exact HP0.out; omega; rintro e w11 ⟨sP, aP, nP, cP, aQ, nQ, cQ, rfl, hP, hB11⟩; have hb11 := Below.then hb10 (Nat.le_refl _) hB11; have RV := HR8.out.below HR8.out.lt hb11; obtain ⟨⟨u0, r0⟩, ⟨u1, r1⟩, ⟨u2, r2⟩⟩ := RV.cells; have f0 := RV.frozen 0; have f1_ := RV.frozen 1; have f2_ := RV.frozen 2))
            have HM8 := Lib.hid hP
            have RV := HR8.out.below HR8.out.lt hb11
            have RES7 := HR8.out
            have PL7 := HP8.out
            have M7 := trivial
            clear PA PC hP hB10 hB11 hU hb10 hs1 hs2 RV u0 r0 u1 r1 u2 r2 f0 f1_ f2_
            have RV := RES7.below RES7.lt (hb11)
            obtain ⟨⟨u0, r0⟩, ⟨u1, r1⟩, ⟨u2, r2⟩⟩ := RV.cells
            have f0 := RV.frozen 0
            have f1_ := RV.frozen 1
            have f2_ := RV.frozen 2
            have PL8 := PL7.keep (hb11)
            have HRV := Lib.hid RV
            have HP8 := Lib.hid PL8
            clear PL7 RES7 M7
            go_upto_region 20 with fail
            obtain ⟨W9, hW9⟩ : ∃ W9, W9 = ((w11.setCell ⟨w6.heap.size, 0, none⟩ (.bool sP)).setCell ⟨w6.heap.size, 1, none⟩ (.slice aP nP cP)).setCell ⟨w6.heap.size, 2, none⟩ (.slice aQ nQ cQ) := ⟨_, rfl⟩
            rw [← hW9]
            have hne1 : w.heap.size ≠ w6.heap.size := by have := HG7.out.1; have := HS7.out; omega
            have hne2 : w.heap.size + 1 ≠ w6.heap.size := by have := HG7.out.2.1; have := HS7.out; omega
            have hle : w.heap.size ≤ w6.heap.size := by have := HG7.out.1; have := HS7.out; omega
            have M9 : RtBlk W9 w6.heap.size sP aP nP cP aQ nQ cQ := by rw [hW9]; exact rtBlk_stored HRV.out _ _ _ _ _ _ _
            have XW : Box9 W9 w.heap.size y := by rw [hW9]; exact ((HP8.out.X.setOther hne1 _ _).setOther hne1 _ _).setOther hne1 _ _
            have YW : Box9 W9 (w.heap.size + 1) x := by rw [hW9]; exact ((HP8.out.Y.setOther hne2 _ _).setOther hne2 _ _).setOther hne2 _ _
            have hU9 : Upd (· = w6.heap.size) w11 W9 := by
              rw [hW9]
              iterate 3 refine Upd.setCell ?_ (by exact rfl) _
              exact Upd.refl _ _
            have hN9 : ∀ k, k = w6.heap.size → NoU w11 k := fun k e o z h => by subst e; exact HRV.out.noInt o _ _ h
            have HXW := Lib.hid (vlAt_upd HP8.out.vx hU9 hN9)
            have HYW := Lib.hid (vlAt_upd HP8.out.vy hU9 hN9)
            have HMW := Lib.hid (show RtAt W9 sP aP nP cP aQ nQ cQ (Rt.times (vrt y) ((Rt.whole x.neg (val W64 x.wf x.wn))).upside) 82 from by rw [hW9]; exact stored3 HRV.out HM8.out)
            have HBW := Lib.hid (show Below w.heap.size w W9 from by rw [hW9]; exact ((HP8.out.bel.setCell hle _).setCell hle _).setCell hle _)
            clear hW9 hU9 hN9 hne1 hne2 hle u0 r0 u1 r1 u2 r2 f0 f1_ f2_ RV PL8
            have hd9 : Below W9.heap.size W9 W9.drew := (Below.refl _ _).drew
            go_region_held3 (fun w' => (w'.cell? ⟨w.heap.size, 0, none⟩ = some (.int .i64 y.kind) ∧ w'.cell? ⟨w.heap.size, 1, none⟩ = some (.bool y.truth) ∧ w'.cell? ⟨w.heap.size, 2, none⟩ = some (.string y.text) ∧ w'.cell? ⟨w.heap.size, 3, none⟩ = some (.bool y.neg) ∧ w'.cell? ⟨w.heap.size, 4, none⟩ = some (.slice y.wa y.wn y.wc) ∧ w'.cell? ⟨w.heap.size, 5, none⟩ = some (.slice y.da y.dn y.dc) ∧ w'.cell? ⟨w.heap.size, 6, none⟩ = some (.bool y.ineg) ∧ w'.cell? ⟨w.heap.size, 7, none⟩ = some (.slice y.ia y.inn y.ic) ∧ w'.cell? ⟨w.heap.size, 8, none⟩ = some (.slice y.ea y.en y.ec)) ∧ (w'.cell? ⟨(w.heap.size + 1), 0, none⟩ = some (.int .i64 x.kind) ∧ w'.cell? ⟨(w.heap.size + 1), 1, none⟩ = some (.bool x.truth) ∧ w'.cell? ⟨(w.heap.size + 1), 2, none⟩ = some (.string x.text) ∧ w'.cell? ⟨(w.heap.size + 1), 3, none⟩ = some (.bool x.neg) ∧ w'.cell? ⟨(w.heap.size + 1), 4, none⟩ = some (.slice x.wa x.wn x.wc) ∧ w'.cell? ⟨(w.heap.size + 1), 5, none⟩ = some (.slice x.da x.dn x.dc) ∧ w'.cell? ⟨(w.heap.size + 1), 6, none⟩ = some (.bool x.ineg) ∧ w'.cell? ⟨(w.heap.size + 1), 7, none⟩ = some (.slice x.ia x.inn x.ic) ∧ w'.cell? ⟨(w.heap.size + 1), 8, none⟩ = some (.slice x.ea x.en x.ec)) ∧ (w'.cell? ⟨w6.heap.size, 0, none⟩ = some (.bool sP) ∧ w'.cell? ⟨w6.heap.size, 1, none⟩ = some (.slice aP nP cP) ∧ w'.cell? ⟨w6.heap.size, 2, none⟩ = some (.slice aQ nQ cQ)))
              (first | with_reducible exact ⟨XW.all, YW.all, M9.all⟩ | with_reducible exact ⟨(XW.keep (by assumption)).all, (YW.keep (by assumption)).all, (M9.keep (by assumption)).all⟩)
              (first | (go_at_call 20; (with_reducible refine (implMix_any k HK4.out y x (vrt y) (Rt.whole x.neg (val W64 x.wf x.wn)) P1 P2 _ ?_ ?_ ?_ ?_ M1.out M2.out MM.out H3.out).mono ?_); exact (HT.out.keep HBW.out).keep (by assumption); exact (HDD.out.keep HBW.out).keep (by assumption); exact HXW.out.keep (by assumption); exact HYW.out.keep (by assumption); rintro e w20 ⟨o, rfl, ho, hO, hB20⟩; have hb20 := Below.then hd9 (Nat.le_refl _) hB20; rw [HMX.out] at hO) | (go_at_call 28; (with_reducible refine (isReal_any o sP aP nP cP aQ nQ cQ (Rt.times (vrt y) ((Rt.whole x.neg (val W64 x.wf x.wn))).upside) 82 _ ho ?_ ?_ ?_ ?_).mono ?_); exact HMW.out.keep hb20; omega; exact Nat.le_trans hO.2.2.1 (by omega); exact Nat.le_trans hO.2.2.2 (by omega); rintro e w21 ⟨rfl, hB21⟩; have hb21 := Below.then hb20 (Nat.le_refl _) hB21; rw [isN_same (.inr hO)]))
            go_wp2
            go_ret
            exact ⟨rfl, Below.then HBW.out (Nat.le_refl _) hb21⟩
end Go.Proofs.YtececkbcinmmpaaGreatDoor
