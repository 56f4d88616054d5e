/-
  FnField walked. PRINTED BY wip/gen_lfield.py.
-/
import Derived.Test.YtgmienggfaahlaaGreatDoorUF
import Derived.Test.YtgmienggfaahlaaGreatDoorK36
import Derived.Test.YtgmienggfaahlaaGreatDoorK34
import Derived.Deep.CutRange
set_option linter.unusedSimpArgs false
set_option linter.unusedVariables false
namespace Go.Proofs.YtgmienggfaahlaaGreatDoor
open Go.RowKit Go.Bg Dg

set_option maxRecDepth 100000 in
set_option maxHeartbeats 8000000 in
theorem lawFnField_any (x y z : Vl) (w : World) (hT : Thr w) (hDD : ThrD w) (h1 : VlAt w x) (h2 : VlAt w y) (h3 : VlAt w z) :
    Calls Tryz.prog 4 #[.agg #[.int .i64 x.kind, .bool x.truth, .string x.text, .bool x.neg, .slice x.wa x.wn x.wc, .slice x.da x.dn x.dc, .bool x.ineg, .slice x.ia x.inn x.ic, .slice x.ea x.en x.ec], .agg #[.int .i64 y.kind, .bool y.truth, .string y.text, .bool y.neg, .slice y.wa y.wn y.wc, .slice y.da y.dn y.dc, .bool y.ineg, .slice y.ia y.inn y.ic, .slice y.ea y.en y.ec], .agg #[.int .i64 z.kind, .bool z.truth, .string z.text, .bool z.neg, .slice z.wa z.wn z.wc, .slice z.da z.dn z.dc, .bool z.ineg, .slice z.ia z.inn z.ic, .slice z.ea z.en z.ec]] w fun e w' => e = .returned (.bool true) ∧ Below w.heap.size w w' := by
  have HT := Lib.hid hT
  have HDD := Lib.hid hDD
  clear hT hDD
  obtain ⟨W0, hW0⟩ : ∃ W0, W0 = ((w.alloc (.cells #[.int .i64 x.kind, .bool x.truth, .string x.text, .bool x.neg, .slice x.wa x.wn x.wc, .slice x.da x.dn x.dc, .bool x.ineg, .slice x.ia x.inn x.ic, .slice x.ea x.en x.ec] 26)).alloc (.cells #[.int .i64 y.kind, .bool y.truth, .string y.text, .bool y.neg, .slice y.wa y.wn y.wc, .slice y.da y.dn y.dc, .bool y.ineg, .slice y.ia y.inn y.ic, .slice y.ea y.en y.ec] 26)).alloc (.cells #[.int .i64 z.kind, .bool z.truth, .string z.text, .bool z.neg, .slice z.wa z.wn z.wc, .slice z.da z.dn z.dc, .bool z.ineg, .slice z.ia z.inn z.ic, .slice z.ea z.en z.ec] 26) := ⟨_, rfl⟩
  have HW := Lib.hid hW0
  have hb0 : Below w.heap.size w W0 := by rw [hW0]; exact Below.alloc' (Below.alloc' (Below.alloc' (Below.refl _ _) _) _) _
  have X : Box9 W0 w.heap.size x := by rw [hW0]; exact ((Box9.new w x _ rfl).alloc _).alloc _
  have Y : Box9 W0 (w.heap.size + 1) y := by rw [hW0]; exact (Box9.new _ y _ (by simp)).alloc _
  have Z : Box9 W0 (w.heap.size + 1 + 1) z := by rw [hW0]; exact Box9.new _ z _ (by simp)
  have HX := Lib.hid (h1.keep hb0)
  have HY := Lib.hid (h2.keep hb0)
  have HZ := Lib.hid (h3.keep hb0)
  clear hW0 h1 h2 h3
  cases hf : fitsB x
  · have HF := Lib.hid hf
    clear hf
    go_enter Tryz.func4, Tryz.ntmps4
    go_upto_region 1 with fail
    rw [← HW.out]
    obtain ⟨xc0, xc1, xc2, xc3, xc4, xc5, xc6, xc7, xc8⟩ := (X).all
    go_wp2_with fail
    refine (fits1_any x _).mono ?_
    rintro e w1 ⟨rfl, hB1⟩
    rw [HF.out]
    go_wp2
    go_ret
    exact ⟨rfl, Below.then (hb0) (Nat.le_refl _) hB1⟩
  have HF := Lib.hid hf
  clear hf
  cases hg : fitsB y
  · have HG := Lib.hid hg
    clear hg
    go_enter Tryz.func4, Tryz.ntmps4
    go_upto_region 1 with fail
    rw [← HW.out]
    obtain ⟨xc0, xc1, xc2, xc3, xc4, xc5, xc6, xc7, xc8⟩ := (X).all
    go_wp2_with fail
    refine (fits1_any x _).mono ?_
    rintro e w1 ⟨rfl, hB1⟩
    rw [HF.out]
    have X1 := X.keep hB1
    have Y1 := Y.keep hB1
    have Z1 := Z.keep hB1
    clear xc0 xc1 xc2 xc3 xc4 xc5 xc6 xc7 xc8
    obtain ⟨yc0, yc1, yc2, yc3, yc4, yc5, yc6, yc7, yc8⟩ := (Y1).all
    go_wp2_with fail
    refine (fits1_any y _).mono ?_
    rintro e w2 ⟨rfl, hB2⟩
    rw [HG.out]
    go_wp2
    go_ret
    exact ⟨rfl, Below.then (Below.then (hb0) (Nat.le_refl _) hB1) (Nat.le_refl _) hB2⟩
  have HG := Lib.hid hg
  clear hg
  cases hh : fitsB z
  · have HH := Lib.hid hh
    clear hh
    go_enter Tryz.func4, Tryz.ntmps4
    go_upto_region 1 with fail
    rw [← HW.out]
    obtain ⟨xc0, xc1, xc2, xc3, xc4, xc5, xc6, xc7, xc8⟩ := (X).all
    go_wp2_with fail
    refine (fits1_any x _).mono ?_
    rintro e w1 ⟨rfl, hB1⟩
    rw [HF.out]
    have X1 := X.keep hB1
    have Y1 := Y.keep hB1
    have Z1 := Z.keep hB1
    clear xc0 xc1 xc2 xc3 xc4 xc5 xc6 xc7 xc8
    obtain ⟨yc0, yc1, yc2, yc3, yc4, yc5, yc6, yc7, yc8⟩ := (Y1).all
    go_wp2_with fail
    refine (fits1_any y _).mono ?_
    rintro e w2 ⟨rfl, hB2⟩
    rw [HG.out]
    have X2 := X1.keep hB2
    have Y2 := Y1.keep hB2
    have Z2 := Z1.keep hB2
    clear yc0 yc1 yc2 yc3 yc4 yc5 yc6 yc7 yc8
    obtain ⟨zc0, zc1, zc2, zc3, zc4, zc5, zc6, zc7, zc8⟩ := (Z2).all
    go_wp2_with fail
    refine (fits1_any z _).mono ?_
    rintro e w3 ⟨rfl, hB3⟩
    rw [HH.out]
    go_wp2
    go_ret
    exact ⟨rfl, Below.then (Below.then (Below.then (hb0) (Nat.le_refl _) hB1) (Nat.le_refl _) hB2) (Nat.le_refl _) hB3⟩
  have HH := Lib.hid hh
  clear hh
  go_enter Tryz.func4, Tryz.ntmps4
  go_upto_region 1 with fail
  rw [← HW.out]
  obtain ⟨xc0, xc1, xc2, xc3, xc4, xc5, xc6, xc7, xc8⟩ := (X).all
  go_wp2_with fail
  refine (fits1_any x _).mono ?_
  rintro e w1 ⟨rfl, hB1⟩
  rw [HF.out]
  have X1 := X.keep hB1
  have Y1 := Y.keep hB1
  have Z1 := Z.keep hB1
  clear xc0 xc1 xc2 xc3 xc4 xc5 xc6 xc7 xc8
  obtain ⟨yc0, yc1, yc2, yc3, yc4, yc5, yc6, yc7, yc8⟩ := (Y1).all
  go_wp2_with fail
  refine (fits1_any y _).mono ?_
  rintro e w2 ⟨rfl, hB2⟩
  rw [HG.out]
  have X2 := X1.keep hB2
  have Y2 := Y1.keep hB2
  have Z2 := Z1.keep hB2
  clear yc0 yc1 yc2 yc3 yc4 yc5 yc6 yc7 yc8
  obtain ⟨zc0, zc1, zc2, zc3, zc4, zc5, zc6, zc7, zc8⟩ := (Z2).all
  go_wp2_with fail
  refine (fits1_any z _).mono ?_
  rintro e w3 ⟨rfl, hB3⟩
  rw [HH.out]
  clear zc0 zc1 zc2 zc3 zc4 zc5 zc6 zc7 zc8
  have HB3 := Lib.hid (Below.then (Below.then (Below.then (hb0) (Nat.le_refl _) hB1) (Nat.le_refl _) hB2) (Nat.le_refl _) hB3)
  have X3 := X2.keep hB3
  have Y3 := Y2.keep hB3
  have Z3 := Z2.keep hB3
  have HX3 := Lib.hid (((HX.out.keep hB1).keep hB2).keep hB3)
  have HY3 := Lib.hid (((HY.out.keep hB1).keep hB2).keep hB3)
  have HZ3 := Lib.hid (((HZ.out.keep hB1).keep hB2).keep hB3)
  clear X Y Z X1 Y1 Z1 X2 Y2 Z2 HX HY HZ hB1 hB2 hB3 hb0 HW
  go_upto_region 3 with fail
  obtain ⟨xc0, xc1, xc2, xc3, xc4, xc5, xc6, xc7, xc8⟩ := (X3).all
  obtain ⟨yc0, yc1, yc2, yc3, yc4, yc5, yc6, yc7, yc8⟩ := (Y3).all
  go_wp2_with fail
  refine (lawRationals_any x y 5 _ HX3.out HY3.out (by omega)).mono ?_
  rintro e w4 ⟨sA, aA, nA, cA, aB, nB, cB, sC, aC, nC, cC, aD, nD, cD, rfl, hR, hB4⟩
  clear xc0 xc1 xc2 xc3 xc4 xc5 xc6 xc7 xc8 yc0 yc1 yc2 yc3 yc4 yc5 yc6 yc7 yc8
  go_upto_region 4 with fail
  obtain ⟨W5, hW5⟩ : ∃ W5, W5 = (w4.alloc (.cells #[.bool sA, .slice aA nA cA, .slice aB nB cB] 31)).alloc (.cells #[.bool sC, .slice aC nC cC, .slice aD nD cD] 31) := ⟨_, rfl⟩
  rw [← hW5]
  have hk5 : Below w4.heap.size w4 W5 := by rw [hW5]; exact Below.alloc' (Below.alloc' (Below.refl _ _) _) _
  have hB5 : Below w3.heap.size w3 W5 := Below.then hB4 (Nat.le_refl _) hk5
  have A5 : RtBlk W5 w4.heap.size sA aA nA cA aB nB cB := by rw [hW5]; exact (RtBlk.new _ _ rfl _ _ _ _ _ _ _).keep ((Below.refl _ _).alloc (Nat.le_refl _) _)
  have C5 : RtBlk W5 (w4.heap.size + 1) sC aC nC cC aD nD cD := by rw [hW5]; exact RtBlk.new _ _ (by simp) _ _ _ _ _ _ _
  have R5 := Lib.hid (show (lratB x 5 && lratB y 5) = true → RtAt W5 sA aA nA cA aB nB cB (vrt x) 21 ∧ RtAt W5 sC aC nC cC aD nD cD (vrt y) 21 from fun hb => ⟨(hR hb).1.keep hk5, (hR hb).2.keep hk5⟩)
  have X5 := X3.keep hB5
  have Y5 := Y3.keep hB5
  have Z5 := Z3.keep hB5
  have HX5 := Lib.hid (HX3.out.keep hB5)
  have HY5 := Lib.hid (HY3.out.keep hB5)
  have HZ5 := Lib.hid (HZ3.out.keep hB5)
  have HB5 := Lib.hid (Below.then HB3.out (Nat.le_refl _) hB5)
  clear hW5 hk5 hR hB4 hB5 X3 Y3 Z3 HX3 HY3 HZ3 HB3
  obtain ⟨zc0, zc1, zc2, zc3, zc4, zc5, zc6, zc7, zc8⟩ := (Z5).all
  go_wp2_with fail
  refine (lawRational_any z 5 _ HZ5.out (by omega)).mono ?_
  rintro e v6 ⟨sE, aE, nE, cE, aF, nF, cF, rfl, hRz, hBv⟩
  clear zc0 zc1 zc2 zc3 zc4 zc5 zc6 zc7 zc8 hRz
  go_upto_region 5 with fail
  obtain ⟨w6, hW6⟩ : ∃ w6, w6 = v6.alloc (.cells #[.bool sE, .slice aE nE cE, .slice aF nF cF] 31) := ⟨_, rfl⟩
  rw [← hW6]
  have hB6 : Below W5.heap.size W5 w6 := by rw [hW6]; exact Below.alloc' hBv _
  clear hW6 hBv
  have X6 := X5.keep hB6
  have Y6 := Y5.keep hB6
  have Z6 := Z5.keep hB6
  have A6 := A5.keep hB6
  have C6 := C5.keep hB6
  have HX6 := Lib.hid (HX5.out.keep hB6)
  have HY6 := Lib.hid (HY5.out.keep hB6)
  have HZ6 := Lib.hid (HZ5.out.keep hB6)
  have HB6 := Lib.hid (Below.then HB5.out (Nat.le_refl _) hB6)
  have R6 := Lib.hid (show (lratB x 5 && lratB y 5) = true → RtAt w6 sA aA nA cA aB nB cB (vrt x) 21 ∧ RtAt w6 sC aC nC cC aD nD cD (vrt y) 21 from fun hb => ⟨(R5.out hb).1.keep hB6, (R5.out hb).2.keep hB6⟩)
  clear X5 Y5 Z5 A5 C5 HX5 HY5 HZ5 HB5 R5 hB6
  cases hb : (lratB x 5 && lratB y 5)
  · clear R6 X6 Y6 Z6 A6 C6
    go_wp2
    go_ret
    exact ⟨rfl, HB6.out⟩
  cases hc : lratB z 5
  · clear R6 X6 Y6 Z6 A6 C6
    go_wp2
    go_ret
    exact ⟨rfl, HB6.out⟩
  have hbb := hb
  simp only [Bool.and_eq_true] at hbb
  have BX := Lib.hid hbb.1
  have BY := Lib.hid hbb.2
  have BZ := Lib.hid hc
  have NX := Lib.hid (numV_rat hbb.1 (by omega))
  have NY := Lib.hid (numV_rat hbb.2 (by omega))
  have NZ := Lib.hid (numV_rat hc (by omega))
  obtain ⟨rA, rC⟩ := R6.out hb
  have RA6 := Lib.hid rA
  have RC6 := Lib.hid rC
  have HT6 := Lib.hid (HT.out.keep HB6.out)
  have HD6 := Lib.hid (HDD.out.keep HB6.out)
  clear rA rC hb hbb hc R6 HT HDD
  obtain ⟨W5, hW5⟩ : ∃ W5, W5 = w6 := ⟨_, rfl⟩
  subst hW5
  go_upto_region 7 with fail
  have hd0 : Below W5.heap.size W5 W5.drew := (Below.refl _ _).drew
  have hd1 : Below W5.heap.size W5 ((W5.alloc (.cells #[.int .i64 0, .bool false, .string ⟨#[]⟩, .bool false, .slice none 0 0, .slice none 0 0, .bool false, .slice none 0 0, .slice none 0 0] 26)).drew) := (Below.alloc' (Below.refl _ _) _).drew
  have hd2 : Below W5.heap.size W5 (((W5.alloc (.cells #[.int .i64 0, .bool false, .string ⟨#[]⟩, .bool false, .slice none 0 0, .slice none 0 0, .bool false, .slice none 0 0, .slice none 0 0] 26)).alloc (.cells #[.int .i64 0, .bool false, .string ⟨#[]⟩, .bool false, .slice none 0 0, .slice none 0 0, .bool false, .slice none 0 0, .slice none 0 0] 26)).drew) := (Below.alloc' (Below.alloc' (Below.refl _ _) _) _).drew
  have HZ1 := Lib.hid (show BlkAt ((W5.alloc (.cells #[.int .i64 0, .bool false, .string ⟨#[]⟩, .bool false, .slice none 0 0, .slice none 0 0, .bool false, .slice none 0 0, .slice none 0 0] 26)).drew) W5.heap.size #[.int .i64 0, .bool false, .string ⟨#[]⟩, .bool false, .slice none 0 0, .slice none 0 0, .bool false, .slice none 0 0, .slice none 0 0] 26 from BlkAt.keep (BlkAt.new W5 #[.int .i64 0, .bool false, .string ⟨#[]⟩, .bool false, .slice none 0 0, .slice none 0 0, .bool false, .slice none 0 0, .slice none 0 0] 26) (Below.refl _ _).drew)
  have HZ2a := Lib.hid (show BlkAt (((W5.alloc (.cells #[.int .i64 0, .bool false, .string ⟨#[]⟩, .bool false, .slice none 0 0, .slice none 0 0, .bool false, .slice none 0 0, .slice none 0 0] 26)).alloc (.cells #[.int .i64 0, .bool false, .string ⟨#[]⟩, .bool false, .slice none 0 0, .slice none 0 0, .bool false, .slice none 0 0, .slice none 0 0] 26)).drew) W5.heap.size #[.int .i64 0, .bool false, .string ⟨#[]⟩, .bool false, .slice none 0 0, .slice none 0 0, .bool false, .slice none 0 0, .slice none 0 0] 26 from BlkAt.keep (BlkAt.new W5 #[.int .i64 0, .bool false, .string ⟨#[]⟩, .bool false, .slice none 0 0, .slice none 0 0, .bool false, .slice none 0 0, .slice none 0 0] 26) (Below.alloc' (Below.refl _ _) _).drew)
  have H4 := Lib.hid (show ∀ W : World, BlkAt ((W.alloc (.cells #[.int .i64 0, .bool false, .string ⟨#[]⟩, .bool false, .slice none 0 0, .slice none 0 0, .bool false, .slice none 0 0, .slice none 0 0] 26)).alloc (.cells #[.int .i64 0, .bool false, .string ⟨#[]⟩, .bool false, .slice none 0 0, .slice none 0 0, .bool false, .slice none 0 0, .slice none 0 0] 26)) (W.heap.size + 1) #[.int .i64 0, .bool false, .string ⟨#[]⟩, .bool false, .slice none 0 0, .slice none 0 0, .bool false, .slice none 0 0, .slice none 0 0] 26 from fun W => by simpa using BlkAt.new (W.alloc (.cells #[.int .i64 0, .bool false, .string ⟨#[]⟩, .bool false, .slice none 0 0, .slice none 0 0, .bool false, .slice none 0 0, .slice none 0 0] 26)) #[.int .i64 0, .bool false, .string ⟨#[]⟩, .bool false, .slice none 0 0, .slice none 0 0, .bool false, .slice none 0 0, .slice none 0 0] 26)
  have HZ2b := Lib.hid (show BlkAt (((W5.alloc (.cells #[.int .i64 0, .bool false, .string ⟨#[]⟩, .bool false, .slice none 0 0, .slice none 0 0, .bool false, .slice none 0 0, .slice none 0 0] 26)).alloc (.cells #[.int .i64 0, .bool false, .string ⟨#[]⟩, .bool false, .slice none 0 0, .slice none 0 0, .bool false, .slice none 0 0, .slice none 0 0] 26)).drew) (W5.heap.size + 1) #[.int .i64 0, .bool false, .string ⟨#[]⟩, .bool false, .slice none 0 0, .slice none 0 0, .bool false, .slice none 0 0, .slice none 0 0] 26 from BlkAt.keep (H4.out W5) (Below.refl _ _).drew)
  go_cut [12, 13] from 45 to 50 (fun s8 s9 wx => ∃ gq gr q r, s8 = .pointer (some ⟨gq, 0, none⟩) ∧ s9 = .pointer (some ⟨gr, 0, none⟩) ∧ Boxed2 W5 wx gq gr q r ∧ IsQ (Rt.plus (vrt x) (vrt y)) 11 q ∧ IsQ (Rt.times (vrt x) (vrt y)) 11 r)
  case first =>
    go_region_held3 (fun w' => (w'.cell? ⟨w.heap.size, 0, none⟩ = some (.int .i64 x.kind) ∧ w'.cell? ⟨w.heap.size, 1, none⟩ = some (.bool x.truth) ∧ w'.cell? ⟨w.heap.size, 2, none⟩ = some (.string x.text) ∧ w'.cell? ⟨w.heap.size, 3, none⟩ = some (.bool x.neg) ∧ w'.cell? ⟨w.heap.size, 4, none⟩ = some (.slice x.wa x.wn x.wc) ∧ w'.cell? ⟨w.heap.size, 5, none⟩ = some (.slice x.da x.dn x.dc) ∧ w'.cell? ⟨w.heap.size, 6, none⟩ = some (.bool x.ineg) ∧ w'.cell? ⟨w.heap.size, 7, none⟩ = some (.slice x.ia x.inn x.ic) ∧ w'.cell? ⟨w.heap.size, 8, none⟩ = some (.slice x.ea x.en x.ec)) ∧ (w'.cell? ⟨(w.heap.size + 1), 0, none⟩ = some (.int .i64 y.kind) ∧ w'.cell? ⟨(w.heap.size + 1), 1, none⟩ = some (.bool y.truth) ∧ w'.cell? ⟨(w.heap.size + 1), 2, none⟩ = some (.string y.text) ∧ w'.cell? ⟨(w.heap.size + 1), 3, none⟩ = some (.bool y.neg) ∧ w'.cell? ⟨(w.heap.size + 1), 4, none⟩ = some (.slice y.wa y.wn y.wc) ∧ w'.cell? ⟨(w.heap.size + 1), 5, none⟩ = some (.slice y.da y.dn y.dc) ∧ w'.cell? ⟨(w.heap.size + 1), 6, none⟩ = some (.bool y.ineg) ∧ w'.cell? ⟨(w.heap.size + 1), 7, none⟩ = some (.slice y.ia y.inn y.ic) ∧ w'.cell? ⟨(w.heap.size + 1), 8, none⟩ = some (.slice y.ea y.en y.ec)))
      (with_reducible refine ⟨(X6.keep ?_).all, (Y6.keep ?_).all⟩ <;> (with_reducible first | assumption | exact Below.alloc' (by assumption) _ | exact Below.alloc' (Below.alloc' (by assumption) _) _ | exact Below.refl _ _ | (refine below_set9 ?_ ?_ _ _ _ _ _ _ _ _ _ <;> first | assumption | exact Below.alloc' (by assumption) _ | exact Below.alloc' (Below.alloc' (by assumption) _) _ | exact Nat.le_refl _ | exact Nat.le_succ _ | exact hbQ.size | exact Nat.le_trans hbQ.size (Nat.le_succ _) | exact hbR.size | exact Nat.le_trans hbR.size (Nat.le_succ _) | (refine below_set9 ?_ ?_ _ _ _ _ _ _ _ _ _ <;> first | assumption | exact Below.alloc' (by assumption) _ | exact Below.alloc' (Below.alloc' (by assumption) _) _ | exact Nat.le_refl _ | exact Nat.le_succ _ | exact hbQ.size | exact Nat.le_trans hbQ.size (Nat.le_succ _) | exact hbR.size | exact Nat.le_trans hbR.size (Nat.le_succ _)))))
      (first | (go_at_call 15; (with_reducible refine (implFF0_any x y (vrt x) (vrt y) 5 (by omega) _ ?_ ?_ ?_ ?_ BX.out BY.out rfl rfl).mono ?_); exact HT6.out.keep (by assumption); exact HD6.out.keep (by assumption); exact HX6.out.keep (by assumption); exact HY6.out.keep (by assumption); rintro e wQ ⟨q, rfl, hq, hQ, hBQ⟩; have hbQ := Below.then (show Below W5.heap.size W5 _ from by assumption) (Nat.le_refl _) hBQ; (try (with_reducible have A1 := HZ1.out.keep hBQ)); (try (with_reducible have A1 := HZ2a.out.keep hBQ)); (try (with_reducible have A2 := HZ2b.out.keep hBQ))) | (go_at_call 15; (with_reducible refine (implFF2_any x y (vrt x) (vrt y) 5 (by omega) _ ?_ ?_ ?_ ?_ BX.out BY.out rfl rfl).mono ?_); exact HT6.out.keep (by first | exact hbQ | exact Below.alloc' hbQ _ | exact Below.alloc' (Below.alloc' hbQ _) _); exact HD6.out.keep (by first | exact hbQ | exact Below.alloc' hbQ _ | exact Below.alloc' (Below.alloc' hbQ _) _); exact HX6.out.keep (by first | exact hbQ | exact Below.alloc' hbQ _ | exact Below.alloc' (Below.alloc' hbQ _) _); exact HY6.out.keep (by first | exact hbQ | exact Below.alloc' hbQ _ | exact Below.alloc' (Below.alloc' hbQ _) _); rintro e wR ⟨r, rfl, hr, hR, hBR⟩; have hbR := Below.then (show Below W5.heap.size W5 _ from by first | exact hbQ | exact Below.alloc' hbQ _ | exact Below.alloc' (Below.alloc' hbQ _) _) (Nat.le_refl _) hBR; have hq' := VlAt.keep (show VlAt _ q from by first | exact hq | exact hq.keep (Below.alloc' (Below.refl _ _) _) | exact hq.keep (Below.alloc' (Below.alloc' (Below.refl _ _) _) _)) hBR; (try (have B1 := BlkAt.keep (show BlkAt _ W5.heap.size #[.int .i64 0, .bool false, .string ⟨#[]⟩, .bool false, .slice none 0 0, .slice none 0 0, .bool false, .slice none 0 0, .slice none 0 0] 26 from by with_reducible first | exact A1 | exact A1.keep (Below.alloc' (Below.refl _ _) _) | exact A1.keep (Below.alloc' (Below.alloc' (Below.refl _ _) _) _)) hBR)); (try (have B2 := BlkAt.keep (show BlkAt _ (W5.heap.size + 1) #[.int .i64 0, .bool false, .string ⟨#[]⟩, .bool false, .slice none 0 0, .slice none 0 0, .bool false, .slice none 0 0, .slice none 0 0] 26 from by with_reducible first | exact A2 | exact A2.keep (Below.alloc' (Below.refl _ _) _) | exact A2.keep (Below.alloc' (Below.alloc' (Below.refl _ _) _) _)) hBR)); (try (with_reducible have B3 := BlkAt.keep (BlkAt.new wQ #[.int .i64 0, .bool false, .string ⟨#[]⟩, .bool false, .slice none 0 0, .slice none 0 0, .bool false, .slice none 0 0, .slice none 0 0] 26) hBR)); (try (with_reducible have B3 := BlkAt.keep ((BlkAt.new wQ #[.int .i64 0, .bool false, .string ⟨#[]⟩, .bool false, .slice none 0 0, .slice none 0 0, .bool false, .slice none 0 0, .slice none 0 0] 26).keep (Below.alloc' (Below.refl _ _) (.cells #[.int .i64 0, .bool false, .string ⟨#[]⟩, .bool false, .slice none 0 0, .slice none 0 0, .bool false, .slice none 0 0, .slice none 0 0] 26))) hBR)); (try (with_reducible have B4 := BlkAt.keep (H4.out wQ) hBR)); (try (have p1c0 := (B1).cell 0; have p1c1 := (B1).cell 1; have p1c2 := (B1).cell 2; have p1c3 := (B1).cell 3; have p1c4 := (B1).cell 4; have p1c5 := (B1).cell 5; have p1c6 := (B1).cell 6; have p1c7 := (B1).cell 7; have p1c8 := (B1).cell 8; simp only [List.getElem?_toArray, List.getElem?_cons_zero, List.getElem?_cons_succ] at p1c0 p1c1 p1c2 p1c3 p1c4 p1c5 p1c6 p1c7 p1c8; have p1f0 := (B1).frozen 0; have p1f1 := (B1).frozen 1; have p1f2 := (B1).frozen 2; have p1f3 := (B1).frozen 3; have p1f4 := (B1).frozen 4; have p1f5 := (B1).frozen 5; have p1f6 := (B1).frozen 6; have p1f7 := (B1).frozen 7; have p1f8 := (B1).frozen 8)); (try (have C1 := B1.keep (Below.alloc' (Below.refl _ _) (.cells #[.int .i64 0, .bool false, .string ⟨#[]⟩, .bool false, .slice none 0 0, .slice none 0 0, .bool false, .slice none 0 0, .slice none 0 0] 26)); have c1c0 := (C1).cell 0; have c1c1 := (C1).cell 1; have c1c2 := (C1).cell 2; have c1c3 := (C1).cell 3; have c1c4 := (C1).cell 4; have c1c5 := (C1).cell 5; have c1c6 := (C1).cell 6; have c1c7 := (C1).cell 7; have c1c8 := (C1).cell 8; simp only [List.getElem?_toArray, List.getElem?_cons_zero, List.getElem?_cons_succ] at c1c0 c1c1 c1c2 c1c3 c1c4 c1c5 c1c6 c1c7 c1c8; have c1f0 := (C1).frozen 0; have c1f1 := (C1).frozen 1; have c1f2 := (C1).frozen 2; have c1f3 := (C1).frozen 3; have c1f4 := (C1).frozen 4; have c1f5 := (C1).frozen 5; have c1f6 := (C1).frozen 6; have c1f7 := (C1).frozen 7; have c1f8 := (C1).frozen 8)); (try (have D1 := B1.keep (Below.alloc' (Below.refl _ _) (.cells #[.int .i64 q.kind, .bool q.truth, .string q.text, .bool q.neg, .slice q.wa q.wn q.wc, .slice q.da q.dn q.dc, .bool q.ineg, .slice q.ia q.inn q.ic, .slice q.ea q.en q.ec] 26)); have d1c0 := (D1).cell 0; have d1c1 := (D1).cell 1; have d1c2 := (D1).cell 2; have d1c3 := (D1).cell 3; have d1c4 := (D1).cell 4; have d1c5 := (D1).cell 5; have d1c6 := (D1).cell 6; have d1c7 := (D1).cell 7; have d1c8 := (D1).cell 8; simp only [List.getElem?_toArray, List.getElem?_cons_zero, List.getElem?_cons_succ] at d1c0 d1c1 d1c2 d1c3 d1c4 d1c5 d1c6 d1c7 d1c8; have d1f0 := (D1).frozen 0; have d1f1 := (D1).frozen 1; have d1f2 := (D1).frozen 2; have d1f3 := (D1).frozen 3; have d1f4 := (D1).frozen 4; have d1f5 := (D1).frozen 5; have d1f6 := (D1).frozen 6; have d1f7 := (D1).frozen 7; have d1f8 := (D1).frozen 8)); (try (have E1 := B1.keep (Below.alloc' (Below.refl _ _) (.cells #[.int .i64 r.kind, .bool r.truth, .string r.text, .bool r.neg, .slice r.wa r.wn r.wc, .slice r.da r.dn r.dc, .bool r.ineg, .slice r.ia r.inn r.ic, .slice r.ea r.en r.ec] 26)); have e1c0 := (E1).cell 0; have e1c1 := (E1).cell 1; have e1c2 := (E1).cell 2; have e1c3 := (E1).cell 3; have e1c4 := (E1).cell 4; have e1c5 := (E1).cell 5; have e1c6 := (E1).cell 6; have e1c7 := (E1).cell 7; have e1c8 := (E1).cell 8; simp only [List.getElem?_toArray, List.getElem?_cons_zero, List.getElem?_cons_succ] at e1c0 e1c1 e1c2 e1c3 e1c4 e1c5 e1c6 e1c7 e1c8; have e1f0 := (E1).frozen 0; have e1f1 := (E1).frozen 1; have e1f2 := (E1).frozen 2; have e1f3 := (E1).frozen 3; have e1f4 := (E1).frozen 4; have e1f5 := (E1).frozen 5; have e1f6 := (E1).frozen 6; have e1f7 := (E1).frozen 7; have e1f8 := (E1).frozen 8)); (try (have p2c0 := (B2).cell 0; have p2c1 := (B2).cell 1; have p2c2 := (B2).cell 2; have p2c3 := (B2).cell 3; have p2c4 := (B2).cell 4; have p2c5 := (B2).cell 5; have p2c6 := (B2).cell 6; have p2c7 := (B2).cell 7; have p2c8 := (B2).cell 8; simp only [List.getElem?_toArray, List.getElem?_cons_zero, List.getElem?_cons_succ] at p2c0 p2c1 p2c2 p2c3 p2c4 p2c5 p2c6 p2c7 p2c8; have p2f0 := (B2).frozen 0; have p2f1 := (B2).frozen 1; have p2f2 := (B2).frozen 2; have p2f3 := (B2).frozen 3; have p2f4 := (B2).frozen 4; have p2f5 := (B2).frozen 5; have p2f6 := (B2).frozen 6; have p2f7 := (B2).frozen 7; have p2f8 := (B2).frozen 8)); (try (have C2 := B2.keep (Below.alloc' (Below.refl _ _) (.cells #[.int .i64 0, .bool false, .string ⟨#[]⟩, .bool false, .slice none 0 0, .slice none 0 0, .bool false, .slice none 0 0, .slice none 0 0] 26)); have c2c0 := (C2).cell 0; have c2c1 := (C2).cell 1; have c2c2 := (C2).cell 2; have c2c3 := (C2).cell 3; have c2c4 := (C2).cell 4; have c2c5 := (C2).cell 5; have c2c6 := (C2).cell 6; have c2c7 := (C2).cell 7; have c2c8 := (C2).cell 8; simp only [List.getElem?_toArray, List.getElem?_cons_zero, List.getElem?_cons_succ] at c2c0 c2c1 c2c2 c2c3 c2c4 c2c5 c2c6 c2c7 c2c8; have c2f0 := (C2).frozen 0; have c2f1 := (C2).frozen 1; have c2f2 := (C2).frozen 2; have c2f3 := (C2).frozen 3; have c2f4 := (C2).frozen 4; have c2f5 := (C2).frozen 5; have c2f6 := (C2).frozen 6; have c2f7 := (C2).frozen 7; have c2f8 := (C2).frozen 8)); (try (have D2 := B2.keep (Below.alloc' (Below.refl _ _) (.cells #[.int .i64 q.kind, .bool q.truth, .string q.text, .bool q.neg, .slice q.wa q.wn q.wc, .slice q.da q.dn q.dc, .bool q.ineg, .slice q.ia q.inn q.ic, .slice q.ea q.en q.ec] 26)); have d2c0 := (D2).cell 0; have d2c1 := (D2).cell 1; have d2c2 := (D2).cell 2; have d2c3 := (D2).cell 3; have d2c4 := (D2).cell 4; have d2c5 := (D2).cell 5; have d2c6 := (D2).cell 6; have d2c7 := (D2).cell 7; have d2c8 := (D2).cell 8; simp only [List.getElem?_toArray, List.getElem?_cons_zero, List.getElem?_cons_succ] at d2c0 d2c1 d2c2 d2c3 d2c4 d2c5 d2c6 d2c7 d2c8; have d2f0 := (D2).frozen 0; have d2f1 := (D2).frozen 1; have d2f2 := (D2).frozen 2; have d2f3 := (D2).frozen 3; have d2f4 := (D2).frozen 4; have d2f5 := (D2).frozen 5; have d2f6 := (D2).frozen 6; have d2f7 := (D2).frozen 7; have d2f8 := (D2).frozen 8)); (try (have E2 := B2.keep (Below.alloc' (Below.refl _ _) (.cells #[.int .i64 r.kind, .bool r.truth, .string r.text, .bool r.neg, .slice r.wa r.wn r.wc, .slice r.da r.dn r.dc, .bool r.ineg, .slice r.ia r.inn r.ic, .slice r.ea r.en r.ec] 26)); have e2c0 := (E2).cell 0; have e2c1 := (E2).cell 1; have e2c2 := (E2).cell 2; have e2c3 := (E2).cell 3; have e2c4 := (E2).cell 4; have e2c5 := (E2).cell 5; have e2c6 := (E2).cell 6; have e2c7 := (E2).cell 7; have e2c8 := (E2).cell 8; simp only [List.getElem?_toArray, List.getElem?_cons_zero, List.getElem?_cons_succ] at e2c0 e2c1 e2c2 e2c3 e2c4 e2c5 e2c6 e2c7 e2c8; have e2f0 := (E2).frozen 0; have e2f1 := (E2).frozen 1; have e2f2 := (E2).frozen 2; have e2f3 := (E2).frozen 3; have e2f4 := (E2).frozen 4; have e2f5 := (E2).frozen 5; have e2f6 := (E2).frozen 6; have e2f7 := (E2).frozen 7; have e2f8 := (E2).frozen 8)); (try (have p3c0 := (B3).cell 0; have p3c1 := (B3).cell 1; have p3c2 := (B3).cell 2; have p3c3 := (B3).cell 3; have p3c4 := (B3).cell 4; have p3c5 := (B3).cell 5; have p3c6 := (B3).cell 6; have p3c7 := (B3).cell 7; have p3c8 := (B3).cell 8; simp only [List.getElem?_toArray, List.getElem?_cons_zero, List.getElem?_cons_succ] at p3c0 p3c1 p3c2 p3c3 p3c4 p3c5 p3c6 p3c7 p3c8; have p3f0 := (B3).frozen 0; have p3f1 := (B3).frozen 1; have p3f2 := (B3).frozen 2; have p3f3 := (B3).frozen 3; have p3f4 := (B3).frozen 4; have p3f5 := (B3).frozen 5; have p3f6 := (B3).frozen 6; have p3f7 := (B3).frozen 7; have p3f8 := (B3).frozen 8)); (try (have C3 := B3.keep (Below.alloc' (Below.refl _ _) (.cells #[.int .i64 0, .bool false, .string ⟨#[]⟩, .bool false, .slice none 0 0, .slice none 0 0, .bool false, .slice none 0 0, .slice none 0 0] 26)); have c3c0 := (C3).cell 0; have c3c1 := (C3).cell 1; have c3c2 := (C3).cell 2; have c3c3 := (C3).cell 3; have c3c4 := (C3).cell 4; have c3c5 := (C3).cell 5; have c3c6 := (C3).cell 6; have c3c7 := (C3).cell 7; have c3c8 := (C3).cell 8; simp only [List.getElem?_toArray, List.getElem?_cons_zero, List.getElem?_cons_succ] at c3c0 c3c1 c3c2 c3c3 c3c4 c3c5 c3c6 c3c7 c3c8; have c3f0 := (C3).frozen 0; have c3f1 := (C3).frozen 1; have c3f2 := (C3).frozen 2; have c3f3 := (C3).frozen 3; have c3f4 := (C3).frozen 4; have c3f5 := (C3).frozen 5; have c3f6 := (C3).frozen 6; have c3f7 := (C3).frozen 7; have c3f8 := (C3).frozen 8)); (try (have D3 := B3.keep (Below.alloc' (Below.refl _ _) (.cells #[.int .i64 q.kind, .bool q.truth, .string q.text, .bool q.neg, .slice q.wa q.wn q.wc, .slice q.da q.dn q.dc, .bool q.ineg, .slice q.ia q.inn q.ic, .slice q.ea q.en q.ec] 26)); have d3c0 := (D3).cell 0; have d3c1 := (D3).cell 1; have d3c2 := (D3).cell 2; have d3c3 := (D3).cell 3; have d3c4 := (D3).cell 4; have d3c5 := (D3).cell 5; have d3c6 := (D3).cell 6; have d3c7 := (D3).cell 7; have d3c8 := (D3).cell 8; simp only [List.getElem?_toArray, List.getElem?_cons_zero, List.getElem?_cons_succ] at d3c0 d3c1 d3c2 d3c3 d3c4 d3c5 d3c6 d3c7 d3c8; have d3f0 := (D3).frozen 0; have d3f1 := (D3).frozen 1; have d3f2 := (D3).frozen 2; have d3f3 := (D3).frozen 3; have d3f4 := (D3).frozen 4; have d3f5 := (D3).frozen 5; have d3f6 := (D3).frozen 6; have d3f7 := (D3).frozen 7; have d3f8 := (D3).frozen 8)); (try (have E3 := B3.keep (Below.alloc' (Below.refl _ _) (.cells #[.int .i64 r.kind, .bool r.truth, .string r.text, .bool r.neg, .slice r.wa r.wn r.wc, .slice r.da r.dn r.dc, .bool r.ineg, .slice r.ia r.inn r.ic, .slice r.ea r.en r.ec] 26)); have e3c0 := (E3).cell 0; have e3c1 := (E3).cell 1; have e3c2 := (E3).cell 2; have e3c3 := (E3).cell 3; have e3c4 := (E3).cell 4; have e3c5 := (E3).cell 5; have e3c6 := (E3).cell 6; have e3c7 := (E3).cell 7; have e3c8 := (E3).cell 8; simp only [List.getElem?_toArray, List.getElem?_cons_zero, List.getElem?_cons_succ] at e3c0 e3c1 e3c2 e3c3 e3c4 e3c5 e3c6 e3c7 e3c8; have e3f0 := (E3).frozen 0; have e3f1 := (E3).frozen 1; have e3f2 := (E3).frozen 2; have e3f3 := (E3).frozen 3; have e3f4 := (E3).frozen 4; have e3f5 := (E3).frozen 5; have e3f6 := (E3).frozen 6; have e3f7 := (E3).frozen 7; have e3f8 := (E3).frozen 8)); (try (have p4c0 := (B4).cell 0; have p4c1 := (B4).cell 1; have p4c2 := (B4).cell 2; have p4c3 := (B4).cell 3; have p4c4 := (B4).cell 4; have p4c5 := (B4).cell 5; have p4c6 := (B4).cell 6; have p4c7 := (B4).cell 7; have p4c8 := (B4).cell 8; simp only [List.getElem?_toArray, List.getElem?_cons_zero, List.getElem?_cons_succ] at p4c0 p4c1 p4c2 p4c3 p4c4 p4c5 p4c6 p4c7 p4c8; have p4f0 := (B4).frozen 0; have p4f1 := (B4).frozen 1; have p4f2 := (B4).frozen 2; have p4f3 := (B4).frozen 3; have p4f4 := (B4).frozen 4; have p4f5 := (B4).frozen 5; have p4f6 := (B4).frozen 6; have p4f7 := (B4).frozen 7; have p4f8 := (B4).frozen 8)); (try (have C4 := B4.keep (Below.alloc' (Below.refl _ _) (.cells #[.int .i64 0, .bool false, .string ⟨#[]⟩, .bool false, .slice none 0 0, .slice none 0 0, .bool false, .slice none 0 0, .slice none 0 0] 26)); have c4c0 := (C4).cell 0; have c4c1 := (C4).cell 1; have c4c2 := (C4).cell 2; have c4c3 := (C4).cell 3; have c4c4 := (C4).cell 4; have c4c5 := (C4).cell 5; have c4c6 := (C4).cell 6; have c4c7 := (C4).cell 7; have c4c8 := (C4).cell 8; simp only [List.getElem?_toArray, List.getElem?_cons_zero, List.getElem?_cons_succ] at c4c0 c4c1 c4c2 c4c3 c4c4 c4c5 c4c6 c4c7 c4c8; have c4f0 := (C4).frozen 0; have c4f1 := (C4).frozen 1; have c4f2 := (C4).frozen 2; have c4f3 := (C4).frozen 3; have c4f4 := (C4).frozen 4; have c4f5 := (C4).frozen 5; have c4f6 := (C4).frozen 6; have c4f7 := (C4).frozen 7; have c4f8 := (C4).frozen 8)); (try (have D4 := B4.keep (Below.alloc' (Below.refl _ _) (.cells #[.int .i64 q.kind, .bool q.truth, .string q.text, .bool q.neg, .slice q.wa q.wn q.wc, .slice q.da q.dn q.dc, .bool q.ineg, .slice q.ia q.inn q.ic, .slice q.ea q.en q.ec] 26)); have d4c0 := (D4).cell 0; have d4c1 := (D4).cell 1; have d4c2 := (D4).cell 2; have d4c3 := (D4).cell 3; have d4c4 := (D4).cell 4; have d4c5 := (D4).cell 5; have d4c6 := (D4).cell 6; have d4c7 := (D4).cell 7; have d4c8 := (D4).cell 8; simp only [List.getElem?_toArray, List.getElem?_cons_zero, List.getElem?_cons_succ] at d4c0 d4c1 d4c2 d4c3 d4c4 d4c5 d4c6 d4c7 d4c8; have d4f0 := (D4).frozen 0; have d4f1 := (D4).frozen 1; have d4f2 := (D4).frozen 2; have d4f3 := (D4).frozen 3; have d4f4 := (D4).frozen 4; have d4f5 := (D4).frozen 5; have d4f6 := (D4).frozen 6; have d4f7 := (D4).frozen 7; have d4f8 := (D4).frozen 8)); (try (have E4 := B4.keep (Below.alloc' (Below.refl _ _) (.cells #[.int .i64 r.kind, .bool r.truth, .string r.text, .bool r.neg, .slice r.wa r.wn r.wc, .slice r.da r.dn r.dc, .bool r.ineg, .slice r.ia r.inn r.ic, .slice r.ea r.en r.ec] 26)); have e4c0 := (E4).cell 0; have e4c1 := (E4).cell 1; have e4c2 := (E4).cell 2; have e4c3 := (E4).cell 3; have e4c4 := (E4).cell 4; have e4c5 := (E4).cell 5; have e4c6 := (E4).cell 6; have e4c7 := (E4).cell 7; have e4c8 := (E4).cell 8; simp only [List.getElem?_toArray, List.getElem?_cons_zero, List.getElem?_cons_succ] at e4c0 e4c1 e4c2 e4c3 e4c4 e4c5 e4c6 e4c7 e4c8; have e4f0 := (E4).frozen 0; have e4f1 := (E4).frozen 1; have e4f2 := (E4).frozen 2; have e4f3 := (E4).frozen 3; have e4f4 := (E4).frozen 4; have e4f5 := (E4).frozen 5; have e4f6 := (E4).frozen 6; have e4f7 := (E4).frozen 7; have e4f8 := (E4).frozen 8)); (try (have n0a : ¬ W5.heap.size = wQ.heap.size := Nat.ne_of_lt A1.lt; have n0b : ¬ wQ.heap.size = W5.heap.size := fun h => Nat.ne_of_lt A1.lt h.symm)); (try (have n1a : ¬ W5.heap.size = wR.heap.size := Nat.ne_of_lt B1.lt; have n1b : ¬ wR.heap.size = W5.heap.size := fun h => Nat.ne_of_lt B1.lt h.symm)); (try (have n2a : ¬ wQ.heap.size = wR.heap.size := Nat.ne_of_lt B3.lt; have n2b : ¬ wR.heap.size = wQ.heap.size := fun h => Nat.ne_of_lt B3.lt h.symm))))
    · have hq2 := hq'
      have HBX : Boxed2 W5 ((wR.alloc (.cells #[.int .i64 q.kind, .bool q.truth, .string q.text, .bool q.neg, .slice q.wa q.wn q.wc, .slice q.da q.dn q.dc, .bool q.ineg, .slice q.ia q.inn q.ic, .slice q.ea q.en q.ec] 26)).alloc (.cells #[.int .i64 r.kind, .bool r.truth, .string r.text, .bool r.neg, .slice r.wa r.wn r.wc, .slice r.da r.dn r.dc, .bool r.ineg, .slice r.ia r.inn r.ic, .slice r.ea r.en r.ec] 26)) (wR.heap.size) (wR.heap.size + 1) q r := ⟨Below.alloc' (Below.alloc' hbR _) _, (hq2.keep (Below.alloc' (Below.refl _ _) _)).keep (Below.alloc' (Below.refl _ _) _), (hr.keep (Below.alloc' (Below.refl _ _) _)).keep (Below.alloc' (Below.refl _ _) _), (Box9.new wR q _ rfl).alloc _, Box9.new _ r _ (by simp)⟩
      go_wp2_with fail
      go_meet
      with_reducible exact ⟨_, _, q, r, rfl, rfl, HBX, hQ, hR⟩
    · have hq2 := hq'
      have HBX : Boxed2 W5 ((wR.alloc (.cells #[.int .i64 r.kind, .bool r.truth, .string r.text, .bool r.neg, .slice r.wa r.wn r.wc, .slice r.da r.dn r.dc, .bool r.ineg, .slice r.ia r.inn r.ic, .slice r.ea r.en r.ec] 26)).alloc (.cells #[.int .i64 q.kind, .bool q.truth, .string q.text, .bool q.neg, .slice q.wa q.wn q.wc, .slice q.da q.dn q.dc, .bool q.ineg, .slice q.ia q.inn q.ic, .slice q.ea q.en q.ec] 26)) (wR.heap.size + 1) (wR.heap.size) q r := ⟨Below.alloc' (Below.alloc' hbR _) _, (hq2.keep (Below.alloc' (Below.refl _ _) _)).keep (Below.alloc' (Below.refl _ _) _), (hr.keep (Below.alloc' (Below.refl _ _) _)).keep (Below.alloc' (Below.refl _ _) _), Box9.new _ q _ (by simp), (Box9.new wR r _ rfl).alloc _⟩
      go_wp2_with fail
      go_meet
      with_reducible exact ⟨_, _, q, r, rfl, rfl, HBX, hQ, hR⟩
    · have hq2 := hq'
      have HBX : Boxed2 W5 (((((((((((((((((((wR.alloc (.cells #[.int .i64 0, .bool false, .string ⟨#[]⟩, .bool false, .slice none 0 0, .slice none 0 0, .bool false, .slice none 0 0, .slice none 0 0] 26)).setCell ⟨wQ.heap.size, 0, none⟩ (.int .i64 q.kind)).setCell ⟨wQ.heap.size, 1, none⟩ (.bool q.truth)).setCell ⟨wQ.heap.size, 2, none⟩ (.string q.text)).setCell ⟨wQ.heap.size, 3, none⟩ (.bool q.neg)).setCell ⟨wQ.heap.size, 4, none⟩ (.slice q.wa q.wn q.wc)).setCell ⟨wQ.heap.size, 5, none⟩ (.slice q.da q.dn q.dc)).setCell ⟨wQ.heap.size, 6, none⟩ (.bool q.ineg)).setCell ⟨wQ.heap.size, 7, none⟩ (.slice q.ia q.inn q.ic)).setCell ⟨wQ.heap.size, 8, none⟩ (.slice q.ea q.en q.ec)).setCell ⟨wR.heap.size, 0, none⟩ (.int .i64 r.kind)).setCell ⟨wR.heap.size, 1, none⟩ (.bool r.truth)).setCell ⟨wR.heap.size, 2, none⟩ (.string r.text)).setCell ⟨wR.heap.size, 3, none⟩ (.bool r.neg)).setCell ⟨wR.heap.size, 4, none⟩ (.slice r.wa r.wn r.wc)).setCell ⟨wR.heap.size, 5, none⟩ (.slice r.da r.dn r.dc)).setCell ⟨wR.heap.size, 6, none⟩ (.bool r.ineg)).setCell ⟨wR.heap.size, 7, none⟩ (.slice r.ia r.inn r.ic)).setCell ⟨wR.heap.size, 8, none⟩ (.slice r.ea r.en r.ec)) (wQ.heap.size) (wR.heap.size) q r := boxed2_qr (Below.alloc' hbR _) (hq2.keep (Below.alloc' (Below.refl _ _) _)) (hr.keep (Below.alloc' (Below.refl _ _) _)) C3 (BlkAt.new wR #[.int .i64 0, .bool false, .string ⟨#[]⟩, .bool false, .slice none 0 0, .slice none 0 0, .bool false, .slice none 0 0, .slice none 0 0] 26) (hbQ.size) hbR.size (Nat.ne_of_lt B3.lt)
      go_wp2_with fail
      go_meet
      with_reducible exact ⟨_, _, q, r, rfl, rfl, HBX, hQ, hR⟩
    · have hq2 := hq'
      have HBX : Boxed2 W5 ((((((((((((((((((wR.setCell ⟨wQ.heap.size, 0, none⟩ (.int .i64 q.kind)).setCell ⟨wQ.heap.size, 1, none⟩ (.bool q.truth)).setCell ⟨wQ.heap.size, 2, none⟩ (.string q.text)).setCell ⟨wQ.heap.size, 3, none⟩ (.bool q.neg)).setCell ⟨wQ.heap.size, 4, none⟩ (.slice q.wa q.wn q.wc)).setCell ⟨wQ.heap.size, 5, none⟩ (.slice q.da q.dn q.dc)).setCell ⟨wQ.heap.size, 6, none⟩ (.bool q.ineg)).setCell ⟨wQ.heap.size, 7, none⟩ (.slice q.ia q.inn q.ic)).setCell ⟨wQ.heap.size, 8, none⟩ (.slice q.ea q.en q.ec)).setCell ⟨wQ.heap.size + 1, 0, none⟩ (.int .i64 r.kind)).setCell ⟨wQ.heap.size + 1, 1, none⟩ (.bool r.truth)).setCell ⟨wQ.heap.size + 1, 2, none⟩ (.string r.text)).setCell ⟨wQ.heap.size + 1, 3, none⟩ (.bool r.neg)).setCell ⟨wQ.heap.size + 1, 4, none⟩ (.slice r.wa r.wn r.wc)).setCell ⟨wQ.heap.size + 1, 5, none⟩ (.slice r.da r.dn r.dc)).setCell ⟨wQ.heap.size + 1, 6, none⟩ (.bool r.ineg)).setCell ⟨wQ.heap.size + 1, 7, none⟩ (.slice r.ia r.inn r.ic)).setCell ⟨wQ.heap.size + 1, 8, none⟩ (.slice r.ea r.en r.ec)) (wQ.heap.size) (wQ.heap.size + 1) q r := boxed2_qr hbR hq2 hr B3 B4 (hbQ.size) (Nat.le_trans hbQ.size (Nat.le_succ _)) (by omega)
      go_wp2_with fail
      go_meet
      with_reducible exact ⟨_, _, q, r, rfl, rfl, HBX, hQ, hR⟩
    · have hq2 := hq'
      have HBX : Boxed2 W5 ((((((((((wR.alloc (.cells #[.int .i64 q.kind, .bool q.truth, .string q.text, .bool q.neg, .slice q.wa q.wn q.wc, .slice q.da q.dn q.dc, .bool q.ineg, .slice q.ia q.inn q.ic, .slice q.ea q.en q.ec] 26)).setCell ⟨wQ.heap.size, 0, none⟩ (.int .i64 r.kind)).setCell ⟨wQ.heap.size, 1, none⟩ (.bool r.truth)).setCell ⟨wQ.heap.size, 2, none⟩ (.string r.text)).setCell ⟨wQ.heap.size, 3, none⟩ (.bool r.neg)).setCell ⟨wQ.heap.size, 4, none⟩ (.slice r.wa r.wn r.wc)).setCell ⟨wQ.heap.size, 5, none⟩ (.slice r.da r.dn r.dc)).setCell ⟨wQ.heap.size, 6, none⟩ (.bool r.ineg)).setCell ⟨wQ.heap.size, 7, none⟩ (.slice r.ia r.inn r.ic)).setCell ⟨wQ.heap.size, 8, none⟩ (.slice r.ea r.en r.ec)) (wR.heap.size) (wQ.heap.size) q r := boxed2_r (Below.alloc' hbR _) (hq2.keep (Below.alloc' (Below.refl _ _) _)) (hr.keep (Below.alloc' (Below.refl _ _) _)) (Box9.new wR q _ rfl) (BlkAt.keep B3 (Below.alloc' (Below.refl _ _) _)) (hbQ.size) (Ne.symm (Nat.ne_of_lt B3.lt))
      go_wp2_with fail
      go_meet
      with_reducible exact ⟨_, _, q, r, rfl, rfl, HBX, hQ, hR⟩
    · have hq2 := hq'
      have HBX : Boxed2 W5 ((((((((((((((((((wR.setCell ⟨wQ.heap.size + 1, 0, none⟩ (.int .i64 q.kind)).setCell ⟨wQ.heap.size + 1, 1, none⟩ (.bool q.truth)).setCell ⟨wQ.heap.size + 1, 2, none⟩ (.string q.text)).setCell ⟨wQ.heap.size + 1, 3, none⟩ (.bool q.neg)).setCell ⟨wQ.heap.size + 1, 4, none⟩ (.slice q.wa q.wn q.wc)).setCell ⟨wQ.heap.size + 1, 5, none⟩ (.slice q.da q.dn q.dc)).setCell ⟨wQ.heap.size + 1, 6, none⟩ (.bool q.ineg)).setCell ⟨wQ.heap.size + 1, 7, none⟩ (.slice q.ia q.inn q.ic)).setCell ⟨wQ.heap.size + 1, 8, none⟩ (.slice q.ea q.en q.ec)).setCell ⟨wQ.heap.size, 0, none⟩ (.int .i64 r.kind)).setCell ⟨wQ.heap.size, 1, none⟩ (.bool r.truth)).setCell ⟨wQ.heap.size, 2, none⟩ (.string r.text)).setCell ⟨wQ.heap.size, 3, none⟩ (.bool r.neg)).setCell ⟨wQ.heap.size, 4, none⟩ (.slice r.wa r.wn r.wc)).setCell ⟨wQ.heap.size, 5, none⟩ (.slice r.da r.dn r.dc)).setCell ⟨wQ.heap.size, 6, none⟩ (.bool r.ineg)).setCell ⟨wQ.heap.size, 7, none⟩ (.slice r.ia r.inn r.ic)).setCell ⟨wQ.heap.size, 8, none⟩ (.slice r.ea r.en r.ec)) (wQ.heap.size + 1) (wQ.heap.size) q r := boxed2_qr hbR hq2 hr B4 B3 (Nat.le_trans hbQ.size (Nat.le_succ _)) (hbQ.size) (by omega)
      go_wp2_with fail
      go_meet
      with_reducible exact ⟨_, _, q, r, rfl, rfl, HBX, hQ, hR⟩
    · have hq2 := hq'
      have HBX : Boxed2 W5 (((((((((((((((((((wR.alloc (.cells #[.int .i64 0, .bool false, .string ⟨#[]⟩, .bool false, .slice none 0 0, .slice none 0 0, .bool false, .slice none 0 0, .slice none 0 0] 26)).setCell ⟨W5.heap.size, 0, none⟩ (.int .i64 q.kind)).setCell ⟨W5.heap.size, 1, none⟩ (.bool q.truth)).setCell ⟨W5.heap.size, 2, none⟩ (.string q.text)).setCell ⟨W5.heap.size, 3, none⟩ (.bool q.neg)).setCell ⟨W5.heap.size, 4, none⟩ (.slice q.wa q.wn q.wc)).setCell ⟨W5.heap.size, 5, none⟩ (.slice q.da q.dn q.dc)).setCell ⟨W5.heap.size, 6, none⟩ (.bool q.ineg)).setCell ⟨W5.heap.size, 7, none⟩ (.slice q.ia q.inn q.ic)).setCell ⟨W5.heap.size, 8, none⟩ (.slice q.ea q.en q.ec)).setCell ⟨wR.heap.size, 0, none⟩ (.int .i64 r.kind)).setCell ⟨wR.heap.size, 1, none⟩ (.bool r.truth)).setCell ⟨wR.heap.size, 2, none⟩ (.string r.text)).setCell ⟨wR.heap.size, 3, none⟩ (.bool r.neg)).setCell ⟨wR.heap.size, 4, none⟩ (.slice r.wa r.wn r.wc)).setCell ⟨wR.heap.size, 5, none⟩ (.slice r.da r.dn r.dc)).setCell ⟨wR.heap.size, 6, none⟩ (.bool r.ineg)).setCell ⟨wR.heap.size, 7, none⟩ (.slice r.ia r.inn r.ic)).setCell ⟨wR.heap.size, 8, none⟩ (.slice r.ea r.en r.ec)) (W5.heap.size) (wR.heap.size) q r := boxed2_qr (Below.alloc' hbR _) (hq2.keep (Below.alloc' (Below.refl _ _) _)) (hr.keep (Below.alloc' (Below.refl _ _) _)) C1 (BlkAt.new wR #[.int .i64 0, .bool false, .string ⟨#[]⟩, .bool false, .slice none 0 0, .slice none 0 0, .bool false, .slice none 0 0, .slice none 0 0] 26) (Nat.le_refl _) hbR.size (Nat.ne_of_lt B1.lt)
      go_wp2_with fail
      go_meet
      with_reducible exact ⟨_, _, q, r, rfl, rfl, HBX, hQ, hR⟩
    · have hq2 := hq'
      have HBX : Boxed2 W5 ((((((((((((((((((wR.setCell ⟨W5.heap.size, 0, none⟩ (.int .i64 q.kind)).setCell ⟨W5.heap.size, 1, none⟩ (.bool q.truth)).setCell ⟨W5.heap.size, 2, none⟩ (.string q.text)).setCell ⟨W5.heap.size, 3, none⟩ (.bool q.neg)).setCell ⟨W5.heap.size, 4, none⟩ (.slice q.wa q.wn q.wc)).setCell ⟨W5.heap.size, 5, none⟩ (.slice q.da q.dn q.dc)).setCell ⟨W5.heap.size, 6, none⟩ (.bool q.ineg)).setCell ⟨W5.heap.size, 7, none⟩ (.slice q.ia q.inn q.ic)).setCell ⟨W5.heap.size, 8, none⟩ (.slice q.ea q.en q.ec)).setCell ⟨wQ.heap.size, 0, none⟩ (.int .i64 r.kind)).setCell ⟨wQ.heap.size, 1, none⟩ (.bool r.truth)).setCell ⟨wQ.heap.size, 2, none⟩ (.string r.text)).setCell ⟨wQ.heap.size, 3, none⟩ (.bool r.neg)).setCell ⟨wQ.heap.size, 4, none⟩ (.slice r.wa r.wn r.wc)).setCell ⟨wQ.heap.size, 5, none⟩ (.slice r.da r.dn r.dc)).setCell ⟨wQ.heap.size, 6, none⟩ (.bool r.ineg)).setCell ⟨wQ.heap.size, 7, none⟩ (.slice r.ia r.inn r.ic)).setCell ⟨wQ.heap.size, 8, none⟩ (.slice r.ea r.en r.ec)) (W5.heap.size) (wQ.heap.size) q r := boxed2_qr hbR hq2 hr B1 B3 (Nat.le_refl _) (hbQ.size) (Nat.ne_of_lt A1.lt)
      go_wp2_with fail
      go_meet
      with_reducible exact ⟨_, _, q, r, rfl, rfl, HBX, hQ, hR⟩
    · have hq2 := hq'
      have HBX : Boxed2 W5 ((((((((((((((((((wR.setCell ⟨W5.heap.size, 0, none⟩ (.int .i64 q.kind)).setCell ⟨W5.heap.size, 1, none⟩ (.bool q.truth)).setCell ⟨W5.heap.size, 2, none⟩ (.string q.text)).setCell ⟨W5.heap.size, 3, none⟩ (.bool q.neg)).setCell ⟨W5.heap.size, 4, none⟩ (.slice q.wa q.wn q.wc)).setCell ⟨W5.heap.size, 5, none⟩ (.slice q.da q.dn q.dc)).setCell ⟨W5.heap.size, 6, none⟩ (.bool q.ineg)).setCell ⟨W5.heap.size, 7, none⟩ (.slice q.ia q.inn q.ic)).setCell ⟨W5.heap.size, 8, none⟩ (.slice q.ea q.en q.ec)).setCell ⟨W5.heap.size + 1, 0, none⟩ (.int .i64 r.kind)).setCell ⟨W5.heap.size + 1, 1, none⟩ (.bool r.truth)).setCell ⟨W5.heap.size + 1, 2, none⟩ (.string r.text)).setCell ⟨W5.heap.size + 1, 3, none⟩ (.bool r.neg)).setCell ⟨W5.heap.size + 1, 4, none⟩ (.slice r.wa r.wn r.wc)).setCell ⟨W5.heap.size + 1, 5, none⟩ (.slice r.da r.dn r.dc)).setCell ⟨W5.heap.size + 1, 6, none⟩ (.bool r.ineg)).setCell ⟨W5.heap.size + 1, 7, none⟩ (.slice r.ia r.inn r.ic)).setCell ⟨W5.heap.size + 1, 8, none⟩ (.slice r.ea r.en r.ec)) (W5.heap.size) (W5.heap.size + 1) q r := boxed2_qr hbR hq2 hr B1 B2 (Nat.le_refl _) (Nat.le_succ _) (by omega)
      go_wp2_with fail
      go_meet
      with_reducible exact ⟨_, _, q, r, rfl, rfl, HBX, hQ, hR⟩
    · have hq2 := hq'
      have HBX : Boxed2 W5 ((((((((((wR.alloc (.cells #[.int .i64 q.kind, .bool q.truth, .string q.text, .bool q.neg, .slice q.wa q.wn q.wc, .slice q.da q.dn q.dc, .bool q.ineg, .slice q.ia q.inn q.ic, .slice q.ea q.en q.ec] 26)).setCell ⟨W5.heap.size, 0, none⟩ (.int .i64 r.kind)).setCell ⟨W5.heap.size, 1, none⟩ (.bool r.truth)).setCell ⟨W5.heap.size, 2, none⟩ (.string r.text)).setCell ⟨W5.heap.size, 3, none⟩ (.bool r.neg)).setCell ⟨W5.heap.size, 4, none⟩ (.slice r.wa r.wn r.wc)).setCell ⟨W5.heap.size, 5, none⟩ (.slice r.da r.dn r.dc)).setCell ⟨W5.heap.size, 6, none⟩ (.bool r.ineg)).setCell ⟨W5.heap.size, 7, none⟩ (.slice r.ia r.inn r.ic)).setCell ⟨W5.heap.size, 8, none⟩ (.slice r.ea r.en r.ec)) (wR.heap.size) (W5.heap.size) q r := boxed2_r (Below.alloc' hbR _) (hq2.keep (Below.alloc' (Below.refl _ _) _)) (hr.keep (Below.alloc' (Below.refl _ _) _)) (Box9.new wR q _ rfl) (BlkAt.keep B1 (Below.alloc' (Below.refl _ _) _)) (Nat.le_refl _) (Ne.symm (Nat.ne_of_lt B1.lt))
      go_wp2_with fail
      go_meet
      with_reducible exact ⟨_, _, q, r, rfl, rfl, HBX, hQ, hR⟩
    · have hq2 := hq'
      have HBX : Boxed2 W5 ((((((((((((((((((wR.setCell ⟨wQ.heap.size, 0, none⟩ (.int .i64 q.kind)).setCell ⟨wQ.heap.size, 1, none⟩ (.bool q.truth)).setCell ⟨wQ.heap.size, 2, none⟩ (.string q.text)).setCell ⟨wQ.heap.size, 3, none⟩ (.bool q.neg)).setCell ⟨wQ.heap.size, 4, none⟩ (.slice q.wa q.wn q.wc)).setCell ⟨wQ.heap.size, 5, none⟩ (.slice q.da q.dn q.dc)).setCell ⟨wQ.heap.size, 6, none⟩ (.bool q.ineg)).setCell ⟨wQ.heap.size, 7, none⟩ (.slice q.ia q.inn q.ic)).setCell ⟨wQ.heap.size, 8, none⟩ (.slice q.ea q.en q.ec)).setCell ⟨W5.heap.size, 0, none⟩ (.int .i64 r.kind)).setCell ⟨W5.heap.size, 1, none⟩ (.bool r.truth)).setCell ⟨W5.heap.size, 2, none⟩ (.string r.text)).setCell ⟨W5.heap.size, 3, none⟩ (.bool r.neg)).setCell ⟨W5.heap.size, 4, none⟩ (.slice r.wa r.wn r.wc)).setCell ⟨W5.heap.size, 5, none⟩ (.slice r.da r.dn r.dc)).setCell ⟨W5.heap.size, 6, none⟩ (.bool r.ineg)).setCell ⟨W5.heap.size, 7, none⟩ (.slice r.ia r.inn r.ic)).setCell ⟨W5.heap.size, 8, none⟩ (.slice r.ea r.en r.ec)) (wQ.heap.size) (W5.heap.size) q r := boxed2_qr hbR hq2 hr B3 B1 (hbQ.size) (Nat.le_refl _) (Ne.symm (Nat.ne_of_lt A1.lt))
      go_wp2_with fail
      go_meet
      with_reducible exact ⟨_, _, q, r, rfl, rfl, HBX, hQ, hR⟩
    · have hq2 := hq'
      have HBX : Boxed2 W5 ((((((((((((((((((wR.setCell ⟨W5.heap.size + 1, 0, none⟩ (.int .i64 q.kind)).setCell ⟨W5.heap.size + 1, 1, none⟩ (.bool q.truth)).setCell ⟨W5.heap.size + 1, 2, none⟩ (.string q.text)).setCell ⟨W5.heap.size + 1, 3, none⟩ (.bool q.neg)).setCell ⟨W5.heap.size + 1, 4, none⟩ (.slice q.wa q.wn q.wc)).setCell ⟨W5.heap.size + 1, 5, none⟩ (.slice q.da q.dn q.dc)).setCell ⟨W5.heap.size + 1, 6, none⟩ (.bool q.ineg)).setCell ⟨W5.heap.size + 1, 7, none⟩ (.slice q.ia q.inn q.ic)).setCell ⟨W5.heap.size + 1, 8, none⟩ (.slice q.ea q.en q.ec)).setCell ⟨W5.heap.size, 0, none⟩ (.int .i64 r.kind)).setCell ⟨W5.heap.size, 1, none⟩ (.bool r.truth)).setCell ⟨W5.heap.size, 2, none⟩ (.string r.text)).setCell ⟨W5.heap.size, 3, none⟩ (.bool r.neg)).setCell ⟨W5.heap.size, 4, none⟩ (.slice r.wa r.wn r.wc)).setCell ⟨W5.heap.size, 5, none⟩ (.slice r.da r.dn r.dc)).setCell ⟨W5.heap.size, 6, none⟩ (.bool r.ineg)).setCell ⟨W5.heap.size, 7, none⟩ (.slice r.ia r.inn r.ic)).setCell ⟨W5.heap.size, 8, none⟩ (.slice r.ea r.en r.ec)) (W5.heap.size + 1) (W5.heap.size) q r := boxed2_qr hbR hq2 hr B2 B1 (Nat.le_succ _) (Nat.le_refl _) (by omega)
      go_wp2_with fail
      go_meet
      with_reducible exact ⟨_, _, q, r, rfl, rfl, HBX, hQ, hR⟩
  case rest =>
    obtain ⟨gq, gr, q, r, rfl, rfl, HBX, hQ, hR⟩ := hcut
    obtain ⟨W7, hW7⟩ : ∃ W7, W7 = wc := ⟨_, rfl⟩
    subst hW7
    have hb7 := HBX.below
    have Q7 := HBX.boxq
    have P7 := HBX.boxr
    have HQ7 := Lib.hid HBX.valq
    have HP7 := Lib.hid HBX.valr
    have X7 := X6.keep hb7
    have Y7 := Y6.keep hb7
    have Z7 := Z6.keep hb7
    have A7 := A6.keep hb7
    have C7 := C6.keep hb7
    have HX7 := Lib.hid (HX6.out.keep hb7)
    have HY7 := Lib.hid (HY6.out.keep hb7)
    have HZ7 := Lib.hid (HZ6.out.keep hb7)
    have RA7 := Lib.hid (RA6.out.keep hb7)
    have RC7 := Lib.hid (RC6.out.keep hb7)
    have HT7 := Lib.hid (HT6.out.keep hb7)
    have HD7 := Lib.hid (HD6.out.keep hb7)
    have HB7 := Lib.hid (Below.then HB6.out (Nat.le_refl _) hb7)
    have LQ := Lib.hid (isQ_rat hQ (Nat.le_refl 11))
    have LP := Lib.hid (isQ_rat hR (Nat.le_refl 11))
    have EQ := Lib.hid hQ.2.1
    have EP := Lib.hid hR.2.1
    have LX := Lib.hid (lrat_up BX.out (show 5 ≤ 11 by omega))
    have LY := Lib.hid (lrat_up BY.out (show 5 ≤ 11 by omega))
    have LZ := Lib.hid (lrat_up BZ.out (show 5 ≤ 11 by omega))
    have OX := Lib.hid NX.out.ok
    have OY := Lib.hid NY.out.ok
    have OZ := Lib.hid NZ.out.ok
    clear HBX hb7 hQ hR X6 Y6 Z6 A6 C6 HX6 HY6 HZ6 RA6 RC6 HT6 HD6 HB6 HZ1 HZ2a HZ2b H4 hd0 hd1 hd2
    have EA := Lib.hid (plus_minus OX.out OY.out)
    go_upto_region 8 with fail
    have hd7 : Below W7.heap.size W7 W7.drew := (Below.refl _ _).drew
    go_region_held3 (fun w' => (w'.cell? ⟨w.heap.size, 0, none⟩ = some (.int .i64 x.kind) ∧ w'.cell? ⟨w.heap.size, 1, none⟩ = some (.bool x.truth) ∧ w'.cell? ⟨w.heap.size, 2, none⟩ = some (.string x.text) ∧ w'.cell? ⟨w.heap.size, 3, none⟩ = some (.bool x.neg) ∧ w'.cell? ⟨w.heap.size, 4, none⟩ = some (.slice x.wa x.wn x.wc) ∧ w'.cell? ⟨w.heap.size, 5, none⟩ = some (.slice x.da x.dn x.dc) ∧ w'.cell? ⟨w.heap.size, 6, none⟩ = some (.bool x.ineg) ∧ w'.cell? ⟨w.heap.size, 7, none⟩ = some (.slice x.ia x.inn x.ic) ∧ w'.cell? ⟨w.heap.size, 8, none⟩ = some (.slice x.ea x.en x.ec)) ∧ (w'.cell? ⟨(w.heap.size + 1), 0, none⟩ = some (.int .i64 y.kind) ∧ w'.cell? ⟨(w.heap.size + 1), 1, none⟩ = some (.bool y.truth) ∧ w'.cell? ⟨(w.heap.size + 1), 2, none⟩ = some (.string y.text) ∧ w'.cell? ⟨(w.heap.size + 1), 3, none⟩ = some (.bool y.neg) ∧ w'.cell? ⟨(w.heap.size + 1), 4, none⟩ = some (.slice y.wa y.wn y.wc) ∧ w'.cell? ⟨(w.heap.size + 1), 5, none⟩ = some (.slice y.da y.dn y.dc) ∧ w'.cell? ⟨(w.heap.size + 1), 6, none⟩ = some (.bool y.ineg) ∧ w'.cell? ⟨(w.heap.size + 1), 7, none⟩ = some (.slice y.ia y.inn y.ic) ∧ w'.cell? ⟨(w.heap.size + 1), 8, none⟩ = some (.slice y.ea y.en y.ec)) ∧ (w'.cell? ⟨(w.heap.size + 1 + 1), 0, none⟩ = some (.int .i64 z.kind) ∧ w'.cell? ⟨(w.heap.size + 1 + 1), 1, none⟩ = some (.bool z.truth) ∧ w'.cell? ⟨(w.heap.size + 1 + 1), 2, none⟩ = some (.string z.text) ∧ w'.cell? ⟨(w.heap.size + 1 + 1), 3, none⟩ = some (.bool z.neg) ∧ w'.cell? ⟨(w.heap.size + 1 + 1), 4, none⟩ = some (.slice z.wa z.wn z.wc) ∧ w'.cell? ⟨(w.heap.size + 1 + 1), 5, none⟩ = some (.slice z.da z.dn z.dc) ∧ w'.cell? ⟨(w.heap.size + 1 + 1), 6, none⟩ = some (.bool z.ineg) ∧ w'.cell? ⟨(w.heap.size + 1 + 1), 7, none⟩ = some (.slice z.ia z.inn z.ic) ∧ w'.cell? ⟨(w.heap.size + 1 + 1), 8, none⟩ = some (.slice z.ea z.en z.ec)) ∧ (w'.cell? ⟨gq, 0, none⟩ = some (.int .i64 q.kind) ∧ w'.cell? ⟨gq, 1, none⟩ = some (.bool q.truth) ∧ w'.cell? ⟨gq, 2, none⟩ = some (.string q.text) ∧ w'.cell? ⟨gq, 3, none⟩ = some (.bool q.neg) ∧ w'.cell? ⟨gq, 4, none⟩ = some (.slice q.wa q.wn q.wc) ∧ w'.cell? ⟨gq, 5, none⟩ = some (.slice q.da q.dn q.dc) ∧ w'.cell? ⟨gq, 6, none⟩ = some (.bool q.ineg) ∧ w'.cell? ⟨gq, 7, none⟩ = some (.slice q.ia q.inn q.ic) ∧ w'.cell? ⟨gq, 8, none⟩ = some (.slice q.ea q.en q.ec)) ∧ (w'.cell? ⟨gr, 0, none⟩ = some (.int .i64 r.kind) ∧ w'.cell? ⟨gr, 1, none⟩ = some (.bool r.truth) ∧ w'.cell? ⟨gr, 2, none⟩ = some (.string r.text) ∧ w'.cell? ⟨gr, 3, none⟩ = some (.bool r.neg) ∧ w'.cell? ⟨gr, 4, none⟩ = some (.slice r.wa r.wn r.wc) ∧ w'.cell? ⟨gr, 5, none⟩ = some (.slice r.da r.dn r.dc) ∧ w'.cell? ⟨gr, 6, none⟩ = some (.bool r.ineg) ∧ w'.cell? ⟨gr, 7, none⟩ = some (.slice r.ia r.inn r.ic) ∧ w'.cell? ⟨gr, 8, none⟩ = some (.slice r.ea r.en r.ec)) ∧ (w'.cell? ⟨w4.heap.size, 0, none⟩ = some (.bool sA) ∧ w'.cell? ⟨w4.heap.size, 1, none⟩ = some (.slice aA nA cA) ∧ w'.cell? ⟨w4.heap.size, 2, none⟩ = some (.slice aB nB cB)) ∧ (w'.cell? ⟨(w4.heap.size + 1), 0, none⟩ = some (.bool sC) ∧ w'.cell? ⟨(w4.heap.size + 1), 1, none⟩ = some (.slice aC nC cC) ∧ w'.cell? ⟨(w4.heap.size + 1), 2, none⟩ = some (.slice aD nD cD)))
      (first | with_reducible exact ⟨X7.all, Y7.all, Z7.all, Q7.all, P7.all, A7.all, C7.all⟩ | with_reducible exact ⟨(X7.keep (by assumption)).all, (Y7.keep (by assumption)).all, (Z7.keep (by assumption)).all, (Q7.keep (by assumption)).all, (P7.keep (by assumption)).all, (A7.keep (by assumption)).all, (C7.keep (by assumption)).all⟩)
      (first | (go_at_call 15; (with_reducible refine (implFF1_any q y (Rt.plus (vrt x) (vrt y)) (vrt y) 11 (by omega) _ ?_ ?_ ?_ ?_ LQ.out LY.out EQ.out rfl).mono ?_); exact HT7.out.keep (by assumption); exact HD7.out.keep (by assumption); exact HQ7.out.keep (by assumption); exact HY7.out.keep (by assumption); rintro e v1 ⟨m, rfl, hm, Hm, hV1⟩; have hv1 := Below.then hd7 (Nat.le_refl _) hV1; have Em := Lib.hid Hm.2.1) | (go_at_call 18; (with_reducible refine (isFloat_any m sA aA nA cA aB nB cB (vrt x) 83 _ hm ?_ ?_ ?_ ?_).mono ?_); exact (RA7.out.keep (by assumption)).mono (by omega); omega; exact Nat.le_trans Hm.2.2.1 (by omega); exact Nat.le_trans Hm.2.2.2 (by omega); rintro e v2 ⟨rfl, hV2⟩; have hv2 := Below.then hv1 (Nat.le_refl _) hV2; rw [isQ_same (by rw [← EA.out]; exact Hm)]))
    go_upto_region 10 with fail
    obtain ⟨W8, hW8⟩ : ∃ W8, W8 = v2 := ⟨_, rfl⟩
    subst hW8
    have X8 := X7.keep hv2
    have Y8 := Y7.keep hv2
    have Z8 := Z7.keep hv2
    have Q8 := Q7.keep hv2
    have P8 := P7.keep hv2
    have A8 := A7.keep hv2
    have C8 := C7.keep hv2
    have HX8 := Lib.hid (HX7.out.keep hv2)
    have HY8 := Lib.hid (HY7.out.keep hv2)
    have HZ8 := Lib.hid (HZ7.out.keep hv2)
    have HQ8 := Lib.hid (HQ7.out.keep hv2)
    have HP8 := Lib.hid (HP7.out.keep hv2)
    have RA8 := Lib.hid (RA7.out.keep hv2)
    have RC8 := Lib.hid (RC7.out.keep hv2)
    have HT8 := Lib.hid (HT7.out.keep hv2)
    have HD8 := Lib.hid (HD7.out.keep hv2)
    have HB8 := Lib.hid (Below.then HB7.out (Nat.le_refl _) hv2)
    clear X7 Y7 Z7 Q7 P7 A7 C7 HX7 HY7 HZ7 HQ7 HP7 RA7 RC7 HT7 HD7 HB7
    have E1 := Lib.hid (plus_assoc OX.out OY.out OZ.out)
    have E2 := Lib.hid (times_assoc OX.out OY.out OZ.out)
    have hd8 : Below W8.heap.size W8 W8.drew := (Below.refl _ _).drew
    go_region_held3 (fun w' => (w'.cell? ⟨w.heap.size, 0, none⟩ = some (.int .i64 x.kind) ∧ w'.cell? ⟨w.heap.size, 1, none⟩ = some (.bool x.truth) ∧ w'.cell? ⟨w.heap.size, 2, none⟩ = some (.string x.text) ∧ w'.cell? ⟨w.heap.size, 3, none⟩ = some (.bool x.neg) ∧ w'.cell? ⟨w.heap.size, 4, none⟩ = some (.slice x.wa x.wn x.wc) ∧ w'.cell? ⟨w.heap.size, 5, none⟩ = some (.slice x.da x.dn x.dc) ∧ w'.cell? ⟨w.heap.size, 6, none⟩ = some (.bool x.ineg) ∧ w'.cell? ⟨w.heap.size, 7, none⟩ = some (.slice x.ia x.inn x.ic) ∧ w'.cell? ⟨w.heap.size, 8, none⟩ = some (.slice x.ea x.en x.ec)) ∧ (w'.cell? ⟨(w.heap.size + 1), 0, none⟩ = some (.int .i64 y.kind) ∧ w'.cell? ⟨(w.heap.size + 1), 1, none⟩ = some (.bool y.truth) ∧ w'.cell? ⟨(w.heap.size + 1), 2, none⟩ = some (.string y.text) ∧ w'.cell? ⟨(w.heap.size + 1), 3, none⟩ = some (.bool y.neg) ∧ w'.cell? ⟨(w.heap.size + 1), 4, none⟩ = some (.slice y.wa y.wn y.wc) ∧ w'.cell? ⟨(w.heap.size + 1), 5, none⟩ = some (.slice y.da y.dn y.dc) ∧ w'.cell? ⟨(w.heap.size + 1), 6, none⟩ = some (.bool y.ineg) ∧ w'.cell? ⟨(w.heap.size + 1), 7, none⟩ = some (.slice y.ia y.inn y.ic) ∧ w'.cell? ⟨(w.heap.size + 1), 8, none⟩ = some (.slice y.ea y.en y.ec)) ∧ (w'.cell? ⟨(w.heap.size + 1 + 1), 0, none⟩ = some (.int .i64 z.kind) ∧ w'.cell? ⟨(w.heap.size + 1 + 1), 1, none⟩ = some (.bool z.truth) ∧ w'.cell? ⟨(w.heap.size + 1 + 1), 2, none⟩ = some (.string z.text) ∧ w'.cell? ⟨(w.heap.size + 1 + 1), 3, none⟩ = some (.bool z.neg) ∧ w'.cell? ⟨(w.heap.size + 1 + 1), 4, none⟩ = some (.slice z.wa z.wn z.wc) ∧ w'.cell? ⟨(w.heap.size + 1 + 1), 5, none⟩ = some (.slice z.da z.dn z.dc) ∧ w'.cell? ⟨(w.heap.size + 1 + 1), 6, none⟩ = some (.bool z.ineg) ∧ w'.cell? ⟨(w.heap.size + 1 + 1), 7, none⟩ = some (.slice z.ia z.inn z.ic) ∧ w'.cell? ⟨(w.heap.size + 1 + 1), 8, none⟩ = some (.slice z.ea z.en z.ec)) ∧ (w'.cell? ⟨gq, 0, none⟩ = some (.int .i64 q.kind) ∧ w'.cell? ⟨gq, 1, none⟩ = some (.bool q.truth) ∧ w'.cell? ⟨gq, 2, none⟩ = some (.string q.text) ∧ w'.cell? ⟨gq, 3, none⟩ = some (.bool q.neg) ∧ w'.cell? ⟨gq, 4, none⟩ = some (.slice q.wa q.wn q.wc) ∧ w'.cell? ⟨gq, 5, none⟩ = some (.slice q.da q.dn q.dc) ∧ w'.cell? ⟨gq, 6, none⟩ = some (.bool q.ineg) ∧ w'.cell? ⟨gq, 7, none⟩ = some (.slice q.ia q.inn q.ic) ∧ w'.cell? ⟨gq, 8, none⟩ = some (.slice q.ea q.en q.ec)) ∧ (w'.cell? ⟨gr, 0, none⟩ = some (.int .i64 r.kind) ∧ w'.cell? ⟨gr, 1, none⟩ = some (.bool r.truth) ∧ w'.cell? ⟨gr, 2, none⟩ = some (.string r.text) ∧ w'.cell? ⟨gr, 3, none⟩ = some (.bool r.neg) ∧ w'.cell? ⟨gr, 4, none⟩ = some (.slice r.wa r.wn r.wc) ∧ w'.cell? ⟨gr, 5, none⟩ = some (.slice r.da r.dn r.dc) ∧ w'.cell? ⟨gr, 6, none⟩ = some (.bool r.ineg) ∧ w'.cell? ⟨gr, 7, none⟩ = some (.slice r.ia r.inn r.ic) ∧ w'.cell? ⟨gr, 8, none⟩ = some (.slice r.ea r.en r.ec)) ∧ (w'.cell? ⟨w4.heap.size, 0, none⟩ = some (.bool sA) ∧ w'.cell? ⟨w4.heap.size, 1, none⟩ = some (.slice aA nA cA) ∧ w'.cell? ⟨w4.heap.size, 2, none⟩ = some (.slice aB nB cB)) ∧ (w'.cell? ⟨(w4.heap.size + 1), 0, none⟩ = some (.bool sC) ∧ w'.cell? ⟨(w4.heap.size + 1), 1, none⟩ = some (.slice aC nC cC) ∧ w'.cell? ⟨(w4.heap.size + 1), 2, none⟩ = some (.slice aD nD cD)))
      (first | with_reducible exact ⟨X8.all, Y8.all, Z8.all, Q8.all, P8.all, A8.all, C8.all⟩ | with_reducible exact ⟨(X8.keep (by assumption)).all, (Y8.keep (by assumption)).all, (Z8.keep (by assumption)).all, (Q8.keep (by assumption)).all, (P8.keep (by assumption)).all, (A8.keep (by assumption)).all, (C8.keep (by assumption)).all⟩)
      (first | (go_at_call 15; (with_reducible refine (implFF0_any q z (Rt.plus (vrt x) (vrt y)) (vrt z) 11 (by omega) _ ?_ ?_ ?_ ?_ LQ.out LZ.out EQ.out rfl).mono ?_); exact HT8.out.keep (by assumption); exact HD8.out.keep (by assumption); exact HQ8.out.keep (by assumption); exact HZ8.out.keep (by assumption); rintro e v11 ⟨a1, rfl, ha1, Ha1, hV11⟩; have hv11 := Below.then hd8 (Nat.le_refl _) hV11; have Ea1 := Lib.hid Ha1.2.1) | (go_at_call 15; (with_reducible refine (implFF0_any y z (vrt y) (vrt z) 5 (by omega) _ ?_ ?_ ?_ ?_ BY.out BZ.out rfl rfl).mono ?_); exact HT8.out.keep (by assumption); exact HD8.out.keep (by assumption); exact HY8.out.keep (by assumption); exact HZ8.out.keep (by assumption); rintro e v12 ⟨a2, rfl, ha2, Ha2, hV12⟩; have hv12 := Below.then hv11 (Nat.le_refl _) hV12; have Ea2 := Lib.hid Ha2.2.1) | (go_at_call 15; (with_reducible refine (implFF0_any x a2 (vrt x) (Rt.plus (vrt y) (vrt z)) 11 (by omega) _ ?_ ?_ ?_ ?_ LX.out (isQ_rat Ha2 (by omega)) rfl Ea2.out).mono ?_); exact HT8.out.keep (by assumption); exact HD8.out.keep (by assumption); exact HX8.out.keep (by assumption); exact ha2; rintro e v13 ⟨a3, rfl, ha3, Ha3, hV13⟩; have hv13 := Below.then hv12 (Nat.le_refl _) hV13; have Ea3 := Lib.hid Ha3.2.1) | (go_at_call 19; (with_reducible refine (implEqF_any a1 a3 (Rt.plus (Rt.plus (vrt x) (vrt y)) (vrt z)) 23 (by omega) (by omega) _ ?_ ?_ ?_ (isQ_rat Ha1 (by omega)) (isQ_rat Ha3 (by omega)) Ea1.out (by rw [E1.out]; exact Ea3.out)).mono ?_); exact HT8.out.keep (by assumption); exact (ha1.keep hV12).keep hV13; exact ha3; rintro e v14 ⟨rfl, hV14⟩; have hv14 := Below.then hv13 (Nat.le_refl _) hV14) | (go_at_call 15; (with_reducible refine (implFF2_any r z (Rt.times (vrt x) (vrt y)) (vrt z) 11 (by omega) _ ?_ ?_ ?_ ?_ LP.out LZ.out EP.out rfl).mono ?_); exact HT8.out.keep (by assumption); exact HD8.out.keep (by assumption); exact HP8.out.keep (by assumption); exact HZ8.out.keep (by assumption); rintro e v15 ⟨a4, rfl, ha4, Ha4, hV15⟩; have hv15 := Below.then hv14 (Nat.le_refl _) hV15; have Ea4 := Lib.hid Ha4.2.1) | (go_at_call 15; (with_reducible refine (implFF2_any y z (vrt y) (vrt z) 5 (by omega) _ ?_ ?_ ?_ ?_ BY.out BZ.out rfl rfl).mono ?_); exact HT8.out.keep (by assumption); exact HD8.out.keep (by assumption); exact HY8.out.keep (by assumption); exact HZ8.out.keep (by assumption); rintro e v16 ⟨a5, rfl, ha5, Ha5, hV16⟩; have hv16 := Below.then hv15 (Nat.le_refl _) hV16; have Ea5 := Lib.hid Ha5.2.1) | (go_at_call 15; (with_reducible refine (implFF2_any x a5 (vrt x) (Rt.times (vrt y) (vrt z)) 11 (by omega) _ ?_ ?_ ?_ ?_ LX.out (isQ_rat Ha5 (by omega)) rfl Ea5.out).mono ?_); exact HT8.out.keep (by assumption); exact HD8.out.keep (by assumption); exact HX8.out.keep (by assumption); exact ha5; rintro e v17 ⟨a6, rfl, ha6, Ha6, hV17⟩; have hv17 := Below.then hv16 (Nat.le_refl _) hV17; have Ea6 := Lib.hid Ha6.2.1) | (go_at_call 19; (with_reducible refine (implEqF_any a4 a6 (Rt.times (Rt.times (vrt x) (vrt y)) (vrt z)) 23 (by omega) (by omega) _ ?_ ?_ ?_ (isQ_rat Ha4 (by omega)) (isQ_rat Ha6 (by omega)) Ea4.out (by rw [E2.out]; exact Ea6.out)).mono ?_); exact HT8.out.keep (by assumption); exact (ha4.keep hV16).keep hV17; exact ha6; rintro e v18 ⟨rfl, hV18⟩; have hv18 := Below.then hv17 (Nat.le_refl _) hV18))
    go_upto_region 12 with fail
    obtain ⟨W9, hW9⟩ : ∃ W9, W9 = v18 := ⟨_, rfl⟩
    subst hW9
    have X9 := X8.keep hv18
    have Y9 := Y8.keep hv18
    have Z9 := Z8.keep hv18
    have Q9 := Q8.keep hv18
    have P9 := P8.keep hv18
    have A9 := A8.keep hv18
    have C9 := C8.keep hv18
    have HX9 := Lib.hid (HX8.out.keep hv18)
    have HY9 := Lib.hid (HY8.out.keep hv18)
    have HZ9 := Lib.hid (HZ8.out.keep hv18)
    have HQ9 := Lib.hid (HQ8.out.keep hv18)
    have HP9 := Lib.hid (HP8.out.keep hv18)
    have RA9 := Lib.hid (RA8.out.keep hv18)
    have RC9 := Lib.hid (RC8.out.keep hv18)
    have HT9 := Lib.hid (HT8.out.keep hv18)
    have HD9 := Lib.hid (HD8.out.keep hv18)
    have HB9 := Lib.hid (Below.then HB8.out (Nat.le_refl _) hv18)
    clear X8 Y8 Z8 Q8 P8 A8 C8 HX8 HY8 HZ8 HQ8 HP8 RA8 RC8 HT8 HD8 HB8
    have E3 := Lib.hid (plus_times OX.out OY.out OZ.out)
    have hd9 : Below W9.heap.size W9 W9.drew := (Below.refl _ _).drew
    go_region_held3 (fun w' => (w'.cell? ⟨w.heap.size, 0, none⟩ = some (.int .i64 x.kind) ∧ w'.cell? ⟨w.heap.size, 1, none⟩ = some (.bool x.truth) ∧ w'.cell? ⟨w.heap.size, 2, none⟩ = some (.string x.text) ∧ w'.cell? ⟨w.heap.size, 3, none⟩ = some (.bool x.neg) ∧ w'.cell? ⟨w.heap.size, 4, none⟩ = some (.slice x.wa x.wn x.wc) ∧ w'.cell? ⟨w.heap.size, 5, none⟩ = some (.slice x.da x.dn x.dc) ∧ w'.cell? ⟨w.heap.size, 6, none⟩ = some (.bool x.ineg) ∧ w'.cell? ⟨w.heap.size, 7, none⟩ = some (.slice x.ia x.inn x.ic) ∧ w'.cell? ⟨w.heap.size, 8, none⟩ = some (.slice x.ea x.en x.ec)) ∧ (w'.cell? ⟨(w.heap.size + 1), 0, none⟩ = some (.int .i64 y.kind) ∧ w'.cell? ⟨(w.heap.size + 1), 1, none⟩ = some (.bool y.truth) ∧ w'.cell? ⟨(w.heap.size + 1), 2, none⟩ = some (.string y.text) ∧ w'.cell? ⟨(w.heap.size + 1), 3, none⟩ = some (.bool y.neg) ∧ w'.cell? ⟨(w.heap.size + 1), 4, none⟩ = some (.slice y.wa y.wn y.wc) ∧ w'.cell? ⟨(w.heap.size + 1), 5, none⟩ = some (.slice y.da y.dn y.dc) ∧ w'.cell? ⟨(w.heap.size + 1), 6, none⟩ = some (.bool y.ineg) ∧ w'.cell? ⟨(w.heap.size + 1), 7, none⟩ = some (.slice y.ia y.inn y.ic) ∧ w'.cell? ⟨(w.heap.size + 1), 8, none⟩ = some (.slice y.ea y.en y.ec)) ∧ (w'.cell? ⟨(w.heap.size + 1 + 1), 0, none⟩ = some (.int .i64 z.kind) ∧ w'.cell? ⟨(w.heap.size + 1 + 1), 1, none⟩ = some (.bool z.truth) ∧ w'.cell? ⟨(w.heap.size + 1 + 1), 2, none⟩ = some (.string z.text) ∧ w'.cell? ⟨(w.heap.size + 1 + 1), 3, none⟩ = some (.bool z.neg) ∧ w'.cell? ⟨(w.heap.size + 1 + 1), 4, none⟩ = some (.slice z.wa z.wn z.wc) ∧ w'.cell? ⟨(w.heap.size + 1 + 1), 5, none⟩ = some (.slice z.da z.dn z.dc) ∧ w'.cell? ⟨(w.heap.size + 1 + 1), 6, none⟩ = some (.bool z.ineg) ∧ w'.cell? ⟨(w.heap.size + 1 + 1), 7, none⟩ = some (.slice z.ia z.inn z.ic) ∧ w'.cell? ⟨(w.heap.size + 1 + 1), 8, none⟩ = some (.slice z.ea z.en z.ec)) ∧ (w'.cell? ⟨gq, 0, none⟩ = some (.int .i64 q.kind) ∧ w'.cell? ⟨gq, 1, none⟩ = some (.bool q.truth) ∧ w'.cell? ⟨gq, 2, none⟩ = some (.string q.text) ∧ w'.cell? ⟨gq, 3, none⟩ = some (.bool q.neg) ∧ w'.cell? ⟨gq, 4, none⟩ = some (.slice q.wa q.wn q.wc) ∧ w'.cell? ⟨gq, 5, none⟩ = some (.slice q.da q.dn q.dc) ∧ w'.cell? ⟨gq, 6, none⟩ = some (.bool q.ineg) ∧ w'.cell? ⟨gq, 7, none⟩ = some (.slice q.ia q.inn q.ic) ∧ w'.cell? ⟨gq, 8, none⟩ = some (.slice q.ea q.en q.ec)) ∧ (w'.cell? ⟨gr, 0, none⟩ = some (.int .i64 r.kind) ∧ w'.cell? ⟨gr, 1, none⟩ = some (.bool r.truth) ∧ w'.cell? ⟨gr, 2, none⟩ = some (.string r.text) ∧ w'.cell? ⟨gr, 3, none⟩ = some (.bool r.neg) ∧ w'.cell? ⟨gr, 4, none⟩ = some (.slice r.wa r.wn r.wc) ∧ w'.cell? ⟨gr, 5, none⟩ = some (.slice r.da r.dn r.dc) ∧ w'.cell? ⟨gr, 6, none⟩ = some (.bool r.ineg) ∧ w'.cell? ⟨gr, 7, none⟩ = some (.slice r.ia r.inn r.ic) ∧ w'.cell? ⟨gr, 8, none⟩ = some (.slice r.ea r.en r.ec)) ∧ (w'.cell? ⟨w4.heap.size, 0, none⟩ = some (.bool sA) ∧ w'.cell? ⟨w4.heap.size, 1, none⟩ = some (.slice aA nA cA) ∧ w'.cell? ⟨w4.heap.size, 2, none⟩ = some (.slice aB nB cB)) ∧ (w'.cell? ⟨(w4.heap.size + 1), 0, none⟩ = some (.bool sC) ∧ w'.cell? ⟨(w4.heap.size + 1), 1, none⟩ = some (.slice aC nC cC) ∧ w'.cell? ⟨(w4.heap.size + 1), 2, none⟩ = some (.slice aD nD cD)))
      (first | with_reducible exact ⟨X9.all, Y9.all, Z9.all, Q9.all, P9.all, A9.all, C9.all⟩ | with_reducible exact ⟨(X9.keep (by assumption)).all, (Y9.keep (by assumption)).all, (Z9.keep (by assumption)).all, (Q9.keep (by assumption)).all, (P9.keep (by assumption)).all, (A9.keep (by assumption)).all, (C9.keep (by assumption)).all⟩)
      (first | (go_at_call 15; (with_reducible refine (implFF2_any q z (Rt.plus (vrt x) (vrt y)) (vrt z) 11 (by omega) _ ?_ ?_ ?_ ?_ LQ.out LZ.out EQ.out rfl).mono ?_); exact HT9.out.keep (by assumption); exact HD9.out.keep (by assumption); exact HQ9.out.keep (by assumption); exact HZ9.out.keep (by assumption); rintro e v21 ⟨b1, rfl, hb1, Hb1, hV21⟩; have hv21 := Below.then hd9 (Nat.le_refl _) hV21; have Eb1 := Lib.hid Hb1.2.1) | (go_at_call 15; (with_reducible refine (implFF2_any x z (vrt x) (vrt z) 5 (by omega) _ ?_ ?_ ?_ ?_ BX.out BZ.out rfl rfl).mono ?_); exact HT9.out.keep (by assumption); exact HD9.out.keep (by assumption); exact HX9.out.keep (by assumption); exact HZ9.out.keep (by assumption); rintro e v22 ⟨b2, rfl, hb2, Hb2, hV22⟩; have hv22 := Below.then hv21 (Nat.le_refl _) hV22; have Eb2 := Lib.hid Hb2.2.1) | (go_at_call 15; (with_reducible refine (implFF2_any y z (vrt y) (vrt z) 5 (by omega) _ ?_ ?_ ?_ ?_ BY.out BZ.out rfl rfl).mono ?_); exact HT9.out.keep (by assumption); exact HD9.out.keep (by assumption); exact HY9.out.keep (by assumption); exact HZ9.out.keep (by assumption); rintro e v23 ⟨b3, rfl, hb3, Hb3, hV23⟩; have hv23 := Below.then hv22 (Nat.le_refl _) hV23; have Eb3 := Lib.hid Hb3.2.1) | (go_at_call 15; (with_reducible refine (implFF0_any b2 b3 (Rt.times (vrt x) (vrt z)) (Rt.times (vrt y) (vrt z)) 11 (by omega) _ ?_ ?_ ?_ ?_ (isQ_rat Hb2 (by omega)) (isQ_rat Hb3 (by omega)) Eb2.out Eb3.out).mono ?_); exact HT9.out.keep (by assumption); exact HD9.out.keep (by assumption); exact hb2.keep hV23; exact hb3; rintro e v24 ⟨b4, rfl, hb4, Hb4, hV24⟩; have hv24 := Below.then hv23 (Nat.le_refl _) hV24; have Eb4 := Lib.hid Hb4.2.1) | (go_at_call 19; (with_reducible refine (implEqF_any b1 b4 (Rt.times (Rt.plus (vrt x) (vrt y)) (vrt z)) 23 (by omega) (by omega) _ ?_ ?_ ?_ (isQ_rat Hb1 (by omega)) (isQ_rat Hb4 (by omega)) Eb1.out (by rw [E3.out]; exact Eb4.out)).mono ?_); exact HT9.out.keep (by assumption); exact ((hb1.keep hV22).keep hV23).keep hV24; exact hb4; rintro e v25 ⟨rfl, hV25⟩; have hv25 := Below.then hv24 (Nat.le_refl _) hV25))
    go_upto_region 14 with fail
    obtain ⟨W10, hW10⟩ : ∃ W10, W10 = v25 := ⟨_, rfl⟩
    subst hW10
    have X10 := X9.keep hv25
    have Y10 := Y9.keep hv25
    have Z10 := Z9.keep hv25
    have Q10 := Q9.keep hv25
    have P10 := P9.keep hv25
    have A10 := A9.keep hv25
    have C10 := C9.keep hv25
    have HX10 := Lib.hid (HX9.out.keep hv25)
    have HY10 := Lib.hid (HY9.out.keep hv25)
    have HZ10 := Lib.hid (HZ9.out.keep hv25)
    have HQ10 := Lib.hid (HQ9.out.keep hv25)
    have HP10 := Lib.hid (HP9.out.keep hv25)
    have RA10 := Lib.hid (RA9.out.keep hv25)
    have RC10 := Lib.hid (RC9.out.keep hv25)
    have HT10 := Lib.hid (HT9.out.keep hv25)
    have HD10 := Lib.hid (HD9.out.keep hv25)
    have HB10 := Lib.hid (Below.then HB9.out (Nat.le_refl _) hv25)
    clear X9 Y9 Z9 Q9 P9 A9 C9 HX9 HY9 HZ9 HQ9 HP9 RA9 RC9 HT9 HD9 HB9
    obtain ⟨u, hu⟩ : ∃ u, u = (vrt y).signOf := ⟨_, rfl⟩
    have HU := Lib.hid hu
    clear hu
    have hd10 : Below W10.heap.size W10 W10.drew := (Below.refl _ _).drew
    by_cases hu0 : u = 0
    · subst hu0
      obtain ⟨c0, c1, c2⟩ := C10.all
      go_region_with ((go_at_call 8; (with_reducible refine (signOf_any sC aC nC cC aD nD cD 21 (vrt y) _ ?_ (by omega)).mono ?_); exact RC10.out.keep hd10; rintro e v30 ⟨rfl, hV30⟩; rw [← HU.out]; have hv30 := Below.then hd10 (Nat.le_refl _) hV30))
      all_goals
        go_wp2
        go_ret
        exact ⟨rfl, Below.then HB10.out (Nat.le_refl _) hv30⟩
    have HP0 := Lib.hid (signOf_pos (r := vrt y) (by rw [← HU.out]; exact hu0))
    have hone : u = 1 ∨ u = -1 := by rw [HU.out]; exact signOf_one (by rw [← HU.out]; exact hu0)
    clear hu0
    have E4 := Lib.hid (times_upside OX.out OY.out HP0.out)
    rcases hone with rfl | rfl
    all_goals
      go_region_held3 (fun w' => (w'.cell? ⟨w.heap.size, 0, none⟩ = some (.int .i64 x.kind) ∧ w'.cell? ⟨w.heap.size, 1, none⟩ = some (.bool x.truth) ∧ w'.cell? ⟨w.heap.size, 2, none⟩ = some (.string x.text) ∧ w'.cell? ⟨w.heap.size, 3, none⟩ = some (.bool x.neg) ∧ w'.cell? ⟨w.heap.size, 4, none⟩ = some (.slice x.wa x.wn x.wc) ∧ w'.cell? ⟨w.heap.size, 5, none⟩ = some (.slice x.da x.dn x.dc) ∧ w'.cell? ⟨w.heap.size, 6, none⟩ = some (.bool x.ineg) ∧ w'.cell? ⟨w.heap.size, 7, none⟩ = some (.slice x.ia x.inn x.ic) ∧ w'.cell? ⟨w.heap.size, 8, none⟩ = some (.slice x.ea x.en x.ec)) ∧ (w'.cell? ⟨(w.heap.size + 1), 0, none⟩ = some (.int .i64 y.kind) ∧ w'.cell? ⟨(w.heap.size + 1), 1, none⟩ = some (.bool y.truth) ∧ w'.cell? ⟨(w.heap.size + 1), 2, none⟩ = some (.string y.text) ∧ w'.cell? ⟨(w.heap.size + 1), 3, none⟩ = some (.bool y.neg) ∧ w'.cell? ⟨(w.heap.size + 1), 4, none⟩ = some (.slice y.wa y.wn y.wc) ∧ w'.cell? ⟨(w.heap.size + 1), 5, none⟩ = some (.slice y.da y.dn y.dc) ∧ w'.cell? ⟨(w.heap.size + 1), 6, none⟩ = some (.bool y.ineg) ∧ w'.cell? ⟨(w.heap.size + 1), 7, none⟩ = some (.slice y.ia y.inn y.ic) ∧ w'.cell? ⟨(w.heap.size + 1), 8, none⟩ = some (.slice y.ea y.en y.ec)) ∧ (w'.cell? ⟨(w.heap.size + 1 + 1), 0, none⟩ = some (.int .i64 z.kind) ∧ w'.cell? ⟨(w.heap.size + 1 + 1), 1, none⟩ = some (.bool z.truth) ∧ w'.cell? ⟨(w.heap.size + 1 + 1), 2, none⟩ = some (.string z.text) ∧ w'.cell? ⟨(w.heap.size + 1 + 1), 3, none⟩ = some (.bool z.neg) ∧ w'.cell? ⟨(w.heap.size + 1 + 1), 4, none⟩ = some (.slice z.wa z.wn z.wc) ∧ w'.cell? ⟨(w.heap.size + 1 + 1), 5, none⟩ = some (.slice z.da z.dn z.dc) ∧ w'.cell? ⟨(w.heap.size + 1 + 1), 6, none⟩ = some (.bool z.ineg) ∧ w'.cell? ⟨(w.heap.size + 1 + 1), 7, none⟩ = some (.slice z.ia z.inn z.ic) ∧ w'.cell? ⟨(w.heap.size + 1 + 1), 8, none⟩ = some (.slice z.ea z.en z.ec)) ∧ (w'.cell? ⟨gq, 0, none⟩ = some (.int .i64 q.kind) ∧ w'.cell? ⟨gq, 1, none⟩ = some (.bool q.truth) ∧ w'.cell? ⟨gq, 2, none⟩ = some (.string q.text) ∧ w'.cell? ⟨gq, 3, none⟩ = some (.bool q.neg) ∧ w'.cell? ⟨gq, 4, none⟩ = some (.slice q.wa q.wn q.wc) ∧ w'.cell? ⟨gq, 5, none⟩ = some (.slice q.da q.dn q.dc) ∧ w'.cell? ⟨gq, 6, none⟩ = some (.bool q.ineg) ∧ w'.cell? ⟨gq, 7, none⟩ = some (.slice q.ia q.inn q.ic) ∧ w'.cell? ⟨gq, 8, none⟩ = some (.slice q.ea q.en q.ec)) ∧ (w'.cell? ⟨gr, 0, none⟩ = some (.int .i64 r.kind) ∧ w'.cell? ⟨gr, 1, none⟩ = some (.bool r.truth) ∧ w'.cell? ⟨gr, 2, none⟩ = some (.string r.text) ∧ w'.cell? ⟨gr, 3, none⟩ = some (.bool r.neg) ∧ w'.cell? ⟨gr, 4, none⟩ = some (.slice r.wa r.wn r.wc) ∧ w'.cell? ⟨gr, 5, none⟩ = some (.slice r.da r.dn r.dc) ∧ w'.cell? ⟨gr, 6, none⟩ = some (.bool r.ineg) ∧ w'.cell? ⟨gr, 7, none⟩ = some (.slice r.ia r.inn r.ic) ∧ w'.cell? ⟨gr, 8, none⟩ = some (.slice r.ea r.en r.ec)) ∧ (w'.cell? ⟨w4.heap.size, 0, none⟩ = some (.bool sA) ∧ w'.cell? ⟨w4.heap.size, 1, none⟩ = some (.slice aA nA cA) ∧ w'.cell? ⟨w4.heap.size, 2, none⟩ = some (.slice aB nB cB)) ∧ (w'.cell? ⟨(w4.heap.size + 1), 0, none⟩ = some (.bool sC) ∧ w'.cell? ⟨(w4.heap.size + 1), 1, none⟩ = some (.slice aC nC cC) ∧ w'.cell? ⟨(w4.heap.size + 1), 2, none⟩ = some (.slice aD nD cD)))
        (first | with_reducible exact ⟨X10.all, Y10.all, Z10.all, Q10.all, P10.all, A10.all, C10.all⟩ | with_reducible exact ⟨(X10.keep (by assumption)).all, (Y10.keep (by assumption)).all, (Z10.keep (by assumption)).all, (Q10.keep (by assumption)).all, (P10.keep (by assumption)).all, (A10.keep (by assumption)).all, (C10.keep (by assumption)).all⟩)
        (first | (go_at_call 8; (with_reducible refine (signOf_any sC aC nC cC aD nD cD 21 (vrt y) _ ?_ (by omega)).mono ?_); exact RC10.out.keep (by assumption); rintro e v30 ⟨rfl, hV30⟩; rw [← HU.out]; have hv30 := Below.then hd10 (Nat.le_refl _) hV30) | (go_at_call 15; (with_reducible refine (implFF3_any r y (Rt.times (vrt x) (vrt y)) (vrt y) 11 (by omega) _ ?_ ?_ ?_ ?_ LP.out LY.out EP.out rfl HP0.out).mono ?_); exact HT10.out.keep (by assumption); exact HD10.out.keep (by assumption); exact HP10.out.keep (by assumption); exact HY10.out.keep (by assumption); rintro e v31 ⟨d, rfl, hd, Hd, hV31⟩; have hv31 := Below.then hv30 (Nat.le_refl _) hV31; have Ed := Lib.hid Hd.2.1) | (go_at_call 18; (with_reducible refine (isFloat_any d sA aA nA cA aB nB cB (vrt x) 83 _ hd ?_ ?_ ?_ ?_).mono ?_); exact (RA10.out.keep (by assumption)).mono (by omega); omega; exact Nat.le_trans Hd.2.2.1 (by omega); exact Nat.le_trans Hd.2.2.2 (by omega); rintro e v32 ⟨rfl, hV32⟩; have hv32 := Below.then hv31 (Nat.le_refl _) hV32; rw [isQ_same (by rw [← E4.out]; exact Hd)]))
      go_wp2
      go_ret
      exact ⟨rfl, Below.then HB10.out (Nat.le_refl _) hv32⟩
end Go.Proofs.YtgmienggfaahlaaGreatDoor
