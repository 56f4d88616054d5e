/-
  FnDeMorgan walked.
-/
import Derived.Test.YtpfjkaelbaoedaaGreatDoorOpsBit
import Derived.Test.YtpfjkaelbaoedaaGreatDoorBuLL
import Derived.Test.YtpfjkaelbaoedaaGreatDoorSpO
import Derived.Test.YtpfjkaelbaoedaaGreatDoorBuE
import Derived.Test.YtpfjkaelbaoedaaGreatDoorBuM
import Derived.Test.YtpfjkaelbaoedaaGreatDoorCmpB
import Derived.Test.YtpfjkaelbaoedaaGreatDoorBoxS
set_option linter.unusedSimpArgs false
set_option linter.unusedVariables false
namespace Go.Proofs.YtpfjkaelbaoedaaGreatDoor
open Go.RowKit Go.Bg Dg

theorem cmpEq_any (x y : Vl) (z : Int) (L : Nat) (w : World) (h1 : VlAt w x) (h2 : VlAt w y) (e1 : IsZ z L x) (e2 : IsZ z L y) (hL : L ≤ 1000) :
    Calls Tryz.prog 13 #[.int .i64 0, .agg #[.int .i64 x.kind, .bool x.truth, .string x.text, .bool x.neg, .slice x.wa x.wn x.wc, .slice x.da x.dn x.dc, .bool x.ineg, .slice x.ia x.inn x.ic, .slice x.ea x.en x.ec], .agg #[.int .i64 y.kind, .bool y.truth, .string y.text, .bool y.neg, .slice y.wa y.wn y.wc, .slice y.da y.dn y.dc, .bool y.ineg, .slice y.ia y.inn y.ic, .slice y.ea y.en y.ec]] w fun e w' => e = .returned (.bool true) ∧ Below w.heap.size w w' := by
  have h := implCompareInt_any 0 (by omega) x y w h1 h2 (isZ_kind e1) (isZ_kind e2) (Nat.le_trans e1.2.2.2 (by omega)) (Nat.le_trans e2.2.2.2 (by omega))
  rw [isZ_sg e1, isZ_sg e2, show cmpB 0 (cmpZ z z) = true from by unfold cmpZ; simp [cmpB]] at h
  exact h

theorem implNotZ_any (x : Vl) (z : Int) (K : Nat) (w : World) (h1 : VlAt w x) (hz : IsZ z K x) (hK : K ≤ 1000) :
    Calls Tryz.prog 24 #[.int .i64 2, .agg #[.int .i64 x.kind, .bool x.truth, .string x.text, .bool x.neg, .slice x.wa x.wn x.wc, .slice x.da x.dn x.dc, .bool x.ineg, .slice x.ia x.inn x.ic, .slice x.ea x.en x.ec], .int .u64 0] w (GivesV (IsZ (-z - 1) (K + 1)) w) := by
  have h := implNot_any x K w h1 (isZ_kind hz) hz.2.2.2 hK
  rw [isZ_sg hz] at h
  exact h
theorem implOrZ_any (x y : Vl) (a b : Int) (K : Nat) (w : World) (h1 : VlAt w x) (h2 : VlAt w y) (ha : IsZ a K x) (hb : IsZ b K y) (hK : K ≤ 1000) :
    Calls Tryz.prog 21 #[.int .i64 7, .agg #[.int .i64 x.kind, .bool x.truth, .string x.text, .bool x.neg, .slice x.wa x.wn x.wc, .slice x.da x.dn x.dc, .bool x.ineg, .slice x.ia x.inn x.ic, .slice x.ea x.en x.ec], .agg #[.int .i64 y.kind, .bool y.truth, .string y.text, .bool y.neg, .slice y.wa y.wn y.wc, .slice y.da y.dn y.dc, .bool y.ineg, .slice y.ia y.inn y.ic, .slice y.ea y.en y.ec]] w (GivesV (IsZ (jz orT a b) (K + 1)) w) := by
  have h := implJoin_any 1 (by omega) x y K w h1 h2 (isZ_kind ha) (isZ_kind hb) ha.2.2.2 hb.2.2.2 hK
  rw [isZ_sg ha, isZ_sg hb] at h
  exact h
theorem implAndZ_any (x y : Vl) (a b : Int) (K : Nat) (w : World) (h1 : VlAt w x) (h2 : VlAt w y) (ha : IsZ a K x) (hb : IsZ b K y) (hK : K ≤ 1000) :
    Calls Tryz.prog 21 #[.int .i64 6, .agg #[.int .i64 x.kind, .bool x.truth, .string x.text, .bool x.neg, .slice x.wa x.wn x.wc, .slice x.da x.dn x.dc, .bool x.ineg, .slice x.ia x.inn x.ic, .slice x.ea x.en x.ec], .agg #[.int .i64 y.kind, .bool y.truth, .string y.text, .bool y.neg, .slice y.wa y.wn y.wc, .slice y.da y.dn y.dc, .bool y.ineg, .slice y.ia y.inn y.ic, .slice y.ea y.en y.ec]] w (GivesV (IsZ (jz andT a b) (K + 1)) w) := by
  have h := implJoin_any 0 (by omega) x y K w h1 h2 (isZ_kind ha) (isZ_kind hb) ha.2.2.2 hb.2.2.2 hK
  rw [isZ_sg ha, isZ_sg hb] at h
  exact h
set_option maxRecDepth 100000 in
set_option maxHeartbeats 4000000 in
theorem lawFnDeMorgan_any (x y : Vl) (w : World) (h1 : VlAt w x) (h2 : VlAt w y) :
    Calls Tryz.prog 7 #[.agg #[.int .i64 x.kind, .bool x.truth, .string x.text, .bool x.neg, .slice x.wa x.wn x.wc, .slice x.da x.dn x.dc, .bool x.ineg, .slice x.ia x.inn x.ic, .slice x.ea x.en x.ec], .agg #[.int .i64 y.kind, .bool y.truth, .string y.text, .bool y.neg, .slice y.wa y.wn y.wc, .slice y.da y.dn y.dc, .bool y.ineg, .slice y.ia y.inn y.ic, .slice y.ea y.en y.ec]] w fun e w' => e = .returned (.bool true) ∧ Below w.heap.size w w' := by
  obtain ⟨W0, hW0⟩ : ∃ W0, W0 = (w.alloc (.cells #[.int .i64 x.kind, .bool x.truth, .string x.text, .bool x.neg, .slice x.wa x.wn x.wc, .slice x.da x.dn x.dc, .bool x.ineg, .slice x.ia x.inn x.ic, .slice x.ea x.en x.ec] 26)).alloc (.cells #[.int .i64 y.kind, .bool y.truth, .string y.text, .bool y.neg, .slice y.wa y.wn y.wc, .slice y.da y.dn y.dc, .bool y.ineg, .slice y.ia y.inn y.ic, .slice y.ea y.en y.ec] 26) := ⟨_, rfl⟩
  have HW := Lib.hid hW0
  have hb0 : Below w.heap.size w W0 := by rw [hW0]; exact Below.alloc' (Below.alloc' (Below.refl _ _) _) _
  have X : Box9 W0 w.heap.size x := by rw [hW0]; exact (Box9.new w x _ rfl).alloc _
  have Y : Box9 W0 (w.heap.size + 1) y := by rw [hW0]; exact Box9.new _ y _ (by simp)
  have HX := Lib.hid (h1.keep hb0)
  have HY := Lib.hid (h2.keep hb0)
  clear hW0 h1 h2
  cases hf : fitsB x
  · have HF := Lib.hid hf
    clear hf
    go_enter Tryz.func7, Tryz.ntmps7
    go_upto_region 1 with fail
    rw [← HW.out]
    obtain ⟨xc0, xc1, xc2, xc3, xc4, xc5, xc6, xc7, xc8⟩ := (X).all
    go_wp2_with fail
    refine (fits1_any x _).mono ?_
    rintro e w1 ⟨rfl, hB1⟩
    rw [HF.out]
    go_wp2
    go_ret
    exact ⟨rfl, Below.then hb0 (Nat.le_refl _) hB1⟩
  have HF := Lib.hid hf
  clear hf
  cases hg : fitsB y
  · have HG := Lib.hid hg
    clear hg
    go_enter Tryz.func7, Tryz.ntmps7
    go_upto_region 1 with fail
    rw [← HW.out]
    obtain ⟨xc0, xc1, xc2, xc3, xc4, xc5, xc6, xc7, xc8⟩ := (X).all
    go_wp2_with fail
    refine (fits1_any x _).mono ?_
    rintro e w1 ⟨rfl, hB1⟩
    rw [HF.out]
    have Y1 := Y.keep hB1
    obtain ⟨yc0, yc1, yc2, yc3, yc4, yc5, yc6, yc7, yc8⟩ := (Y1).all
    clear xc0 xc1 xc2 xc3 xc4 xc5 xc6 xc7 xc8
    go_wp2_with fail
    refine (fits1_any y _).mono ?_
    rintro e w2 ⟨rfl, hB2⟩
    rw [HG.out]
    go_wp2
    go_ret
    exact ⟨rfl, Below.then (Below.then hb0 (Nat.le_refl _) hB1) (Nat.le_refl _) hB2⟩
  have HG := Lib.hid hg
  clear hg
  go_enter Tryz.func7, Tryz.ntmps7
  go_upto_region 1 with fail
  rw [← HW.out]
  obtain ⟨xc0, xc1, xc2, xc3, xc4, xc5, xc6, xc7, xc8⟩ := (X).all
  go_wp2_with fail
  refine (fits1_any x _).mono ?_
  rintro e w1 ⟨rfl, hB1⟩
  rw [HF.out]
  have Y1 := Y.keep hB1
  obtain ⟨yc0, yc1, yc2, yc3, yc4, yc5, yc6, yc7, yc8⟩ := (Y1).all
  clear xc0 xc1 xc2 xc3 xc4 xc5 xc6 xc7 xc8
  go_wp2_with fail
  refine (fits1_any y _).mono ?_
  rintro e w2 ⟨rfl, hB2⟩
  rw [HG.out]
  clear yc0 yc1 yc2 yc3 yc4 yc5 yc6 yc7 yc8
  have hb2 := Below.then (Below.then hb0 (Nat.le_refl _) hB1) (Nat.le_refl _) hB2
  have X2 := (X.keep hB1).keep hB2
  have Y2 := Y1.keep hB2
  have HX2 := Lib.hid ((HX.out.keep hB1).keep hB2)
  have HY2 := Lib.hid ((HY.out.keep hB1).keep hB2)
  clear X Y Y1 HX HY hB1 hB2 hb0 HW
  go_upto_region 3 with fail
  obtain ⟨xc0, xc1, xc2, xc3, xc4, xc5, xc6, xc7, xc8⟩ := (X2).all
  obtain ⟨yc0, yc1, yc2, yc3, yc4, yc5, yc6, yc7, yc8⟩ := (Y2).all
  go_wp2_with fail
  refine (lawWholes_any x y 15 _ HX2.out HY2.out (by omega)).mono ?_
  rintro e w3 ⟨sA, aA, nA, cA, aB, nB, cB, sC, aC, nC, cC, aD, nD, cD, rfl, hR, hB3⟩
  clear xc0 xc1 xc2 xc3 xc4 xc5 xc6 xc7 xc8 yc0 yc1 yc2 yc3 yc4 yc5 yc6 yc7 yc8
  go_upto_region 4 with fail
  obtain ⟨W4, hW4⟩ : ∃ W4, W4 = (w3.alloc (.cells #[.bool sA, .slice aA nA cA, .slice aB nB cB] 31)).alloc (.cells #[.bool sC, .slice aC nC cC, .slice aD nD cD] 31) := ⟨_, rfl⟩
  rw [← hW4]
  have hB4 : Below w2.heap.size w2 W4 := by rw [hW4]; exact Below.alloc' (Below.alloc' hB3 _) _
  have A4 : RtBlk W4 w3.heap.size sA aA nA cA aB nB cB := by rw [hW4]; exact (RtBlk.new _ _ rfl _ _ _ _ _ _ _).keep ((Below.refl _ _).alloc (Nat.le_refl _) _)
  have C4 : RtBlk W4 (w3.heap.size + 1) sC aC nC cC aD nD cD := by rw [hW4]; exact RtBlk.new _ _ (by simp) _ _ _ _ _ _ _
  have R4 := Lib.hid (show (wholeB x 15 && wholeB y 15) = true → RtAt W4 sA aA nA cA aB nB cB (Rt.whole x.neg (val W64 x.wf x.wn)) (4 * 15 + 1) ∧ RtAt W4 sC aC nC cC aD nD cD (Rt.whole y.neg (val W64 y.wf y.wn)) (4 * 15 + 1) from fun hb => by
    rw [hW4]
    have hk : Below w3.heap.size w3 ((w3.alloc (.cells #[.bool sA, .slice aA nA cA, .slice aB nB cB] 31)).alloc (.cells #[.bool sC, .slice aC nC cC, .slice aD nD cD] 31)) := Below.alloc' (Below.alloc' (Below.refl _ _) _) _
    exact ⟨(hR hb).1.keep hk, (hR hb).2.keep hk⟩)
  clear hW4 hR hB3
  have hb4 := Below.then hb2 (Nat.le_refl _) hB4
  have X4 := X2.keep hB4
  have Y4 := Y2.keep hB4
  have HX4 := Lib.hid (HX2.out.keep hB4)
  have HY4 := Lib.hid (HY2.out.keep hB4)
  have HB4 := Lib.hid hb4
  clear X2 Y2 HX2 HY2 hb2 hB4 hb4
  cases hb : (wholeB x 15 && wholeB y 15)
  · clear R4 X4 Y4 A4 C4
    go_wp2
    go_ret
    exact ⟨rfl, HB4.out⟩
  obtain ⟨rA, rC⟩ := R4.out hb
  have hbb := hb
  simp only [Bool.and_eq_true] at hbb
  have ZX := Lib.hid (isZ_of_whole hbb.1)
  have ZY := Lib.hid (isZ_of_whole hbb.2)
  rw [whole_rz] at rA rC
  have RA := Lib.hid rA
  have RC := Lib.hid rC
  have PA := Lib.hid (rz_pos rA.neg)
  have PC := Lib.hid (rz_pos rC.neg)
  clear hb hbb R4 rA rC
  generalize sg x.neg (val W64 x.wf x.wn) = zx at *
  generalize sg y.neg (val W64 y.wf y.wn) = zy at *
  have HJO := Lib.hid (show ∀ w', RtAt w' sA aA nA cA aB nB cB (rz zx) 61 → RtAt w' sC aC nC cC aD nD cD (rz zy) 61 → Calls Tryz.prog 22 #[.agg #[.bool sA, .slice aA nA cA, .slice aB nB cB], .agg #[.bool sC, .slice aC nC cC, .slice aD nD cD], .agg #[.bool false, .bool false, .bool false, .bool true]] w' (GivesR (rz (jz andT zx zy)) 62 w') from
    fun w' e1 e2 => by rw [← joined_rz]; exact joined_any andT sA sC aA nA cA aB nB cB aC nC cC aD nD cD (rz zx) (rz zy) 61 w' e1 e2 PA.out PC.out (by omega))
  clear PA PC
  go_upto_region 6 with fail
  go_wp2_with fail
  refine (of64_one _).mono ?_
  rintro e w5 ⟨sO, aO, nO, cO, aP, nP, cP, rfl, hO, hB5⟩
  obtain ⟨W6, hW6⟩ : ∃ W6, W6 = w5.alloc (.cells #[.bool sO, .slice aO nO cO, .slice aP nP cP] 31) := ⟨_, rfl⟩
  have hB6 : Below W4.heap.size W4 W6 := by rw [hW6]; exact Below.alloc' hB5 _
  have O6 : RtBlk W6 w5.heap.size sO aO nO cO aP nP cP := by rw [hW6]; exact RtBlk.new _ _ rfl _ _ _ _ _ _ _
  have RO6 := Lib.hid (show RtAt W6 sO aO nO cO aP nP cP (rz 1) 62 from by rw [hW6]; exact (hO.keep (Below.alloc' (Below.refl _ _) _)).mono (by omega))
  have A6 := A4.keep hB6
  have C6 := C4.keep hB6
  have X6 := X4.keep hB6
  have Y6 := Y4.keep hB6
  have HX6 := Lib.hid (HX4.out.keep hB6)
  have HY6 := Lib.hid (HY4.out.keep hB6)
  have HB6 := Lib.hid (Below.then HB4.out (Nat.le_refl _) hB6)
  have RA6 := Lib.hid (RA.out.keep hB6)
  have RC6 := Lib.hid (RC.out.keep hB6)
  have HW6 := Lib.hid hW6
  clear hW6 A4 C4 X4 Y4 HX4 HY4 HB4 RA RC hB5 hB6 hO
  obtain ⟨a0, a1, a2⟩ := A6.all
  obtain ⟨d0, d1, d2⟩ := C6.all
  go_upto_region 7 with fail
  rw [← HW6.out]
  go_wp2_with fail
  refine (HJO.out _ RA6.out RC6.out).mono ?_
  rintro e w7 ⟨sJ, aJ, nJ, cJ, aK, nK, cK, rfl, hJ, hB7⟩
  obtain ⟨W8, hW8⟩ : ∃ W8, W8 = w7.alloc (.cells #[.bool sJ, .slice aJ nJ cJ, .slice aK nK cK] 31) := ⟨_, rfl⟩
  have hB8 : Below W6.heap.size W6 W8 := by rw [hW8]; exact Below.alloc' hB7 _
  have J8 : RtBlk W8 w7.heap.size sJ aJ nJ cJ aK nK cK := by rw [hW8]; exact RtBlk.new _ _ rfl _ _ _ _ _ _ _
  have RJ8 := Lib.hid (show RtAt W8 sJ aJ nJ cJ aK nK cK (rz (jz andT zx zy)) 62 from by rw [hW8]; exact hJ.keep (Below.alloc' (Below.refl _ _) _))
  have O8 := O6.keep hB8
  have RO8 := Lib.hid (RO6.out.keep hB8)
  have X8 := X6.keep hB8
  have Y8 := Y6.keep hB8
  have HX8 := Lib.hid (HX6.out.keep hB8)
  have HY8 := Lib.hid (HY6.out.keep hB8)
  have HB8 := Lib.hid (Below.then HB6.out (Nat.le_refl _) hB8)
  have HW8 := Lib.hid hW8
  clear a0 a1 a2 d0 d1 d2 hW8 A6 C6 O6 X6 Y6 HX6 HY6 HB6 RA6 RC6 RO6 hB7 hB8 hJ HJO
  obtain ⟨xc0, xc1, xc2, xc3, xc4, xc5, xc6, xc7, xc8⟩ := (X8).all
  obtain ⟨yc0, yc1, yc2, yc3, yc4, yc5, yc6, yc7, yc8⟩ := (Y8).all
  go_upto_region 8 with fail
  rw [← HW8.out]
  go_wp2_with fail
  refine (implAndZ_any x y zx zy 15 _ HX8.out HY8.out ZX.out ZY.out (by omega)).mono ?_
  rintro e w9 ⟨u, rfl, hu, hU, hB9⟩
  clear xc0 xc1 xc2 xc3 xc4 xc5 xc6 xc7 xc8 yc0 yc1 yc2 yc3 yc4 yc5 yc6 yc7 yc8
  go_wp2_with fail
  refine (implNotZ_any u (jz andT zx zy) 16 _ hu hU (by omega)).mono ?_
  rintro e w10 ⟨v, rfl, hv, hV, hB10⟩
  obtain ⟨W11, hW11⟩ : ∃ W11, W11 = w10.alloc (.cells #[.int .i64 v.kind, .bool v.truth, .string v.text, .bool v.neg, .slice v.wa v.wn v.wc, .slice v.da v.dn v.dc, .bool v.ineg, .slice v.ia v.inn v.ic, .slice v.ea v.en v.ec] 26) := ⟨_, rfl⟩
  have hB11 : Below W8.heap.size W8 W11 := by rw [hW11]; exact Below.alloc' (Below.then hB9 (Nat.le_refl _) hB10) _
  have V11 : Box9 W11 w10.heap.size v := by rw [hW11]; exact Box9.new w10 v _ rfl
  have HV11 := Lib.hid (show VlAt W11 v from by rw [hW11]; exact hv.keep (Below.alloc' (Below.refl _ _) _))
  have ZV := Lib.hid hV
  have J11 := J8.keep hB11
  have O11 := O8.keep hB11
  have X11 := X8.keep hB11
  have Y11 := Y8.keep hB11
  have RJ11 := Lib.hid (RJ8.out.keep hB11)
  have RO11 := Lib.hid (RO8.out.keep hB11)
  have HX11 := Lib.hid (HX8.out.keep hB11)
  have HY11 := Lib.hid (HY8.out.keep hB11)
  have HB11 := Lib.hid (Below.then HB8.out (Nat.le_refl _) hB11)
  have HW11 := Lib.hid hW11
  clear hW11 J8 O8 X8 Y8 RJ8 RO8 HX8 HY8 HB8 hB9 hB10 hB11 hu hU hv hV HW8
  go_upto_region 9 with fail
  rw [← HW11.out]
  have hd0 : Below W11.heap.size W11 W11.drew := (Below.refl _ _).drew
  have hd1 : Below W11.heap.size W11 ((W11.alloc (.cells #[.int .i64 0, .bool false, .string ⟨#[]⟩, .bool false, .slice none 0 0, .slice none 0 0, .bool false, .slice none 0 0, .slice none 0 0] 26)).drew) := (Below.alloc' (Below.refl _ _) _).drew
  have hx11 : w.heap.size < W11.heap.size := block_lt X11.c0
  have hy11 : w.heap.size + 1 < W11.heap.size := block_lt Y11.c0
  go_region_held3 (fun w' => (w'.cell? ⟨w.heap.size, 0, none⟩ = some (.int .i64 x.kind) ∧ w'.cell? ⟨w.heap.size, 1, none⟩ = some (.bool x.truth) ∧ w'.cell? ⟨w.heap.size, 2, none⟩ = some (.string x.text) ∧ w'.cell? ⟨w.heap.size, 3, none⟩ = some (.bool x.neg) ∧ w'.cell? ⟨w.heap.size, 4, none⟩ = some (.slice x.wa x.wn x.wc) ∧ w'.cell? ⟨w.heap.size, 5, none⟩ = some (.slice x.da x.dn x.dc) ∧ w'.cell? ⟨w.heap.size, 6, none⟩ = some (.bool x.ineg) ∧ w'.cell? ⟨w.heap.size, 7, none⟩ = some (.slice x.ia x.inn x.ic) ∧ w'.cell? ⟨w.heap.size, 8, none⟩ = some (.slice x.ea x.en x.ec)) ∧ (w'.cell? ⟨(w.heap.size + 1), 0, none⟩ = some (.int .i64 y.kind) ∧ w'.cell? ⟨(w.heap.size + 1), 1, none⟩ = some (.bool y.truth) ∧ w'.cell? ⟨(w.heap.size + 1), 2, none⟩ = some (.string y.text) ∧ w'.cell? ⟨(w.heap.size + 1), 3, none⟩ = some (.bool y.neg) ∧ w'.cell? ⟨(w.heap.size + 1), 4, none⟩ = some (.slice y.wa y.wn y.wc) ∧ w'.cell? ⟨(w.heap.size + 1), 5, none⟩ = some (.slice y.da y.dn y.dc) ∧ w'.cell? ⟨(w.heap.size + 1), 6, none⟩ = some (.bool y.ineg) ∧ w'.cell? ⟨(w.heap.size + 1), 7, none⟩ = some (.slice y.ia y.inn y.ic) ∧ w'.cell? ⟨(w.heap.size + 1), 8, none⟩ = some (.slice y.ea y.en y.ec)))
    (with_reducible refine ⟨(X11.keep ?_).all, (Y11.keep ?_).all⟩ <;> (with_reducible first | assumption | exact Below.alloc' (by assumption) _ | exact Below.refl _ _ | (refine below_set9 ?_ ?_ _ _ _ _ _ _ _ _ _ <;> first | assumption | exact Below.alloc' (by assumption) _ | exact Nat.le_refl W11.heap.size | exact Below.size (by assumption) | (show W11.heap.size ≤ W11.heap.size; exact Nat.le_refl _))))
    (first | (go_at_call 24; (with_reducible refine (implNotZ_any x zx 15 _ ?_ ZX.out (by omega)).mono ?_); exact HX11.out.keep (by first | exact hd0 | exact hd1 | exact Below.alloc' hd0 _); rintro e w12 ⟨p, rfl, hp, hP, hB12⟩; have hb12 := Below.then (show Below W11.heap.size W11 _ from by first | exact hd0 | exact hd1 | exact Below.alloc' hd0 _) (Nat.le_refl _) hB12; (try have hz12 := BlkAt.keep (BlkAt.keep (BlkAt.new W11 #[.int .i64 0, .bool false, .string ⟨#[]⟩, .bool false, .slice none 0 0, .slice none 0 0, .bool false, .slice none 0 0, .slice none 0 0] 26) (Below.refl _ _).drew) hB12)) | (go_at_call 24; (with_reducible refine (implNotZ_any y zy 15 _ ?_ ZY.out (by omega)).mono ?_); exact HY11.out.keep (by first | exact hb12 | exact Below.alloc' hb12 _); rintro e w13 ⟨q, rfl, hq, hQ, hB13⟩; have hb13 := Below.then (show Below W11.heap.size W11 _ from by first | exact hb12 | exact Below.alloc' hb12 _) (Nat.le_refl _) hB13; have hp3 := VlAt.keep (show VlAt _ p from by first | exact hp | exact hp.keep (Below.alloc' (Below.refl _ _) _)) hB13; (try have hz13 := BlkAt.keep hz12 hB13); (try have hz13 := BlkAt.keep (BlkAt.new w12 #[.int .i64 0, .bool false, .string ⟨#[]⟩, .bool false, .slice none 0 0, .slice none 0 0, .bool false, .slice none 0 0, .slice none 0 0] 26) hB13)) | (go_at_call 21; (with_reducible refine (implOrZ_any p q (-zx - 1) (-zy - 1) 16 _ ?_ ?_ hP hQ (by omega)).mono ?_); (first | exact hp3 | exact hp3.keep (Below.alloc' (Below.refl _ _) _)); (first | exact hq | exact hq.keep (Below.alloc' (Below.refl _ _) _)); rintro e w14 ⟨r, rfl, hr, hR, hB14⟩; have hb14 := Below.then (show Below W11.heap.size W11 _ from by first | exact hb13 | exact Below.alloc' hb13 _) (Nat.le_refl _) hB14; (try have hz14 := BlkAt.keep hz13 hB14); (try have hz14 := BlkAt.keep (BlkAt.new w13 #[.int .i64 0, .bool false, .string ⟨#[]⟩, .bool false, .slice none 0 0, .slice none 0 0, .bool false, .slice none 0 0, .slice none 0 0] 26) hB14); try (have rc0 := (hz14).cell 0; have rc1 := (hz14).cell 1; have rc2 := (hz14).cell 2; have rc3 := (hz14).cell 3; have rc4 := (hz14).cell 4; have rc5 := (hz14).cell 5; have rc6 := (hz14).cell 6; have rc7 := (hz14).cell 7; have rc8 := (hz14).cell 8; simp only [List.getElem?_toArray, List.getElem?_cons_zero, List.getElem?_cons_succ] at rc0 rc1 rc2 rc3 rc4 rc5 rc6 rc7 rc8; have rf0 := (hz14).frozen 0; have rf1 := (hz14).frozen 1; have rf2 := (hz14).frozen 2; have rf3 := (hz14).frozen 3; have rf4 := (hz14).frozen 4; have rf5 := (hz14).frozen 5; have rf6 := (hz14).frozen 6; have rf7 := (hz14).frozen 7; have rf8 := (hz14).frozen 8)))
  · obtain ⟨W15, hW15⟩ : ∃ W15, W15 = (w14.alloc (.cells #[.int .i64 r.kind, .bool r.truth, .string r.text, .bool r.neg, .slice r.wa r.wn r.wc, .slice r.da r.dn r.dc, .bool r.ineg, .slice r.ia r.inn r.ic, .slice r.ea r.en r.ec] 26)) := ⟨_, rfl⟩
    obtain ⟨g, hg⟩ : ∃ g, g = w14.heap.size := ⟨_, rfl⟩
    have HBX : Boxed W11 W15 g r := by rw [hW15, hg]; exact ⟨Below.alloc' hb14 _, hr.keep (Below.alloc' (Below.refl _ _) _), Box9.new w14 r _ rfl⟩
    have HW15 := Lib.hid hW15
    have HG15 := Lib.hid hg
    clear hW15 hg
    go_upto_region 10 with fail
    rw [← HW15.out, ← HG15.out]
    clear HW15 HG15
    have hb15 := HBX.below
    have V15 := V11.keep hb15
    have J15 := J11.keep hb15
    have O15 := O11.keep hb15
    have R15 := HBX.box
    have HV15 := Lib.hid (HV11.out.keep hb15)
    have RJ15 := Lib.hid (RJ11.out.keep hb15)
    have RO15 := Lib.hid (RO11.out.keep hb15)
    have HR15 := Lib.hid HBX.val
    have ZR := Lib.hid (show IsZ (-jz andT zx zy - 1) 17 r from by rw [← deMorgan]; exact hR)
    have HB15 := Lib.hid (Below.then HB11.out (Nat.le_refl _) hb15)
    clear HBX hb15 hR V11 J11 O11 X11 Y11 hd0 hd1 hx11 hy11 HX11 HY11 hb12 hb13 hb14 hB12 hB13 hB14 hp hq hr hp3 hP hQ
    have hd2 : Below W15.heap.size W15 W15.drew := (Below.refl _ _).drew
    go_region_held3 (fun w' => (w'.cell? ⟨w10.heap.size, 0, none⟩ = some (.int .i64 v.kind) ∧ w'.cell? ⟨w10.heap.size, 1, none⟩ = some (.bool v.truth) ∧ w'.cell? ⟨w10.heap.size, 2, none⟩ = some (.string v.text) ∧ w'.cell? ⟨w10.heap.size, 3, none⟩ = some (.bool v.neg) ∧ w'.cell? ⟨w10.heap.size, 4, none⟩ = some (.slice v.wa v.wn v.wc) ∧ w'.cell? ⟨w10.heap.size, 5, none⟩ = some (.slice v.da v.dn v.dc) ∧ w'.cell? ⟨w10.heap.size, 6, none⟩ = some (.bool v.ineg) ∧ w'.cell? ⟨w10.heap.size, 7, none⟩ = some (.slice v.ia v.inn v.ic) ∧ w'.cell? ⟨w10.heap.size, 8, none⟩ = some (.slice v.ea v.en v.ec)) ∧ (w'.cell? ⟨g, 0, none⟩ = some (.int .i64 r.kind) ∧ w'.cell? ⟨g, 1, none⟩ = some (.bool r.truth) ∧ w'.cell? ⟨g, 2, none⟩ = some (.string r.text) ∧ w'.cell? ⟨g, 3, none⟩ = some (.bool r.neg) ∧ w'.cell? ⟨g, 4, none⟩ = some (.slice r.wa r.wn r.wc) ∧ w'.cell? ⟨g, 5, none⟩ = some (.slice r.da r.dn r.dc) ∧ w'.cell? ⟨g, 6, none⟩ = some (.bool r.ineg) ∧ w'.cell? ⟨g, 7, none⟩ = some (.slice r.ia r.inn r.ic) ∧ w'.cell? ⟨g, 8, none⟩ = some (.slice r.ea r.en r.ec)) ∧ (w'.cell? ⟨w7.heap.size, 0, none⟩ = some (.bool sJ) ∧ w'.cell? ⟨w7.heap.size, 1, none⟩ = some (.slice aJ nJ cJ) ∧ w'.cell? ⟨w7.heap.size, 2, none⟩ = some (.slice aK nK cK)) ∧ (w'.cell? ⟨w5.heap.size, 0, none⟩ = some (.bool sO) ∧ w'.cell? ⟨w5.heap.size, 1, none⟩ = some (.slice aO nO cO) ∧ w'.cell? ⟨w5.heap.size, 2, none⟩ = some (.slice aP nP cP)))
      (first | with_reducible exact ⟨V15.all, R15.all, J15.all, O15.all⟩ | with_reducible exact ⟨(V15.keep (by assumption)).all, (R15.keep (by assumption)).all, (J15.keep (by assumption)).all, (O15.keep (by assumption)).all⟩)
      (first | (go_at_call 25; (with_reducible refine (negated_any sJ aJ nJ cJ aK nK cK 62 _ _ (RJ15.out.keep hd2) (by omega)).mono ?_); rintro e w16 ⟨sN, aN, nN, cN, aQ, nQ, cQ, rfl, hN, hB16⟩; have hb16 := Below.then hd2 (Nat.le_refl _) hB16) | (go_at_call 16; (refine (minus_any sN sO aN nN cN aQ nQ cQ aO nO cO aP nP cP _ _ 62 _ hN (RO15.out.keep hb16) Nat.zero_lt_one Nat.zero_lt_one (by omega)).mono ?_); rintro e w17 ⟨sM, aM, nM, cM, aS, nS, cS, rfl, hM, hB17⟩; have hb17 := Below.then hb16 (Nat.le_refl _) hB17) | (go_at_call 20; (refine (isInt_any v sM aM nM cM aS nS cS ((rz (jz andT zx zy)).negated.minus (rz 1)) (2 * 62 + 1) _ (HV15.out.keep hb17) hM (by omega) (Nat.le_trans ZV.out.2.2.2 (by omega))).mono ?_); rintro e w18 ⟨rfl, hB18⟩; have hb18 := Below.then hb17 (Nat.le_refl _) hB18; rw [isZ_same ZV.out (by rw [negated_rz, minus_rz])]) | (go_at_call 13; (refine (cmpEq_any v r _ 17 _ (HV15.out.keep hb18) (HR15.out.keep hb18) ZV.out ZR.out (by omega)).mono ?_); rintro e w19 ⟨rfl, hB19⟩; have hb19 := Below.then hb18 (Nat.le_refl _) hB19))
    go_wp2
    go_ret
    exact ⟨rfl, Below.then HB15.out (Nat.le_refl _) hb19⟩
  · obtain ⟨W15, hW15⟩ : ∃ W15, W15 = (((((((((w14.setCell ⟨w13.heap.size, 0, none⟩ (.int .i64 r.kind)).setCell ⟨w13.heap.size, 1, none⟩ (.bool r.truth)).setCell ⟨w13.heap.size, 2, none⟩ (.string r.text)).setCell ⟨w13.heap.size, 3, none⟩ (.bool r.neg)).setCell ⟨w13.heap.size, 4, none⟩ (.slice r.wa r.wn r.wc)).setCell ⟨w13.heap.size, 5, none⟩ (.slice r.da r.dn r.dc)).setCell ⟨w13.heap.size, 6, none⟩ (.bool r.ineg)).setCell ⟨w13.heap.size, 7, none⟩ (.slice r.ia r.inn r.ic)).setCell ⟨w13.heap.size, 8, none⟩ (.slice r.ea r.en r.ec)) := ⟨_, rfl⟩
    obtain ⟨g, hg⟩ : ∃ g, g = w13.heap.size := ⟨_, rfl⟩
    have HBX : Boxed W11 W15 g r := by rw [hW15, hg]; exact boxed_at hz14 hb14 (hb13.size) hr
    have HW15 := Lib.hid hW15
    have HG15 := Lib.hid hg
    clear hW15 hg
    go_upto_region 10 with fail
    rw [← HW15.out, ← HG15.out]
    clear HW15 HG15
    have hb15 := HBX.below
    have V15 := V11.keep hb15
    have J15 := J11.keep hb15
    have O15 := O11.keep hb15
    have R15 := HBX.box
    have HV15 := Lib.hid (HV11.out.keep hb15)
    have RJ15 := Lib.hid (RJ11.out.keep hb15)
    have RO15 := Lib.hid (RO11.out.keep hb15)
    have HR15 := Lib.hid HBX.val
    have ZR := Lib.hid (show IsZ (-jz andT zx zy - 1) 17 r from by rw [← deMorgan]; exact hR)
    have HB15 := Lib.hid (Below.then HB11.out (Nat.le_refl _) hb15)
    clear HBX hb15 hR V11 J11 O11 X11 Y11 hd0 hd1 hx11 hy11 HX11 HY11 hz14 hb12 hb13 hb14 hB12 hB13 hB14 hp hq hr hp3 hP hQ
    have hd2 : Below W15.heap.size W15 W15.drew := (Below.refl _ _).drew
    go_region_held3 (fun w' => (w'.cell? ⟨w10.heap.size, 0, none⟩ = some (.int .i64 v.kind) ∧ w'.cell? ⟨w10.heap.size, 1, none⟩ = some (.bool v.truth) ∧ w'.cell? ⟨w10.heap.size, 2, none⟩ = some (.string v.text) ∧ w'.cell? ⟨w10.heap.size, 3, none⟩ = some (.bool v.neg) ∧ w'.cell? ⟨w10.heap.size, 4, none⟩ = some (.slice v.wa v.wn v.wc) ∧ w'.cell? ⟨w10.heap.size, 5, none⟩ = some (.slice v.da v.dn v.dc) ∧ w'.cell? ⟨w10.heap.size, 6, none⟩ = some (.bool v.ineg) ∧ w'.cell? ⟨w10.heap.size, 7, none⟩ = some (.slice v.ia v.inn v.ic) ∧ w'.cell? ⟨w10.heap.size, 8, none⟩ = some (.slice v.ea v.en v.ec)) ∧ (w'.cell? ⟨g, 0, none⟩ = some (.int .i64 r.kind) ∧ w'.cell? ⟨g, 1, none⟩ = some (.bool r.truth) ∧ w'.cell? ⟨g, 2, none⟩ = some (.string r.text) ∧ w'.cell? ⟨g, 3, none⟩ = some (.bool r.neg) ∧ w'.cell? ⟨g, 4, none⟩ = some (.slice r.wa r.wn r.wc) ∧ w'.cell? ⟨g, 5, none⟩ = some (.slice r.da r.dn r.dc) ∧ w'.cell? ⟨g, 6, none⟩ = some (.bool r.ineg) ∧ w'.cell? ⟨g, 7, none⟩ = some (.slice r.ia r.inn r.ic) ∧ w'.cell? ⟨g, 8, none⟩ = some (.slice r.ea r.en r.ec)) ∧ (w'.cell? ⟨w7.heap.size, 0, none⟩ = some (.bool sJ) ∧ w'.cell? ⟨w7.heap.size, 1, none⟩ = some (.slice aJ nJ cJ) ∧ w'.cell? ⟨w7.heap.size, 2, none⟩ = some (.slice aK nK cK)) ∧ (w'.cell? ⟨w5.heap.size, 0, none⟩ = some (.bool sO) ∧ w'.cell? ⟨w5.heap.size, 1, none⟩ = some (.slice aO nO cO) ∧ w'.cell? ⟨w5.heap.size, 2, none⟩ = some (.slice aP nP cP)))
      (first | with_reducible exact ⟨V15.all, R15.all, J15.all, O15.all⟩ | with_reducible exact ⟨(V15.keep (by assumption)).all, (R15.keep (by assumption)).all, (J15.keep (by assumption)).all, (O15.keep (by assumption)).all⟩)
      (first | (go_at_call 25; (with_reducible refine (negated_any sJ aJ nJ cJ aK nK cK 62 _ _ (RJ15.out.keep hd2) (by omega)).mono ?_); rintro e w16 ⟨sN, aN, nN, cN, aQ, nQ, cQ, rfl, hN, hB16⟩; have hb16 := Below.then hd2 (Nat.le_refl _) hB16) | (go_at_call 16; (refine (minus_any sN sO aN nN cN aQ nQ cQ aO nO cO aP nP cP _ _ 62 _ hN (RO15.out.keep hb16) Nat.zero_lt_one Nat.zero_lt_one (by omega)).mono ?_); rintro e w17 ⟨sM, aM, nM, cM, aS, nS, cS, rfl, hM, hB17⟩; have hb17 := Below.then hb16 (Nat.le_refl _) hB17) | (go_at_call 20; (refine (isInt_any v sM aM nM cM aS nS cS ((rz (jz andT zx zy)).negated.minus (rz 1)) (2 * 62 + 1) _ (HV15.out.keep hb17) hM (by omega) (Nat.le_trans ZV.out.2.2.2 (by omega))).mono ?_); rintro e w18 ⟨rfl, hB18⟩; have hb18 := Below.then hb17 (Nat.le_refl _) hB18; rw [isZ_same ZV.out (by rw [negated_rz, minus_rz])]) | (go_at_call 13; (refine (cmpEq_any v r _ 17 _ (HV15.out.keep hb18) (HR15.out.keep hb18) ZV.out ZR.out (by omega)).mono ?_); rintro e w19 ⟨rfl, hB19⟩; have hb19 := Below.then hb18 (Nat.le_refl _) hB19))
    go_wp2
    go_ret
    exact ⟨rfl, Below.then HB15.out (Nat.le_refl _) hb19⟩
  · obtain ⟨W15, hW15⟩ : ∃ W15, W15 = (((((((((w14.setCell ⟨w12.heap.size, 0, none⟩ (.int .i64 r.kind)).setCell ⟨w12.heap.size, 1, none⟩ (.bool r.truth)).setCell ⟨w12.heap.size, 2, none⟩ (.string r.text)).setCell ⟨w12.heap.size, 3, none⟩ (.bool r.neg)).setCell ⟨w12.heap.size, 4, none⟩ (.slice r.wa r.wn r.wc)).setCell ⟨w12.heap.size, 5, none⟩ (.slice r.da r.dn r.dc)).setCell ⟨w12.heap.size, 6, none⟩ (.bool r.ineg)).setCell ⟨w12.heap.size, 7, none⟩ (.slice r.ia r.inn r.ic)).setCell ⟨w12.heap.size, 8, none⟩ (.slice r.ea r.en r.ec)) := ⟨_, rfl⟩
    obtain ⟨g, hg⟩ : ∃ g, g = w12.heap.size := ⟨_, rfl⟩
    have HBX : Boxed W11 W15 g r := by rw [hW15, hg]; exact boxed_at hz14 hb14 (hb12.size) hr
    have HW15 := Lib.hid hW15
    have HG15 := Lib.hid hg
    clear hW15 hg
    go_upto_region 10 with fail
    rw [← HW15.out, ← HG15.out]
    clear HW15 HG15
    have hb15 := HBX.below
    have V15 := V11.keep hb15
    have J15 := J11.keep hb15
    have O15 := O11.keep hb15
    have R15 := HBX.box
    have HV15 := Lib.hid (HV11.out.keep hb15)
    have RJ15 := Lib.hid (RJ11.out.keep hb15)
    have RO15 := Lib.hid (RO11.out.keep hb15)
    have HR15 := Lib.hid HBX.val
    have ZR := Lib.hid (show IsZ (-jz andT zx zy - 1) 17 r from by rw [← deMorgan]; exact hR)
    have HB15 := Lib.hid (Below.then HB11.out (Nat.le_refl _) hb15)
    clear HBX hb15 hR V11 J11 O11 X11 Y11 hd0 hd1 hx11 hy11 HX11 HY11 hz14 hb12 hb13 hb14 hB12 hB13 hB14 hp hq hr hp3 hP hQ
    have hd2 : Below W15.heap.size W15 W15.drew := (Below.refl _ _).drew
    go_region_held3 (fun w' => (w'.cell? ⟨w10.heap.size, 0, none⟩ = some (.int .i64 v.kind) ∧ w'.cell? ⟨w10.heap.size, 1, none⟩ = some (.bool v.truth) ∧ w'.cell? ⟨w10.heap.size, 2, none⟩ = some (.string v.text) ∧ w'.cell? ⟨w10.heap.size, 3, none⟩ = some (.bool v.neg) ∧ w'.cell? ⟨w10.heap.size, 4, none⟩ = some (.slice v.wa v.wn v.wc) ∧ w'.cell? ⟨w10.heap.size, 5, none⟩ = some (.slice v.da v.dn v.dc) ∧ w'.cell? ⟨w10.heap.size, 6, none⟩ = some (.bool v.ineg) ∧ w'.cell? ⟨w10.heap.size, 7, none⟩ = some (.slice v.ia v.inn v.ic) ∧ w'.cell? ⟨w10.heap.size, 8, none⟩ = some (.slice v.ea v.en v.ec)) ∧ (w'.cell? ⟨g, 0, none⟩ = some (.int .i64 r.kind) ∧ w'.cell? ⟨g, 1, none⟩ = some (.bool r.truth) ∧ w'.cell? ⟨g, 2, none⟩ = some (.string r.text) ∧ w'.cell? ⟨g, 3, none⟩ = some (.bool r.neg) ∧ w'.cell? ⟨g, 4, none⟩ = some (.slice r.wa r.wn r.wc) ∧ w'.cell? ⟨g, 5, none⟩ = some (.slice r.da r.dn r.dc) ∧ w'.cell? ⟨g, 6, none⟩ = some (.bool r.ineg) ∧ w'.cell? ⟨g, 7, none⟩ = some (.slice r.ia r.inn r.ic) ∧ w'.cell? ⟨g, 8, none⟩ = some (.slice r.ea r.en r.ec)) ∧ (w'.cell? ⟨w7.heap.size, 0, none⟩ = some (.bool sJ) ∧ w'.cell? ⟨w7.heap.size, 1, none⟩ = some (.slice aJ nJ cJ) ∧ w'.cell? ⟨w7.heap.size, 2, none⟩ = some (.slice aK nK cK)) ∧ (w'.cell? ⟨w5.heap.size, 0, none⟩ = some (.bool sO) ∧ w'.cell? ⟨w5.heap.size, 1, none⟩ = some (.slice aO nO cO) ∧ w'.cell? ⟨w5.heap.size, 2, none⟩ = some (.slice aP nP cP)))
      (first | with_reducible exact ⟨V15.all, R15.all, J15.all, O15.all⟩ | with_reducible exact ⟨(V15.keep (by assumption)).all, (R15.keep (by assumption)).all, (J15.keep (by assumption)).all, (O15.keep (by assumption)).all⟩)
      (first | (go_at_call 25; (with_reducible refine (negated_any sJ aJ nJ cJ aK nK cK 62 _ _ (RJ15.out.keep hd2) (by omega)).mono ?_); rintro e w16 ⟨sN, aN, nN, cN, aQ, nQ, cQ, rfl, hN, hB16⟩; have hb16 := Below.then hd2 (Nat.le_refl _) hB16) | (go_at_call 16; (refine (minus_any sN sO aN nN cN aQ nQ cQ aO nO cO aP nP cP _ _ 62 _ hN (RO15.out.keep hb16) Nat.zero_lt_one Nat.zero_lt_one (by omega)).mono ?_); rintro e w17 ⟨sM, aM, nM, cM, aS, nS, cS, rfl, hM, hB17⟩; have hb17 := Below.then hb16 (Nat.le_refl _) hB17) | (go_at_call 20; (refine (isInt_any v sM aM nM cM aS nS cS ((rz (jz andT zx zy)).negated.minus (rz 1)) (2 * 62 + 1) _ (HV15.out.keep hb17) hM (by omega) (Nat.le_trans ZV.out.2.2.2 (by omega))).mono ?_); rintro e w18 ⟨rfl, hB18⟩; have hb18 := Below.then hb17 (Nat.le_refl _) hB18; rw [isZ_same ZV.out (by rw [negated_rz, minus_rz])]) | (go_at_call 13; (refine (cmpEq_any v r _ 17 _ (HV15.out.keep hb18) (HR15.out.keep hb18) ZV.out ZR.out (by omega)).mono ?_); rintro e w19 ⟨rfl, hB19⟩; have hb19 := Below.then hb18 (Nat.le_refl _) hB19))
    go_wp2
    go_ret
    exact ⟨rfl, Below.then HB15.out (Nat.le_refl _) hb19⟩
  · obtain ⟨W15, hW15⟩ : ∃ W15, W15 = (((((((((w14.setCell ⟨W11.heap.size, 0, none⟩ (.int .i64 r.kind)).setCell ⟨W11.heap.size, 1, none⟩ (.bool r.truth)).setCell ⟨W11.heap.size, 2, none⟩ (.string r.text)).setCell ⟨W11.heap.size, 3, none⟩ (.bool r.neg)).setCell ⟨W11.heap.size, 4, none⟩ (.slice r.wa r.wn r.wc)).setCell ⟨W11.heap.size, 5, none⟩ (.slice r.da r.dn r.dc)).setCell ⟨W11.heap.size, 6, none⟩ (.bool r.ineg)).setCell ⟨W11.heap.size, 7, none⟩ (.slice r.ia r.inn r.ic)).setCell ⟨W11.heap.size, 8, none⟩ (.slice r.ea r.en r.ec)) := ⟨_, rfl⟩
    obtain ⟨g, hg⟩ : ∃ g, g = W11.heap.size := ⟨_, rfl⟩
    have HBX : Boxed W11 W15 g r := by rw [hW15, hg]; exact boxed_at hz14 hb14 (Nat.le_refl _) hr
    have HW15 := Lib.hid hW15
    have HG15 := Lib.hid hg
    clear hW15 hg
    go_upto_region 10 with fail
    rw [← HW15.out, ← HG15.out]
    clear HW15 HG15
    have hb15 := HBX.below
    have V15 := V11.keep hb15
    have J15 := J11.keep hb15
    have O15 := O11.keep hb15
    have R15 := HBX.box
    have HV15 := Lib.hid (HV11.out.keep hb15)
    have RJ15 := Lib.hid (RJ11.out.keep hb15)
    have RO15 := Lib.hid (RO11.out.keep hb15)
    have HR15 := Lib.hid HBX.val
    have ZR := Lib.hid (show IsZ (-jz andT zx zy - 1) 17 r from by rw [← deMorgan]; exact hR)
    have HB15 := Lib.hid (Below.then HB11.out (Nat.le_refl _) hb15)
    clear HBX hb15 hR V11 J11 O11 X11 Y11 hd0 hd1 hx11 hy11 HX11 HY11 hz14 hb12 hb13 hb14 hB12 hB13 hB14 hp hq hr hp3 hP hQ
    have hd2 : Below W15.heap.size W15 W15.drew := (Below.refl _ _).drew
    go_region_held3 (fun w' => (w'.cell? ⟨w10.heap.size, 0, none⟩ = some (.int .i64 v.kind) ∧ w'.cell? ⟨w10.heap.size, 1, none⟩ = some (.bool v.truth) ∧ w'.cell? ⟨w10.heap.size, 2, none⟩ = some (.string v.text) ∧ w'.cell? ⟨w10.heap.size, 3, none⟩ = some (.bool v.neg) ∧ w'.cell? ⟨w10.heap.size, 4, none⟩ = some (.slice v.wa v.wn v.wc) ∧ w'.cell? ⟨w10.heap.size, 5, none⟩ = some (.slice v.da v.dn v.dc) ∧ w'.cell? ⟨w10.heap.size, 6, none⟩ = some (.bool v.ineg) ∧ w'.cell? ⟨w10.heap.size, 7, none⟩ = some (.slice v.ia v.inn v.ic) ∧ w'.cell? ⟨w10.heap.size, 8, none⟩ = some (.slice v.ea v.en v.ec)) ∧ (w'.cell? ⟨g, 0, none⟩ = some (.int .i64 r.kind) ∧ w'.cell? ⟨g, 1, none⟩ = some (.bool r.truth) ∧ w'.cell? ⟨g, 2, none⟩ = some (.string r.text) ∧ w'.cell? ⟨g, 3, none⟩ = some (.bool r.neg) ∧ w'.cell? ⟨g, 4, none⟩ = some (.slice r.wa r.wn r.wc) ∧ w'.cell? ⟨g, 5, none⟩ = some (.slice r.da r.dn r.dc) ∧ w'.cell? ⟨g, 6, none⟩ = some (.bool r.ineg) ∧ w'.cell? ⟨g, 7, none⟩ = some (.slice r.ia r.inn r.ic) ∧ w'.cell? ⟨g, 8, none⟩ = some (.slice r.ea r.en r.ec)) ∧ (w'.cell? ⟨w7.heap.size, 0, none⟩ = some (.bool sJ) ∧ w'.cell? ⟨w7.heap.size, 1, none⟩ = some (.slice aJ nJ cJ) ∧ w'.cell? ⟨w7.heap.size, 2, none⟩ = some (.slice aK nK cK)) ∧ (w'.cell? ⟨w5.heap.size, 0, none⟩ = some (.bool sO) ∧ w'.cell? ⟨w5.heap.size, 1, none⟩ = some (.slice aO nO cO) ∧ w'.cell? ⟨w5.heap.size, 2, none⟩ = some (.slice aP nP cP)))
      (first | with_reducible exact ⟨V15.all, R15.all, J15.all, O15.all⟩ | with_reducible exact ⟨(V15.keep (by assumption)).all, (R15.keep (by assumption)).all, (J15.keep (by assumption)).all, (O15.keep (by assumption)).all⟩)
      (first | (go_at_call 25; (with_reducible refine (negated_any sJ aJ nJ cJ aK nK cK 62 _ _ (RJ15.out.keep hd2) (by omega)).mono ?_); rintro e w16 ⟨sN, aN, nN, cN, aQ, nQ, cQ, rfl, hN, hB16⟩; have hb16 := Below.then hd2 (Nat.le_refl _) hB16) | (go_at_call 16; (refine (minus_any sN sO aN nN cN aQ nQ cQ aO nO cO aP nP cP _ _ 62 _ hN (RO15.out.keep hb16) Nat.zero_lt_one Nat.zero_lt_one (by omega)).mono ?_); rintro e w17 ⟨sM, aM, nM, cM, aS, nS, cS, rfl, hM, hB17⟩; have hb17 := Below.then hb16 (Nat.le_refl _) hB17) | (go_at_call 20; (refine (isInt_any v sM aM nM cM aS nS cS ((rz (jz andT zx zy)).negated.minus (rz 1)) (2 * 62 + 1) _ (HV15.out.keep hb17) hM (by omega) (Nat.le_trans ZV.out.2.2.2 (by omega))).mono ?_); rintro e w18 ⟨rfl, hB18⟩; have hb18 := Below.then hb17 (Nat.le_refl _) hB18; rw [isZ_same ZV.out (by rw [negated_rz, minus_rz])]) | (go_at_call 13; (refine (cmpEq_any v r _ 17 _ (HV15.out.keep hb18) (HR15.out.keep hb18) ZV.out ZR.out (by omega)).mono ?_); rintro e w19 ⟨rfl, hB19⟩; have hb19 := Below.then hb18 (Nat.le_refl _) hB19))
    go_wp2
    go_ret
    exact ⟨rfl, Below.then HB15.out (Nat.le_refl _) hb19⟩
end Go.Proofs.YtpfjkaelbaoedaaGreatDoor
