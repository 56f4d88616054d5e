/-
  FnUnknown walked, turned.
-/
import Derived.Test.YtgcpjlniamebgaaGreatDoorLFnUnknownP
set_option linter.unusedSimpArgs false
set_option linter.unusedVariables false
namespace Go.Proofs.YtgcpjlniamebgaaGreatDoor
open Go.RowKit Go.Bg Dg

set_option maxRecDepth 100000 in
set_option maxHeartbeats 4000000 in
theorem lawFnUnknown_true (op : Nat) (hop : op < 256) (x : Vl) (w : World) (h1 : VlAt w x) :
    Calls Tryz.prog 10 #[.int .u8 op, .agg #[.int .i64 x.kind, .bool x.truth, .string x.text, .bool x.neg, .slice x.wa x.wn x.wc, .slice x.da x.dn x.dc, .bool x.ineg, .slice x.ia x.inn x.ic, .slice x.ea x.en x.ec], .bool true] w fun e w' => e = .returned (.bool true) ∧ Below w.heap.size w w' := by
  have HO := Lib.hid hop
  clear hop
  obtain ⟨W0, hW0⟩ : ∃ W0, W0 = w.alloc (.cells #[.int .i64 x.kind, .bool x.truth, .string x.text, .bool x.neg, .slice x.wa x.wn x.wc, .slice x.da x.dn x.dc, .bool x.ineg, .slice x.ia x.inn x.ic, .slice x.ea x.en x.ec] 26) := ⟨_, rfl⟩
  have HW := Lib.hid hW0
  have hb0 : Below w.heap.size w W0 := by rw [hW0]; exact Below.alloc' (Below.refl _ _) _
  have X : Box9 W0 w.heap.size x := by rw [hW0]; exact Box9.new w x _ rfl
  have HX := Lib.hid (h1.keep hb0)
  clear hW0 h1
  cases hf : fitsB x
  · have HF := Lib.hid hf
    clear hf
    go_enter Tryz.func10, Tryz.ntmps10
    go_upto_region 1 with fail
    rw [← HW.out]
    obtain ⟨xc0, xc1, xc2, xc3, xc4, xc5, xc6, xc7, xc8⟩ := (X).all
    go_wp2_with fail
    refine (fits1_any x _).mono ?_
    rintro e w1 ⟨rfl, hB1⟩
    rw [HF.out]
    go_wp2
    go_ret
    exact ⟨rfl, Below.then hb0 (Nat.le_refl _) hB1⟩
  have HF := Lib.hid hf
  clear hf
  go_enter Tryz.func10, Tryz.ntmps10
  go_upto_region 1 with fail
  rw [← HW.out]
  obtain ⟨xc0, xc1, xc2, xc3, xc4, xc5, xc6, xc7, xc8⟩ := (X).all
  go_wp2_with fail
  refine (fits1_any x _).mono ?_
  rintro e w1 ⟨rfl, hB1⟩
  rw [HF.out]
  clear xc0 xc1 xc2 xc3 xc4 xc5 xc6 xc7 xc8
  obtain ⟨V1, hV1⟩ : ∃ V1, V1 = w1.alloc (.cells #[.int .i64 0, .bool false, .string ⟨#[]⟩, .bool false, .slice none 0 0, .slice none 0 0, .bool false, .slice none 0 0, .slice none 0 0] 26) := ⟨_, rfl⟩
  have hBV : Below W0.heap.size W0 V1 := by rw [hV1]; exact Below.alloc' hB1 _
  have N1 : Box9 V1 w1.heap.size noneVl := by rw [hV1]; exact Box9.new w1 noneVl _ rfl
  have hb1 := Below.then hb0 (Nat.le_refl _) hBV
  have X1 := X.keep hBV
  have HX1 := Lib.hid (HX.out.keep hBV)
  have HV1 := Lib.hid hV1
  have HS1 := Lib.hid (show w1.heap.size < V1.heap.size from by rw [hV1]; simp)
  have HS0 := Lib.hid (show w.heap.size < w1.heap.size from Nat.lt_of_lt_of_le (block_lt X.c0) hB1.size)
  clear X HX hB1 hb0 HW hV1 hBV
  go_upto_region 4 with fail
  rw [← HV1.out]
  obtain ⟨xc0, xc1, xc2, xc3, xc4, xc5, xc6, xc7, xc8⟩ := (X1).all
  go_wp2_with fail
  refine (lawWhole_any x 20 _ HX1.out (by omega)).mono ?_
  rintro e w2 ⟨sA, aA, nA, cA, aB, nB, cB, rfl, hR, hB2⟩
  clear xc0 xc1 xc2 xc3 xc4 xc5 xc6 xc7 xc8
  go_upto_region 5 with fail
  obtain ⟨W3, hW3⟩ : ∃ W3, W3 = w2.alloc (.cells #[.bool sA, .slice aA nA cA, .slice aB nB cB] 31) := ⟨_, rfl⟩
  rw [← hW3]
  have hB3 : Below V1.heap.size V1 W3 := by rw [hW3]; exact Below.alloc' hB2 _
  have A3 : RtBlk W3 w2.heap.size sA aA nA cA aB nB cB := by rw [hW3]; exact RtBlk.new _ _ rfl _ _ _ _ _ _ _
  have R3 := Lib.hid (show wholeB x 20 = true → RtAt W3 sA aA nA cA aB nB cB (Rt.whole x.neg (val W64 x.wf x.wn)) 81 from fun hb => by
    rw [hW3]
    have := (wholeB_parts hb).2
    exact ((hR hb).keep ((Below.refl _ _).alloc (Nat.le_refl _) _)).mono (by omega))
  have X3 := X1.keep hB3
  have N3 := N1.keep hB3
  have HX3 := Lib.hid (HX1.out.keep hB3)
  have HB3 := Lib.hid (Below.then hb1 (Nat.le_refl _) hB3)
  have HS3 := Lib.hid hB3.size
  clear hW3 hR hB2 hB3 X1 HX1 hb1 N1
  cases hb : wholeB x 20
  · clear R3 X3 N3 A3
    go_wp2
    go_ret
    exact ⟨rfl, HB3.out⟩
  · obtain ⟨kX, nX⟩ := wholeB_parts hb
    have KX := Lib.hid kX
    have NX := Lib.hid (show x.wn ≤ 100000 from by omega)
    have RA := Lib.hid (R3.out hb)
    clear kX nX hb R3
    obtain ⟨a0, a1, a2⟩ := A3.all
    go_wp2_with fail
    refine (signOf_any sA aA nA cA aB nB cB 81 (Rt.whole x.neg (val W64 x.wf x.wn)) _ RA.out (by omega)).mono ?_
    rintro e w4 ⟨rfl, hB4⟩
    generalize Rt.signOf (Rt.whole x.neg (val W64 x.wf x.wn)) = c at *
    have X4 := X3.keep hB4
    have N4 := N3.keep hB4
    have HX4 := Lib.hid (HX3.out.keep hB4)
    have HB4 := Lib.hid (Below.then HB3.out (Nat.le_refl _) hB4)
    have HS4 := Lib.hid hB4.size
    clear a0 a1 a2 A3 X3 N3 HX3 hB4 RA
    by_cases hc : c = 0
    · subst hc
      clear X4 N4
      go_wp2
      go_ret
      exact ⟨rfl, HB4.out⟩
    · have hc0 : (c == 0) = false := by simpa using hc
      obtain ⟨xc0, xc1, xc2, xc3, xc4, xc5, xc6, xc7, xc8⟩ := (X4).all
      obtain ⟨nc0, nc1, nc2, nc3, nc4, nc5, nc6, nc7, nc8⟩ := (N4).all
      have hl0 : w.heap.size < w4.heap.size := block_lt X4.c0
      have hl1 : w1.heap.size < w4.heap.size := block_lt N4.c0
      have he0 : w.heap.size ≠ w4.heap.size := Nat.ne_of_lt hl0
      have he1 : w1.heap.size ≠ w4.heap.size := Nat.ne_of_lt hl1
      have he2 : w.heap.size ≠ w4.heap.size + 1 := by omega
      have he3 : w1.heap.size ≠ w4.heap.size + 1 := by omega
      obtain ⟨k10, g10⟩ : ∃ k, k = op % 10 := ⟨_, rfl⟩
      obtain ⟨k6, g6⟩ : ∃ k, k = op % 6 := ⟨_, rfl⟩
      obtain ⟨k3, g3⟩ : ∃ k, k = op % 3 := ⟨_, rfl⟩
      have h10 := Lib.hid (show k10 < 10 from by rw [g10]; exact Nat.mod_lt _ (by decide))
      have h6 := Lib.hid (show k6 < 6 from by rw [g6]; exact Nat.mod_lt _ (by decide))
      have h3 := Lib.hid (show k3 < 3 from by rw [g3]; exact Nat.mod_lt _ (by decide))
      have e10 : (op : Int) % 10 = k10 := by omega
      have e6 : (op : Int) % 6 = k6 := by omega
      have e3 : (op : Int) % 3 = k3 := by omega
      clear g10 g6 g3
      go_upto_region 7 with fail
      go_region
      all_goals
          first
            | (obtain ⟨V5, hV5⟩ : ∃ V5, V5 = ((w4.alloc (.cells #[.int .i64 0, .bool false, .string ⟨#[]⟩, .bool false, .slice none 0 0, .slice none 0 0, .bool false, .slice none 0 0, .slice none 0 0] 26)).alloc (.cells #[.int .i64 x.kind, .bool x.truth, .string x.text, .bool x.neg, .slice x.wa x.wn x.wc, .slice x.da x.dn x.dc, .bool x.ineg, .slice x.ia x.inn x.ic, .slice x.ea x.en x.ec] 26)).drew := ⟨_, rfl⟩; rw [← hV5]; have hY : BlkAt V5 w4.heap.size #[.int .i64 0, .bool false, .string ⟨#[]⟩, .bool false, .slice none 0 0, .slice none 0 0, .bool false, .slice none 0 0, .slice none 0 0] 26 := (by rw [hV5]; exact ((BlkAt.new w4 _ _).keep ((Below.refl _ _).alloc (Nat.le_refl _) _)).keep ((Below.refl _ _).drew)); have hZ : BlkAt V5 (w4.heap.size + 1) #[.int .i64 x.kind, .bool x.truth, .string x.text, .bool x.neg, .slice x.wa x.wn x.wc, .slice x.da x.dn x.dc, .bool x.ineg, .slice x.ia x.inn x.ic, .slice x.ea x.en x.ec] 26 := (by rw [hV5]; exact (show BlkAt ((w4.alloc (.cells #[.int .i64 0, .bool false, .string ⟨#[]⟩, .bool false, .slice none 0 0, .slice none 0 0, .bool false, .slice none 0 0, .slice none 0 0] 26)).alloc (.cells #[.int .i64 x.kind, .bool x.truth, .string x.text, .bool x.neg, .slice x.wa x.wn x.wc, .slice x.da x.dn x.dc, .bool x.ineg, .slice x.ia x.inn x.ic, .slice x.ea x.en x.ec] 26)) (w4.heap.size + 1) #[.int .i64 x.kind, .bool x.truth, .string x.text, .bool x.neg, .slice x.wa x.wn x.wc, .slice x.da x.dn x.dc, .bool x.ineg, .slice x.ia x.inn x.ic, .slice x.ea x.en x.ec] 26 from (by have := BlkAt.new (w4.alloc (.cells #[.int .i64 0, .bool false, .string ⟨#[]⟩, .bool false, .slice none 0 0, .slice none 0 0, .bool false, .slice none 0 0, .slice none 0 0] 26)) #[.int .i64 x.kind, .bool x.truth, .string x.text, .bool x.neg, .slice x.wa x.wn x.wc, .slice x.da x.dn x.dc, .bool x.ineg, .slice x.ia x.inn x.ic, .slice x.ea x.en x.ec] 26; simpa using this)).keep ((Below.refl _ _).drew)); have hgz : w4.heap.size ≠ w4.heap.size + 1 := (by omega))
            | (obtain ⟨V5, hV5⟩ : ∃ V5, V5 = ((w4.alloc (.cells #[.int .i64 x.kind, .bool x.truth, .string x.text, .bool x.neg, .slice x.wa x.wn x.wc, .slice x.da x.dn x.dc, .bool x.ineg, .slice x.ia x.inn x.ic, .slice x.ea x.en x.ec] 26)).alloc (.cells #[.int .i64 0, .bool false, .string ⟨#[]⟩, .bool false, .slice none 0 0, .slice none 0 0, .bool false, .slice none 0 0, .slice none 0 0] 26)).drew := ⟨_, rfl⟩; rw [← hV5]; have hZ : BlkAt V5 w4.heap.size #[.int .i64 x.kind, .bool x.truth, .string x.text, .bool x.neg, .slice x.wa x.wn x.wc, .slice x.da x.dn x.dc, .bool x.ineg, .slice x.ia x.inn x.ic, .slice x.ea x.en x.ec] 26 := (by rw [hV5]; exact ((BlkAt.new w4 _ _).keep ((Below.refl _ _).alloc (Nat.le_refl _) _)).keep ((Below.refl _ _).drew)); have hY : BlkAt V5 (w4.heap.size + 1) #[.int .i64 0, .bool false, .string ⟨#[]⟩, .bool false, .slice none 0 0, .slice none 0 0, .bool false, .slice none 0 0, .slice none 0 0] 26 := (by rw [hV5]; exact (show BlkAt ((w4.alloc (.cells #[.int .i64 x.kind, .bool x.truth, .string x.text, .bool x.neg, .slice x.wa x.wn x.wc, .slice x.da x.dn x.dc, .bool x.ineg, .slice x.ia x.inn x.ic, .slice x.ea x.en x.ec] 26)).alloc (.cells #[.int .i64 0, .bool false, .string ⟨#[]⟩, .bool false, .slice none 0 0, .slice none 0 0, .bool false, .slice none 0 0, .slice none 0 0] 26)) (w4.heap.size + 1) #[.int .i64 0, .bool false, .string ⟨#[]⟩, .bool false, .slice none 0 0, .slice none 0 0, .bool false, .slice none 0 0, .slice none 0 0] 26 from (by have := BlkAt.new (w4.alloc (.cells #[.int .i64 x.kind, .bool x.truth, .string x.text, .bool x.neg, .slice x.wa x.wn x.wc, .slice x.da x.dn x.dc, .bool x.ineg, .slice x.ia x.inn x.ic, .slice x.ea x.en x.ec] 26)) #[.int .i64 0, .bool false, .string ⟨#[]⟩, .bool false, .slice none 0 0, .slice none 0 0, .bool false, .slice none 0 0, .slice none 0 0] 26; simpa using this)).keep ((Below.refl _ _).drew)); have hgz : w4.heap.size + 1 ≠ w4.heap.size := (by omega))
          have hbv : Below w4.heap.size w4 V5 := by rw [hV5]; exact (Below.alloc' (Below.alloc' (Below.refl _ _) _) _).drew
          have N5v := N4.keep hbv
          have X5v := X4.keep hbv
          have HX5 := Lib.hid (HX4.out.keep hbv)
          have HBV := Lib.hid (Below.then HB4.out (Nat.le_refl _) hbv)
          clear hV5 xc0 xc1 xc2 xc3 xc4 xc5 xc6 xc7 xc8 nc0 nc1 nc2 nc3 nc4 nc5 nc6 nc7 nc8
          obtain ⟨xc0, xc1, xc2, xc3, xc4, xc5, xc6, xc7, xc8⟩ := (X5v).all
          obtain ⟨nc0, nc1, nc2, nc3, nc4, nc5, nc6, nc7, nc8⟩ := (N5v).all
          have yc0 := (hY).cell 0; have yc1 := (hY).cell 1; have yc2 := (hY).cell 2; have yc3 := (hY).cell 3; have yc4 := (hY).cell 4; have yc5 := (hY).cell 5; have yc6 := (hY).cell 6; have yc7 := (hY).cell 7; have yc8 := (hY).cell 8; simp only [List.getElem?_toArray, List.getElem?_cons_zero, List.getElem?_cons_succ] at yc0 yc1 yc2 yc3 yc4 yc5 yc6 yc7 yc8
          have yf0 := (hY).frozen 0; have yf1 := (hY).frozen 1; have yf2 := (hY).frozen 2; have yf3 := (hY).frozen 3; have yf4 := (hY).frozen 4; have yf5 := (hY).frozen 5; have yf6 := (hY).frozen 6; have yf7 := (hY).frozen 7; have yf8 := (hY).frozen 8
          have zc0 := (hZ).cell 0; have zc1 := (hZ).cell 1; have zc2 := (hZ).cell 2; have zc3 := (hZ).cell 3; have zc4 := (hZ).cell 4; have zc5 := (hZ).cell 5; have zc6 := (hZ).cell 6; have zc7 := (hZ).cell 7; have zc8 := (hZ).cell 8; simp only [List.getElem?_toArray, List.getElem?_cons_zero, List.getElem?_cons_succ] at zc0 zc1 zc2 zc3 zc4 zc5 zc6 zc7 zc8
          have zf0 := (hZ).frozen 0; have zf1 := (hZ).frozen 1; have zf2 := (hZ).frozen 2; have zf3 := (hZ).frozen 3; have zf4 := (hZ).frozen 4; have zf5 := (hZ).frozen 5; have zf6 := (hZ).frozen 6; have zf7 := (hZ).frozen 7; have zf8 := (hZ).frozen 8
          go_upto_region 9 with fail
          go_region
          clear xc0 xc1 xc2 xc3 xc4 xc5 xc6 xc7 xc8 nc0 nc1 nc2 nc3 nc4 nc5 nc6 nc7 nc8 yc0 yc1 yc2 yc3 yc4 yc5 yc6 yc7 yc8 yf0 yf1 yf2 yf3 yf4 yf5 yf6 yf7 yf8 zc0 zc1 zc2 zc3 zc4 zc5 zc6 zc7 zc8 zf0 zf1 zf2 zf3 zf4 zf5 zf6 zf7 zf8 N5v X5v HX5 HBV
          first
            | (obtain ⟨W5, hW5⟩ : ∃ W5, W5 = ((((((((((((((((((V5.setCell ⟨w4.heap.size, 0, none⟩ (.int .i64 x.kind)).setCell ⟨w4.heap.size, 1, none⟩ (.bool x.truth)).setCell ⟨w4.heap.size, 2, none⟩ (.string x.text)).setCell ⟨w4.heap.size, 3, none⟩ (.bool x.neg)).setCell ⟨w4.heap.size, 4, none⟩ (.slice x.wa x.wn x.wc)).setCell ⟨w4.heap.size, 5, none⟩ (.slice x.da x.dn x.dc)).setCell ⟨w4.heap.size, 6, none⟩ (.bool x.ineg)).setCell ⟨w4.heap.size, 7, none⟩ (.slice x.ia x.inn x.ic)).setCell ⟨w4.heap.size, 8, none⟩ (.slice x.ea x.en x.ec)).setCell ⟨(w4.heap.size + 1), 0, none⟩ (.int .i64 0)).setCell ⟨(w4.heap.size + 1), 1, none⟩ (.bool false)).setCell ⟨(w4.heap.size + 1), 2, none⟩ (.string ⟨#[]⟩)).setCell ⟨(w4.heap.size + 1), 3, none⟩ (.bool false)).setCell ⟨(w4.heap.size + 1), 4, none⟩ (.slice none 0 0)).setCell ⟨(w4.heap.size + 1), 5, none⟩ (.slice none 0 0)).setCell ⟨(w4.heap.size + 1), 6, none⟩ (.bool false)).setCell ⟨(w4.heap.size + 1), 7, none⟩ (.slice none 0 0)).setCell ⟨(w4.heap.size + 1), 8, none⟩ (.slice none 0 0)).drew := ⟨_, rfl⟩; rw [← hW5]; have Y5 : Box9 W5 w4.heap.size x := (by rw [hW5]; exact (Box9.set9 (box9_put hY rfl x) hgz _ _ _ _ _ _ _ _ _).keep ((Below.refl _ _).drew)); have Z5 : Box9 W5 (w4.heap.size + 1) noneVl := (by rw [hW5]; exact (box9_put (box9_blk hZ hgz.symm x) rfl noneVl).keep ((Below.refl _ _).drew)))
            | (obtain ⟨W5, hW5⟩ : ∃ W5, W5 = ((((((((((((((((((V5.setCell ⟨(w4.heap.size + 1), 0, none⟩ (.int .i64 x.kind)).setCell ⟨(w4.heap.size + 1), 1, none⟩ (.bool x.truth)).setCell ⟨(w4.heap.size + 1), 2, none⟩ (.string x.text)).setCell ⟨(w4.heap.size + 1), 3, none⟩ (.bool x.neg)).setCell ⟨(w4.heap.size + 1), 4, none⟩ (.slice x.wa x.wn x.wc)).setCell ⟨(w4.heap.size + 1), 5, none⟩ (.slice x.da x.dn x.dc)).setCell ⟨(w4.heap.size + 1), 6, none⟩ (.bool x.ineg)).setCell ⟨(w4.heap.size + 1), 7, none⟩ (.slice x.ia x.inn x.ic)).setCell ⟨(w4.heap.size + 1), 8, none⟩ (.slice x.ea x.en x.ec)).setCell ⟨w4.heap.size, 0, none⟩ (.int .i64 0)).setCell ⟨w4.heap.size, 1, none⟩ (.bool false)).setCell ⟨w4.heap.size, 2, none⟩ (.string ⟨#[]⟩)).setCell ⟨w4.heap.size, 3, none⟩ (.bool false)).setCell ⟨w4.heap.size, 4, none⟩ (.slice none 0 0)).setCell ⟨w4.heap.size, 5, none⟩ (.slice none 0 0)).setCell ⟨w4.heap.size, 6, none⟩ (.bool false)).setCell ⟨w4.heap.size, 7, none⟩ (.slice none 0 0)).setCell ⟨w4.heap.size, 8, none⟩ (.slice none 0 0)).drew := ⟨_, rfl⟩; rw [← hW5]; have Y5 : Box9 W5 (w4.heap.size + 1) x := (by rw [hW5]; exact (Box9.set9 (box9_put hY rfl x) hgz _ _ _ _ _ _ _ _ _).keep ((Below.refl _ _).drew)); have Z5 : Box9 W5 w4.heap.size noneVl := (by rw [hW5]; exact (box9_put (box9_blk hZ hgz.symm x) rfl noneVl).keep ((Below.refl _ _).drew)))
          have hbw : Below w4.heap.size w4 W5 := by
            rw [hW5]
            refine Below.drew ?_
            iterate 18 refine Below.setCell ?_ (by first | exact Nat.le_refl _ | exact Nat.le_add_right _ 1) _
            exact hbv
          have N5 := N4.keep hbw
          have H5 := Lib.hid (HX4.out.keep hbw)
          have HB5 := Lib.hid (Below.then HB4.out (Nat.le_refl _) hbw)
          clear hW5 hbw N4 X4 HX4 hl0 hl1 he0 he1 he2 he3
          have hfld := field_kind
          obtain ⟨yc0, yc1, yc2, yc3, yc4, yc5, yc6, yc7, yc8⟩ := (Y5).all
          obtain ⟨zc0, zc1, zc2, zc3, zc4, zc5, zc6, zc7, zc8⟩ := (Z5).all
          go_wp2_with fail
          refine (implBinaryIU_any k10 h10.out x noneVl _ H5.out (noneVl_at _) KX.out rfl NX.out).mono ?_
          rintro e w6 ⟨r6, rfl, -, hP6, hB6⟩
          have hK6 : r6.kind = 0 := hP6
          rw [hK6]
          clear yc0 yc1 yc2 yc3 yc4 yc5 yc6 yc7 yc8 zc0 zc1 zc2 zc3 zc4 zc5 zc6 zc7 zc8 hP6
          have Y6 := Y5.keep hB6
          have Z6 := Z5.keep hB6
          have N6 := N5.keep hB6
          have H6 := Lib.hid (H5.out.keep hB6)
          have HB6 := Lib.hid (Below.then HB5.out (Nat.le_refl _) hB6)
          clear hB6 Y5 Z5 N5 H5
          obtain ⟨yc0, yc1, yc2, yc3, yc4, yc5, yc6, yc7, yc8⟩ := (Y6).all
          obtain ⟨zc0, zc1, zc2, zc3, zc4, zc5, zc6, zc7, zc8⟩ := (Z6).all
          go_wp2_with fail
          refine (implCompareIU_any k6 h6.out x noneVl _ H6.out (noneVl_at _) KX.out rfl NX.out).mono ?_
          rintro e w7 ⟨rfl, hB7⟩
          clear yc0 yc1 yc2 yc3 yc4 yc5 yc6 yc7 yc8 zc0 zc1 zc2 zc3 zc4 zc5 zc6 zc7 zc8 Y6 Z6 H6
          have N7 := N6.keep hB7
          have HB7 := Lib.hid (Below.then HB6.out (Nat.le_refl _) hB7)
          clear hB7 N6
          obtain ⟨nc0, nc1, nc2, nc3, nc4, nc5, nc6, nc7, nc8⟩ := (N7).all
          go_wp2_with fail
          refine (implUnaryU_any noneVl k3 h3.out 0 _ rfl).mono ?_
          rintro e w8 ⟨r8, rfl, -, hP8, hB8⟩
          have hK8 : r8.kind = 0 := hP8
          rw [hK8]
          clear nc0 nc1 nc2 nc3 nc4 nc5 nc6 nc7 nc8 hP8
          have N8 := N7.keep hB8
          have HB8 := Lib.hid (Below.then HB7.out (Nat.le_refl _) hB8)
          clear hB8 N7
          go_upto_region 12 with fail
          have hd0 : Below w8.heap.size w8 w8.drew := (Below.refl _ _).drew
          go_region_held3 (fun w' => w'.cell? ⟨w1.heap.size, 0, none⟩ = some (.int .i64 noneVl.kind) ∧ w'.cell? ⟨w1.heap.size, 1, none⟩ = some (.bool noneVl.truth) ∧ w'.cell? ⟨w1.heap.size, 2, none⟩ = some (.string noneVl.text) ∧ w'.cell? ⟨w1.heap.size, 3, none⟩ = some (.bool noneVl.neg) ∧ w'.cell? ⟨w1.heap.size, 4, none⟩ = some (.slice noneVl.wa noneVl.wn noneVl.wc) ∧ w'.cell? ⟨w1.heap.size, 5, none⟩ = some (.slice noneVl.da noneVl.dn noneVl.dc) ∧ w'.cell? ⟨w1.heap.size, 6, none⟩ = some (.bool noneVl.ineg) ∧ w'.cell? ⟨w1.heap.size, 7, none⟩ = some (.slice noneVl.ia noneVl.inn noneVl.ic) ∧ w'.cell? ⟨w1.heap.size, 8, none⟩ = some (.slice noneVl.ea noneVl.en noneVl.ec))
            (first | with_reducible exact N8.all | with_reducible exact (N8.keep (by assumption)).all | exact ((N8.keep (by assumption)).alloc _).all)
            (first | (go_at_call 19; (with_reducible refine (implShiftU_any noneVl true _ _ rfl).mono ?_); rintro e v0 ⟨y0, rfl, -, hP0, hC0⟩; have hc0 := Below.then hd0 (Nat.le_refl _) hC0; have hK0 : y0.kind = 0 := hP0; rw [hK0]) | (go_at_call 25; (with_reducible refine (implToIntU_any noneVl _ rfl).mono ?_); rintro e v1 ⟨y1, rfl, -, hP1, hC1⟩; have hc1 := Below.then hc0 (Nat.le_refl _) hC1; have hK1 : y1.kind = 0 := hP1; rw [hK1]) | (go_at_call 30; (with_reducible refine (implToFloatU_any noneVl _ rfl).mono ?_); rintro e v2 ⟨y2, rfl, -, hP2, hC2⟩; have hc2 := Below.then hc1 (Nat.le_refl _) hC2; have hK2 : y2.kind = 0 := hP2; rw [hK2]) | (go_at_call 31; (with_reducible refine (implToComplexU_any noneVl _ rfl).mono ?_); rintro e v3 ⟨y3, rfl, -, hP3, hC3⟩; have hc3 := Below.then hc2 (Nat.le_refl _) hC3; have hK3 : y3.kind = 0 := hP3; rw [hK3]) | (go_at_call 32; (with_reducible refine (implRealPartU_any noneVl _ rfl).mono ?_); rintro e v4 ⟨y4, rfl, -, hP4, hC4⟩; have hc4 := Below.then hc3 (Nat.le_refl _) hC4; have hK4 : y4.kind = 0 := hP4; rw [hK4]) | (go_at_call 33; (with_reducible refine (implImagPartU_any noneVl _ rfl).mono ?_); rintro e v5 ⟨y5, rfl, -, hP5, hC5⟩; have hc5 := Below.then hc4 (Nat.le_refl _) hC5; have hK5 : y5.kind = 0 := hP5; rw [hK5]) | (go_at_call 34; (with_reducible refine (implImaginaryU_any noneVl _ rfl).mono ?_); rintro e v6 ⟨y6, rfl, -, hP6, hC6⟩; have hc6 := Below.then hc5 (Nat.le_refl _) hC6; have hK6 : y6.kind = 0 := hP6; rw [hK6]) | (go_at_call 35; (with_reducible refine (implNumeratorU_any noneVl _ rfl).mono ?_); rintro e v7 ⟨y7, rfl, -, hP7, hC7⟩; have hc7 := Below.then hc6 (Nat.le_refl _) hC7; have hK7 : y7.kind = 0 := hP7; rw [hK7]) | (go_at_call 36; (with_reducible refine (implDenominatorU_any noneVl _ rfl).mono ?_); rintro e v8 ⟨y8, rfl, -, hP8, hC8⟩; have hc8 := Below.then hc7 (Nat.le_refl _) hC8; have hK8 : y8.kind = 0 := hP8; rw [hK8]))
          obtain ⟨W9, hW9⟩ : ∃ W9, W9 = v8.alloc (.cells #[.int .i64 0, .bool y0.truth, .string y0.text, .bool y0.neg, .slice y0.wa y0.wn y0.wc, .slice y0.da y0.dn y0.dc, .bool y0.ineg, .slice y0.ia y0.inn y0.ic, .slice y0.ea y0.en y0.ec, .int .i64 0, .bool y1.truth, .string y1.text, .bool y1.neg, .slice y1.wa y1.wn y1.wc, .slice y1.da y1.dn y1.dc, .bool y1.ineg, .slice y1.ia y1.inn y1.ic, .slice y1.ea y1.en y1.ec, .int .i64 0, .bool y2.truth, .string y2.text, .bool y2.neg, .slice y2.wa y2.wn y2.wc, .slice y2.da y2.dn y2.dc, .bool y2.ineg, .slice y2.ia y2.inn y2.ic, .slice y2.ea y2.en y2.ec, .int .i64 0, .bool y3.truth, .string y3.text, .bool y3.neg, .slice y3.wa y3.wn y3.wc, .slice y3.da y3.dn y3.dc, .bool y3.ineg, .slice y3.ia y3.inn y3.ic, .slice y3.ea y3.en y3.ec, .int .i64 0, .bool y4.truth, .string y4.text, .bool y4.neg, .slice y4.wa y4.wn y4.wc, .slice y4.da y4.dn y4.dc, .bool y4.ineg, .slice y4.ia y4.inn y4.ic, .slice y4.ea y4.en y4.ec, .int .i64 0, .bool y5.truth, .string y5.text, .bool y5.neg, .slice y5.wa y5.wn y5.wc, .slice y5.da y5.dn y5.dc, .bool y5.ineg, .slice y5.ia y5.inn y5.ic, .slice y5.ea y5.en y5.ec, .int .i64 0, .bool y6.truth, .string y6.text, .bool y6.neg, .slice y6.wa y6.wn y6.wc, .slice y6.da y6.dn y6.dc, .bool y6.ineg, .slice y6.ia y6.inn y6.ic, .slice y6.ea y6.en y6.ec, .int .i64 0, .bool y7.truth, .string y7.text, .bool y7.neg, .slice y7.wa y7.wn y7.wc, .slice y7.da y7.dn y7.dc, .bool y7.ineg, .slice y7.ia y7.inn y7.ic, .slice y7.ea y7.en y7.ec, .int .i64 0, .bool y8.truth, .string y8.text, .bool y8.neg, .slice y8.wa y8.wn y8.wc, .slice y8.da y8.dn y8.dc, .bool y8.ineg, .slice y8.ia y8.inn y8.ic, .slice y8.ea y8.en y8.ec] 26) := ⟨_, rfl⟩
          have hE : ∀ k, k < 9 → Nine0 W9 v8.heap.size k := nine0_of (w := W9) (g := v8.heap.size) (by rw [hW9]; exact BlkAt.new v8 #[.int .i64 0, .bool y0.truth, .string y0.text, .bool y0.neg, .slice y0.wa y0.wn y0.wc, .slice y0.da y0.dn y0.dc, .bool y0.ineg, .slice y0.ia y0.inn y0.ic, .slice y0.ea y0.en y0.ec, .int .i64 0, .bool y1.truth, .string y1.text, .bool y1.neg, .slice y1.wa y1.wn y1.wc, .slice y1.da y1.dn y1.dc, .bool y1.ineg, .slice y1.ia y1.inn y1.ic, .slice y1.ea y1.en y1.ec, .int .i64 0, .bool y2.truth, .string y2.text, .bool y2.neg, .slice y2.wa y2.wn y2.wc, .slice y2.da y2.dn y2.dc, .bool y2.ineg, .slice y2.ia y2.inn y2.ic, .slice y2.ea y2.en y2.ec, .int .i64 0, .bool y3.truth, .string y3.text, .bool y3.neg, .slice y3.wa y3.wn y3.wc, .slice y3.da y3.dn y3.dc, .bool y3.ineg, .slice y3.ia y3.inn y3.ic, .slice y3.ea y3.en y3.ec, .int .i64 0, .bool y4.truth, .string y4.text, .bool y4.neg, .slice y4.wa y4.wn y4.wc, .slice y4.da y4.dn y4.dc, .bool y4.ineg, .slice y4.ia y4.inn y4.ic, .slice y4.ea y4.en y4.ec, .int .i64 0, .bool y5.truth, .string y5.text, .bool y5.neg, .slice y5.wa y5.wn y5.wc, .slice y5.da y5.dn y5.dc, .bool y5.ineg, .slice y5.ia y5.inn y5.ic, .slice y5.ea y5.en y5.ec, .int .i64 0, .bool y6.truth, .string y6.text, .bool y6.neg, .slice y6.wa y6.wn y6.wc, .slice y6.da y6.dn y6.dc, .bool y6.ineg, .slice y6.ia y6.inn y6.ic, .slice y6.ea y6.en y6.ec, .int .i64 0, .bool y7.truth, .string y7.text, .bool y7.neg, .slice y7.wa y7.wn y7.wc, .slice y7.da y7.dn y7.dc, .bool y7.ineg, .slice y7.ia y7.inn y7.ic, .slice y7.ea y7.en y7.ec, .int .i64 0, .bool y8.truth, .string y8.text, .bool y8.neg, .slice y8.wa y8.wn y8.wc, .slice y8.da y8.dn y8.dc, .bool y8.ineg, .slice y8.ia y8.inn y8.ic, .slice y8.ea y8.en y8.ec] 26) (fun k hk => by
            rcases (by omega : k = 0 ∨ k = 1 ∨ k = 2 ∨ k = 3 ∨ k = 4 ∨ k = 5 ∨ k = 6 ∨ k = 7 ∨ k = 8) with rfl | rfl | rfl | rfl | rfl | rfl | rfl | rfl | rfl
            · exact ⟨y0, rfl, rfl, rfl, rfl, rfl, rfl, rfl, rfl, rfl⟩
            · exact ⟨y1, rfl, rfl, rfl, rfl, rfl, rfl, rfl, rfl, rfl⟩
            · exact ⟨y2, rfl, rfl, rfl, rfl, rfl, rfl, rfl, rfl, rfl⟩
            · exact ⟨y3, rfl, rfl, rfl, rfl, rfl, rfl, rfl, rfl, rfl⟩
            · exact ⟨y4, rfl, rfl, rfl, rfl, rfl, rfl, rfl, rfl, rfl⟩
            · exact ⟨y5, rfl, rfl, rfl, rfl, rfl, rfl, rfl, rfl, rfl⟩
            · exact ⟨y6, rfl, rfl, rfl, rfl, rfl, rfl, rfl, rfl, rfl⟩
            · exact ⟨y7, rfl, rfl, rfl, rfl, rfl, rfl, rfl, rfl, rfl⟩
            · exact ⟨y8, rfl, rfl, rfl, rfl, rfl, rfl, rfl, rfl, rfl⟩)
          have HE := Lib.hid hE
          have hB9 : Below w8.heap.size w8 W9 := by rw [hW9]; exact Below.alloc' hc8 _
          have HB9 := Lib.hid (Below.then HB8.out (Nat.le_refl _) hB9)
          have N9 := N8.keep hB9
          rw [← hW9]
          have HL9 := Lib.hid (show w.heap.size ≤ W9.heap.size from HB9.out.size)
          clear hW9 hE hB9 N8 hd0 hc0 hc1 hc2 hc3 hc4 hc5 hc6 hc7 hc8 hC0 hC1 hC2 hC3 hC4 hC5 hC6 hC7 hC8 hK0 hK1 hK2 hK3 hK4 hK5 hK6 hK7 hK8 hP0 hP1 hP2 hP3 hP4 hP5 hP6 hP7 hP8
          generalize v8.heap.size = g9 at *
          go_wp2
          go_loopw [13, 83] (fun _ i wr => ∃ k : Nat, k ≤ 9 ∧ i = .int .i64 k ∧ Below W9.heap.size W9 wr) (fun _ i _ => 9 - (intOf i).toNat)
          case atStart => exact ⟨0, Nat.zero_le _, rfl, Below.refl _ _⟩
          case round =>
            obtain ⟨k, hk, rfl, hbel⟩ := hrel
            by_cases k9 : k < 9
            · obtain ⟨y, z0, z1, z2, z3, z4, z5, z6, z7, z8⟩ := (HE.out k k9).keep hbel
              have HBL := Lib.hid (fun (o : Obj) => Below.alloc' hbel o)
              clear hbel
              go_wp2
              go_roundw
              case rel => exact ⟨k + 1, by omega, by go_num, HBL.out _⟩
              case measure => simp [intOf]; omega
            · obtain rfl : k = 9 := by omega
              have NN := N9.keep hbel
              have HBN := Lib.hid (Below.then HB9.out (Nat.le_refl _) hbel)
              clear hbel N9
              obtain ⟨nc0, nc1, nc2, nc3, nc4, nc5, nc6, nc7, nc8⟩ := (NN).all
              go_wp2_with fail
              refine (signAnyU_any noneVl _ rfl).mono ?_
              rintro e w19 ⟨rfl, hB19⟩
              have HBF := Lib.hid (Below.then HBN.out (Nat.le_refl _) hB19)
              clear hB19
              go_wp2
              go_ret
              exact ⟨rfl, HBF.out⟩
end Go.Proofs.YtgcpjlniamebgaaGreatDoor
