/-
  FnDivRem walked. PRINTED BY wip/gen_ldiv.py.
-/
import Derived.Test.YtdkipndepkblhaaGreatDoorBuRR
import Derived.Test.YtdkipndepkblhaaGreatDoorSpD
import Derived.Test.YtdkipndepkblhaaGreatDoorBuN
import Derived.Test.YtdkipndepkblhaaGreatDoorBuE
import Derived.Test.YtdkipndepkblhaaGreatDoorSpLm
import Derived.Test.YtdkipndepkblhaaGreatDoorBox2
import Derived.Deep.CutRange
import Derived.Test.YtdkipndepkblhaaGreatDoorBuU
import Derived.Test.YtdkipndepkblhaaGreatDoorBuV
set_option linter.unusedSimpArgs false
set_option linter.unusedVariables false
namespace Go.Proofs.YtdkipndepkblhaaGreatDoor
open Go.RowKit Go.Bg Dg

set_option maxRecDepth 100000 in
set_option maxHeartbeats 4000000 in
theorem lawFnDivRem_any (x y : Vl) (w : World) (hTT : Thr w) (hT : ThrD w) (h1 : VlAt w x) (h2 : VlAt w y) :
    Calls Tryz.prog 3 #[.agg #[.int .i64 x.kind, .bool x.truth, .string x.text, .bool x.neg, .slice x.wa x.wn x.wc, .slice x.da x.dn x.dc, .bool x.ineg, .slice x.ia x.inn x.ic, .slice x.ea x.en x.ec], .agg #[.int .i64 y.kind, .bool y.truth, .string y.text, .bool y.neg, .slice y.wa y.wn y.wc, .slice y.da y.dn y.dc, .bool y.ineg, .slice y.ia y.inn y.ic, .slice y.ea y.en y.ec]] w fun e w' => e = .returned (.bool true) ∧ Below w.heap.size w w' := by
  have HTT := Lib.hid hTT
  clear hTT
  have HT := Lib.hid hT
  clear hT
  obtain ⟨W0, hW0⟩ : ∃ W0, W0 = (w.alloc (.cells #[.int .i64 x.kind, .bool x.truth, .string x.text, .bool x.neg, .slice x.wa x.wn x.wc, .slice x.da x.dn x.dc, .bool x.ineg, .slice x.ia x.inn x.ic, .slice x.ea x.en x.ec] 26)).alloc (.cells #[.int .i64 y.kind, .bool y.truth, .string y.text, .bool y.neg, .slice y.wa y.wn y.wc, .slice y.da y.dn y.dc, .bool y.ineg, .slice y.ia y.inn y.ic, .slice y.ea y.en y.ec] 26) := ⟨_, rfl⟩
  have HW := Lib.hid hW0
  have hb0 : Below w.heap.size w W0 := by rw [hW0]; exact Below.alloc' (Below.alloc' (Below.refl _ _) _) _
  have X : Box9 W0 w.heap.size x := by rw [hW0]; exact (Box9.new w x _ rfl).alloc _
  have Y : Box9 W0 (w.heap.size + 1) y := by rw [hW0]; exact Box9.new _ y _ (by simp)
  have HX := Lib.hid (h1.keep hb0)
  have HY := Lib.hid (h2.keep hb0)
  clear hW0 h1 h2
  cases hf : fitsB x
  · have HF := Lib.hid hf
    clear hf
    go_enter Tryz.func3, Tryz.ntmps3
    go_upto_region 1 with fail
    rw [← HW.out]
    obtain ⟨xc0, xc1, xc2, xc3, xc4, xc5, xc6, xc7, xc8⟩ := (X).all
    go_wp2_with fail
    refine (fits1_any x _).mono ?_
    rintro e w1 ⟨rfl, hB1⟩
    rw [HF.out]
    go_wp2
    go_ret
    exact ⟨rfl, Below.then hb0 (Nat.le_refl _) hB1⟩
  have HF := Lib.hid hf
  clear hf
  cases hg : fitsB y
  · have HG := Lib.hid hg
    clear hg
    go_enter Tryz.func3, Tryz.ntmps3
    go_upto_region 1 with fail
    rw [← HW.out]
    obtain ⟨xc0, xc1, xc2, xc3, xc4, xc5, xc6, xc7, xc8⟩ := (X).all
    go_wp2_with fail
    refine (fits1_any x _).mono ?_
    rintro e w1 ⟨rfl, hB1⟩
    rw [HF.out]
    have Y1 := Y.keep hB1
    obtain ⟨yc0, yc1, yc2, yc3, yc4, yc5, yc6, yc7, yc8⟩ := (Y1).all
    clear xc0 xc1 xc2 xc3 xc4 xc5 xc6 xc7 xc8
    go_wp2_with fail
    refine (fits1_any y _).mono ?_
    rintro e w2 ⟨rfl, hB2⟩
    rw [HG.out]
    go_wp2
    go_ret
    exact ⟨rfl, Below.then (Below.then hb0 (Nat.le_refl _) hB1) (Nat.le_refl _) hB2⟩
  have HG := Lib.hid hg
  clear hg
  go_enter Tryz.func3, Tryz.ntmps3
  go_upto_region 1 with fail
  rw [← HW.out]
  obtain ⟨xc0, xc1, xc2, xc3, xc4, xc5, xc6, xc7, xc8⟩ := (X).all
  go_wp2_with fail
  refine (fits1_any x _).mono ?_
  rintro e w1 ⟨rfl, hB1⟩
  rw [HF.out]
  have Y1 := Y.keep hB1
  obtain ⟨yc0, yc1, yc2, yc3, yc4, yc5, yc6, yc7, yc8⟩ := (Y1).all
  clear xc0 xc1 xc2 xc3 xc4 xc5 xc6 xc7 xc8
  go_wp2_with fail
  refine (fits1_any y _).mono ?_
  rintro e w2 ⟨rfl, hB2⟩
  rw [HG.out]
  clear yc0 yc1 yc2 yc3 yc4 yc5 yc6 yc7 yc8
  have hb2 := Below.then (Below.then hb0 (Nat.le_refl _) hB1) (Nat.le_refl _) hB2
  have X2 := (X.keep hB1).keep hB2
  have Y2 := Y1.keep hB2
  have HX2 := Lib.hid ((HX.out.keep hB1).keep hB2)
  have HY2 := Lib.hid ((HY.out.keep hB1).keep hB2)
  clear X Y Y1 HX HY hB1 hB2 hb0 HW
  go_upto_region 3 with fail
  obtain ⟨xc0, xc1, xc2, xc3, xc4, xc5, xc6, xc7, xc8⟩ := (X2).all
  obtain ⟨yc0, yc1, yc2, yc3, yc4, yc5, yc6, yc7, yc8⟩ := (Y2).all
  go_wp2_with fail
  refine (lawWholes_any x y 20 _ HX2.out HY2.out (by omega)).mono ?_
  rintro e w3 ⟨sA, aA, nA, cA, aB, nB, cB, sC, aC, nC, cC, aD, nD, cD, rfl, hR, hB3⟩
  clear xc0 xc1 xc2 xc3 xc4 xc5 xc6 xc7 xc8 yc0 yc1 yc2 yc3 yc4 yc5 yc6 yc7 yc8
  go_upto_region 4 with fail
  obtain ⟨W4, hW4⟩ : ∃ W4, W4 = (w3.alloc (.cells #[.bool sA, .slice aA nA cA, .slice aB nB cB] 31)).alloc (.cells #[.bool sC, .slice aC nC cC, .slice aD nD cD] 31) := ⟨_, rfl⟩
  rw [← hW4]
  have hB4 : Below w2.heap.size w2 W4 := by rw [hW4]; exact Below.alloc' (Below.alloc' hB3 _) _
  have A4 : RtBlk W4 w3.heap.size sA aA nA cA aB nB cB := by rw [hW4]; exact (RtBlk.new _ _ rfl _ _ _ _ _ _ _).keep ((Below.refl _ _).alloc (Nat.le_refl _) _)
  have C4 : RtBlk W4 (w3.heap.size + 1) sC aC nC cC aD nD cD := by rw [hW4]; exact RtBlk.new _ _ (by simp) _ _ _ _ _ _ _
  have R4 := Lib.hid (show (wholeB x 20 && wholeB y 20) = true → RtAt W4 sA aA nA cA aB nB cB (Rt.whole x.neg (val W64 x.wf x.wn)) (4 * 20 + 1) ∧ RtAt W4 sC aC nC cC aD nD cD (Rt.whole y.neg (val W64 y.wf y.wn)) (4 * 20 + 1) from fun hb => by
    rw [hW4]
    have hk : Below w3.heap.size w3 ((w3.alloc (.cells #[.bool sA, .slice aA nA cA, .slice aB nB cB] 31)).alloc (.cells #[.bool sC, .slice aC nC cC, .slice aD nD cD] 31)) := Below.alloc' (Below.alloc' (Below.refl _ _) _) _
    exact ⟨(hR hb).1.keep hk, (hR hb).2.keep hk⟩)
  clear hW4 hR hB3
  have hb4 := Below.then hb2 (Nat.le_refl _) hB4
  have X4 := X2.keep hB4
  have Y4 := Y2.keep hB4
  have HX4 := Lib.hid (HX2.out.keep hB4)
  have HY4 := Lib.hid (HY2.out.keep hB4)
  have HB4 := Lib.hid hb4
  clear X2 Y2 HX2 HY2 hb2 hB4 hb4
  cases hb : (wholeB x 20 && wholeB y 20)
  · clear R4 X4 Y4 A4 C4
    go_wp2
    go_ret
    exact ⟨rfl, HB4.out⟩
  · skip
    have hw := hb
    unfold wholeB intB at hw
    simp only [Bool.and_eq_true, decide_eq_true_eq] at hw
    obtain ⟨⟨nX, ⟨⟨⟨kX, -⟩, -⟩, -⟩⟩, ⟨nY, ⟨⟨⟨kY, -⟩, -⟩, -⟩⟩⟩ := hw
    have KX := Lib.hid kX
    have KY := Lib.hid kY
    have NX := Lib.hid nX
    have NY := Lib.hid nY
    obtain ⟨rA, rC⟩ := R4.out hb
    have RA := Lib.hid rA
    have RC := Lib.hid rC
    clear nX nY kX kY rA rC hb R4
    have hd0 : Below W4.heap.size W4 W4.drew := (Below.refl _ _).drew
    clear hd0
    obtain ⟨yc0, yc1, yc2⟩ := C4.all
    go_wp2_with fail
    refine (signOf_any sC aC nC cC aD nD cD 81 _ _ RC.out (by omega)).mono ?_
    rintro e w5 ⟨rfl, hB5⟩
    clear yc0 yc1 yc2
    have HP := Lib.hid (signOf_whole (s := y.neg) (N := val W64 y.wf y.wn))
    generalize hq : (Rt.whole y.neg (val W64 y.wf y.wn)).signOf = q at *
    clear hq
    have HB5 := Lib.hid (Below.then HB4.out (Nat.le_refl _) hB5)
    by_cases hq0 : q = 0
    · subst hq0
      go_wp2
      go_ret
      exact ⟨rfl, HB5.out⟩
    · have HYP := Lib.hid (HP.out hq0)
      clear HP
      have X5 := X4.keep hB5
      have Y5 := Y4.keep hB5
      have A5 := A4.keep hB5
      have C5 := C4.keep hB5
      have HX5 := Lib.hid (HX4.out.keep hB5)
      have HY5 := Lib.hid (HY4.out.keep hB5)
      have RA5 := Lib.hid (RA.out.keep hB5)
      have RC5 := Lib.hid (RC.out.keep hB5)
      clear X4 Y4 A4 C4 HX4 HY4 RA RC hB5 HB4
      obtain ⟨ac0, ac1, ac2⟩ := A5.all
      obtain ⟨yc0, yc1, yc2⟩ := C5.all
      go_wp2_with fail
      refine (least_any sA sC aA nA cA aB nB cB aC nC cC aD nD cD (sg x.neg (val W64 x.wf x.wn)) (sg y.neg (val W64 y.wf y.wn)) 81 _ (by rw [← whole_rz]; exact RA5.out) (by rw [← whole_rz]; exact RC5.out) (by omega)).mono ?_
      rintro e w5b ⟨v, rfl, hv, hB5b⟩
      clear ac0 ac1 ac2 yc0 yc1 yc2
      have HBb := Lib.hid (Below.then HB5.out (Nat.le_refl _) hB5b)
      cases v
      case true =>
        go_wp2
        go_ret
        exact ⟨rfl, HBb.out⟩
      have HV := Lib.hid (hv rfl)
      clear hv HB5
      have HB5 := HBb
      replace X5 := X5.keep hB5b
      replace Y5 := Y5.keep hB5b
      replace A5 := A5.keep hB5b
      replace C5 := C5.keep hB5b
      replace HX5 := Lib.hid (HX5.out.keep hB5b)
      replace HY5 := Lib.hid (HY5.out.keep hB5b)
      replace RA5 := Lib.hid (RA5.out.keep hB5b)
      replace RC5 := Lib.hid (RC5.out.keep hB5b)
      clear hB5b HBb
      go_upto_region 6 with fail
      obtain ⟨ac0, ac1, ac2⟩ := A5.all
      obtain ⟨yc0, yc1, yc2⟩ := C5.all
      have HDT := Lib.hid (HT.out.keep HB5.out)
      obtain ⟨W5, hW5⟩ : ∃ W5, W5 = w5b := ⟨_, rfl⟩
      subst hW5
      have hd0 : Below W5.heap.size W5 W5.drew := (Below.refl _ _).drew
      have hd1 : Below W5.heap.size W5 ((W5.alloc (.cells #[.int .i64 0, .bool false, .string ⟨#[]⟩, .bool false, .slice none 0 0, .slice none 0 0, .bool false, .slice none 0 0, .slice none 0 0] 26)).drew) := (Below.alloc' (Below.refl _ _) _).drew
      have hd2 : Below W5.heap.size W5 (((W5.alloc (.cells #[.int .i64 0, .bool false, .string ⟨#[]⟩, .bool false, .slice none 0 0, .slice none 0 0, .bool false, .slice none 0 0, .slice none 0 0] 26)).alloc (.cells #[.int .i64 0, .bool false, .string ⟨#[]⟩, .bool false, .slice none 0 0, .slice none 0 0, .bool false, .slice none 0 0, .slice none 0 0] 26)).drew) := (Below.alloc' (Below.alloc' (Below.refl _ _) _) _).drew
      have HZ1 := Lib.hid (show BlkAt ((W5.alloc (.cells #[.int .i64 0, .bool false, .string ⟨#[]⟩, .bool false, .slice none 0 0, .slice none 0 0, .bool false, .slice none 0 0, .slice none 0 0] 26)).drew) W5.heap.size #[.int .i64 0, .bool false, .string ⟨#[]⟩, .bool false, .slice none 0 0, .slice none 0 0, .bool false, .slice none 0 0, .slice none 0 0] 26 from BlkAt.keep (BlkAt.new W5 #[.int .i64 0, .bool false, .string ⟨#[]⟩, .bool false, .slice none 0 0, .slice none 0 0, .bool false, .slice none 0 0, .slice none 0 0] 26) (Below.refl _ _).drew)
      have HZ2a := Lib.hid (show BlkAt (((W5.alloc (.cells #[.int .i64 0, .bool false, .string ⟨#[]⟩, .bool false, .slice none 0 0, .slice none 0 0, .bool false, .slice none 0 0, .slice none 0 0] 26)).alloc (.cells #[.int .i64 0, .bool false, .string ⟨#[]⟩, .bool false, .slice none 0 0, .slice none 0 0, .bool false, .slice none 0 0, .slice none 0 0] 26)).drew) W5.heap.size #[.int .i64 0, .bool false, .string ⟨#[]⟩, .bool false, .slice none 0 0, .slice none 0 0, .bool false, .slice none 0 0, .slice none 0 0] 26 from BlkAt.keep (BlkAt.new W5 #[.int .i64 0, .bool false, .string ⟨#[]⟩, .bool false, .slice none 0 0, .slice none 0 0, .bool false, .slice none 0 0, .slice none 0 0] 26) (Below.alloc' (Below.refl _ _) _).drew)
      have H4 := Lib.hid (show ∀ W : World, BlkAt ((W.alloc (.cells #[.int .i64 0, .bool false, .string ⟨#[]⟩, .bool false, .slice none 0 0, .slice none 0 0, .bool false, .slice none 0 0, .slice none 0 0] 26)).alloc (.cells #[.int .i64 0, .bool false, .string ⟨#[]⟩, .bool false, .slice none 0 0, .slice none 0 0, .bool false, .slice none 0 0, .slice none 0 0] 26)) (W.heap.size + 1) #[.int .i64 0, .bool false, .string ⟨#[]⟩, .bool false, .slice none 0 0, .slice none 0 0, .bool false, .slice none 0 0, .slice none 0 0] 26 from fun W => by simpa using BlkAt.new (W.alloc (.cells #[.int .i64 0, .bool false, .string ⟨#[]⟩, .bool false, .slice none 0 0, .slice none 0 0, .bool false, .slice none 0 0, .slice none 0 0] 26)) #[.int .i64 0, .bool false, .string ⟨#[]⟩, .bool false, .slice none 0 0, .slice none 0 0, .bool false, .slice none 0 0, .slice none 0 0] 26)
      have HZ2b := Lib.hid (show BlkAt (((W5.alloc (.cells #[.int .i64 0, .bool false, .string ⟨#[]⟩, .bool false, .slice none 0 0, .slice none 0 0, .bool false, .slice none 0 0, .slice none 0 0] 26)).alloc (.cells #[.int .i64 0, .bool false, .string ⟨#[]⟩, .bool false, .slice none 0 0, .slice none 0 0, .bool false, .slice none 0 0, .slice none 0 0] 26)).drew) (W5.heap.size + 1) #[.int .i64 0, .bool false, .string ⟨#[]⟩, .bool false, .slice none 0 0, .slice none 0 0, .bool false, .slice none 0 0, .slice none 0 0] 26 from BlkAt.keep (H4.out W5) (Below.refl _ _).drew)
      have HY0 := Lib.hid (sg_ne (s := y.neg) HYP.out)
      clear ac0 ac1 ac2 yc0 yc1 yc2
      go_cut [8, 9] from 28 to 42 (fun s8 s9 wx => ∃ gq gr q r, s8 = .pointer (some ⟨gq, 0, none⟩) ∧ s9 = .pointer (some ⟨gr, 0, none⟩) ∧ Boxed2 W5 wx gq gr q r ∧ IsZ ((sg x.neg (val W64 x.wf x.wn)).tdiv (sg y.neg (val W64 y.wf y.wn))) 20 q ∧ IsZ ((sg x.neg (val W64 x.wf x.wn)).tmod (sg y.neg (val W64 y.wf y.wn))) 20 r)
      case first =>
        go_region_held3 (fun w' => (w'.cell? ⟨w.heap.size, 0, none⟩ = some (.int .i64 x.kind) ∧ w'.cell? ⟨w.heap.size, 1, none⟩ = some (.bool x.truth) ∧ w'.cell? ⟨w.heap.size, 2, none⟩ = some (.string x.text) ∧ w'.cell? ⟨w.heap.size, 3, none⟩ = some (.bool x.neg) ∧ w'.cell? ⟨w.heap.size, 4, none⟩ = some (.slice x.wa x.wn x.wc) ∧ w'.cell? ⟨w.heap.size, 5, none⟩ = some (.slice x.da x.dn x.dc) ∧ w'.cell? ⟨w.heap.size, 6, none⟩ = some (.bool x.ineg) ∧ w'.cell? ⟨w.heap.size, 7, none⟩ = some (.slice x.ia x.inn x.ic) ∧ w'.cell? ⟨w.heap.size, 8, none⟩ = some (.slice x.ea x.en x.ec)) ∧ (w'.cell? ⟨(w.heap.size + 1), 0, none⟩ = some (.int .i64 y.kind) ∧ w'.cell? ⟨(w.heap.size + 1), 1, none⟩ = some (.bool y.truth) ∧ w'.cell? ⟨(w.heap.size + 1), 2, none⟩ = some (.string y.text) ∧ w'.cell? ⟨(w.heap.size + 1), 3, none⟩ = some (.bool y.neg) ∧ w'.cell? ⟨(w.heap.size + 1), 4, none⟩ = some (.slice y.wa y.wn y.wc) ∧ w'.cell? ⟨(w.heap.size + 1), 5, none⟩ = some (.slice y.da y.dn y.dc) ∧ w'.cell? ⟨(w.heap.size + 1), 6, none⟩ = some (.bool y.ineg) ∧ w'.cell? ⟨(w.heap.size + 1), 7, none⟩ = some (.slice y.ia y.inn y.ic) ∧ w'.cell? ⟨(w.heap.size + 1), 8, none⟩ = some (.slice y.ea y.en y.ec)))
          (with_reducible refine ⟨(X5.keep ?_).all, (Y5.keep ?_).all⟩ <;> (with_reducible first | assumption | exact Below.alloc' (by assumption) _ | exact Below.alloc' (Below.alloc' (by assumption) _) _ | exact Below.refl _ _ | (refine below_set9 ?_ ?_ _ _ _ _ _ _ _ _ _ <;> first | assumption | exact Below.alloc' (by assumption) _ | exact Below.alloc' (Below.alloc' (by assumption) _) _ | exact Nat.le_refl _ | exact Nat.le_succ _ | exact hbQ.size | exact Nat.le_trans hbQ.size (Nat.le_succ _) | exact hbR.size | exact Nat.le_trans hbR.size (Nat.le_succ _) | (refine below_set9 ?_ ?_ _ _ _ _ _ _ _ _ _ <;> first | assumption | exact Below.alloc' (by assumption) _ | exact Below.alloc' (Below.alloc' (by assumption) _) _ | exact Nat.le_refl _ | exact Nat.le_succ _ | exact hbQ.size | exact Nat.le_trans hbQ.size (Nat.le_succ _) | exact hbR.size | exact Nat.le_trans hbR.size (Nat.le_succ _)))))
          (first | (go_at_call 15; (with_reducible refine (implQuo_any x y 20 _ ?_ ?_ ?_ KX.out KY.out NX.out NY.out (by omega) HY0.out HV.out).mono ?_); exact HDT.out.keep (by assumption); exact HX5.out.keep (by assumption); exact HY5.out.keep (by assumption); rintro e wQ ⟨q, rfl, hq, hQ, hBQ⟩; have hbQ := Below.then (show Below W5.heap.size W5 _ from by assumption) (Nat.le_refl _) hBQ; (try (with_reducible have A1 := HZ1.out.keep hBQ)); (try (with_reducible have A1 := HZ2a.out.keep hBQ)); (try (with_reducible have A2 := HZ2b.out.keep hBQ))) | (go_at_call 15; (with_reducible refine (implRem_any x y 20 _ ?_ ?_ ?_ KX.out KY.out NX.out NY.out (by omega) HY0.out).mono ?_); exact HDT.out.keep (by first | exact hbQ | exact Below.alloc' hbQ _ | exact Below.alloc' (Below.alloc' hbQ _) _); exact HX5.out.keep (by first | exact hbQ | exact Below.alloc' hbQ _ | exact Below.alloc' (Below.alloc' hbQ _) _); exact HY5.out.keep (by first | exact hbQ | exact Below.alloc' hbQ _ | exact Below.alloc' (Below.alloc' hbQ _) _); rintro e wR ⟨r, rfl, hr, hR, hBR⟩; have hbR := Below.then (show Below W5.heap.size W5 _ from by first | exact hbQ | exact Below.alloc' hbQ _ | exact Below.alloc' (Below.alloc' hbQ _) _) (Nat.le_refl _) hBR; have hq' := VlAt.keep (show VlAt _ q from by first | exact hq | exact hq.keep (Below.alloc' (Below.refl _ _) _) | exact hq.keep (Below.alloc' (Below.alloc' (Below.refl _ _) _) _)) hBR; (try (have B1 := BlkAt.keep (show BlkAt _ W5.heap.size #[.int .i64 0, .bool false, .string ⟨#[]⟩, .bool false, .slice none 0 0, .slice none 0 0, .bool false, .slice none 0 0, .slice none 0 0] 26 from by with_reducible first | exact A1 | exact A1.keep (Below.alloc' (Below.refl _ _) _) | exact A1.keep (Below.alloc' (Below.alloc' (Below.refl _ _) _) _)) hBR)); (try (have B2 := BlkAt.keep (show BlkAt _ (W5.heap.size + 1) #[.int .i64 0, .bool false, .string ⟨#[]⟩, .bool false, .slice none 0 0, .slice none 0 0, .bool false, .slice none 0 0, .slice none 0 0] 26 from by with_reducible first | exact A2 | exact A2.keep (Below.alloc' (Below.refl _ _) _) | exact A2.keep (Below.alloc' (Below.alloc' (Below.refl _ _) _) _)) hBR)); (try (with_reducible have B3 := BlkAt.keep (BlkAt.new wQ #[.int .i64 0, .bool false, .string ⟨#[]⟩, .bool false, .slice none 0 0, .slice none 0 0, .bool false, .slice none 0 0, .slice none 0 0] 26) hBR)); (try (with_reducible have B3 := BlkAt.keep ((BlkAt.new wQ #[.int .i64 0, .bool false, .string ⟨#[]⟩, .bool false, .slice none 0 0, .slice none 0 0, .bool false, .slice none 0 0, .slice none 0 0] 26).keep (Below.alloc' (Below.refl _ _) (.cells #[.int .i64 0, .bool false, .string ⟨#[]⟩, .bool false, .slice none 0 0, .slice none 0 0, .bool false, .slice none 0 0, .slice none 0 0] 26))) hBR)); (try (with_reducible have B4 := BlkAt.keep (H4.out wQ) hBR)); (try (have p1c0 := (B1).cell 0; have p1c1 := (B1).cell 1; have p1c2 := (B1).cell 2; have p1c3 := (B1).cell 3; have p1c4 := (B1).cell 4; have p1c5 := (B1).cell 5; have p1c6 := (B1).cell 6; have p1c7 := (B1).cell 7; have p1c8 := (B1).cell 8; simp only [List.getElem?_toArray, List.getElem?_cons_zero, List.getElem?_cons_succ] at p1c0 p1c1 p1c2 p1c3 p1c4 p1c5 p1c6 p1c7 p1c8; have p1f0 := (B1).frozen 0; have p1f1 := (B1).frozen 1; have p1f2 := (B1).frozen 2; have p1f3 := (B1).frozen 3; have p1f4 := (B1).frozen 4; have p1f5 := (B1).frozen 5; have p1f6 := (B1).frozen 6; have p1f7 := (B1).frozen 7; have p1f8 := (B1).frozen 8)); (try (have C1 := B1.keep (Below.alloc' (Below.refl _ _) (.cells #[.int .i64 0, .bool false, .string ⟨#[]⟩, .bool false, .slice none 0 0, .slice none 0 0, .bool false, .slice none 0 0, .slice none 0 0] 26)); have c1c0 := (C1).cell 0; have c1c1 := (C1).cell 1; have c1c2 := (C1).cell 2; have c1c3 := (C1).cell 3; have c1c4 := (C1).cell 4; have c1c5 := (C1).cell 5; have c1c6 := (C1).cell 6; have c1c7 := (C1).cell 7; have c1c8 := (C1).cell 8; simp only [List.getElem?_toArray, List.getElem?_cons_zero, List.getElem?_cons_succ] at c1c0 c1c1 c1c2 c1c3 c1c4 c1c5 c1c6 c1c7 c1c8; have c1f0 := (C1).frozen 0; have c1f1 := (C1).frozen 1; have c1f2 := (C1).frozen 2; have c1f3 := (C1).frozen 3; have c1f4 := (C1).frozen 4; have c1f5 := (C1).frozen 5; have c1f6 := (C1).frozen 6; have c1f7 := (C1).frozen 7; have c1f8 := (C1).frozen 8)); (try (have D1 := B1.keep (Below.alloc' (Below.refl _ _) (.cells #[.int .i64 q.kind, .bool q.truth, .string q.text, .bool q.neg, .slice q.wa q.wn q.wc, .slice q.da q.dn q.dc, .bool q.ineg, .slice q.ia q.inn q.ic, .slice q.ea q.en q.ec] 26)); have d1c0 := (D1).cell 0; have d1c1 := (D1).cell 1; have d1c2 := (D1).cell 2; have d1c3 := (D1).cell 3; have d1c4 := (D1).cell 4; have d1c5 := (D1).cell 5; have d1c6 := (D1).cell 6; have d1c7 := (D1).cell 7; have d1c8 := (D1).cell 8; simp only [List.getElem?_toArray, List.getElem?_cons_zero, List.getElem?_cons_succ] at d1c0 d1c1 d1c2 d1c3 d1c4 d1c5 d1c6 d1c7 d1c8; have d1f0 := (D1).frozen 0; have d1f1 := (D1).frozen 1; have d1f2 := (D1).frozen 2; have d1f3 := (D1).frozen 3; have d1f4 := (D1).frozen 4; have d1f5 := (D1).frozen 5; have d1f6 := (D1).frozen 6; have d1f7 := (D1).frozen 7; have d1f8 := (D1).frozen 8)); (try (have E1 := B1.keep (Below.alloc' (Below.refl _ _) (.cells #[.int .i64 r.kind, .bool r.truth, .string r.text, .bool r.neg, .slice r.wa r.wn r.wc, .slice r.da r.dn r.dc, .bool r.ineg, .slice r.ia r.inn r.ic, .slice r.ea r.en r.ec] 26)); have e1c0 := (E1).cell 0; have e1c1 := (E1).cell 1; have e1c2 := (E1).cell 2; have e1c3 := (E1).cell 3; have e1c4 := (E1).cell 4; have e1c5 := (E1).cell 5; have e1c6 := (E1).cell 6; have e1c7 := (E1).cell 7; have e1c8 := (E1).cell 8; simp only [List.getElem?_toArray, List.getElem?_cons_zero, List.getElem?_cons_succ] at e1c0 e1c1 e1c2 e1c3 e1c4 e1c5 e1c6 e1c7 e1c8; have e1f0 := (E1).frozen 0; have e1f1 := (E1).frozen 1; have e1f2 := (E1).frozen 2; have e1f3 := (E1).frozen 3; have e1f4 := (E1).frozen 4; have e1f5 := (E1).frozen 5; have e1f6 := (E1).frozen 6; have e1f7 := (E1).frozen 7; have e1f8 := (E1).frozen 8)); (try (have p2c0 := (B2).cell 0; have p2c1 := (B2).cell 1; have p2c2 := (B2).cell 2; have p2c3 := (B2).cell 3; have p2c4 := (B2).cell 4; have p2c5 := (B2).cell 5; have p2c6 := (B2).cell 6; have p2c7 := (B2).cell 7; have p2c8 := (B2).cell 8; simp only [List.getElem?_toArray, List.getElem?_cons_zero, List.getElem?_cons_succ] at p2c0 p2c1 p2c2 p2c3 p2c4 p2c5 p2c6 p2c7 p2c8; have p2f0 := (B2).frozen 0; have p2f1 := (B2).frozen 1; have p2f2 := (B2).frozen 2; have p2f3 := (B2).frozen 3; have p2f4 := (B2).frozen 4; have p2f5 := (B2).frozen 5; have p2f6 := (B2).frozen 6; have p2f7 := (B2).frozen 7; have p2f8 := (B2).frozen 8)); (try (have C2 := B2.keep (Below.alloc' (Below.refl _ _) (.cells #[.int .i64 0, .bool false, .string ⟨#[]⟩, .bool false, .slice none 0 0, .slice none 0 0, .bool false, .slice none 0 0, .slice none 0 0] 26)); have c2c0 := (C2).cell 0; have c2c1 := (C2).cell 1; have c2c2 := (C2).cell 2; have c2c3 := (C2).cell 3; have c2c4 := (C2).cell 4; have c2c5 := (C2).cell 5; have c2c6 := (C2).cell 6; have c2c7 := (C2).cell 7; have c2c8 := (C2).cell 8; simp only [List.getElem?_toArray, List.getElem?_cons_zero, List.getElem?_cons_succ] at c2c0 c2c1 c2c2 c2c3 c2c4 c2c5 c2c6 c2c7 c2c8; have c2f0 := (C2).frozen 0; have c2f1 := (C2).frozen 1; have c2f2 := (C2).frozen 2; have c2f3 := (C2).frozen 3; have c2f4 := (C2).frozen 4; have c2f5 := (C2).frozen 5; have c2f6 := (C2).frozen 6; have c2f7 := (C2).frozen 7; have c2f8 := (C2).frozen 8)); (try (have D2 := B2.keep (Below.alloc' (Below.refl _ _) (.cells #[.int .i64 q.kind, .bool q.truth, .string q.text, .bool q.neg, .slice q.wa q.wn q.wc, .slice q.da q.dn q.dc, .bool q.ineg, .slice q.ia q.inn q.ic, .slice q.ea q.en q.ec] 26)); have d2c0 := (D2).cell 0; have d2c1 := (D2).cell 1; have d2c2 := (D2).cell 2; have d2c3 := (D2).cell 3; have d2c4 := (D2).cell 4; have d2c5 := (D2).cell 5; have d2c6 := (D2).cell 6; have d2c7 := (D2).cell 7; have d2c8 := (D2).cell 8; simp only [List.getElem?_toArray, List.getElem?_cons_zero, List.getElem?_cons_succ] at d2c0 d2c1 d2c2 d2c3 d2c4 d2c5 d2c6 d2c7 d2c8; have d2f0 := (D2).frozen 0; have d2f1 := (D2).frozen 1; have d2f2 := (D2).frozen 2; have d2f3 := (D2).frozen 3; have d2f4 := (D2).frozen 4; have d2f5 := (D2).frozen 5; have d2f6 := (D2).frozen 6; have d2f7 := (D2).frozen 7; have d2f8 := (D2).frozen 8)); (try (have E2 := B2.keep (Below.alloc' (Below.refl _ _) (.cells #[.int .i64 r.kind, .bool r.truth, .string r.text, .bool r.neg, .slice r.wa r.wn r.wc, .slice r.da r.dn r.dc, .bool r.ineg, .slice r.ia r.inn r.ic, .slice r.ea r.en r.ec] 26)); have e2c0 := (E2).cell 0; have e2c1 := (E2).cell 1; have e2c2 := (E2).cell 2; have e2c3 := (E2).cell 3; have e2c4 := (E2).cell 4; have e2c5 := (E2).cell 5; have e2c6 := (E2).cell 6; have e2c7 := (E2).cell 7; have e2c8 := (E2).cell 8; simp only [List.getElem?_toArray, List.getElem?_cons_zero, List.getElem?_cons_succ] at e2c0 e2c1 e2c2 e2c3 e2c4 e2c5 e2c6 e2c7 e2c8; have e2f0 := (E2).frozen 0; have e2f1 := (E2).frozen 1; have e2f2 := (E2).frozen 2; have e2f3 := (E2).frozen 3; have e2f4 := (E2).frozen 4; have e2f5 := (E2).frozen 5; have e2f6 := (E2).frozen 6; have e2f7 := (E2).frozen 7; have e2f8 := (E2).frozen 8)); (try (have p3c0 := (B3).cell 0; have p3c1 := (B3).cell 1; have p3c2 := (B3).cell 2; have p3c3 := (B3).cell 3; have p3c4 := (B3).cell 4; have p3c5 := (B3).cell 5; have p3c6 := (B3).cell 6; have p3c7 := (B3).cell 7; have p3c8 := (B3).cell 8; simp only [List.getElem?_toArray, List.getElem?_cons_zero, List.getElem?_cons_succ] at p3c0 p3c1 p3c2 p3c3 p3c4 p3c5 p3c6 p3c7 p3c8; have p3f0 := (B3).frozen 0; have p3f1 := (B3).frozen 1; have p3f2 := (B3).frozen 2; have p3f3 := (B3).frozen 3; have p3f4 := (B3).frozen 4; have p3f5 := (B3).frozen 5; have p3f6 := (B3).frozen 6; have p3f7 := (B3).frozen 7; have p3f8 := (B3).frozen 8)); (try (have C3 := B3.keep (Below.alloc' (Below.refl _ _) (.cells #[.int .i64 0, .bool false, .string ⟨#[]⟩, .bool false, .slice none 0 0, .slice none 0 0, .bool false, .slice none 0 0, .slice none 0 0] 26)); have c3c0 := (C3).cell 0; have c3c1 := (C3).cell 1; have c3c2 := (C3).cell 2; have c3c3 := (C3).cell 3; have c3c4 := (C3).cell 4; have c3c5 := (C3).cell 5; have c3c6 := (C3).cell 6; have c3c7 := (C3).cell 7; have c3c8 := (C3).cell 8; simp only [List.getElem?_toArray, List.getElem?_cons_zero, List.getElem?_cons_succ] at c3c0 c3c1 c3c2 c3c3 c3c4 c3c5 c3c6 c3c7 c3c8; have c3f0 := (C3).frozen 0; have c3f1 := (C3).frozen 1; have c3f2 := (C3).frozen 2; have c3f3 := (C3).frozen 3; have c3f4 := (C3).frozen 4; have c3f5 := (C3).frozen 5; have c3f6 := (C3).frozen 6; have c3f7 := (C3).frozen 7; have c3f8 := (C3).frozen 8)); (try (have D3 := B3.keep (Below.alloc' (Below.refl _ _) (.cells #[.int .i64 q.kind, .bool q.truth, .string q.text, .bool q.neg, .slice q.wa q.wn q.wc, .slice q.da q.dn q.dc, .bool q.ineg, .slice q.ia q.inn q.ic, .slice q.ea q.en q.ec] 26)); have d3c0 := (D3).cell 0; have d3c1 := (D3).cell 1; have d3c2 := (D3).cell 2; have d3c3 := (D3).cell 3; have d3c4 := (D3).cell 4; have d3c5 := (D3).cell 5; have d3c6 := (D3).cell 6; have d3c7 := (D3).cell 7; have d3c8 := (D3).cell 8; simp only [List.getElem?_toArray, List.getElem?_cons_zero, List.getElem?_cons_succ] at d3c0 d3c1 d3c2 d3c3 d3c4 d3c5 d3c6 d3c7 d3c8; have d3f0 := (D3).frozen 0; have d3f1 := (D3).frozen 1; have d3f2 := (D3).frozen 2; have d3f3 := (D3).frozen 3; have d3f4 := (D3).frozen 4; have d3f5 := (D3).frozen 5; have d3f6 := (D3).frozen 6; have d3f7 := (D3).frozen 7; have d3f8 := (D3).frozen 8)); (try (have E3 := B3.keep (Below.alloc' (Below.refl _ _) (.cells #[.int .i64 r.kind, .bool r.truth, .string r.text, .bool r.neg, .slice r.wa r.wn r.wc, .slice r.da r.dn r.dc, .bool r.ineg, .slice r.ia r.inn r.ic, .slice r.ea r.en r.ec] 26)); have e3c0 := (E3).cell 0; have e3c1 := (E3).cell 1; have e3c2 := (E3).cell 2; have e3c3 := (E3).cell 3; have e3c4 := (E3).cell 4; have e3c5 := (E3).cell 5; have e3c6 := (E3).cell 6; have e3c7 := (E3).cell 7; have e3c8 := (E3).cell 8; simp only [List.getElem?_toArray, List.getElem?_cons_zero, List.getElem?_cons_succ] at e3c0 e3c1 e3c2 e3c3 e3c4 e3c5 e3c6 e3c7 e3c8; have e3f0 := (E3).frozen 0; have e3f1 := (E3).frozen 1; have e3f2 := (E3).frozen 2; have e3f3 := (E3).frozen 3; have e3f4 := (E3).frozen 4; have e3f5 := (E3).frozen 5; have e3f6 := (E3).frozen 6; have e3f7 := (E3).frozen 7; have e3f8 := (E3).frozen 8)); (try (have p4c0 := (B4).cell 0; have p4c1 := (B4).cell 1; have p4c2 := (B4).cell 2; have p4c3 := (B4).cell 3; have p4c4 := (B4).cell 4; have p4c5 := (B4).cell 5; have p4c6 := (B4).cell 6; have p4c7 := (B4).cell 7; have p4c8 := (B4).cell 8; simp only [List.getElem?_toArray, List.getElem?_cons_zero, List.getElem?_cons_succ] at p4c0 p4c1 p4c2 p4c3 p4c4 p4c5 p4c6 p4c7 p4c8; have p4f0 := (B4).frozen 0; have p4f1 := (B4).frozen 1; have p4f2 := (B4).frozen 2; have p4f3 := (B4).frozen 3; have p4f4 := (B4).frozen 4; have p4f5 := (B4).frozen 5; have p4f6 := (B4).frozen 6; have p4f7 := (B4).frozen 7; have p4f8 := (B4).frozen 8)); (try (have C4 := B4.keep (Below.alloc' (Below.refl _ _) (.cells #[.int .i64 0, .bool false, .string ⟨#[]⟩, .bool false, .slice none 0 0, .slice none 0 0, .bool false, .slice none 0 0, .slice none 0 0] 26)); have c4c0 := (C4).cell 0; have c4c1 := (C4).cell 1; have c4c2 := (C4).cell 2; have c4c3 := (C4).cell 3; have c4c4 := (C4).cell 4; have c4c5 := (C4).cell 5; have c4c6 := (C4).cell 6; have c4c7 := (C4).cell 7; have c4c8 := (C4).cell 8; simp only [List.getElem?_toArray, List.getElem?_cons_zero, List.getElem?_cons_succ] at c4c0 c4c1 c4c2 c4c3 c4c4 c4c5 c4c6 c4c7 c4c8; have c4f0 := (C4).frozen 0; have c4f1 := (C4).frozen 1; have c4f2 := (C4).frozen 2; have c4f3 := (C4).frozen 3; have c4f4 := (C4).frozen 4; have c4f5 := (C4).frozen 5; have c4f6 := (C4).frozen 6; have c4f7 := (C4).frozen 7; have c4f8 := (C4).frozen 8)); (try (have D4 := B4.keep (Below.alloc' (Below.refl _ _) (.cells #[.int .i64 q.kind, .bool q.truth, .string q.text, .bool q.neg, .slice q.wa q.wn q.wc, .slice q.da q.dn q.dc, .bool q.ineg, .slice q.ia q.inn q.ic, .slice q.ea q.en q.ec] 26)); have d4c0 := (D4).cell 0; have d4c1 := (D4).cell 1; have d4c2 := (D4).cell 2; have d4c3 := (D4).cell 3; have d4c4 := (D4).cell 4; have d4c5 := (D4).cell 5; have d4c6 := (D4).cell 6; have d4c7 := (D4).cell 7; have d4c8 := (D4).cell 8; simp only [List.getElem?_toArray, List.getElem?_cons_zero, List.getElem?_cons_succ] at d4c0 d4c1 d4c2 d4c3 d4c4 d4c5 d4c6 d4c7 d4c8; have d4f0 := (D4).frozen 0; have d4f1 := (D4).frozen 1; have d4f2 := (D4).frozen 2; have d4f3 := (D4).frozen 3; have d4f4 := (D4).frozen 4; have d4f5 := (D4).frozen 5; have d4f6 := (D4).frozen 6; have d4f7 := (D4).frozen 7; have d4f8 := (D4).frozen 8)); (try (have E4 := B4.keep (Below.alloc' (Below.refl _ _) (.cells #[.int .i64 r.kind, .bool r.truth, .string r.text, .bool r.neg, .slice r.wa r.wn r.wc, .slice r.da r.dn r.dc, .bool r.ineg, .slice r.ia r.inn r.ic, .slice r.ea r.en r.ec] 26)); have e4c0 := (E4).cell 0; have e4c1 := (E4).cell 1; have e4c2 := (E4).cell 2; have e4c3 := (E4).cell 3; have e4c4 := (E4).cell 4; have e4c5 := (E4).cell 5; have e4c6 := (E4).cell 6; have e4c7 := (E4).cell 7; have e4c8 := (E4).cell 8; simp only [List.getElem?_toArray, List.getElem?_cons_zero, List.getElem?_cons_succ] at e4c0 e4c1 e4c2 e4c3 e4c4 e4c5 e4c6 e4c7 e4c8; have e4f0 := (E4).frozen 0; have e4f1 := (E4).frozen 1; have e4f2 := (E4).frozen 2; have e4f3 := (E4).frozen 3; have e4f4 := (E4).frozen 4; have e4f5 := (E4).frozen 5; have e4f6 := (E4).frozen 6; have e4f7 := (E4).frozen 7; have e4f8 := (E4).frozen 8)); (try (have n0a : ¬ W5.heap.size = wQ.heap.size := Nat.ne_of_lt A1.lt; have n0b : ¬ wQ.heap.size = W5.heap.size := fun h => Nat.ne_of_lt A1.lt h.symm)); (try (have n1a : ¬ W5.heap.size = wR.heap.size := Nat.ne_of_lt B1.lt; have n1b : ¬ wR.heap.size = W5.heap.size := fun h => Nat.ne_of_lt B1.lt h.symm)); (try (have n2a : ¬ wQ.heap.size = wR.heap.size := Nat.ne_of_lt B3.lt; have n2b : ¬ wR.heap.size = wQ.heap.size := fun h => Nat.ne_of_lt B3.lt h.symm))))
        · have hq2 := hq'
          have HBX : Boxed2 W5 ((wR.alloc (.cells #[.int .i64 q.kind, .bool q.truth, .string q.text, .bool q.neg, .slice q.wa q.wn q.wc, .slice q.da q.dn q.dc, .bool q.ineg, .slice q.ia q.inn q.ic, .slice q.ea q.en q.ec] 26)).alloc (.cells #[.int .i64 r.kind, .bool r.truth, .string r.text, .bool r.neg, .slice r.wa r.wn r.wc, .slice r.da r.dn r.dc, .bool r.ineg, .slice r.ia r.inn r.ic, .slice r.ea r.en r.ec] 26)) (wR.heap.size) (wR.heap.size + 1) q r := ⟨Below.alloc' (Below.alloc' hbR _) _, (hq2.keep (Below.alloc' (Below.refl _ _) _)).keep (Below.alloc' (Below.refl _ _) _), (hr.keep (Below.alloc' (Below.refl _ _) _)).keep (Below.alloc' (Below.refl _ _) _), (Box9.new wR q _ rfl).alloc _, Box9.new _ r _ (by simp)⟩
          go_wp2_with fail
          go_meet
          with_reducible exact ⟨_, _, q, r, rfl, rfl, HBX, hQ, hR⟩
        · have hq2 := hq'
          have HBX : Boxed2 W5 ((wR.alloc (.cells #[.int .i64 r.kind, .bool r.truth, .string r.text, .bool r.neg, .slice r.wa r.wn r.wc, .slice r.da r.dn r.dc, .bool r.ineg, .slice r.ia r.inn r.ic, .slice r.ea r.en r.ec] 26)).alloc (.cells #[.int .i64 q.kind, .bool q.truth, .string q.text, .bool q.neg, .slice q.wa q.wn q.wc, .slice q.da q.dn q.dc, .bool q.ineg, .slice q.ia q.inn q.ic, .slice q.ea q.en q.ec] 26)) (wR.heap.size + 1) (wR.heap.size) q r := ⟨Below.alloc' (Below.alloc' hbR _) _, (hq2.keep (Below.alloc' (Below.refl _ _) _)).keep (Below.alloc' (Below.refl _ _) _), (hr.keep (Below.alloc' (Below.refl _ _) _)).keep (Below.alloc' (Below.refl _ _) _), Box9.new _ q _ (by simp), (Box9.new wR r _ rfl).alloc _⟩
          go_wp2_with fail
          go_meet
          with_reducible exact ⟨_, _, q, r, rfl, rfl, HBX, hQ, hR⟩
        · have hq2 := hq'
          have HBX : Boxed2 W5 (((((((((((((((((((wR.alloc (.cells #[.int .i64 0, .bool false, .string ⟨#[]⟩, .bool false, .slice none 0 0, .slice none 0 0, .bool false, .slice none 0 0, .slice none 0 0] 26)).setCell ⟨wQ.heap.size, 0, none⟩ (.int .i64 q.kind)).setCell ⟨wQ.heap.size, 1, none⟩ (.bool q.truth)).setCell ⟨wQ.heap.size, 2, none⟩ (.string q.text)).setCell ⟨wQ.heap.size, 3, none⟩ (.bool q.neg)).setCell ⟨wQ.heap.size, 4, none⟩ (.slice q.wa q.wn q.wc)).setCell ⟨wQ.heap.size, 5, none⟩ (.slice q.da q.dn q.dc)).setCell ⟨wQ.heap.size, 6, none⟩ (.bool q.ineg)).setCell ⟨wQ.heap.size, 7, none⟩ (.slice q.ia q.inn q.ic)).setCell ⟨wQ.heap.size, 8, none⟩ (.slice q.ea q.en q.ec)).setCell ⟨wR.heap.size, 0, none⟩ (.int .i64 r.kind)).setCell ⟨wR.heap.size, 1, none⟩ (.bool r.truth)).setCell ⟨wR.heap.size, 2, none⟩ (.string r.text)).setCell ⟨wR.heap.size, 3, none⟩ (.bool r.neg)).setCell ⟨wR.heap.size, 4, none⟩ (.slice r.wa r.wn r.wc)).setCell ⟨wR.heap.size, 5, none⟩ (.slice r.da r.dn r.dc)).setCell ⟨wR.heap.size, 6, none⟩ (.bool r.ineg)).setCell ⟨wR.heap.size, 7, none⟩ (.slice r.ia r.inn r.ic)).setCell ⟨wR.heap.size, 8, none⟩ (.slice r.ea r.en r.ec)) (wQ.heap.size) (wR.heap.size) q r := boxed2_qr (Below.alloc' hbR _) (hq2.keep (Below.alloc' (Below.refl _ _) _)) (hr.keep (Below.alloc' (Below.refl _ _) _)) C3 (BlkAt.new wR #[.int .i64 0, .bool false, .string ⟨#[]⟩, .bool false, .slice none 0 0, .slice none 0 0, .bool false, .slice none 0 0, .slice none 0 0] 26) (hbQ.size) hbR.size (Nat.ne_of_lt B3.lt)
          go_wp2_with fail
          go_meet
          with_reducible exact ⟨_, _, q, r, rfl, rfl, HBX, hQ, hR⟩
        · have hq2 := hq'
          have HBX : Boxed2 W5 ((((((((((((((((((wR.setCell ⟨wQ.heap.size, 0, none⟩ (.int .i64 q.kind)).setCell ⟨wQ.heap.size, 1, none⟩ (.bool q.truth)).setCell ⟨wQ.heap.size, 2, none⟩ (.string q.text)).setCell ⟨wQ.heap.size, 3, none⟩ (.bool q.neg)).setCell ⟨wQ.heap.size, 4, none⟩ (.slice q.wa q.wn q.wc)).setCell ⟨wQ.heap.size, 5, none⟩ (.slice q.da q.dn q.dc)).setCell ⟨wQ.heap.size, 6, none⟩ (.bool q.ineg)).setCell ⟨wQ.heap.size, 7, none⟩ (.slice q.ia q.inn q.ic)).setCell ⟨wQ.heap.size, 8, none⟩ (.slice q.ea q.en q.ec)).setCell ⟨wQ.heap.size + 1, 0, none⟩ (.int .i64 r.kind)).setCell ⟨wQ.heap.size + 1, 1, none⟩ (.bool r.truth)).setCell ⟨wQ.heap.size + 1, 2, none⟩ (.string r.text)).setCell ⟨wQ.heap.size + 1, 3, none⟩ (.bool r.neg)).setCell ⟨wQ.heap.size + 1, 4, none⟩ (.slice r.wa r.wn r.wc)).setCell ⟨wQ.heap.size + 1, 5, none⟩ (.slice r.da r.dn r.dc)).setCell ⟨wQ.heap.size + 1, 6, none⟩ (.bool r.ineg)).setCell ⟨wQ.heap.size + 1, 7, none⟩ (.slice r.ia r.inn r.ic)).setCell ⟨wQ.heap.size + 1, 8, none⟩ (.slice r.ea r.en r.ec)) (wQ.heap.size) (wQ.heap.size + 1) q r := boxed2_qr hbR hq2 hr B3 B4 (hbQ.size) (Nat.le_trans hbQ.size (Nat.le_succ _)) (by omega)
          go_wp2_with fail
          go_meet
          with_reducible exact ⟨_, _, q, r, rfl, rfl, HBX, hQ, hR⟩
        · have hq2 := hq'
          have HBX : Boxed2 W5 ((((((((((wR.alloc (.cells #[.int .i64 q.kind, .bool q.truth, .string q.text, .bool q.neg, .slice q.wa q.wn q.wc, .slice q.da q.dn q.dc, .bool q.ineg, .slice q.ia q.inn q.ic, .slice q.ea q.en q.ec] 26)).setCell ⟨wQ.heap.size, 0, none⟩ (.int .i64 r.kind)).setCell ⟨wQ.heap.size, 1, none⟩ (.bool r.truth)).setCell ⟨wQ.heap.size, 2, none⟩ (.string r.text)).setCell ⟨wQ.heap.size, 3, none⟩ (.bool r.neg)).setCell ⟨wQ.heap.size, 4, none⟩ (.slice r.wa r.wn r.wc)).setCell ⟨wQ.heap.size, 5, none⟩ (.slice r.da r.dn r.dc)).setCell ⟨wQ.heap.size, 6, none⟩ (.bool r.ineg)).setCell ⟨wQ.heap.size, 7, none⟩ (.slice r.ia r.inn r.ic)).setCell ⟨wQ.heap.size, 8, none⟩ (.slice r.ea r.en r.ec)) (wR.heap.size) (wQ.heap.size) q r := boxed2_r (Below.alloc' hbR _) (hq2.keep (Below.alloc' (Below.refl _ _) _)) (hr.keep (Below.alloc' (Below.refl _ _) _)) (Box9.new wR q _ rfl) (BlkAt.keep B3 (Below.alloc' (Below.refl _ _) _)) (hbQ.size) (Ne.symm (Nat.ne_of_lt B3.lt))
          go_wp2_with fail
          go_meet
          with_reducible exact ⟨_, _, q, r, rfl, rfl, HBX, hQ, hR⟩
        · have hq2 := hq'
          have HBX : Boxed2 W5 ((((((((((((((((((wR.setCell ⟨wQ.heap.size + 1, 0, none⟩ (.int .i64 q.kind)).setCell ⟨wQ.heap.size + 1, 1, none⟩ (.bool q.truth)).setCell ⟨wQ.heap.size + 1, 2, none⟩ (.string q.text)).setCell ⟨wQ.heap.size + 1, 3, none⟩ (.bool q.neg)).setCell ⟨wQ.heap.size + 1, 4, none⟩ (.slice q.wa q.wn q.wc)).setCell ⟨wQ.heap.size + 1, 5, none⟩ (.slice q.da q.dn q.dc)).setCell ⟨wQ.heap.size + 1, 6, none⟩ (.bool q.ineg)).setCell ⟨wQ.heap.size + 1, 7, none⟩ (.slice q.ia q.inn q.ic)).setCell ⟨wQ.heap.size + 1, 8, none⟩ (.slice q.ea q.en q.ec)).setCell ⟨wQ.heap.size, 0, none⟩ (.int .i64 r.kind)).setCell ⟨wQ.heap.size, 1, none⟩ (.bool r.truth)).setCell ⟨wQ.heap.size, 2, none⟩ (.string r.text)).setCell ⟨wQ.heap.size, 3, none⟩ (.bool r.neg)).setCell ⟨wQ.heap.size, 4, none⟩ (.slice r.wa r.wn r.wc)).setCell ⟨wQ.heap.size, 5, none⟩ (.slice r.da r.dn r.dc)).setCell ⟨wQ.heap.size, 6, none⟩ (.bool r.ineg)).setCell ⟨wQ.heap.size, 7, none⟩ (.slice r.ia r.inn r.ic)).setCell ⟨wQ.heap.size, 8, none⟩ (.slice r.ea r.en r.ec)) (wQ.heap.size + 1) (wQ.heap.size) q r := boxed2_qr hbR hq2 hr B4 B3 (Nat.le_trans hbQ.size (Nat.le_succ _)) (hbQ.size) (by omega)
          go_wp2_with fail
          go_meet
          with_reducible exact ⟨_, _, q, r, rfl, rfl, HBX, hQ, hR⟩
        · have hq2 := hq'
          have HBX : Boxed2 W5 (((((((((((((((((((wR.alloc (.cells #[.int .i64 0, .bool false, .string ⟨#[]⟩, .bool false, .slice none 0 0, .slice none 0 0, .bool false, .slice none 0 0, .slice none 0 0] 26)).setCell ⟨W5.heap.size, 0, none⟩ (.int .i64 q.kind)).setCell ⟨W5.heap.size, 1, none⟩ (.bool q.truth)).setCell ⟨W5.heap.size, 2, none⟩ (.string q.text)).setCell ⟨W5.heap.size, 3, none⟩ (.bool q.neg)).setCell ⟨W5.heap.size, 4, none⟩ (.slice q.wa q.wn q.wc)).setCell ⟨W5.heap.size, 5, none⟩ (.slice q.da q.dn q.dc)).setCell ⟨W5.heap.size, 6, none⟩ (.bool q.ineg)).setCell ⟨W5.heap.size, 7, none⟩ (.slice q.ia q.inn q.ic)).setCell ⟨W5.heap.size, 8, none⟩ (.slice q.ea q.en q.ec)).setCell ⟨wR.heap.size, 0, none⟩ (.int .i64 r.kind)).setCell ⟨wR.heap.size, 1, none⟩ (.bool r.truth)).setCell ⟨wR.heap.size, 2, none⟩ (.string r.text)).setCell ⟨wR.heap.size, 3, none⟩ (.bool r.neg)).setCell ⟨wR.heap.size, 4, none⟩ (.slice r.wa r.wn r.wc)).setCell ⟨wR.heap.size, 5, none⟩ (.slice r.da r.dn r.dc)).setCell ⟨wR.heap.size, 6, none⟩ (.bool r.ineg)).setCell ⟨wR.heap.size, 7, none⟩ (.slice r.ia r.inn r.ic)).setCell ⟨wR.heap.size, 8, none⟩ (.slice r.ea r.en r.ec)) (W5.heap.size) (wR.heap.size) q r := boxed2_qr (Below.alloc' hbR _) (hq2.keep (Below.alloc' (Below.refl _ _) _)) (hr.keep (Below.alloc' (Below.refl _ _) _)) C1 (BlkAt.new wR #[.int .i64 0, .bool false, .string ⟨#[]⟩, .bool false, .slice none 0 0, .slice none 0 0, .bool false, .slice none 0 0, .slice none 0 0] 26) (Nat.le_refl _) hbR.size (Nat.ne_of_lt B1.lt)
          go_wp2_with fail
          go_meet
          with_reducible exact ⟨_, _, q, r, rfl, rfl, HBX, hQ, hR⟩
        · have hq2 := hq'
          have HBX : Boxed2 W5 ((((((((((((((((((wR.setCell ⟨W5.heap.size, 0, none⟩ (.int .i64 q.kind)).setCell ⟨W5.heap.size, 1, none⟩ (.bool q.truth)).setCell ⟨W5.heap.size, 2, none⟩ (.string q.text)).setCell ⟨W5.heap.size, 3, none⟩ (.bool q.neg)).setCell ⟨W5.heap.size, 4, none⟩ (.slice q.wa q.wn q.wc)).setCell ⟨W5.heap.size, 5, none⟩ (.slice q.da q.dn q.dc)).setCell ⟨W5.heap.size, 6, none⟩ (.bool q.ineg)).setCell ⟨W5.heap.size, 7, none⟩ (.slice q.ia q.inn q.ic)).setCell ⟨W5.heap.size, 8, none⟩ (.slice q.ea q.en q.ec)).setCell ⟨wQ.heap.size, 0, none⟩ (.int .i64 r.kind)).setCell ⟨wQ.heap.size, 1, none⟩ (.bool r.truth)).setCell ⟨wQ.heap.size, 2, none⟩ (.string r.text)).setCell ⟨wQ.heap.size, 3, none⟩ (.bool r.neg)).setCell ⟨wQ.heap.size, 4, none⟩ (.slice r.wa r.wn r.wc)).setCell ⟨wQ.heap.size, 5, none⟩ (.slice r.da r.dn r.dc)).setCell ⟨wQ.heap.size, 6, none⟩ (.bool r.ineg)).setCell ⟨wQ.heap.size, 7, none⟩ (.slice r.ia r.inn r.ic)).setCell ⟨wQ.heap.size, 8, none⟩ (.slice r.ea r.en r.ec)) (W5.heap.size) (wQ.heap.size) q r := boxed2_qr hbR hq2 hr B1 B3 (Nat.le_refl _) (hbQ.size) (Nat.ne_of_lt A1.lt)
          go_wp2_with fail
          go_meet
          with_reducible exact ⟨_, _, q, r, rfl, rfl, HBX, hQ, hR⟩
        · have hq2 := hq'
          have HBX : Boxed2 W5 ((((((((((((((((((wR.setCell ⟨W5.heap.size, 0, none⟩ (.int .i64 q.kind)).setCell ⟨W5.heap.size, 1, none⟩ (.bool q.truth)).setCell ⟨W5.heap.size, 2, none⟩ (.string q.text)).setCell ⟨W5.heap.size, 3, none⟩ (.bool q.neg)).setCell ⟨W5.heap.size, 4, none⟩ (.slice q.wa q.wn q.wc)).setCell ⟨W5.heap.size, 5, none⟩ (.slice q.da q.dn q.dc)).setCell ⟨W5.heap.size, 6, none⟩ (.bool q.ineg)).setCell ⟨W5.heap.size, 7, none⟩ (.slice q.ia q.inn q.ic)).setCell ⟨W5.heap.size, 8, none⟩ (.slice q.ea q.en q.ec)).setCell ⟨W5.heap.size + 1, 0, none⟩ (.int .i64 r.kind)).setCell ⟨W5.heap.size + 1, 1, none⟩ (.bool r.truth)).setCell ⟨W5.heap.size + 1, 2, none⟩ (.string r.text)).setCell ⟨W5.heap.size + 1, 3, none⟩ (.bool r.neg)).setCell ⟨W5.heap.size + 1, 4, none⟩ (.slice r.wa r.wn r.wc)).setCell ⟨W5.heap.size + 1, 5, none⟩ (.slice r.da r.dn r.dc)).setCell ⟨W5.heap.size + 1, 6, none⟩ (.bool r.ineg)).setCell ⟨W5.heap.size + 1, 7, none⟩ (.slice r.ia r.inn r.ic)).setCell ⟨W5.heap.size + 1, 8, none⟩ (.slice r.ea r.en r.ec)) (W5.heap.size) (W5.heap.size + 1) q r := boxed2_qr hbR hq2 hr B1 B2 (Nat.le_refl _) (Nat.le_succ _) (by omega)
          go_wp2_with fail
          go_meet
          with_reducible exact ⟨_, _, q, r, rfl, rfl, HBX, hQ, hR⟩
        · have hq2 := hq'
          have HBX : Boxed2 W5 ((((((((((wR.alloc (.cells #[.int .i64 q.kind, .bool q.truth, .string q.text, .bool q.neg, .slice q.wa q.wn q.wc, .slice q.da q.dn q.dc, .bool q.ineg, .slice q.ia q.inn q.ic, .slice q.ea q.en q.ec] 26)).setCell ⟨W5.heap.size, 0, none⟩ (.int .i64 r.kind)).setCell ⟨W5.heap.size, 1, none⟩ (.bool r.truth)).setCell ⟨W5.heap.size, 2, none⟩ (.string r.text)).setCell ⟨W5.heap.size, 3, none⟩ (.bool r.neg)).setCell ⟨W5.heap.size, 4, none⟩ (.slice r.wa r.wn r.wc)).setCell ⟨W5.heap.size, 5, none⟩ (.slice r.da r.dn r.dc)).setCell ⟨W5.heap.size, 6, none⟩ (.bool r.ineg)).setCell ⟨W5.heap.size, 7, none⟩ (.slice r.ia r.inn r.ic)).setCell ⟨W5.heap.size, 8, none⟩ (.slice r.ea r.en r.ec)) (wR.heap.size) (W5.heap.size) q r := boxed2_r (Below.alloc' hbR _) (hq2.keep (Below.alloc' (Below.refl _ _) _)) (hr.keep (Below.alloc' (Below.refl _ _) _)) (Box9.new wR q _ rfl) (BlkAt.keep B1 (Below.alloc' (Below.refl _ _) _)) (Nat.le_refl _) (Ne.symm (Nat.ne_of_lt B1.lt))
          go_wp2_with fail
          go_meet
          with_reducible exact ⟨_, _, q, r, rfl, rfl, HBX, hQ, hR⟩
        · have hq2 := hq'
          have HBX : Boxed2 W5 ((((((((((((((((((wR.setCell ⟨wQ.heap.size, 0, none⟩ (.int .i64 q.kind)).setCell ⟨wQ.heap.size, 1, none⟩ (.bool q.truth)).setCell ⟨wQ.heap.size, 2, none⟩ (.string q.text)).setCell ⟨wQ.heap.size, 3, none⟩ (.bool q.neg)).setCell ⟨wQ.heap.size, 4, none⟩ (.slice q.wa q.wn q.wc)).setCell ⟨wQ.heap.size, 5, none⟩ (.slice q.da q.dn q.dc)).setCell ⟨wQ.heap.size, 6, none⟩ (.bool q.ineg)).setCell ⟨wQ.heap.size, 7, none⟩ (.slice q.ia q.inn q.ic)).setCell ⟨wQ.heap.size, 8, none⟩ (.slice q.ea q.en q.ec)).setCell ⟨W5.heap.size, 0, none⟩ (.int .i64 r.kind)).setCell ⟨W5.heap.size, 1, none⟩ (.bool r.truth)).setCell ⟨W5.heap.size, 2, none⟩ (.string r.text)).setCell ⟨W5.heap.size, 3, none⟩ (.bool r.neg)).setCell ⟨W5.heap.size, 4, none⟩ (.slice r.wa r.wn r.wc)).setCell ⟨W5.heap.size, 5, none⟩ (.slice r.da r.dn r.dc)).setCell ⟨W5.heap.size, 6, none⟩ (.bool r.ineg)).setCell ⟨W5.heap.size, 7, none⟩ (.slice r.ia r.inn r.ic)).setCell ⟨W5.heap.size, 8, none⟩ (.slice r.ea r.en r.ec)) (wQ.heap.size) (W5.heap.size) q r := boxed2_qr hbR hq2 hr B3 B1 (hbQ.size) (Nat.le_refl _) (Ne.symm (Nat.ne_of_lt A1.lt))
          go_wp2_with fail
          go_meet
          with_reducible exact ⟨_, _, q, r, rfl, rfl, HBX, hQ, hR⟩
        · have hq2 := hq'
          have HBX : Boxed2 W5 ((((((((((((((((((wR.setCell ⟨W5.heap.size + 1, 0, none⟩ (.int .i64 q.kind)).setCell ⟨W5.heap.size + 1, 1, none⟩ (.bool q.truth)).setCell ⟨W5.heap.size + 1, 2, none⟩ (.string q.text)).setCell ⟨W5.heap.size + 1, 3, none⟩ (.bool q.neg)).setCell ⟨W5.heap.size + 1, 4, none⟩ (.slice q.wa q.wn q.wc)).setCell ⟨W5.heap.size + 1, 5, none⟩ (.slice q.da q.dn q.dc)).setCell ⟨W5.heap.size + 1, 6, none⟩ (.bool q.ineg)).setCell ⟨W5.heap.size + 1, 7, none⟩ (.slice q.ia q.inn q.ic)).setCell ⟨W5.heap.size + 1, 8, none⟩ (.slice q.ea q.en q.ec)).setCell ⟨W5.heap.size, 0, none⟩ (.int .i64 r.kind)).setCell ⟨W5.heap.size, 1, none⟩ (.bool r.truth)).setCell ⟨W5.heap.size, 2, none⟩ (.string r.text)).setCell ⟨W5.heap.size, 3, none⟩ (.bool r.neg)).setCell ⟨W5.heap.size, 4, none⟩ (.slice r.wa r.wn r.wc)).setCell ⟨W5.heap.size, 5, none⟩ (.slice r.da r.dn r.dc)).setCell ⟨W5.heap.size, 6, none⟩ (.bool r.ineg)).setCell ⟨W5.heap.size, 7, none⟩ (.slice r.ia r.inn r.ic)).setCell ⟨W5.heap.size, 8, none⟩ (.slice r.ea r.en r.ec)) (W5.heap.size + 1) (W5.heap.size) q r := boxed2_qr hbR hq2 hr B2 B1 (Nat.le_succ _) (Nat.le_refl _) (by omega)
          go_wp2_with fail
          go_meet
          with_reducible exact ⟨_, _, q, r, rfl, rfl, HBX, hQ, hR⟩
      case rest =>
        obtain ⟨gq, gr, q, r, rfl, rfl, HBX, hQ, hR⟩ := hcut
        obtain ⟨W7, hW7⟩ : ∃ W7, W7 = wc := ⟨_, rfl⟩
        subst hW7
        have hb7 := HBX.below
        have Q7 := HBX.boxq
        have R7 := HBX.boxr
        have Y7 := Y5.keep hb7
        have A7 := A5.keep hb7
        have HQ7 := Lib.hid HBX.valq
        have HR7 := Lib.hid HBX.valr
        have HY7 := Lib.hid (HY5.out.keep hb7)
        have RA7 := Lib.hid (RA5.out.keep hb7)
        have HB7 := Lib.hid (Below.then HB5.out (Nat.le_refl _) hb7)
        have ZQ := Lib.hid hQ
        have ZR := Lib.hid hR
        have hdd : Below W7.heap.size W7 W7.drew := (Below.refl _ _).drew
        clear HBX hb7 hQ hR X5 Y5 A5 C5 hd0 hd1 hd2
        go_upto_region 7 with fail
        go_region_held3 (fun w' => (w'.cell? ⟨gq, 0, none⟩ = some (.int .i64 q.kind) ∧ w'.cell? ⟨gq, 1, none⟩ = some (.bool q.truth) ∧ w'.cell? ⟨gq, 2, none⟩ = some (.string q.text) ∧ w'.cell? ⟨gq, 3, none⟩ = some (.bool q.neg) ∧ w'.cell? ⟨gq, 4, none⟩ = some (.slice q.wa q.wn q.wc) ∧ w'.cell? ⟨gq, 5, none⟩ = some (.slice q.da q.dn q.dc) ∧ w'.cell? ⟨gq, 6, none⟩ = some (.bool q.ineg) ∧ w'.cell? ⟨gq, 7, none⟩ = some (.slice q.ia q.inn q.ic) ∧ w'.cell? ⟨gq, 8, none⟩ = some (.slice q.ea q.en q.ec)) ∧ (w'.cell? ⟨(w.heap.size + 1), 0, none⟩ = some (.int .i64 y.kind) ∧ w'.cell? ⟨(w.heap.size + 1), 1, none⟩ = some (.bool y.truth) ∧ w'.cell? ⟨(w.heap.size + 1), 2, none⟩ = some (.string y.text) ∧ w'.cell? ⟨(w.heap.size + 1), 3, none⟩ = some (.bool y.neg) ∧ w'.cell? ⟨(w.heap.size + 1), 4, none⟩ = some (.slice y.wa y.wn y.wc) ∧ w'.cell? ⟨(w.heap.size + 1), 5, none⟩ = some (.slice y.da y.dn y.dc) ∧ w'.cell? ⟨(w.heap.size + 1), 6, none⟩ = some (.bool y.ineg) ∧ w'.cell? ⟨(w.heap.size + 1), 7, none⟩ = some (.slice y.ia y.inn y.ic) ∧ w'.cell? ⟨(w.heap.size + 1), 8, none⟩ = some (.slice y.ea y.en y.ec)) ∧ (w'.cell? ⟨gr, 0, none⟩ = some (.int .i64 r.kind) ∧ w'.cell? ⟨gr, 1, none⟩ = some (.bool r.truth) ∧ w'.cell? ⟨gr, 2, none⟩ = some (.string r.text) ∧ w'.cell? ⟨gr, 3, none⟩ = some (.bool r.neg) ∧ w'.cell? ⟨gr, 4, none⟩ = some (.slice r.wa r.wn r.wc) ∧ w'.cell? ⟨gr, 5, none⟩ = some (.slice r.da r.dn r.dc) ∧ w'.cell? ⟨gr, 6, none⟩ = some (.bool r.ineg) ∧ w'.cell? ⟨gr, 7, none⟩ = some (.slice r.ia r.inn r.ic) ∧ w'.cell? ⟨gr, 8, none⟩ = some (.slice r.ea r.en r.ec)) ∧ (w'.cell? ⟨w3.heap.size, 0, none⟩ = some (.bool sA) ∧ w'.cell? ⟨w3.heap.size, 1, none⟩ = some (.slice aA nA cA) ∧ w'.cell? ⟨w3.heap.size, 2, none⟩ = some (.slice aB nB cB)))
          (first | with_reducible exact ⟨Q7.all, Y7.all, R7.all, A7.all⟩ | with_reducible exact ⟨(Q7.keep (by assumption)).all, (Y7.keep (by assumption)).all, (R7.keep (by assumption)).all, (A7.keep (by assumption)).all⟩)
          (first | (go_at_call 15; (with_reducible refine (implProd_any q y 20 _ ?_ ?_ ?_ ?_ KY.out ?_ NY.out (by omega)).mono ?_); exact HTT.out.keep (Below.then HB7.out (Nat.le_refl _) hdd); exact HQ7.out.keep hdd; exact HY7.out.keep hdd; exact isZ_kind ZQ.out; exact ZQ.out.2.2.2; rintro e w8 ⟨p, rfl, hp, hP, hB8⟩; have hb8 := Below.then hdd (Nat.le_refl _) hB8) | (go_at_call 15; (with_reducible refine (implSum_any p r 40 _ hp ?_ ?_ ?_ ?_ ?_ (by omega)).mono ?_); exact HR7.out.keep hb8; exact isZ_kind hP; exact isZ_kind ZR.out; exact hP.2.2.2; exact Nat.le_trans ZR.out.2.2.2 (by omega); rintro e w9 ⟨s, rfl, hs, hS, hB9⟩; have hb9 := Below.then hb8 (Nat.le_refl _) hB9) | (go_at_call 16; (refine (isInt_any s sA aA nA cA aB nB cB (Rt.whole x.neg (val W64 x.wf x.wn)) 81 _ hs (RA7.out.keep hb9) (by omega) (Nat.le_trans hS.2.2.2 (by omega))).mono ?_); rintro e w10 ⟨rfl, hB10⟩; have hb10 := Below.then hb9 (Nat.le_refl _) hB10; rw [isZ_same hS (by rw [whole_rz, isZ_sg hP, isZ_sg ZQ.out, isZ_sg ZR.out, Int.tdiv_mul_add_tmod])]))
        go_wp2
        go_ret
        exact ⟨rfl, Below.then HB7.out (Nat.le_refl _) hb10⟩
end Go.Proofs.YtdkipndepkblhaaGreatDoor
