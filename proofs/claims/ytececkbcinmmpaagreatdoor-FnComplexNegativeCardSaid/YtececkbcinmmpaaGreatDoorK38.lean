/-
  Contracts and lemmas: OpsI LNeg LawN OpsR Law3 SpT Open ThrL CmpB.
-/
import Derived.Test.YtececkbcinmmpaaGreatDoorK13
import Derived.Test.YtececkbcinmmpaaGreatDoorK17
import Derived.Test.YtececkbcinmmpaaGreatDoorK12
import Derived.Test.YtececkbcinmmpaaGreatDoorK11
import Derived.Test.YtececkbcinmmpaaGreatDoorK37
import Derived.Test.YtececkbcinmmpaaGreatDoorK10
import Derived.Test.YtececkbcinmmpaaGreatDoorK02
import Derived.Test.YtececkbcinmmpaaGreatDoorK07
import Derived.Test.YtececkbcinmmpaaGreatDoorProg
import Derived.KernelRfl
import Derived.ChangeSlices
import Derived.WideShapes
import Derived.Test.YtececkbcinmmpaaGreatDoorK01
import Derived.LaidLaws
import Derived.ChangeArms
import Derived.Test.YtececkbcinmmpaaGreatDoorK16
set_option linter.unusedSimpArgs false
set_option linter.unusedVariables false
set_option maxRecDepth 100000
set_option maxHeartbeats 8000000
namespace Go.Proofs.YtececkbcinmmpaaGreatDoor
open Go.RowKit Go.Bg Dg
theorem implImaginary_any (x : Vl) (r : Rt) (w : World) (h : VlAt w x) (hm : NumV x r) :
    Calls Tryz.prog 36 #[.agg #[.int .i64 x.kind, .bool x.truth, .string x.text, .bool x.neg, .slice x.wa x.wn x.wc, .slice x.da x.dn x.dc, .bool x.ineg, .slice x.ia x.inn x.ic, .slice x.ea x.en x.ec]] w (GivesV (IsC (rz 0) r 63) w) := by
  obtain ⟨W0, hW0⟩ : ∃ W0, W0 = (w.alloc (.cells #[.int .i64 x.kind, .bool x.truth, .string x.text, .bool x.neg, .slice x.wa x.wn x.wc, .slice x.da x.dn x.dc, .bool x.ineg, .slice x.ia x.inn x.ic, .slice x.ea x.en x.ec] 26)).alloc (.cells #[.int .i64 0, .bool false, .string ⟨#[]⟩, .bool false, .slice none 0 0, .slice none 0 0, .bool false, .slice none 0 0, .slice none 0 0] 26) := ⟨_, rfl⟩
  have HW := Lib.hid hW0
  have hb0 : Below w.heap.size w W0 := by rw [hW0]; exact Below.alloc' (Below.alloc' (Below.refl _ _) _) _
  have X : Box9 W0 w.heap.size x := by rw [hW0]; exact (Box9.new w x _ rfl).alloc _
  have hR : BlkAt W0 (w.heap.size + 1) #[.int .i64 0, .bool false, .string ⟨#[]⟩, .bool false, .slice none 0 0, .slice none 0 0, .bool false, .slice none 0 0, .slice none 0 0] 26 := by
    rw [hW0]
    have := BlkAt.new (w.alloc (.cells #[.int .i64 x.kind, .bool x.truth, .string x.text, .bool x.neg, .slice x.wa x.wn x.wc, .slice x.da x.dn x.dc, .bool x.ineg, .slice x.ia x.inn x.ic, .slice x.ea x.en x.ec] 26)) #[.int .i64 0, .bool false, .string ⟨#[]⟩, .bool false, .slice none 0 0, .slice none 0 0, .bool false, .slice none 0 0, .slice none 0 0] 26
    simpa using this
  have HX := Lib.hid (h.keep hb0)
  have HL := Lib.hid (hm.lt h)
  have HL1 := Lib.hid (show 1 < W64 ^ 63 from Nat.lt_of_lt_of_le W64_gt (by rw [show (63 : Nat) = 62 + 1 from rfl, Nat.pow_succ]; exact Nat.le_mul_of_pos_left _ (Nat.pow_pos W64_pos)))
  have HO := Lib.hid hm.ok
  have HM := Lib.hid hm
  clear hW0 h hm
  go_enter Tryz.func36, Tryz.ntmps36
  go_upto_region 1 with fail
  rw [← HW.out]
  obtain ⟨xc0, xc1, xc2, xc3, xc4, xc5, xc6, xc7, xc8⟩ := (X).all
  go_wp2_with fail
  refine (madeNum_any x r _ HX.out HM.out).mono ?_
  rintro e w1 ⟨u, rfl, hu, hB1⟩
  have hb1 := Below.then hb0 (Nat.le_refl _) hB1
  have hR1 := hR.keep hB1
  clear xc0 xc1 xc2 xc3 xc4 xc5 xc6 xc7 xc8 hB1 hR hb0
  go_wp2_with fail
  refine (makeImag_any u r _ hu).mono ?_
  rintro e w2 ⟨u2, rfl, hu2, hB2⟩
  have hb2 := Below.then hb1 (Nat.le_refl _) hB2
  have hR2 := hR1.keep hB2
  clear hR1 hb1
  go_wp2_with fail
  refine (toldCpx_any u2 (rz 0) r _ hu2 (rok_rz 0) HO.out 63 (by omega) (by omega) (Nat.pow_pos W64_pos) (by have := HL1.out; exact this) HL.out.1 HL.out.2).mono ?_
  rintro e w4 ⟨y, rfl, hy, hP, hB4⟩
  have hb4 := Below.then hb2 (Nat.le_refl _) hB4
  have hR4 := hR2.keep hB4
  have HE := Lib.hid (givesV_end hR4 (Nat.le_add_right _ 1) hb4 hy hP)
  have rc0 := (hR4).cell 0; have rc1 := (hR4).cell 1; have rc2 := (hR4).cell 2; have rc3 := (hR4).cell 3; have rc4 := (hR4).cell 4; have rc5 := (hR4).cell 5; have rc6 := (hR4).cell 6; have rc7 := (hR4).cell 7; have rc8 := (hR4).cell 8; simp only [List.getElem?_toArray, List.getElem?_cons_zero, List.getElem?_cons_succ] at rc0 rc1 rc2 rc3 rc4 rc5 rc6 rc7 rc8
  have rf0 := (hR4).frozen 0; have rf1 := (hR4).frozen 1; have rf2 := (hR4).frozen 2; have rf3 := (hR4).frozen 3; have rf4 := (hR4).frozen 4; have rf5 := (hR4).frozen 5; have rf6 := (hR4).frozen 6; have rf7 := (hR4).frozen 7; have rf8 := (hR4).frozen 8
  clear hR2 hR4 hb2 hb4 hB4 hy hP
  go_wp2
  exact bodyPost_ret (v := .agg #[.int .i64 y.kind, .bool y.truth, .string y.text, .bool y.neg, .slice y.wa y.wn y.wc, .slice y.da y.dn y.dc, .bool y.ineg, .slice y.ia y.inn y.ic, .slice y.ea y.en y.ec]) (by simp [results, Tryz.results36, go_sem, rc0, rc1, rc2, rc3, rc4, rc5, rc6, rc7, rc8]) rfl HE.out
theorem isZ_same {z : Int} {L : Nat} {y : Vl} {r : Rt} (h : IsZ z L y) (hr : r = rz z) : (intB y && sameB (Rt.whole y.neg (val W64 y.wf y.wn)) r) = true := by
  obtain ⟨h1, h2, h3, _⟩ := h
  rw [h1, h2, h3, whole_abs, hr, sameB_refl]; rfl
theorem wholeB_parts {x : Vl} {k : Nat} (h : wholeB x k = true) : x.kind = 3 ∧ x.wn ≤ k := by
  unfold wholeB intB at h
  simp only [Bool.and_eq_true, decide_eq_true_eq] at h
  obtain ⟨nX, ⟨⟨⟨kX, -⟩, -⟩, -⟩⟩ := h
  exact ⟨kX, nX⟩
end Go.Proofs.YtececkbcinmmpaaGreatDoor
namespace Go.Bg
open Go.RowKit Dg
theorem Box9.setOther {w : World} {b s : Nat} {v : Vl} (h : Box9 w b v) (hne : b ≠ s) (i : Nat) (u : Value) : Box9 (w.setCell ⟨s, i, none⟩ u) b v := by
  have e : ∀ j, (w.setCell ⟨s, i, none⟩ u).cell? ⟨b, j, none⟩ = w.cell? ⟨b, j, none⟩ := fun j => cell?_setCell_ne hne
  exact ⟨by rw [e]; exact h.c0, by rw [e]; exact h.c1, by rw [e]; exact h.c2, by rw [e]; exact h.c3, by rw [e]; exact h.c4, by rw [e]; exact h.c5, by rw [e]; exact h.c6, by rw [e]; exact h.c7, by rw [e]; exact h.c8⟩
theorem resBlk_new (w : World) (T : TypeId) (s : Bool) (a : Option Addr) (n c : Nat) (a' : Option Addr) (n' c' : Nat) : ResBlk (w.alloc (.cells #[.bool s, .slice a n c, .slice a' n' c'] T)) w.heap.size := by
  refine ⟨⟨⟨_, by simp; rfl⟩, ⟨_, by simp; rfl⟩, ⟨_, by simp; rfl⟩⟩, fun o => by simp, fun o k v h => ?_, by simp⟩
  rw [World.cell?_alloc_new] at h
  match o, h with
  | 0, h => simp at h
  | 1, h => simp at h
  | 2, h => simp at h
  | n + 3, h => simp at h
end Go.Bg
namespace Go.Proofs.YtececkbcinmmpaaGreatDoor
open Go.RowKit Go.Bg Dg
theorem rz_zero : rz 0 = ⟨false, 0, 1⟩ := rfl
theorem of64_rz (w : World) : Calls Tryz.prog 37 #[.int .i64 0] w (GivesR (rz 0) 4 w) := of64_zero w
theorem isC_same {r q : Rt} {L : Nat} {y : Vl} (h : IsC r q L y) : (pairB y && sameB (vrt y) r && sameB (virt y) q) = true := by
  obtain ⟨h1, h2, h3, _⟩ := h
  rw [h1, h2, h3, sameB_refl, sameB_refl]; rfl
theorem isQ_same {r : Rt} {L : Nat} {y : Vl} (h : IsQ r L y) : (ratB y && sameB (vrt y) r) = true := by
  obtain ⟨h1, h2, _⟩ := h
  rw [h1, h2, sameB_refl]; rfl
theorem isN_same {r : Rt} {L : Nat} {y : Vl} (h : IsN r L y) : (intB y && sameB (Rt.whole y.neg (val W64 y.wf y.wn)) r || ratB y && sameB (vrt y) r) = true := by
  rcases h with ⟨z, rfl, h⟩ | h
  · rw [isZ_same h rfl, Bool.true_or]
  · rw [isQ_same h, Bool.or_true]
theorem IsN.lens {r : Rt} {L : Nat} {y : Vl} (h : IsN r L y) : y.wn ≤ L ∧ y.dn ≤ 1000 ∨ True := .inr trivial
theorem intB_dn {y : Vl} (h : intB y = true) : y.dn = 0 := by
  unfold intB at h
  simp only [Bool.and_eq_true, decide_eq_true_eq] at h
  exact h.1.2
theorem isZ_len {z : Int} {L : Nat} {y : Vl} (h : IsZ z L y) : y.wn ≤ L ∧ y.dn ≤ L := ⟨h.2.2.2, by rw [intB_dn h.1]; omega⟩
theorem isN_len {r : Rt} {L : Nat} {y : Vl} (h : IsN r L y) : y.wn ≤ L ∧ y.dn ≤ L := by
  rcases h with ⟨z, _, h⟩ | h
  · exact isZ_len h
  · exact h.2.2
theorem numV_whole {x : Vl} {k : Nat} (h : wholeB x k = true) (hk : k ≤ 63) : NumV x (Rt.whole x.neg (val W64 x.wf x.wn)) := by
  obtain ⟨h1, h2⟩ := wholeB_parts h
  have h3 : intB x = true := by
    unfold wholeB at h
    simp only [Bool.and_eq_true] at h
    exact h.2
  refine ⟨.inl ⟨h1, whole_rz _ _⟩, by omega, by rw [intB_dn h3]; omega, by rw [whole_rz]; exact rok_rz _⟩
theorem fracB_parts {s : Bool} {f : Nat → Nat} {n : Nat} {f' : Nat → Nat} {n' : Nat} (h : fracB s f n f' n' = true) :
    ROk (frt s f n f' n') ∧ s = (s && decide (0 < val W64 f n)) := by
  unfold fracB isNumB at h
  simp only [Bool.and_eq_true, decide_eq_true_eq, beq_iff_eq] at h
  obtain ⟨⟨⟨h1, h2, h3⟩, h4⟩, h5⟩ := h
  refine ⟨⟨h1, fun hs => ?_, h5⟩, h2⟩
  have hs : s = true := hs
  rw [hs] at h2
  show 0 < val W64 f n
  simpa using h2.symm
theorem lratB_parts {x : Vl} {k : Nat} (h : lratB x k = true) : x.kind = 4 ∧ x.wn ≤ k ∧ x.dn ≤ k ∧ fracB x.neg x.wf x.wn x.df x.dn = true := by
  unfold lratB ratB at h
  simp only [Bool.and_eq_true, decide_eq_true_eq] at h
  exact ⟨h.2.1.1, h.1.1, h.1.2, h.2.2⟩
theorem numV_rat {x : Vl} {k : Nat} (h : lratB x k = true) (hk : k ≤ 63) : NumV x (vrt x) := by
  obtain ⟨h1, h2, h3, h4⟩ := lratB_parts h
  obtain ⟨h5, h6⟩ := fracB_parts h4
  refine ⟨.inr ⟨h1, h5.den, ?_⟩, by omega, by omega, h5⟩
  unfold vrt mrt frt
  rw [← h6]
theorem lrat_lt2 {w : World} {x : Vl} {k : Nat} (h : VlAt w x) (hb : lratB x k = true) : (vrt x).num < W64 ^ k ∧ (vrt x).den < W64 ^ k := by
  obtain ⟨h1, h2, h3, h4⟩ := lratB_parts hb
  exact ⟨Nat.lt_of_lt_of_le (val_lt h.ws.lt) (Nat.pow_le_pow_right W64_pos h2), Nat.lt_of_lt_of_le (val_lt h.ds.lt) (Nat.pow_le_pow_right W64_pos h3)⟩
theorem madeAs_rat {x : Vl} {k : Nat} (hb : lratB x k = true) (hk : k ≤ 63) : MadeAs x (fun w v => CRat w v (vrt x)) := fun w h => by
  have nv := numV_rat hb hk
  obtain ⟨h1, h2, h3, h4⟩ := lratB_parts hb
  obtain ⟨h5, h6⟩ := fracB_parts h4
  have e : mrt x = vrt x := by
    unfold vrt mrt frt
    rw [← h6]
  have hd : 0 < val W64 x.df x.dn := by
    rcases nv.form with ⟨h, _⟩ | ⟨_, h, _⟩
    · rw [h1] at h; exact absurd h (by decide)
    · exact h
  have := madeRat_any x w h h1 (by omega) (by omega) hd
  rw [e] at this
  exact this
theorem signOf_pos {r : Rt} (h : r.signOf ≠ 0) : 0 < r.num := by
  apply Nat.pos_of_ne_zero
  intro e
  apply h
  unfold Rt.signOf
  rw [if_pos e]
theorem signOf_one {r : Rt} (h : r.signOf ≠ 0) : r.signOf = 1 ∨ r.signOf = -1 := by
  have := signOf_pos h
  unfold Rt.signOf
  rw [if_neg (by omega)]
  split
  · exact .inr rfl
  · exact .inl rfl
theorem lawRationals_any (v u : Vl) (k : Nat) (w : World) (h : VlAt w v) (h' : VlAt w u) (hk : k ≤ 1000) :
    Calls Tryz.prog 18 #[.agg #[.int .i64 v.kind, .bool v.truth, .string v.text, .bool v.neg, .slice v.wa v.wn v.wc, .slice v.da v.dn v.dc, .bool v.ineg, .slice v.ia v.inn v.ic, .slice v.ea v.en v.ec], .agg #[.int .i64 u.kind, .bool u.truth, .string u.text, .bool u.neg, .slice u.wa u.wn u.wc, .slice u.da u.dn u.dc, .bool u.ineg, .slice u.ia u.inn u.ic, .slice u.ea u.en u.ec], .int .i64 k] w
      (Reads2 (lratB v k && lratB u k) (vrt v) (vrt u) (4 * k + 1) w) := by
  obtain ⟨W0, hW0⟩ : ∃ W0, W0 = (((w.alloc (.cells #[.int .i64 v.kind, .bool v.truth, .string v.text, .bool v.neg, .slice v.wa v.wn v.wc, .slice v.da v.dn v.dc, .bool v.ineg, .slice v.ia v.inn v.ic, .slice v.ea v.en v.ec] 26)).alloc (.cells #[.int .i64 u.kind, .bool u.truth, .string u.text, .bool u.neg, .slice u.wa u.wn u.wc, .slice u.da u.dn u.dc, .bool u.ineg, .slice u.ia u.inn u.ic, .slice u.ea u.en u.ec] 26)).alloc (.cells #[.bool false, .slice none 0 0, .slice none 0 0] 31)).alloc (.cells #[.bool false, .slice none 0 0, .slice none 0 0] 31) := ⟨_, rfl⟩
  have HW := Lib.hid hW0
  have hb0 : Below w.heap.size w W0 := by rw [hW0]; exact Below.alloc' (Below.alloc' (Below.alloc' (Below.alloc' (Below.refl _ _) _) _) _) _
  have R1 : ResBlk W0 (w.heap.size + 1 + 1) := by rw [hW0]; exact (ResBlk.new _ _ (by simp)).alloc1 _
  have R2 : ResBlk W0 (w.heap.size + 1 + 1 + 1) := by rw [hW0]; exact ResBlk.new _ _ (by simp)
  have X : Box9 W0 w.heap.size v := by rw [hW0]; exact (((Box9.new w v _ rfl).alloc _).alloc _).alloc _
  have Y : Box9 W0 (w.heap.size + 1) u := by rw [hW0]; exact ((Box9.new _ u _ (by simp)).alloc _).alloc _
  have HX := Lib.hid (h.keep hb0)
  have HY := Lib.hid (h'.keep hb0)
  clear hW0 h h'
  go_enter Tryz.func18, Tryz.ntmps18
  go_upto_region 1 with fail
  rw [← HW.out]
  obtain ⟨xc0, xc1, xc2, xc3, xc4, xc5, xc6, xc7, xc8⟩ := (X).all
  go_wp2_with fail
  refine (lawRational_any v k _ HX.out hk).mono ?_
  rintro e w1 ⟨sA, aA, nA, cA, aB, nB, cB, rfl, hA, hB1⟩
  clear xc0 xc1 xc2 xc3 xc4 xc5 xc6 xc7 xc8
  have hA1 := hA
  obtain ⟨W1, hW1⟩ : ∃ W1, W1 = w1.alloc (.cells #[.bool sA, .slice aA nA cA, .slice aB nB cB] 31) := ⟨_, rfl⟩
  have hb1 : Below W0.heap.size W0 W1 := by rw [hW1]; exact Below.alloc' hB1 _
  have A1 : RtBlk W1 w1.heap.size sA aA nA cA aB nB cB := by rw [hW1]; exact RtBlk.new _ _ rfl _ _ _ _ _ _ _
  have A2 := Lib.hid (show lratB v k = true → RtAt W1 sA aA nA cA aB nB cB (vrt v) (4 * k + 1) from by
    intro hb; rw [hW1]
    exact ((hA hb).keep ((Below.refl _ _).alloc (Nat.le_refl _) _)).mono (by omega))
  have HW1 := Lib.hid hW1
  have R1' := R1.below R1.lt hb1
  have R2' := R2.below R2.lt hb1
  have Y1 := Y.keep hb1
  have HY1 := Lib.hid (HY.out.keep hb1)
  clear hW1 hA hA1
  go_upto_region 2 with fail
  rw [← HW1.out]
  obtain ⟨yc0, yc1, yc2, yc3, yc4, yc5, yc6, yc7, yc8⟩ := (Y1).all
  go_wp2_with fail
  refine (lawRational_any u k _ HY1.out hk).mono ?_
  rintro e w2 ⟨sC, aC, nC, cC, aD, nD, cD, rfl, hC, hB2⟩
  clear yc0 yc1 yc2 yc3 yc4 yc5 yc6 yc7 yc8
  obtain ⟨W2, hW2⟩ : ∃ W2, W2 = w2.alloc (.cells #[.bool sC, .slice aC nC cC, .slice aD nD cD] 31) := ⟨_, rfl⟩
  have hb2 : Below W1.heap.size W1 W2 := by rw [hW2]; exact Below.alloc' hB2 _
  have A3 := A1.keep hb2
  have C1 : RtBlk W2 w2.heap.size sC aC nC cC aD nD cD := by rw [hW2]; exact RtBlk.new _ _ rfl _ _ _ _ _ _ _
  have A4 := Lib.hid (show lratB v k = true → RtAt W2 sA aA nA cA aB nB cB (vrt v) (4 * k + 1) from fun hb => (A2.out hb).keep hb2)
  have C2 := Lib.hid (show lratB u k = true → RtAt W2 sC aC nC cC aD nD cD (vrt u) (4 * k + 1) from by
    intro hb; rw [hW2]
    exact ((hC hb).keep ((Below.refl _ _).alloc (Nat.le_refl _) _)).mono (by omega))
  have HW2 := Lib.hid hW2
  have Q1 := R1'.below R1'.lt hb2
  have Q2 := R2'.below R2'.lt hb2
  have hbf := Below.then (Below.then hb0 (Nat.le_refl _) hb1) (Nat.le_refl _) hb2
  have hlt1 := A3.lt
  have hg1 : w.heap.size + 1 + 1 + 1 < w1.heap.size := Nat.lt_of_lt_of_le R2.lt hB1.size
  have hg2 : w.heap.size + 1 + 1 + 1 < w2.heap.size := Nat.lt_of_lt_of_le R2'.lt hB2.size
  clear hW2 hC hB1 hB2 R1 R2 R1' R2' hb0 hb1 hb2 HX HY HY1 A2 A1 X Y Y1
  go_upto_region 3 with fail
  rw [← HW2.out]
  obtain ⟨a0, a1, a2⟩ := A3
  obtain ⟨d0, d1, d2⟩ := C1
  obtain ⟨⟨u0, r0⟩, ⟨u1, r1⟩, ⟨u2, r2⟩⟩ := Q1.cells
  have f0 := Q1.frozen 0
  have f1 := Q1.frozen 1
  have f2 := Q1.frozen 2
  obtain ⟨⟨z0, q0⟩, ⟨z1, q1⟩, ⟨z2, q2⟩⟩ := Q2.cells
  have g0 := Q2.frozen 0
  have g1 := Q2.frozen 1
  have g2 := Q2.frozen 2
  generalize hv : lratB v k = bv at *
  generalize hu : lratB u k = bu at *
  cases bv
  · go_region
    all_goals go_wp2
    refine bodyPost_ret (v := .tuple #[.agg #[.bool sA, .slice aA nA cA, .slice aB nB cB], .agg #[.bool sC, .slice aC nC cC, .slice aD nD cD], .bool (false && bu)]) (by simp [results, Tryz.results18, go_sem, r0, r1, r2, q0, q1, q2]) rfl ⟨_, _, _, _, _, _, _, _, _, _, _, _, _, _, rfl, ?_, ?_⟩
    · simp
    · exact below33 hbf (by omega) (by omega) _ _ _ _ _ _
  · go_region
    all_goals go_wp2
    refine bodyPost_ret (v := .tuple #[.agg #[.bool sA, .slice aA nA cA, .slice aB nB cB], .agg #[.bool sC, .slice aC nC cC, .slice aD nD cD], .bool (true && bu)]) (by simp [results, Tryz.results18, go_sem, r0, r1, r2, q0, q1, q2]) rfl ⟨_, _, _, _, _, _, _, _, _, _, _, _, _, _, rfl, ?_, ?_⟩
    · intro hb
      exact ⟨RtAt.drew (stored33 Q1.noInt Q2.noInt (A4.out (by simp))), RtAt.drew (stored33 Q1.noInt Q2.noInt (C2.out (by simpa using hb)))⟩
    · exact below33 hbf (by omega) (by omega) _ _ _ _ _ _
theorem times_any (s1 s2 : Bool) (a1 : Option Addr) (n1 c1 : Nat) (a1' : Option Addr) (n1' c1' : Nat) (a2 : Option Addr) (n2 c2 : Nat) (a2' : Option Addr) (n2' c2' : Nat) (x y : Rt) (L : Nat) (w : World)
    (hx : RtAt w s1 a1 n1 c1 a1' n1' c1' x L) (hy : RtAt w s2 a2 n2 c2 a2' n2' c2' y L) (hxd : 0 < x.den) (hyd : 0 < y.den) (hL2 : L ≤ 20000) :
    Calls Tryz.prog 23 #[.agg #[.bool s1, .slice a1 n1 c1, .slice a1' n1' c1'], .agg #[.bool s2, .slice a2 n2 c2, .slice a2' n2' c2']] w (GivesR (x.times y) (2 * L) w) := by
  have hn1 := hx.n_le
  have hd1 := hx.d_le
  have hn2 := hy.n_le
  have hd2 := hy.d_le
  obtain ⟨W0, hW0⟩ : ∃ W0, W0 = ((w.alloc (.cells #[.bool s1, .slice a1 n1 c1, .slice a1' n1' c1'] 31)).alloc (.cells #[.bool s2, .slice a2 n2 c2, .slice a2' n2' c2'] 31)).alloc (.cells #[.bool false, .slice none 0 0, .slice none 0 0] 31) := ⟨_, rfl⟩
  have P := plusW w s1 s2 (.slice a1 n1 c1) (.slice a1' n1' c1') (.slice a2 n2 c2) (.slice a2' n2' c2') 31
  rw [← hW0] at P
  have HW := Lib.hid hW0
  clear hW0
  have XN := Lib.hid (show ∀ W', Below W0.heap.size W0 W' → NatAt W' a1 n1 c1 x.num from fun W' hb => (hx.num.keep P.below).keep hb)
  have XD := Lib.hid (show ∀ W', Below W0.heap.size W0 W' → NatAt W' a1' n1' c1' x.den from fun W' hb => (hx.den.keep P.below).keep hb)
  have YN := Lib.hid (show ∀ W', Below W0.heap.size W0 W' → NatAt W' a2 n2 c2 y.num from fun W' hb => (hy.num.keep P.below).keep hb)
  have YD := Lib.hid (show ∀ W', Below W0.heap.size W0 W' → NatAt W' a2' n2' c2' y.den from fun W' hb => (hy.den.keep P.below).keep hb)
  have hneg : s1 = x.neg := hx.neg
  have hneg2 : s2 = y.neg := hy.neg
  have HLN := Lib.hid (show x.num * y.num < 65536 ^ (2 * L) from by rw [Nat.two_mul, Nat.pow_add]; exact Nat.mul_lt_mul'' hx.numL hy.numL)
  have HLD := Lib.hid (show x.den * y.den < 65536 ^ (2 * L) from by rw [Nat.two_mul, Nat.pow_add]; exact Nat.mul_lt_mul'' hx.denL hy.denL)
  have HDP := Lib.hid (Nat.mul_pos hxd hyd)
  have HRES := Lib.hid (show x.times y = Rt.over (!(s1 == s2)) (x.num * y.num) (x.den * y.den) from by unfold Rt.times; rw [hneg, hneg2]; rfl)
  clear hx hy hxd hyd hneg hneg2
  go_enter Tryz.func23, Tryz.ntmps23
  go_wp2_with fail
  rw [← HW.out]
  have hb0 : Below W0.heap.size W0 W0.drew := (Below.refl _ _).drew
  go_region_held3 (fun w' => w'.cell? ⟨w.heap.size, 0, none⟩ = some (.bool s1) ∧ w'.cell? ⟨w.heap.size, 1, none⟩ = some (.slice a1 n1 c1) ∧ w'.cell? ⟨w.heap.size, 2, none⟩ = some (.slice a1' n1' c1') ∧
      w'.cell? ⟨w.heap.size + 1, 0, none⟩ = some (.bool s2) ∧ w'.cell? ⟨w.heap.size + 1, 1, none⟩ = some (.slice a2 n2 c2) ∧ w'.cell? ⟨w.heap.size + 1, 2, none⟩ = some (.slice a2' n2' c2'))
    (first | exact ⟨P.x0, P.x1, P.x2, P.y0, P.y1, P.y2⟩ | exact ⟨cell_keep P.x0 (by assumption), cell_keep P.x1 (by assumption), cell_keep P.x2 (by assumption), cell_keep P.y0 (by assumption), cell_keep P.y1 (by assumption), cell_keep P.y2 (by assumption)⟩ | (refine ⟨?_, ?_, ?_, ?_, ?_, ?_⟩ <;> (rw [cell?_setCell_ne (by omega), cell?_setCell_ne (by omega), cell?_setCell_ne (by omega)]) <;> first | exact cell_keep P.x0 (by assumption) | exact cell_keep P.x1 (by assumption) | exact cell_keep P.x2 (by assumption) | exact cell_keep P.y0 (by assumption) | exact cell_keep P.y1 (by assumption) | exact cell_keep P.y2 (by assumption)))
    (first | (go_at_call 50; (with_reducible refine (mul_any a1 a2 n1 n2 c1 c2 x.num y.num _ (XN.out _ (by assumption)) (YN.out _ (by assumption)) (by omega) (by omega)).mono ?_); rintro e w1 ⟨aM, nM, cM, rfl, hM, hB1⟩; have hb1 := Below.then hb0 (Nat.le_refl _) hB1) | (go_at_call 50; (with_reducible refine (mul_any a1' a2' n1' n2' c1' c2' x.den y.den _ (XD.out _ (by assumption)) (YD.out _ (by assumption)) (by omega) (by omega)).mono ?_); rintro e w3 ⟨aD, nD, cD, rfl, hD, hB3⟩; have hb3 := Below.then hb1 (Nat.le_refl _) hB3) | (go_at_call 51; (with_reducible refine (over_any (!(s1 == s2)) aM nM cM aD nD cD (x.num * y.num) (x.den * y.den) (2 * L) _ (hM.keep hB3) hD HLN.out HLD.out HDP.out (by omega)).mono ?_); rintro e w5 ⟨sR, aR, nR, cR, aE, nE, cE, rfl, hR, hB5⟩; have hb5 := Below.then hb3 (Nat.le_refl _) hB5; have R5 := P.res.below P.res.lt hb5; obtain ⟨⟨u0, r0⟩, ⟨u1, r1⟩, ⟨u2, r2⟩⟩ := (R5).cells; have f0 := (R5).frozen 0; have f1 := (R5).frozen 1; have f2 := (R5).frozen 2))
  have hbf := Below.then P.below (Nat.le_refl _) hb5
  go_wp2
  exact bodyPost_ret (v := .agg #[.bool sR, .slice aR nR cR, .slice aE nE cE]) (by simp [results, Tryz.results23, go_sem, r0, r1, r2]) rfl (givesR_end R5 (by omega) hbf (by rw [HRES.out]; exact hR))
end Go.Proofs.YtececkbcinmmpaaGreatDoor
namespace Go.Bg
open Go.RowKit Go.ChangeShapes Go.WideShapes Dg
theorem spot_none {w : World} {a : Addr} {v : Value} (h : w.cell? a = some v) : a = ⟨a.block, a.off, none⟩ := by
  obtain ⟨b, o, s⟩ := a
  cases s with
  | none => rfl
  | some k =>
    simp only [World.cell?] at h
    split at h <;> simp at h
theorem open_words {H : Type} {enc : TypeId × Value → H} {P : Program} {w : World} {base : Nat} {spare : Nat → Bool} {held : Bool} {t e : TypeId} {fuel : Nat} {cs : List Value} {x : DataW H × List MemPlace}
    (ht : P.underlying t = some (.slice e)) (he : P.underlying e = some (.int .u64)) (hc : P.cellsOf e = 1)
    (h : DataW.trod enc P w base spare held fuel t cs = some x) : ∃ a n c f, cs = [.slice a n c] ∧ WordsAt w a n c f := by
  rcases open_ints ht he hc h with ⟨rfl, _⟩ | ⟨a, len, cap, zs, rfl, _, hlc, hcm, hlen, _, hcell, hwf⟩
  · exact ⟨none, 0, 0, fun _ => 0, rfl, ⟨fun h => by omega, fun i h => by omega, Nat.le_refl _, by simp [maxLen], fun _ => rfl⟩⟩
  · have hz : len ≤ zs.length := by rw [hlen]; split <;> omega
    have hbd : ∀ i, i < len → 0 ≤ zs.getD i 0 ∧ zs.getD i 0 < 18446744073709551616 := by
      intro i hi
      have hm : zs.getD i 0 ∈ zs := by
        rw [List.getD_eq_getElem?_getD, List.getElem?_eq_getElem (show i < zs.length by omega)]
        exact List.getElem_mem _
      have := hwf _ hm
      simp [Lit.wf, IntKind.min, IntKind.max, IntKind.bits, IntKind.signed] at this
      simp only [List.getD_eq_getElem?_getD]
      omega
    refine ⟨some a, len, cap, fun i => (zs.getD i 0).toNat, rfl, ⟨fun h0 => ?_, fun i hi => ?_, hlc, hcm, by simp⟩⟩
    · have c0 := hcell 0 (by omega)
      have hs := spot_none (by simpa [Addr.add] using c0)
      refine ⟨a.block, a.off, by rw [← hs], fun i hi => ?_⟩
      have hci := hcell i (by omega)
      have hb := hbd i hi
      have e : a.add i = ⟨a.block, a.off + i, none⟩ := by
        rw [hs]; unfold Addr.add; split
        · next h => subst h; rfl
        · rfl
      rw [e] at hci
      rw [hci]
      simp only [Option.some.injEq, Value.int.injEq, true_and]
      omega
    · have hb := hbd i hi
      show (zs.getD i 0).toNat < W64
      unfold W64
      omega
end Go.Bg
namespace Go.Bg
theorem trodVars_len {H : Type} {enc : TypeId × Value → H} {P : Program} {w : World} {sp : Nat → Bool} : ∀ {ns : List String} {gs : List (DataW H)} {ps : List MemPlace}, DataW.TrodVars enc P w sp ns gs ps → gs.length = ns.length
  | [], [], _, _ => rfl
  | [], _ :: _, _, h => h.elim
  | _ :: _, [], _, h => h.elim
  | n :: ns, d :: ds, ps, h => by
    obtain ⟨_, _, _, _, _, _, _, _, _, _, hs, _⟩ := h
    simp [trodVars_len hs]
theorem list4 {α : Type} {l : List α} (h : l.length = 4) : ∃ c0 c1 c2 c3, l = [c0, c1, c2, c3] := by
  match l, h with
  | [c0, c1, c2, c3], _ => exact ⟨c0, c1, c2, c3, rfl⟩
theorem array9 {α : Type} {cs : Array α} (h : cs.size = 9) : ∃ c0 c1 c2 c3 c4 c5 c6 c7 c8, cs = #[c0, c1, c2, c3, c4, c5, c6, c7, c8] := by
  obtain ⟨l⟩ := cs
  match l, h with
  | [c0, c1, c2, c3, c4, c5, c6, c7, c8], _ => exact ⟨c0, c1, c2, c3, c4, c5, c6, c7, c8, rfl⟩
theorem list7 {α : Type} {l : List α} (h : l.length = 7) : ∃ c0 c1 c2 c3 c4 c5 c6, l = [c0, c1, c2, c3, c4, c5, c6] := by
  match l, h with
  | [c0, c1, c2, c3, c4, c5, c6], _ => exact ⟨c0, c1, c2, c3, c4, c5, c6, rfl⟩
theorem list2 {α : Type} {l : List α} (h : l.length = 2) : ∃ c0 c1, l = [c0, c1] := by
  match l, h with
  | [c0, c1], _ => exact ⟨c0, c1, rfl⟩
end Go.Bg
namespace Go.Proofs.YtececkbcinmmpaaGreatDoor
open Go.RowKit Go.ChangeShapes Go.WideShapes Go.Bg Dg
theorem cellsValue : Tryz.prog.cellsOf 26 = 9 := by kernel_rfl
theorem cellsNumber : Tryz.prog.cellsOf 24 = 2 := by kernel_rfl
theorem cellsWords : Tryz.prog.cellsOf 22 = 1 := by kernel_rfl
theorem cellsUint : Tryz.prog.cellsOf 53 = 1 := by kernel_rfl
theorem cellsInt : Tryz.prog.cellsOf 3 = 1 := by kernel_rfl
theorem cellsBool : Tryz.prog.cellsOf 4 = 1 := by kernel_rfl
theorem cellsString : Tryz.prog.cellsOf 9 = 1 := by kernel_rfl
theorem open_num {H : Type} {enc : TypeId × Value → H} {w : World} {base : Nat} {spare : Nat → Bool} {held : Bool} {fuel : Nat} {c0 c1 : Value} {x : DataW H × List MemPlace}
    (h : DataW.trod enc Tryz.prog w base spare held fuel 24 [c0, c1] = some x) : ∃ b a n c f, c0 = .bool b ∧ c1 = .slice a n c ∧ WordsAt w a n c f := by
  obtain ⟨xs, n, _, rfl, hl, hlen, hf⟩ := DataW.trod_struct Tryz.underlying24 h
  obtain ⟨y0, y1, rfl⟩ := list2 hlen
  have h0 := hf 0 _ rfl
  have h1 := hf 1 _ rfl
  simp only [cellsBool, cellsWords, List.drop_zero, List.take_succ_cons, List.take_zero, List.drop_succ_cons, List.getElem?_cons_zero, List.getElem?_cons_succ] at h0 h1
  obtain ⟨b, e0, _⟩ := DataW.trod_bool Tryz.underlying4 h0
  obtain ⟨a, m, c, f, e1, hw⟩ := open_words Tryz.underlying22 Tryz.underlying53 cellsUint h1
  injection e0 with e0 _
  injection e1 with e1 _
  exact ⟨b, a, m, c, f, e0, e1, hw⟩
theorem open_vl {H : Type} {enc : TypeId × Value → H} {w : World} {base : Nat} {spare : Nat → Bool} {held : Bool} {r : Reach} {b0 : Nat} {v : Value} {d : DataW H} {ps : List MemPlace}
    (hval : Value.okWide Tryz.prog w r b0 26 v) (h : DataW.Trod enc Tryz.prog w base spare held 26 v d ps) : ∃ x : Vl, v = .agg #[.int .i64 x.kind, .bool x.truth, .string x.text, .bool x.neg, .slice x.wa x.wn x.wc, .slice x.da x.dn x.dc, .bool x.ineg, .slice x.ia x.inn x.ic, .slice x.ea x.en x.ec] ∧ VlAt w x := by
  obtain ⟨cs, rfl, hsz⟩ := okWide_struct Tryz.underlying26 hval
  obtain ⟨c0, c1, c2, c3, c4, c5, c6, c7, c8, rfl⟩ := array9 (hsz.trans cellsValue)
  obtain ⟨fuel, hf⟩ := h
  obtain ⟨xs, n, _, _, hl, hlen, hg⟩ := DataW.trod_struct Tryz.underlying26 hf
  obtain ⟨y0, y1, y2, y3, y4, y5, y6, rfl⟩ := list7 hlen
  have g0 := hg 0 _ rfl
  have g1 := hg 1 _ rfl
  have g2 := hg 2 _ rfl
  have g3 := hg 3 _ rfl
  have g4 := hg 4 _ rfl
  have g5 := hg 5 _ rfl
  have g6 := hg 6 _ rfl
  simp only [Value.cells, cellsInt, cellsBool, cellsString, cellsNumber, cellsWords, List.drop_zero, List.take_succ_cons, List.take_zero, List.drop_succ_cons, List.getElem?_cons_zero, List.getElem?_cons_succ] at g0 g1 g2 g3 g4 g5 g6
  obtain ⟨k, e0, _, hk⟩ := DataW.trod_int Tryz.underlying3 g0
  obtain ⟨tr, e1, _⟩ := DataW.trod_bool Tryz.underlying4 g1
  obtain ⟨tx, e2, _, htx⟩ := DataW.trod_string Tryz.underlying9 g2
  obtain ⟨ng, wa, wn, wc, wf, e3, e4, hw⟩ := open_num g3
  obtain ⟨da, dn, dc, df, e5, hd⟩ := open_words Tryz.underlying22 Tryz.underlying53 cellsUint g4
  obtain ⟨ig, ia, inn, ic, jf, e6, e7, hi⟩ := open_num g5
  obtain ⟨ea, en, ec, ef, e8, he⟩ := open_words Tryz.underlying22 Tryz.underlying53 cellsUint g6
  injection e0 with e0 _
  injection e1 with e1 _
  injection e2 with e2 _
  injection e5 with e5 _
  injection e8 with e8 _
  subst e0 e1 e2 e3 e4 e5 e6 e7 e8
  refine ⟨⟨k, tr, tx, ng, wa, wn, wc, wf, da, dn, dc, df, ig, ia, inn, ic, jf, ea, en, ec, ef⟩, rfl, ⟨hw, hd, hi, he, htx, ?_⟩⟩
  simp [Lit.wf, IntKind.min, IntKind.max, IntKind.bits, IntKind.signed] at hk
  show -9223372036854775808 ≤ k ∧ k ≤ 9223372036854775807
  omega
theorem open_u8 {H : Type} {enc : TypeId × Value → H} {w : World} {base : Nat} {spare : Nat → Bool} {held : Bool} {r : Reach} {b0 : Nat} {v : Value} {d : DataW H} {ps : List MemPlace}
    (hval : Value.okWide Tryz.prog w r b0 5 v) (h : DataW.Trod enc Tryz.prog w base spare held 5 v d ps) : ∃ n : Nat, v = .int .u8 n ∧ n < 256 := by
  obtain ⟨n, rfl, _, _, hw⟩ := open_int Tryz.underlying5 hval h
  simp [Lit.wf, IntKind.min, IntKind.max, IntKind.bits, IntKind.signed] at hw
  exact ⟨n.toNat, by rw [Int.toNat_of_nonneg (by omega)], by omega⟩
end Go.Proofs.YtececkbcinmmpaaGreatDoor
namespace Go.Bg
open Go.RowKit Dg
theorem laid_lit {P : Program} {w : World} {n : String} {k : IntKind} {z : Int} {g : Nat} {t : TypeId} (hg : P.globalNamed n = some g) (ht : (P.globals[g]?).map (·.type) = some t) (hu : P.underlying t = some (.int k)) :
    ∀ {laid : List (String × DataW Unit)} {ps : List MemPlace}, DataW.LaidVars P w laid ps → (n, DataW.lit (.int k z)) ∈ laid → w.cell? ⟨g, 0, none⟩ = some (.int k z)
  | [], _, _, hm => by cases hm
  | (m, d) :: r, _, ⟨g', t', cs, fuel, p, q, hg', ht', hv, hd, hr, _⟩, hm => by
    rcases List.mem_cons.1 hm with e | hm
    · obtain ⟨rfl, rfl⟩ := Prod.mk.inj e
      obtain rfl := Option.some.inj (hg.symm.trans hg')
      obtain rfl := Option.some.inj (ht.symm.trans ht')
      obtain ⟨z', hc, hx, _⟩ := DataW.trod_int hu hd
      obtain rfl : z = z' := by
        have := congrArg Prod.fst hx
        simpa using this
      have h0 := World.var?_cell hg hv 0
      rw [h0, ← Array.getElem?_toList, hc]
      rfl
    · exact laid_lit hg ht hu hr hm
end Go.Bg
namespace Go.Proofs.YtececkbcinmmpaaGreatDoor
open Go.RowKit Go.Bg Dg
theorem signOf_bd (r : Rt) : -1 ≤ Rt.signOf r ∧ Rt.signOf r ≤ 1 := by
  unfold Rt.signOf
  split
  · omega
  · split <;> omega
end Go.Proofs.YtececkbcinmmpaaGreatDoor
