/-
  FnNegative walked.
  The thin package's functions of one number (printed by gen_impl1.py).
  What the laws of one number share.
-/
import Derived.Test.YtdkipndepkblhaaGreatDoorBuL
import Derived.Test.YtdkipndepkblhaaGreatDoorBuH
import Derived.Test.YtdkipndepkblhaaGreatDoorBuM
set_option linter.unusedSimpArgs false
set_option linter.unusedVariables false
namespace Go.Proofs.YtdkipndepkblhaaGreatDoor
open Go.RowKit Go.Bg Dg

theorem isZ_same {z : Int} {L : Nat} {y : Vl} {r : Rt} (h : IsZ z L y) (hr : r = rz z) : (intB y && sameB (Rt.whole y.neg (val W64 y.wf y.wn)) r) = true := by
  obtain ⟨h1, h2, h3, _⟩ := h
  rw [h1, h2, h3, whole_abs, hr, sameB_refl]; rfl
theorem wholeB_parts {x : Vl} {k : Nat} (h : wholeB x k = true) : x.kind = 3 ∧ x.wn ≤ k := by
  unfold wholeB intB at h
  simp only [Bool.and_eq_true, decide_eq_true_eq] at h
  obtain ⟨nX, ⟨⟨⟨kX, -⟩, -⟩, -⟩⟩ := h
  exact ⟨kX, nX⟩

end Go.Proofs.YtdkipndepkblhaaGreatDoor

set_option linter.unusedSimpArgs false
set_option linter.unusedVariables false
namespace Go.Proofs.YtdkipndepkblhaaGreatDoor
open Go.RowKit Go.Bg Dg

set_option maxRecDepth 100000 in
set_option maxHeartbeats 2000000 in
theorem implNumerator_any (x : Vl) (r : Rt) (w : World) (h : VlAt w x) (hm : NumV x r) :
    Calls Tryz.prog 32 #[.agg #[.int .i64 x.kind, .bool x.truth, .string x.text, .bool x.neg, .slice x.wa x.wn x.wc, .slice x.da x.dn x.dc, .bool x.ineg, .slice x.ia x.inn x.ic, .slice x.ea x.en x.ec]] w (GivesV (IsZ (sg r.neg r.num) 63) w) := by
  obtain ⟨W0, hW0⟩ : ∃ W0, W0 = (w.alloc (.cells #[.int .i64 x.kind, .bool x.truth, .string x.text, .bool x.neg, .slice x.wa x.wn x.wc, .slice x.da x.dn x.dc, .bool x.ineg, .slice x.ia x.inn x.ic, .slice x.ea x.en x.ec] 26)).alloc (.cells #[.int .i64 0, .bool false, .string ⟨#[]⟩, .bool false, .slice none 0 0, .slice none 0 0, .bool false, .slice none 0 0, .slice none 0 0] 26) := ⟨_, rfl⟩
  have HW := Lib.hid hW0
  have hb0 : Below w.heap.size w W0 := by rw [hW0]; exact Below.alloc' (Below.alloc' (Below.refl _ _) _) _
  have X : Box9 W0 w.heap.size x := by rw [hW0]; exact (Box9.new w x _ rfl).alloc _
  have hR : BlkAt W0 (w.heap.size + 1) #[.int .i64 0, .bool false, .string ⟨#[]⟩, .bool false, .slice none 0 0, .slice none 0 0, .bool false, .slice none 0 0, .slice none 0 0] 26 := by
    rw [hW0]
    have := BlkAt.new (w.alloc (.cells #[.int .i64 x.kind, .bool x.truth, .string x.text, .bool x.neg, .slice x.wa x.wn x.wc, .slice x.da x.dn x.dc, .bool x.ineg, .slice x.ia x.inn x.ic, .slice x.ea x.en x.ec] 26)) #[.int .i64 0, .bool false, .string ⟨#[]⟩, .bool false, .slice none 0 0, .slice none 0 0, .bool false, .slice none 0 0, .slice none 0 0] 26
    simpa using this
  have HX := Lib.hid (h.keep hb0)
  have HL := Lib.hid (hm.lt h)
  have HL1 := Lib.hid (show 1 < W64 ^ 63 from Nat.lt_of_lt_of_le W64_gt (by rw [show (63 : Nat) = 62 + 1 from rfl, Nat.pow_succ]; exact Nat.le_mul_of_pos_left _ (Nat.pow_pos W64_pos)))
  have HO := Lib.hid hm.ok
  have HM := Lib.hid hm
  clear hW0 h hm
  go_enter Tryz.func32, Tryz.ntmps32
  go_upto_region 1 with fail
  rw [← HW.out]
  obtain ⟨xc0, xc1, xc2, xc3, xc4, xc5, xc6, xc7, xc8⟩ := (X).all
  go_wp2_with fail
  refine (madeNum_any x r _ HX.out HM.out).mono ?_
  rintro e w1 ⟨u, rfl, hu, hB1⟩
  have hb1 := Below.then hb0 (Nat.le_refl _) hB1
  have hR1 := hR.keep hB1
  clear xc0 xc1 xc2 xc3 xc4 xc5 xc6 xc7 xc8 hB1 hR hb0
  go_wp2_with fail
  refine (num_any u r _ hu).mono ?_
  rintro e w2 ⟨u2, rfl, hu2, hB2⟩
  have hb2 := Below.then hb1 (Nat.le_refl _) hB2
  have hR2 := hR1.keep hB2
  clear hR1 hb1
  go_wp2_with fail
  refine (toldZ_any u2 _ _ hu2 63 (by omega) (by rw [sg_nat]; exact HL.out.1)).mono ?_
  rintro e w4 ⟨y, rfl, hy, hP, hB4⟩
  have hb4 := Below.then hb2 (Nat.le_refl _) hB4
  have hR4 := hR2.keep hB4
  have HE := Lib.hid (givesV_end hR4 (Nat.le_add_right _ 1) hb4 hy hP)
  have rc0 := (hR4).cell 0; have rc1 := (hR4).cell 1; have rc2 := (hR4).cell 2; have rc3 := (hR4).cell 3; have rc4 := (hR4).cell 4; have rc5 := (hR4).cell 5; have rc6 := (hR4).cell 6; have rc7 := (hR4).cell 7; have rc8 := (hR4).cell 8; simp only [List.getElem?_toArray, List.getElem?_cons_zero, List.getElem?_cons_succ] at rc0 rc1 rc2 rc3 rc4 rc5 rc6 rc7 rc8
  have rf0 := (hR4).frozen 0; have rf1 := (hR4).frozen 1; have rf2 := (hR4).frozen 2; have rf3 := (hR4).frozen 3; have rf4 := (hR4).frozen 4; have rf5 := (hR4).frozen 5; have rf6 := (hR4).frozen 6; have rf7 := (hR4).frozen 7; have rf8 := (hR4).frozen 8
  clear hR2 hR4 hb2 hb4 hB4 hy hP
  go_wp2
  exact bodyPost_ret (v := .agg #[.int .i64 y.kind, .bool y.truth, .string y.text, .bool y.neg, .slice y.wa y.wn y.wc, .slice y.da y.dn y.dc, .bool y.ineg, .slice y.ia y.inn y.ic, .slice y.ea y.en y.ec]) (by simp [results, Tryz.results32, go_sem, rc0, rc1, rc2, rc3, rc4, rc5, rc6, rc7, rc8]) rfl HE.out

set_option maxRecDepth 100000 in
set_option maxHeartbeats 2000000 in
theorem implDenominator_any (x : Vl) (r : Rt) (w : World) (h : VlAt w x) (hm : NumV x r) :
    Calls Tryz.prog 33 #[.agg #[.int .i64 x.kind, .bool x.truth, .string x.text, .bool x.neg, .slice x.wa x.wn x.wc, .slice x.da x.dn x.dc, .bool x.ineg, .slice x.ia x.inn x.ic, .slice x.ea x.en x.ec]] w (GivesV (IsZ (r.den : Int) 63) w) := by
  obtain ⟨W0, hW0⟩ : ∃ W0, W0 = (w.alloc (.cells #[.int .i64 x.kind, .bool x.truth, .string x.text, .bool x.neg, .slice x.wa x.wn x.wc, .slice x.da x.dn x.dc, .bool x.ineg, .slice x.ia x.inn x.ic, .slice x.ea x.en x.ec] 26)).alloc (.cells #[.int .i64 0, .bool false, .string ⟨#[]⟩, .bool false, .slice none 0 0, .slice none 0 0, .bool false, .slice none 0 0, .slice none 0 0] 26) := ⟨_, rfl⟩
  have HW := Lib.hid hW0
  have hb0 : Below w.heap.size w W0 := by rw [hW0]; exact Below.alloc' (Below.alloc' (Below.refl _ _) _) _
  have X : Box9 W0 w.heap.size x := by rw [hW0]; exact (Box9.new w x _ rfl).alloc _
  have hR : BlkAt W0 (w.heap.size + 1) #[.int .i64 0, .bool false, .string ⟨#[]⟩, .bool false, .slice none 0 0, .slice none 0 0, .bool false, .slice none 0 0, .slice none 0 0] 26 := by
    rw [hW0]
    have := BlkAt.new (w.alloc (.cells #[.int .i64 x.kind, .bool x.truth, .string x.text, .bool x.neg, .slice x.wa x.wn x.wc, .slice x.da x.dn x.dc, .bool x.ineg, .slice x.ia x.inn x.ic, .slice x.ea x.en x.ec] 26)) #[.int .i64 0, .bool false, .string ⟨#[]⟩, .bool false, .slice none 0 0, .slice none 0 0, .bool false, .slice none 0 0, .slice none 0 0] 26
    simpa using this
  have HX := Lib.hid (h.keep hb0)
  have HL := Lib.hid (hm.lt h)
  have HL1 := Lib.hid (show 1 < W64 ^ 63 from Nat.lt_of_lt_of_le W64_gt (by rw [show (63 : Nat) = 62 + 1 from rfl, Nat.pow_succ]; exact Nat.le_mul_of_pos_left _ (Nat.pow_pos W64_pos)))
  have HO := Lib.hid hm.ok
  have HM := Lib.hid hm
  clear hW0 h hm
  go_enter Tryz.func33, Tryz.ntmps33
  go_upto_region 1 with fail
  rw [← HW.out]
  obtain ⟨xc0, xc1, xc2, xc3, xc4, xc5, xc6, xc7, xc8⟩ := (X).all
  go_wp2_with fail
  refine (madeNum_any x r _ HX.out HM.out).mono ?_
  rintro e w1 ⟨u, rfl, hu, hB1⟩
  have hb1 := Below.then hb0 (Nat.le_refl _) hB1
  have hR1 := hR.keep hB1
  clear xc0 xc1 xc2 xc3 xc4 xc5 xc6 xc7 xc8 hB1 hR hb0
  go_wp2_with fail
  refine (denom_any u r _ hu).mono ?_
  rintro e w2 ⟨u2, rfl, hu2, hB2⟩
  have hb2 := Below.then hb1 (Nat.le_refl _) hB2
  have hR2 := hR1.keep hB2
  clear hR1 hb1
  go_wp2_with fail
  refine (toldZ_any u2 _ _ hu2 63 (by omega) (by rw [Int.natAbs_natCast]; exact HL.out.2)).mono ?_
  rintro e w4 ⟨y, rfl, hy, hP, hB4⟩
  have hb4 := Below.then hb2 (Nat.le_refl _) hB4
  have hR4 := hR2.keep hB4
  have HE := Lib.hid (givesV_end hR4 (Nat.le_add_right _ 1) hb4 hy hP)
  have rc0 := (hR4).cell 0; have rc1 := (hR4).cell 1; have rc2 := (hR4).cell 2; have rc3 := (hR4).cell 3; have rc4 := (hR4).cell 4; have rc5 := (hR4).cell 5; have rc6 := (hR4).cell 6; have rc7 := (hR4).cell 7; have rc8 := (hR4).cell 8; simp only [List.getElem?_toArray, List.getElem?_cons_zero, List.getElem?_cons_succ] at rc0 rc1 rc2 rc3 rc4 rc5 rc6 rc7 rc8
  have rf0 := (hR4).frozen 0; have rf1 := (hR4).frozen 1; have rf2 := (hR4).frozen 2; have rf3 := (hR4).frozen 3; have rf4 := (hR4).frozen 4; have rf5 := (hR4).frozen 5; have rf6 := (hR4).frozen 6; have rf7 := (hR4).frozen 7; have rf8 := (hR4).frozen 8
  clear hR2 hR4 hb2 hb4 hB4 hy hP
  go_wp2
  exact bodyPost_ret (v := .agg #[.int .i64 y.kind, .bool y.truth, .string y.text, .bool y.neg, .slice y.wa y.wn y.wc, .slice y.da y.dn y.dc, .bool y.ineg, .slice y.ia y.inn y.ic, .slice y.ea y.en y.ec]) (by simp [results, Tryz.results33, go_sem, rc0, rc1, rc2, rc3, rc4, rc5, rc6, rc7, rc8]) rfl HE.out

end Go.Proofs.YtdkipndepkblhaaGreatDoor

set_option linter.unusedSimpArgs false
set_option linter.unusedVariables false
namespace Go.Bg
open Go.RowKit Dg
theorem Box9.setOther {w : World} {b s : Nat} {v : Vl} (h : Box9 w b v) (hne : b ≠ s) (i : Nat) (u : Value) : Box9 (w.setCell ⟨s, i, none⟩ u) b v := by
  have e : ∀ j, (w.setCell ⟨s, i, none⟩ u).cell? ⟨b, j, none⟩ = w.cell? ⟨b, j, none⟩ := fun j => cell?_setCell_ne hne
  exact ⟨by rw [e]; exact h.c0, by rw [e]; exact h.c1, by rw [e]; exact h.c2, by rw [e]; exact h.c3, by rw [e]; exact h.c4, by rw [e]; exact h.c5, by rw [e]; exact h.c6, by rw [e]; exact h.c7, by rw [e]; exact h.c8⟩
theorem resBlk_new (w : World) (T : TypeId) (s : Bool) (a : Option Addr) (n c : Nat) (a' : Option Addr) (n' c' : Nat) : ResBlk (w.alloc (.cells #[.bool s, .slice a n c, .slice a' n' c'] T)) w.heap.size := by
  refine ⟨⟨⟨_, by simp; rfl⟩, ⟨_, by simp; rfl⟩, ⟨_, by simp; rfl⟩⟩, fun o => by simp, fun o k v h => ?_, by simp⟩
  rw [World.cell?_alloc_new] at h
  match o, h with
  | 0, h => simp at h
  | 1, h => simp at h
  | 2, h => simp at h
  | n + 3, h => simp at h
end Go.Bg

namespace Go.Proofs.YtdkipndepkblhaaGreatDoor
open Go.RowKit Go.Bg Dg

theorem rz_zero : rz 0 = ⟨false, 0, 1⟩ := rfl
theorem of64_rz (w : World) : Calls Tryz.prog 18 #[.int .i64 0] w (GivesR (rz 0) 4 w) := of64_zero w

theorem isC_same {r q : Rt} {L : Nat} {y : Vl} (h : IsC r q L y) : (pairB y && sameB (vrt y) r && sameB (virt y) q) = true := by
  obtain ⟨h1, h2, h3, _⟩ := h
  rw [h1, h2, h3, sameB_refl, sameB_refl]; rfl
theorem isQ_same {r : Rt} {L : Nat} {y : Vl} (h : IsQ r L y) : (ratB y && sameB (vrt y) r) = true := by
  obtain ⟨h1, h2, _⟩ := h
  rw [h1, h2, sameB_refl]; rfl
theorem isN_same {r : Rt} {L : Nat} {y : Vl} (h : IsN r L y) : (intB y && sameB (Rt.whole y.neg (val W64 y.wf y.wn)) r || ratB y && sameB (vrt y) r) = true := by
  rcases h with ⟨z, rfl, h⟩ | h
  · rw [isZ_same h rfl, Bool.true_or]
  · rw [isQ_same h, Bool.or_true]
theorem IsN.lens {r : Rt} {L : Nat} {y : Vl} (h : IsN r L y) : y.wn ≤ L ∧ y.dn ≤ 1000 ∨ True := .inr trivial
theorem intB_dn {y : Vl} (h : intB y = true) : y.dn = 0 := by
  unfold intB at h
  simp only [Bool.and_eq_true, decide_eq_true_eq] at h
  exact h.1.2
theorem isZ_len {z : Int} {L : Nat} {y : Vl} (h : IsZ z L y) : y.wn ≤ L ∧ y.dn ≤ L := ⟨h.2.2.2, by rw [intB_dn h.1]; omega⟩
theorem isN_len {r : Rt} {L : Nat} {y : Vl} (h : IsN r L y) : y.wn ≤ L ∧ y.dn ≤ L := by
  rcases h with ⟨z, _, h⟩ | h
  · exact isZ_len h
  · exact h.2.2

/-- a whole number that the reference reads is made as that number -/
theorem numV_whole {x : Vl} {k : Nat} (h : wholeB x k = true) (hk : k ≤ 63) : NumV x (Rt.whole x.neg (val W64 x.wf x.wn)) := by
  obtain ⟨h1, h2⟩ := wholeB_parts h
  have h3 : intB x = true := by
    unfold wholeB at h
    simp only [Bool.and_eq_true] at h
    exact h.2
  refine ⟨.inl ⟨h1, whole_rz _ _⟩, by omega, by rw [intB_dn h3]; omega, by rw [whole_rz]; exact rok_rz _⟩
theorem fracB_parts {s : Bool} {f : Nat → Nat} {n : Nat} {f' : Nat → Nat} {n' : Nat} (h : fracB s f n f' n' = true) :
    ROk (frt s f n f' n') ∧ s = (s && decide (0 < val W64 f n)) := by
  unfold fracB isNumB at h
  simp only [Bool.and_eq_true, decide_eq_true_eq, beq_iff_eq] at h
  obtain ⟨⟨⟨h1, h2, h3⟩, h4⟩, h5⟩ := h
  refine ⟨⟨h1, fun hs => ?_, h5⟩, h2⟩
  have hs : s = true := hs
  rw [hs] at h2
  show 0 < val W64 f n
  simpa using h2.symm
theorem lratB_parts {x : Vl} {k : Nat} (h : lratB x k = true) : x.kind = 4 ∧ x.wn ≤ k ∧ x.dn ≤ k ∧ fracB x.neg x.wf x.wn x.df x.dn = true := by
  unfold lratB ratB at h
  simp only [Bool.and_eq_true, decide_eq_true_eq] at h
  exact ⟨h.2.1.1, h.1.1, h.1.2, h.2.2⟩
/-- a fraction that the reference reads is made as that fraction -/
theorem numV_rat {x : Vl} {k : Nat} (h : lratB x k = true) (hk : k ≤ 63) : NumV x (vrt x) := by
  obtain ⟨h1, h2, h3, h4⟩ := lratB_parts h
  obtain ⟨h5, h6⟩ := fracB_parts h4
  refine ⟨.inr ⟨h1, h5.den, ?_⟩, by omega, by omega, h5⟩
  unfold vrt mrt frt
  rw [← h6]
end Go.Proofs.YtdkipndepkblhaaGreatDoor
