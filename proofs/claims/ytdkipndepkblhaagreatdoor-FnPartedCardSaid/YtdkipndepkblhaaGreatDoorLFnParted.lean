/-
  FnParted walked.
-/
import Derived.Test.YtdkipndepkblhaaGreatDoorBuZZ
import Derived.Test.YtdkipndepkblhaaGreatDoorBuN
import Derived.Test.YtdkipndepkblhaaGreatDoorLFloatNeg
import Derived.Test.YtdkipndepkblhaaGreatDoorBuN
import Derived.Test.YtdkipndepkblhaaGreatDoorBuN
set_option linter.unusedSimpArgs false
set_option linter.unusedVariables false
namespace Go.Proofs.YtdkipndepkblhaaGreatDoor
open Go.RowKit Go.Bg Dg

theorem parted_rz {r : Rt} (h : ROk r) : (rz (sg r.neg r.num)).times (rz (r.den : Int)).upside = r := by
  rw [quo_rz, sg_dec h.sign, sg_nat, Int.natAbs_natCast]
  have hd : decide ((r.den : Int) < 0) = false := by simp
  rw [hd]
  unfold Rt.over
  rw [h.gcd, Nat.div_one, Nat.div_one]
  obtain ⟨s, n, d⟩ := r
  have := h.sign
  cases s
  · rfl
  · simp at this ⊢; exact this
theorem isZ_parts {z : Int} {L K : Nat} {y : Vl} (h : IsZ z L y) (hz : z.natAbs < W64 ^ K) : y.kind = 3 ∧ y.wn ≤ K ∧ sg y.neg (val W64 y.wf y.wn) = z := by
  obtain ⟨h1, h2, h3, _⟩ := h
  have hb := h1
  unfold intB at hb
  simp only [Bool.and_eq_true, decide_eq_true_eq] at hb
  exact ⟨hb.1.1.1, intB_len h1 (by rw [h3]; exact hz), by rw [h2, h3]; exact sg_natAbs z⟩

set_option maxRecDepth 100000 in
set_option maxHeartbeats 4000000 in
theorem lawFnParted_any (x : Vl) (w : World) (hT : ThrD w) (h1 : VlAt w x) :
    Calls Tryz.prog 10 #[.agg #[.int .i64 x.kind, .bool x.truth, .string x.text, .bool x.neg, .slice x.wa x.wn x.wc, .slice x.da x.dn x.dc, .bool x.ineg, .slice x.ia x.inn x.ic, .slice x.ea x.en x.ec]] w fun e w' => e = .returned (.bool true) ∧ Below w.heap.size w w' := by
  have HT := Lib.hid hT
  clear hT
  have HVX := Lib.hid (show val W64 x.wf x.wn < W64 ^ x.wn ∧ val W64 x.df x.dn < W64 ^ x.dn from ⟨val_lt h1.ws.lt, val_lt h1.ds.lt⟩)
  obtain ⟨W0, hW0⟩ : ∃ W0, W0 = w.alloc (.cells #[.int .i64 x.kind, .bool x.truth, .string x.text, .bool x.neg, .slice x.wa x.wn x.wc, .slice x.da x.dn x.dc, .bool x.ineg, .slice x.ia x.inn x.ic, .slice x.ea x.en x.ec] 26) := ⟨_, rfl⟩
  have HW := Lib.hid hW0
  have hb0 : Below w.heap.size w W0 := by rw [hW0]; exact Below.alloc' (Below.refl _ _) _
  have X : Box9 W0 w.heap.size x := by rw [hW0]; exact Box9.new w x _ rfl
  have HX := Lib.hid (h1.keep hb0)
  clear hW0 h1
  cases hf : fitsB x
  · have HF := Lib.hid hf
    clear hf
    go_enter Tryz.func10, Tryz.ntmps10
    go_upto_region 1 with fail
    rw [← HW.out]
    obtain ⟨xc0, xc1, xc2, xc3, xc4, xc5, xc6, xc7, xc8⟩ := (X).all
    go_wp2_with fail
    refine (fits1_any x _).mono ?_
    rintro e w1 ⟨rfl, hB1⟩
    rw [HF.out]
    go_wp2
    go_ret
    exact ⟨rfl, Below.then hb0 (Nat.le_refl _) hB1⟩
  have HF := Lib.hid hf
  clear hf
  go_enter Tryz.func10, Tryz.ntmps10
  go_upto_region 1 with fail
  rw [← HW.out]
  obtain ⟨xc0, xc1, xc2, xc3, xc4, xc5, xc6, xc7, xc8⟩ := (X).all
  go_wp2_with fail
  refine (fits1_any x _).mono ?_
  rintro e w1 ⟨rfl, hB1⟩
  rw [HF.out]
  clear xc0 xc1 xc2 xc3 xc4 xc5 xc6 xc7 xc8
  have hb1 := Below.then hb0 (Nat.le_refl _) hB1
  have X1 := X.keep hB1
  have HX1 := Lib.hid (HX.out.keep hB1)
  clear X HX hB1 hb0 HW
  go_upto_region 3 with fail
  obtain ⟨xc0, xc1, xc2, xc3, xc4, xc5, xc6, xc7, xc8⟩ := (X1).all
  go_wp2_with fail
  refine (lawRational_any x 20 _ HX1.out (by omega)).mono ?_
  rintro e w2 ⟨sA, aA, nA, cA, aB, nB, cB, rfl, hR, hB2⟩
  clear xc0 xc1 xc2 xc3 xc4 xc5 xc6 xc7 xc8
  go_upto_region 4 with fail
  obtain ⟨W3, hW3⟩ : ∃ W3, W3 = w2.alloc (.cells #[.bool sA, .slice aA nA cA, .slice aB nB cB] 31) := ⟨_, rfl⟩
  rw [← hW3]
  have hB3 : Below w1.heap.size w1 W3 := by rw [hW3]; exact Below.alloc' hB2 _
  have A3 : RtBlk W3 w2.heap.size sA aA nA cA aB nB cB := by rw [hW3]; exact RtBlk.new _ _ rfl _ _ _ _ _ _ _
  have hb3 := Below.then hb1 (Nat.le_refl _) hB3
  have X3 := X1.keep hB3
  have HX3 := Lib.hid (HX1.out.keep hB3)
  have HB3 := Lib.hid hb3
  have HS3 := Lib.hid (show ∀ o : Obj, w2.heap.size < (w2.alloc o).heap.size from fun o => by simp)
  have R3 := Lib.hid (show lratB x 20 = true → RtAt W3 sA aA nA cA aB nB cB (vrt x) 81 from fun hb => by
    rw [hW3]
    exact ((hR hb).keep ((Below.refl _ _).alloc (Nat.le_refl _) _)).mono (by omega))
  clear hW3 hR hB2 hB3 X1 HX1 hb1 hb3
  cases hb : lratB x 20
  · clear R3
    clear X3 A3
    go_quiet (fail)
    go_wp2
    go_ret
    exact ⟨rfl, HB3.out.trans (below_of_drewN ⟨_, rfl⟩)⟩
  · have KX := Lib.hid (lratB_parts hb)
    have NV := Lib.hid (numV_rat hb (by omega))
    have HE := Lib.hid (mrt_vrt hb)
    have RA := Lib.hid (R3.out hb)
    have HN := Lib.hid (show (vrt x).num < W64 ^ 20 ∧ (vrt x).den < W64 ^ 20 from by
      rw [← HE.out]
      exact ⟨Nat.lt_of_lt_of_le HVX.out.1 (Nat.pow_le_pow_right W64_pos KX.out.2.1), Nat.lt_of_lt_of_le HVX.out.2 (Nat.pow_le_pow_right W64_pos KX.out.2.2.1)⟩)
    clear hb R3 HVX
    have hd0 : Below W3.heap.size W3 W3.drew := (Below.refl _ _).drew
    go_region_held3 (fun w' => (w'.cell? ⟨w.heap.size, 0, none⟩ = some (.int .i64 x.kind) ∧ w'.cell? ⟨w.heap.size, 1, none⟩ = some (.bool x.truth) ∧ w'.cell? ⟨w.heap.size, 2, none⟩ = some (.string x.text) ∧ w'.cell? ⟨w.heap.size, 3, none⟩ = some (.bool x.neg) ∧ w'.cell? ⟨w.heap.size, 4, none⟩ = some (.slice x.wa x.wn x.wc) ∧ w'.cell? ⟨w.heap.size, 5, none⟩ = some (.slice x.da x.dn x.dc) ∧ w'.cell? ⟨w.heap.size, 6, none⟩ = some (.bool x.ineg) ∧ w'.cell? ⟨w.heap.size, 7, none⟩ = some (.slice x.ia x.inn x.ic) ∧ w'.cell? ⟨w.heap.size, 8, none⟩ = some (.slice x.ea x.en x.ec)) ∧ (w'.cell? ⟨w2.heap.size, 0, none⟩ = some (.bool sA) ∧ w'.cell? ⟨w2.heap.size, 1, none⟩ = some (.slice aA nA cA) ∧ w'.cell? ⟨w2.heap.size, 2, none⟩ = some (.slice aB nB cB)))
      (first | exact ⟨X3.all, A3.all⟩ | exact ⟨(X3.keep (by assumption)).all, (A3.keep (by assumption)).all⟩)
      (first | (go_at_call 32; (with_reducible refine (implNumerator_any x (vrt x) _ ?_ NV.out).mono ?_); exact HX3.out.keep (by assumption); rintro e w5 ⟨y, rfl, hy, hP, hB5⟩; have hb5 := Below.then hd0 (Nat.le_refl _) hB5; have HP := Lib.hid (isZ_parts (K := 20) hP (by rw [sg_nat]; exact HN.out.1))) | (go_at_call 33; (with_reducible refine (implDenominator_any x (vrt x) _ ?_ NV.out).mono ?_); exact HX3.out.keep (by assumption); rintro e w6 ⟨v, rfl, hv, hQ, hB6⟩; have hb6 := Below.then hb5 (Nat.le_refl _) hB6; have HQ := Lib.hid (isZ_parts (K := 20) hQ (by rw [Int.natAbs_natCast]; exact HN.out.2))) | (go_at_call 15; (with_reducible refine (implFrac_any y v 20 _ ?_ ?_ ?_ HP.out.1 HQ.out.1 HP.out.2.1 HQ.out.2.1 (by omega) ?_).mono ?_); exact (HT.out.keep HB3.out).keep (by assumption); exact hy.keep hB6; exact hv; (rw [HQ.out.2.2]; have := NV.out.ok.den; omega); rintro e w7 ⟨o, rfl, ho, hO, hB7⟩; have hb7 := Below.then hb6 (Nat.le_refl _) hB7; rw [HP.out.2.2, HQ.out.2.2, parted_rz NV.out.ok] at hO) | (go_at_call 25; (with_reducible refine (isReal_any o sA aA nA cA aB nB cB (vrt x) 81 _ ho ?_ ?_ ?_ ?_).mono ?_); exact RA.out.keep hb7; omega; exact Nat.le_trans hO.2.2.1 (by omega); exact Nat.le_trans hO.2.2.2 (by omega); rintro e w8 ⟨rfl, hB8⟩; have hb8 := Below.then hb7 (Nat.le_refl _) hB8; rw [isN_same (.inr hO)]))
    go_wp2
    go_ret
    exact ⟨rfl, Below.then HB3.out (Nat.le_refl _) hb8⟩
end Go.Proofs.YtdkipndepkblhaaGreatDoor
