/-
  Contracts and lemmas: Prod.
-/
import Derived.Test.YtececkbcinmmpaaGreatDoorN0
import Derived.Test.YtececkbcinmmpaaGreatDoorK07
import Derived.Test.YtececkbcinmmpaaGreatDoorK38
import Derived.Test.YtececkbcinmmpaaGreatDoorK02
set_option linter.unusedSimpArgs false
set_option linter.unusedVariables false
set_option maxRecDepth 100000
set_option maxHeartbeats 8000000
namespace Go.Proofs.YtececkbcinmmpaaGreatDoor
open Go.RowKit Go.Bg Dg
theorem rtBlk_set3 {W : World} {b s : Nat} {t : Bool} {a : Option Addr} {n c : Nat} {a' : Option Addr} {n' c' : Nat} (h : RtBlk W b t a n c a' n' c') (hne : b ≠ s) (v0 v1 v2 : Value) :
    RtBlk (((W.setCell ⟨s, 0, none⟩ v0).setCell ⟨s, 1, none⟩ v1).setCell ⟨s, 2, none⟩ v2) b t a n c a' n' c' := by
  have e : ∀ (W : World) i j (v : Value), (W.setCell ⟨s, i, none⟩ v).cell? ⟨b, j, none⟩ = W.cell? ⟨b, j, none⟩ := fun W i j v => World.cell?_setCell_other _ _ _ _ (fun hh => by injection hh with hh _ _; exact hne hh.symm)
  exact ⟨by rw [e, e, e]; exact h.c0, by rw [e, e, e]; exact h.c1, by rw [e, e, e]; exact h.c2⟩
theorem product_any (sA : Bool) (aA : Option Addr) (nA cA : Nat) (aB : Option Addr) (nB cB : Nat) (sC : Bool) (aC : Option Addr) (nC cC : Nat) (aD : Option Addr) (nD cD : Nat) (sE : Bool) (aE : Option Addr) (nE cE : Nat) (aF : Option Addr) (nF cF : Nat) (sG : Bool) (aG : Option Addr) (nG cG : Nat) (aH : Option Addr) (nH cH : Nat) (r1 q1 r2 q2 : Rt) (L : Nat) (w : World) (hA : RtAt w sA aA nA cA aB nB cB r1 L) (hC : RtAt w sC aC nC cC aD nD cD q1 L) (hE : RtAt w sE aE nE cE aF nF cF r2 L) (hG : RtAt w sG aG nG cG aH nH cH q2 L) (d1 : 0 < r1.den) (d2 : 0 < q1.den) (d3 : 0 < r2.den) (d4 : 0 < q2.den) (hL : L ≤ 1000) :
    Calls Tryz.prog 35 #[.agg #[.bool sA, .slice aA nA cA, .slice aB nB cB], .agg #[.bool sC, .slice aC nC cC, .slice aD nD cD], .agg #[.bool sE, .slice aE nE cE, .slice aF nF cF], .agg #[.bool sG, .slice aG nG cG, .slice aH nH cH]] w fun e w' => ∃ sM aM nM cM aN nN cN sP aP nP cP aQ nQ cQ, e = .returned (.tuple #[.agg #[.bool sM, .slice aM nM cM, .slice aN nN cN], .agg #[.bool sP, .slice aP nP cP, .slice aQ nQ cQ]]) ∧ RtAt w' sM aM nM cM aN nN cN (Rt.minus (Rt.times r1 r2) (Rt.times q1 q2)) (2 * (2 * L) + 1) ∧ RtAt w' sP aP nP cP aQ nQ cQ (Rt.plus (Rt.times r1 q2) (Rt.times q1 r2)) (2 * (2 * L) + 1) ∧ Below w.heap.size w w' := by
  obtain ⟨W0, hW0⟩ : ∃ W0, W0 = (((((w.alloc (.cells #[.bool sA, .slice aA nA cA, .slice aB nB cB] 31)).alloc (.cells #[.bool sC, .slice aC nC cC, .slice aD nD cD] 31)).alloc (.cells #[.bool sE, .slice aE nE cE, .slice aF nF cF] 31)).alloc (.cells #[.bool sG, .slice aG nG cG, .slice aH nH cH] 31)).alloc (.cells #[.bool false, .slice none 0 0, .slice none 0 0] 31)).alloc (.cells #[.bool false, .slice none 0 0, .slice none 0 0] 31) := ⟨_, rfl⟩
  have HW := Lib.hid hW0
  have hb0 : Below w.heap.size w W0 := by rw [hW0]; exact Below.alloc' (Below.alloc' (Below.alloc' (Below.alloc' (Below.alloc' (Below.alloc' (Below.refl _ _) _) _) _) _) _) _
  have A0 : RtBlk W0 (w.heap.size) sA aA nA cA aB nB cB := by rw [hW0]; exact (RtBlk.new _ _ (by simp) _ _ _ _ _ _ _).keep (Below.alloc' (Below.alloc' (Below.alloc' (Below.alloc' (Below.alloc' (Below.refl _ _) _) _) _) _) _)
  have C0 : RtBlk W0 (w.heap.size + 1) sC aC nC cC aD nD cD := by rw [hW0]; exact (RtBlk.new _ _ (by simp) _ _ _ _ _ _ _).keep (Below.alloc' (Below.alloc' (Below.alloc' (Below.alloc' (Below.refl _ _) _) _) _) _)
  have E0 : RtBlk W0 (w.heap.size + 1 + 1) sE aE nE cE aF nF cF := by rw [hW0]; exact (RtBlk.new _ _ (by simp) _ _ _ _ _ _ _).keep (Below.alloc' (Below.alloc' (Below.alloc' (Below.refl _ _) _) _) _)
  have G0 : RtBlk W0 (w.heap.size + 1 + 1 + 1) sG aG nG cG aH nH cH := by rw [hW0]; exact (RtBlk.new _ _ (by simp) _ _ _ _ _ _ _).keep (Below.alloc' (Below.alloc' (Below.refl _ _) _) _)
  have R1 : ResBlk W0 (w.heap.size + 1 + 1 + 1 + 1) := by rw [hW0]; exact (ResBlk.new _ _ (by simp)).alloc1 _
  have R2 : ResBlk W0 (w.heap.size + 1 + 1 + 1 + 1 + 1) := by rw [hW0]; exact ResBlk.new _ _ (by simp)
  have HA := Lib.hid (hA.keep hb0)
  have HC := Lib.hid (hC.keep hb0)
  have HE := Lib.hid (hE.keep hb0)
  have HG := Lib.hid (hG.keep hb0)
  have HD := Lib.hid (⟨d1, d2, d3, d4⟩ : 0 < r1.den ∧ 0 < q1.den ∧ 0 < r2.den ∧ 0 < q2.den)
  have HO := Lib.hid (fun (r q : Rt) (h1 : 0 < r.den) (h2 : 0 < q.den) => (rok_over (r.neg != q.neg) (r.num * q.num) (r.den * q.den) (Nat.mul_pos h1 h2)).den)
  clear hW0 hA hC hE hG d1 d2 d3 d4
  go_enter Tryz.func35, Tryz.ntmps35
  go_upto_region 1 with fail
  rw [← HW.out]
  have hd0 : Below W0.heap.size W0 W0.drew := (Below.refl _ _).drew
  go_region_held3 (fun w' => (w'.cell? ⟨(w.heap.size), 0, none⟩ = some (.bool sA) ∧ w'.cell? ⟨(w.heap.size), 1, none⟩ = some (.slice aA nA cA) ∧ w'.cell? ⟨(w.heap.size), 2, none⟩ = some (.slice aB nB cB)) ∧ (w'.cell? ⟨(w.heap.size + 1), 0, none⟩ = some (.bool sC) ∧ w'.cell? ⟨(w.heap.size + 1), 1, none⟩ = some (.slice aC nC cC) ∧ w'.cell? ⟨(w.heap.size + 1), 2, none⟩ = some (.slice aD nD cD)) ∧ (w'.cell? ⟨(w.heap.size + 1 + 1), 0, none⟩ = some (.bool sE) ∧ w'.cell? ⟨(w.heap.size + 1 + 1), 1, none⟩ = some (.slice aE nE cE) ∧ w'.cell? ⟨(w.heap.size + 1 + 1), 2, none⟩ = some (.slice aF nF cF)) ∧ (w'.cell? ⟨(w.heap.size + 1 + 1 + 1), 0, none⟩ = some (.bool sG) ∧ w'.cell? ⟨(w.heap.size + 1 + 1 + 1), 1, none⟩ = some (.slice aG nG cG) ∧ w'.cell? ⟨(w.heap.size + 1 + 1 + 1), 2, none⟩ = some (.slice aH nH cH)))
    (first | with_reducible exact ⟨A0.all, C0.all, E0.all, G0.all⟩ | with_reducible exact ⟨(A0.keep (by assumption)).all, (C0.keep (by assumption)).all, (E0.keep (by assumption)).all, (G0.keep (by assumption)).all⟩ | with_reducible exact ⟨(rtBlk_set3 (A0.keep (by assumption)) (by omega) _ _ _).all, (rtBlk_set3 (C0.keep (by assumption)) (by omega) _ _ _).all, (rtBlk_set3 (E0.keep (by assumption)) (by omega) _ _ _).all, (rtBlk_set3 (G0.keep (by assumption)) (by omega) _ _ _).all⟩ | with_reducible exact ⟨(rtBlk_set3 (rtBlk_set3 (A0.keep (by assumption)) (by omega) _ _ _) (by omega) _ _ _).all, (rtBlk_set3 (rtBlk_set3 (C0.keep (by assumption)) (by omega) _ _ _) (by omega) _ _ _).all, (rtBlk_set3 (rtBlk_set3 (E0.keep (by assumption)) (by omega) _ _ _) (by omega) _ _ _).all, (rtBlk_set3 (rtBlk_set3 (G0.keep (by assumption)) (by omega) _ _ _) (by omega) _ _ _).all⟩)
    (first | (go_at_call 23; (with_reducible refine (times_any sA sE aA nA cA aB nB cB aE nE cE aF nF cF r1 r2 L _ ?_ ?_ HD.out.1 HD.out.2.2.1 ?_).mono ?_); exact HA.out.keep (by assumption); exact HE.out.keep (by assumption); omega; rintro e w1 ⟨sI, aI, nI, cI, aIy, nIy, cIy, rfl, hI, hB1⟩; have hb1 := Below.then hd0 (Nat.le_refl _) hB1) | (go_at_call 23; (with_reducible refine (times_any sC sG aC nC cC aD nD cD aG nG cG aH nH cH q1 q2 L _ ?_ ?_ HD.out.2.1 HD.out.2.2.2 ?_).mono ?_); exact HC.out.keep (by assumption); exact HG.out.keep (by assumption); omega; rintro e w2 ⟨sJ, aJ, nJ, cJ, aJy, nJy, cJy, rfl, hJ, hB2⟩; have hb2 := Below.then hb1 (Nat.le_refl _) hB2) | (go_at_call 22; (with_reducible refine (minus_any sI sJ aI nI cI aIy nIy cIy aJ nJ cJ aJy nJy cJy (Rt.times r1 r2) (Rt.times q1 q2) (2 * L) _ ?_ ?_ ?_ ?_ ?_).mono ?_); exact hI.keep hB2; exact hJ; exact HO.out r1 r2 HD.out.1 HD.out.2.2.1; exact HO.out q1 q2 HD.out.2.1 HD.out.2.2.2; omega; rintro e w3 ⟨sM, aM, nM, cM, aN, nN, cN, rfl, hM, hB3⟩; have hb3 := Below.then hb2 (Nat.le_refl _) hB3) | (go_at_call 23; (with_reducible refine (times_any sA sG aA nA cA aB nB cB aG nG cG aH nH cH r1 q2 L _ ?_ ?_ HD.out.1 HD.out.2.2.2 ?_).mono ?_); exact HA.out.keep (by assumption); exact HG.out.keep (by assumption); omega; rintro e w4 ⟨sK, aK, nK, cK, aKy, nKy, cKy, rfl, hK, hB4⟩; have hb4 := Below.then hb3 (Nat.le_refl _) hB4) | (go_at_call 23; (with_reducible refine (times_any sC sE aC nC cC aD nD cD aE nE cE aF nF cF q1 r2 L _ ?_ ?_ HD.out.2.1 HD.out.2.2.1 ?_).mono ?_); exact HC.out.keep (by assumption); exact HE.out.keep (by assumption); omega; rintro e w5 ⟨sO, aO, nO, cO, aOy, nOy, cOy, rfl, hO, hB5⟩; have hb5 := Below.then hb4 (Nat.le_refl _) hB5) | (go_at_call 21; (with_reducible refine (plus_any sK sO aK nK cK aKy nKy cKy aO nO cO aOy nOy cOy (Rt.times r1 q2) (Rt.times q1 r2) (2 * L) _ ?_ ?_ ?_ ?_ ?_).mono ?_); exact hK.keep hB5; exact hO; exact HO.out r1 q2 HD.out.1 HD.out.2.2.2; exact HO.out q1 r2 HD.out.2.1 HD.out.2.2.1; omega; rintro e w6 ⟨sP, aP, nP, cP, aQ, nQ, cQ, rfl, hP, hB6⟩; have hb6 := Below.then hb5 (Nat.le_refl _) hB6; have Q1 := R1.below R1.lt hb6; have Q2 := R2.below R2.lt hb6; obtain ⟨⟨u0, k0⟩, ⟨u1, k1⟩, ⟨u2, k2⟩⟩ := Q1.cells; have f0 := Q1.frozen 0; have f1 := Q1.frozen 1; have f2 := Q1.frozen 2; obtain ⟨⟨z0, l0⟩, ⟨z1, l1⟩, ⟨z2, l2⟩⟩ := Q2.cells; have g0 := Q2.frozen 0; have g1 := Q2.frozen 1; have g2 := Q2.frozen 2))
  have HM := Lib.hid (((hM.keep hB4).keep hB5).keep hB6)
  have HP := Lib.hid hP
  have hbf := Below.then hb0 (Nat.le_refl _) hb6
  go_wp2
  exact bodyPost_ret (v := .tuple #[.agg #[.bool sM, .slice aM nM cM, .slice aN nN cN], .agg #[.bool sP, .slice aP nP cP, .slice aQ nQ cQ]]) (by simp [results, Tryz.results35, go_sem, k0, k1, k2, l0, l1, l2]) rfl
    ⟨_, _, _, _, _, _, _, _, _, _, _, _, _, _, rfl, stored33 Q1.noInt Q2.noInt HM.out, stored33 Q1.noInt Q2.noInt HP.out, (((((hbf.setCell (Nat.le_add_right _ 4) _).setCell (Nat.le_add_right _ 4) _).setCell (Nat.le_add_right _ 4) _).setCell (Nat.le_add_right _ 5) _).setCell (Nat.le_add_right _ 5) _).setCell (Nat.le_add_right _ 5) _⟩
end Go.Proofs.YtececkbcinmmpaaGreatDoor
