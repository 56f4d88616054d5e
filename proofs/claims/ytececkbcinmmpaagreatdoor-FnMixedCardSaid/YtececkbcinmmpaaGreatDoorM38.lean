/-
  Contracts and lemmas: RatSub BinRatSub OpsRSub RatQuo BinRatQuo.
-/
import Derived.Test.YtececkbcinmmpaaGreatDoorM35
import Derived.Test.YtececkbcinmmpaaGreatDoorM37
import Derived.Test.YtececkbcinmmpaaGreatDoorM36
set_option linter.unusedSimpArgs false
set_option linter.unusedVariables false
set_option maxRecDepth 100000
set_option maxHeartbeats 8000000
namespace Go.Proofs.YtececkbcinmmpaaGreatDoor
open Go.RowKit Go.Bg Dg
theorem ratSub_new (zb b1 b2 : Nat) (s t : Bool) (N D M E : Nat) (w : World) (hK : Thr w) (hT : ThrD w) (h : NewRat w zb) (h1 : RatAt 139 w b1 s N D) (h2 : RatAt 139 w b2 t M E) (ne1 : b1 ≠ zb) (ne2 : b2 ≠ zb) (hv : zb ≠ 3) (hvk : zb ≠ 2) (L K : Nat) (hL : L + K ≤ 38) (hN : N < W64 ^ L) (hD : D < W64 ^ L) (hM : M < W64 ^ K) (hE : E < W64 ^ K) :
    Calls Tryz.prog 93 #[.pointer (some ⟨zb, 0, none⟩), .pointer (some ⟨b1, 0, none⟩), .pointer (some ⟨b2, 0, none⟩)] w (FracIs zb (decide ((sg s (N * E) - sg t (M * D)) < 0)) ((sg s (N * E) - sg t (M * D))).natAbs (D * E) w) := by
  have lz : zb < w.heap.size := h.blk.lt
  have l1 : b1 < w.heap.size := h1.a.blk.lt
  have l2 : b2 < w.heap.size := h2.a.blk.lt
  obtain ⟨aD, nD, cD, _, qD, hND⟩ := h1.d.val
  obtain ⟨aE, nE, cE, _, qE, hNE⟩ := h2.d.val
  have qD' : w.cell? ⟨b1, 3, none⟩ = some (.slice aD nD cD) := qD
  have qE' : w.cell? ⟨b2, 3, none⟩ = some (.slice aE nE cE) := qE
  have hnD : nD < 40 := Nat.lt_of_le_of_lt (len_le W64_gt hND.num.top hD) (by omega)
  have hnE : nE < 40 := Nat.lt_of_le_of_lt (len_le W64_gt hNE.num.top hE) (by omega)
  have HSZ := Lib.hid (show N * E < W64 ^ (L + K) ∧ M * D < W64 ^ (L + K) ∧ D * E < W64 ^ (L + K) from by
    rw [Nat.pow_add, Nat.mul_comm M D]
    exact ⟨Nat.mul_lt_mul'' hN hE, Nat.mul_lt_mul'' hD hM, Nat.mul_lt_mul'' hD hE⟩)
  have HQ := Lib.hid (⟨qD', qE', hND, hNE⟩ : w.cell? ⟨b1, 3, none⟩ = some (.slice aD nD cD) ∧ w.cell? ⟨b2, 3, none⟩ = some (.slice aE nE cE) ∧ BigN 139 w aD nD cD D ∧ BigN 139 w aE nE cE E)
  have H1 := Lib.hid h1
  have H2 := Lib.hid h2
  have HZ := Lib.hid h
  have HK := Lib.hid hK
  have HT := Lib.hid hT
  have HL := Lib.hid (⟨hN, hD, hM, hE, hv⟩ : N < W64 ^ L ∧ D < W64 ^ L ∧ M < W64 ^ K ∧ E < W64 ^ K ∧ zb ≠ 3)
  have HNE := Lib.hid (⟨ne1, ne2, hvk⟩ : b1 ≠ zb ∧ b2 ≠ zb ∧ zb ≠ 2)
  obtain ⟨W3, hW3⟩ : ∃ W3, W3 = ((w.alloc (.cells #[.pointer none] 225)).alloc (.cells #[.bool false, .slice none 0 0] 155)).alloc (.cells #[.bool false, .slice none 0 0] 155) := ⟨_, rfl⟩
  have HW3 := Lib.hid hW3
  have hB3 : Below w.heap.size w W3 := by rw [hW3]; exact Below.alloc' (Below.alloc' (Below.alloc' (Below.refl _ _) _) _) _
  have A3 := Lib.hid (show NewInt W3 (w.heap.size + 1) 0 from by rw [hW3]; have := newInt_is (w.alloc (.cells #[.pointer none] 225)); simp at this; exact this.keep (Below.alloc' (Below.refl _ _) _))
  have B3 := Lib.hid (show NewInt W3 (w.heap.size + 1 + 1) 0 from by rw [hW3]; simpa using newInt_is ((w.alloc (.cells #[.pointer none] 225)).alloc (.cells #[.bool false, .slice none 0 0] 155)))
  have HB3 := Lib.hid hB3
  clear hW3 hB3 qD qE qD' qE' hND hNE h1 h2 h hK hT hN hD hM hE hv ne1 ne2 hvk
  go_enter_defers Tryz.func93, Tryz.ntmps93
  go_wp2_with fail
  refine (getStack_any _).mono ?_
  rintro e w1 ⟨rfl, rfl⟩
  go_upto_region 4 with fail
  rw [← HW3.out]
  have hd3 : Below W3.heap.size W3 W3.drew := (Below.refl _ _).drew
  have hb3 := Below.then HB3.out (Nat.le_refl _) hd3
  have cE3 : W3.cell? ⟨b2, 3, none⟩ = some (.slice aE nE cE) := cell_keep HQ.out.2.1 HB3.out
  have cE3' : W3.drew.cell? ⟨b2, 3, none⟩ = some (.slice aE nE cE) := cell_keep cE3 hd3
  go_region_held3 (fun w' => w'.cell? ⟨b2, 3, none⟩ = some (.slice aE nE cE))
    (first | with_reducible exact cE3 | with_reducible exact cE3' | exact cell_keep cE3 (by assumption) | with_reducible exact q23)
    ((go_at_call 162; (with_reducible refine (scaleDenomF (w.heap.size + 1) 0 b1 0 s N aE nE cE E _ _ ?_ ?_ ?_ ?_ H2.out.pos ?_ (L + K) (by omega) (Nat.lt_of_lt_of_le HL.out.1 (Nat.pow_le_pow_right W64_pos (by omega))) (Nat.lt_of_lt_of_le HL.out.2.2.2.1 (Nat.pow_le_pow_right W64_pos (by omega)))).mono ?_); exact HK.out.keep hb3; exact A3.out.keep hd3; exact (H1.out.keep hb3).a; exact HQ.out.2.2.2.keep hb3; omega; rintro e w4 ⟨rfl, hF⟩; have hO4 := IntFr.own hF (A3.out.keep hd3); have hB4 : Below w.heap.size w w4 := (hO4.2.1.below hb3 hb3.size (fun k _ e => by omega)); have q23 : w4.cell? ⟨b2, 3, none⟩ = some (.slice aE nE cE) := cell_keep HQ.out.2.1 hB4))
  have HF4 := Lib.hid hF
  have HB4 := Lib.hid hB4
  have B4 := Lib.hid (NewInt.updU (B3.out.keep hd3) hO4.2.1 (Nat.succ_ne_self _))
  clear hF hB4 hO4 q23 cE3 cE3' hd3 hb3
  have hd4 : Below w4.heap.size w4 w4.drew := (Below.refl _ _).drew
  have hb4 := Below.then HB4.out (Nat.le_refl _) hd4
  have cD4 : w4.cell? ⟨b1, 3, none⟩ = some (.slice aD nD cD) := cell_keep HQ.out.1 HB4.out
  have cD4' : w4.drew.cell? ⟨b1, 3, none⟩ = some (.slice aD nD cD) := cell_keep cD4 hd4
  go_upto_region 5 with fail
  go_region_held3 (fun w' => w'.cell? ⟨b1, 3, none⟩ = some (.slice aD nD cD))
    (first | with_reducible exact cD4 | with_reducible exact cD4' | exact cell_keep cD4 (by assumption) | with_reducible exact q23)
    ((go_at_call 162; (with_reducible refine (scaleDenomF (w.heap.size + 1 + 1) 0 b2 0 t M aD nD cD D _ _ ?_ ?_ ?_ ?_ H1.out.pos ?_ (L + K) (by omega) (Nat.lt_of_lt_of_le HL.out.2.2.1 (Nat.pow_le_pow_right W64_pos (by omega))) (Nat.lt_of_lt_of_le HL.out.2.1 (Nat.pow_le_pow_right W64_pos (by omega)))).mono ?_); exact HK.out.keep hb4; exact B4.out.keep hd4; exact (H2.out.keep hb4).a; exact HQ.out.2.2.1.keep hb4; omega; rintro e w5 ⟨rfl, hF⟩; have hO5 := IntFr.own hF (B4.out.keep hd4); have hB5 : Below w.heap.size w w5 := (hO5.2.1.below hb4 hb4.size (fun k _ e => by omega)); have q23 : w5.cell? ⟨b1, 3, none⟩ = some (.slice aD nD cD) := cell_keep HQ.out.1 hB5))
  obtain ⟨x1, m1, k1, x2, m2, k2, hT5, hz1, hz2⟩ := two_done HW3.out HF4.out hF
  have HT5 := Lib.hid hT5
  have HZZ := Lib.hid (⟨hz1, hz2⟩ : (s = true → 0 < N * E) ∧ (t = true → 0 < M * D))
  have HZ5 := Lib.hid (HZ.out.keep hT5.bel)
  clear hF hB5 hO5 q23 cD4 cD4' hd4 hb4 HF4 HB4 B4 A3 B3 hT5 hz1 hz2
  go_wp2_with fail
  refine (intSubF zb 0 (w.heap.size + 1) 0 (w.heap.size + 1 + 1) 0 s t (N * E) (M * D) _ HZ5.out.a (HT5.out.a.toAt HZZ.out.1) (HT5.out.d.toAt HZZ.out.2) (L + K) (by omega) HSZ.out.1 HSZ.out.2.1).mono ?_
  rintro e w6 ⟨rfl, hF⟩
  obtain ⟨a, n, c, hF6⟩ := IntFr.frac hF HZ5.out
  have HF6 := Lib.hid hF6
  have HU6 := Lib.hid hF6.upd
  have hd6 : Below w6.heap.size w6 w6.drew := (Below.refl _ _).drew
  have z6 := hF6.raw.k3
  have d6 : w6.cell? ⟨b1, 3, none⟩ = some (.slice aD nD cD) := by rw [HU6.out.cell (p := ⟨b1, 3, none⟩) (Nat.lt_of_lt_of_le l1 HT5.out.bel.size) (fun e => HNE.out.1 e)]; exact cell_keep HQ.out.1 HT5.out.bel
  have e6 : w6.cell? ⟨b2, 3, none⟩ = some (.slice aE nE cE) := by rw [HU6.out.cell (p := ⟨b2, 3, none⟩) (Nat.lt_of_lt_of_le l2 HT5.out.bel.size) (fun e => HNE.out.2.1 e)]; exact cell_keep HQ.out.2.1 HT5.out.bel
  have HMD := Lib.hid (fun p => mulDenomF p aD aE nD nE cD cE D E w6.drew
    (show Thr w6.drew from Thr.keep (by have h0 := HK.out.keep HT5.out.bel; unfold Thr at h0 ⊢; rw [HU6.out.cell (block_lt h0) (fun e => HNE.out.2.2 e.symm)]; exact h0) hd6)
    (((HQ.out.2.2.1.keep HT5.out.bel).apart HU6.out (fun k hk e => by subst e; exact HZ.out.blk.notIn HQ.out.2.2.1 hk)).keep hd6) (((HQ.out.2.2.2.keep HT5.out.bel).apart HU6.out (fun k hk e => by subst e; exact HZ.out.blk.notIn HQ.out.2.2.2 hk)).keep hd6) H1.out.pos H2.out.pos hnD hnE)
  clear hF hF6
  go_upto_region 7 with fail
  go_cut [] from 36 to 56 (fun wx => ∃ a n c a' n' c', FracUp w5 zb (decide ((sg s (N * E) - sg t (M * D)) < 0)) ((sg s (N * E) - sg t (M * D))).natAbs (D * E) wx a n c a' n' c')
  case first =>
    refine wp_region_noPanic ?_
    go_region_with
      ((go_at_call 163; (with_reducible refine (HMD.out _).mono ?_); rintro e w7 ⟨a2, n2, c2, rfl, hQ, hB, hf⟩; have HF7 := Lib.hid (HF6.out.setD hd6 (Upd.of_below hB) hQ (fun k hk => .inr (hf k hk))); have z7 : w7.cell? ⟨zb, 3, none⟩ = some (.slice none 0 0) := cell_keep (cell_keep z6 hd6) hB; have g7 := ((HF6.out.raw.blk.keep hd6).keep hB).frozen 3; clear hQ hB hf))
    all_goals
      refine NoPanic.normal ?_
      go_wp2_with fail
      go_meet
      exact ⟨_, _, _, _, _, _, HF7.out⟩
  case rest =>
  obtain ⟨b, m, k, b', m', k', hF8⟩ := hcut
  have HF8 := Lib.hid hF8
  have HZN := Lib.hid (show ((sg s (N * E) - sg t (M * D))).natAbs < W64 ^ (L + K + 1) from by
    have h1 := HSZ.out.1
    have h2 := HSZ.out.2.1
    have h3 := pow_step (L + K)
    have e1 := sg_nat s (N * E)
    have e2 := sg_nat t (M * D)
    generalize W64 ^ (L + K + 1) = P at *
    generalize W64 ^ (L + K) = Q at *
    omega)
  have HDE := Lib.hid (show D * E < W64 ^ (L + K + 1) from Nat.lt_of_lt_of_le HSZ.out.2.2 (Nat.pow_le_pow_right W64_pos (by omega)))
  clear hF8 HF6 HU6 HMD hd6 z6 d6 e6
  go_wp2_with fail
  refine (HF8.out.norm (HT.out.keep HT5.out.bel) HL.out.2.2.2.2 (Nat.mul_pos H1.out.pos H2.out.pos) (L + K + 1) (by omega) HZN.out HDE.out).mono ?_
  rintro e w9 ⟨rfl, hR9, hU9⟩
  have HR9 := Lib.hid hR9
  have HU9 := Lib.hid hU9
  clear hR9 hU9
  go_wp2
  refine leaves_cons (f := 161) (args := #[.pointer (some ⟨w.heap.size, 0, none⟩)]) (by simp) (by simp [go_sem]) ?_
  refine (stkFree_any w.heap.size 0 none .returning _ ⟨rfl, HU9.out.blk HT5.out.stk (by omega)⟩).mono ?_
  rintro e u' w10 ⟨rfl, rfl, hU⟩
  have hU' : Below _ _ w10 := hU.toBelow (fun k _ ⟨_, _, h, _⟩ => by cases h)
  exact ⟨_, results_tmp rfl _ _ _, rfl, HR9.out.keep hU', ((Upd.of_below HT5.out.bel).trans HU9.out).then hU'⟩
theorem binRSub_any (v1 v2 : Value) (r q : Rt) (w : World) (hK : Thr w) (hT : ThrD w) (hm : Calls Tryz.prog 73 #[v1, v2] w (MatR r q w)) (L K : Nat) (hL : L + K ≤ 38) (hr : r.num < W64 ^ L ∧ r.den < W64 ^ L) (hq : q.num < W64 ^ K ∧ q.den < W64 ^ K) :
    Calls Tryz.prog 48 #[v1, .int .i64 13, v2] w fun e w' => ∃ u, e = .returned u ∧ CRat w' u (Rt.minus r q) ∧ (Rt.minus r q).num < W64 ^ (L + K + 1) ∧ (Rt.minus r q).den < W64 ^ (L + K + 1) ∧ ROk (Rt.minus r q) ∧ Below w.heap.size w w' ∧ NewQ w.heap.size u := by
  have HM := Lib.hid hm
  have HK := Lib.hid hK
  have HT := Lib.hid hT
  clear hm hK hT
  go_enter Tryz.func48, Tryz.ntmps48
  go_wp2
  refine wp_scope_straight ?_
  go_wp2_with fail
  refine HM.out.mono ?_
  rintro e w1 ⟨u1, u2, rfl, ⟨b1, s, N, D, rfl, hR, rfl⟩, ⟨b2, t, M, E, rfl, hQ, rfl⟩, hB⟩
  obtain ⟨t1, t2, t3, t4, t5, t6, t7, t8, t9⟩ := ta_ratVal
  have HR := Lib.hid hR
  have HQ := Lib.hid hQ
  have HB := Lib.hid hB
  have HS := Lib.hid (⟨hr, hq⟩ : (N < W64 ^ L ∧ D < W64 ^ L) ∧ (M < W64 ^ K ∧ E < W64 ^ K))
  have hfld := field_ratVal
  skip
  have HX := Lib.hid (show (sg s (N * E) - sg t (M * D)).natAbs < W64 ^ (L + K + 1) ∧ (D * E) < W64 ^ (L + K + 1) ∧ 0 < (D * E) from by
    have h3 := pow_step (L + K)
    have a1 : N * E < W64 ^ (L + K) := by rw [Nat.pow_add]; exact Nat.mul_lt_mul'' HS.out.1.1 HS.out.2.2
    have a2 : M * D < W64 ^ (L + K) := by rw [Nat.pow_add, Nat.mul_comm]; exact Nat.mul_lt_mul'' HS.out.1.2 HS.out.2.1
    have a3 : D * E < W64 ^ (L + K) := by rw [Nat.pow_add]; exact Nat.mul_lt_mul'' HS.out.1.2 HS.out.2.2
    have e1 := sg_nat s (N * E)
    have e2 := sg_nat t (M * D)
    have e3 : 0 < D * E := Nat.mul_pos HR.out.pos HQ.out.pos
    skip
    generalize W64 ^ (L + K + 1) = P at *
    generalize W64 ^ (L + K) = Q at *
    refine ⟨?_, ?_, ?_⟩ <;> omega)
  clear hR hQ hB hr hq
  obtain ⟨W2, hW2⟩ : ∃ W2, W2 = w1.alloc (.cells #[.pointer (some ⟨b1, 0, none⟩)] 106) := ⟨_, rfl⟩
  have hb2 : Below w1.heap.size w1 W2 := by rw [hW2]; exact Below.alloc' (Below.refl _ _) _
  have c0 : W2.cell? ⟨w1.heap.size, 0, none⟩ = some (.pointer (some ⟨b1, 0, none⟩)) := by rw [hW2]; exact alloc_new _ _ _ rfl rfl
  have HW2 := Lib.hid hW2
  clear hW2
  go_upto_region 76 with fail
  rw [← HW2.out]
  have HB2 := Lib.hid (Below.then HB.out (Nat.le_refl _) hb2)
  have HR2 := Lib.hid (HR.out.keep hb2)
  have HQ2 := Lib.hid (HQ.out.keep hb2)
  have HK2 := Lib.hid (HK.out.keep HB2.out)
  have HT2 := Lib.hid (HT.out.keep HB2.out)
  clear HR HQ HK HT hb2 HW2
  go_wp2_with fail
  refine (newRat_any _).mono ?_
  rintro e w3 ⟨rfl, hw3⟩
  have hb3 : Below W2.heap.size W2 w3 := by rw [hw3]; exact Below.alloc' (Below.refl _ _) _
  have HN3 := Lib.hid (show NewRat w3 W2.heap.size from by rw [hw3]; exact newRat_is W2)
  have HB3 := Lib.hid hb3
  have HS3 := Lib.hid (show w3.heap.size = W2.heap.size + 1 from by rw [hw3]; simp)
  have hk := HK2.out
  unfold Thr at hk
  have HG := Lib.hid (ratSub_new W2.heap.size b1 b2 s t N D M E w3 (HK2.out.keep hb3) (HT2.out.keep hb3) HN3.out (HR2.out.keep hb3) (HQ2.out.keep hb3) (Nat.ne_of_lt HR2.out.a.blk.lt) (Nat.ne_of_lt HQ2.out.a.blk.lt) (Nat.ne_of_gt (block_lt HT2.out)) (Nat.ne_of_gt (block_lt hk)) L K hL HS.out.1.1 HS.out.1.2 HS.out.2.1 HS.out.2.2)
  clear hw3 hb3 c0 hk
  go_wp2_with fail
  refine HG.out.mono ?_
  rintro e w4 ⟨rfl, hR4, hU4⟩
  have HR4 := Lib.hid hR4
  have HB4 := Lib.hid (hU4.below HB3.out (by have := HS3.out; omega) (fun k _ e => by subst e; exact Nat.le_refl _))
  clear hR4 hU4 HG
  go_wp2_with fail
  refine (makeRatF_any _ _ _ _ (L + K + 1) _ HR4.out (Nat.lt_of_le_of_lt (Nat.div_le_self _ _) HX.out.1) (Nat.lt_of_le_of_lt (Nat.div_le_self _ _) HX.out.2.1) (by omega)).mono ?_
  rintro e w5 ⟨rfl, rfl⟩
  go_wp2
  try rw [Exit.noGoto_ret]
  go_ret
  rw [← minus_over]
  have hz := over_lt (s := decide ((sg s (N * E) - sg t (M * D)) < 0)) HX.out.1 HX.out.2.1
  exact ⟨_, rfl, ⟨_, _, _, _, rfl, HR4.out, rfl⟩, hz.1, hz.2, rok_over _ _ _ HX.out.2.2, Below.then HB2.out (Nat.le_refl _) HB4.out, ⟨_, rfl, HB2.out.size⟩⟩
theorem bndSub (r q : Rt) (L : Nat) (hr : r.num < W64 ^ L ∧ r.den < W64 ^ L) (hq : q.num < W64 ^ L ∧ q.den < W64 ^ L) (hd : 0 < r.den) (he : 0 < q.den) : (Rt.minus r q).num < W64 ^ (L + L + 1) ∧ (Rt.minus r q).den < W64 ^ (L + L + 1) ∧ ROk (Rt.minus r q) := by
  obtain ⟨s, N, D⟩ := r
  obtain ⟨t, M, E⟩ := q
  dsimp only at hr hq hd he 
  rw [← minus_over]
  have h3 := pow_step (L + L)
  have a1 : N * E < W64 ^ (L + L) := by rw [Nat.pow_add]; exact Nat.mul_lt_mul'' hr.1 hq.2
  have a2 : M * D < W64 ^ (L + L) := by rw [Nat.pow_add]; exact Nat.mul_lt_mul'' hq.1 hr.2
  have a3 : D * E < W64 ^ (L + L) := by rw [Nat.pow_add]; exact Nat.mul_lt_mul'' hr.2 hq.2
  have e1 := sg_nat s (N * E)
  have e2 := sg_nat t (M * D)
  have e3 : 0 < D * E := Nat.mul_pos hd he
  skip
  have hx : (sg s (N * E) - sg t (M * D)).natAbs < W64 ^ (L + L + 1) ∧ (D * E) < W64 ^ (L + L + 1) ∧ 0 < (D * E) := by
    generalize W64 ^ (L + L + 1) = P at *
    generalize W64 ^ (L + L) = Q at *
    refine ⟨?_, ?_, ?_⟩ <;> omega
  have hz := fun s => over_lt (s := s) hx.1 hx.2.1
  exact ⟨(hz _).1, (hz _).2, rok_over _ _ _ hx.2.2⟩
theorem frac_two {w w5 : World} {zb : Nat} {s t : Bool} {X Y : Nat} {x1 : Option Addr} {m1 k1 : Nat} {x2 : Option Addr} {m2 k2 : Nat} (h : NewRat w zb) (T : TwoS w s t X Y w5 x1 m1 k1 x2 m2 k2) (u : Bool) :
    RatRaw (((w5.setCell ⟨zb, 1, none⟩ (.slice x1 m1 k1)).setCell ⟨zb, 3, none⟩ (.slice x2 m2 k2)).setCell ⟨zb, 0, none⟩ (.bool u)) zb u x1 m1 k1 X x2 m2 k2 Y := by
  have h5 := h.keep T.bel
  have b5 := h5.blk
  refine ⟨((b5.set _ _).set _ _).set _ _, World.cell?_setCell_same (u := .bool false) _ _ _ ?_, ?_, ?_, ?_, ((T.a.num.set b5 _ _).set (b5.set _ _) _ _).set ((b5.set _ _).set _ _) _ _, ((T.d.num.set b5 _ _).set (b5.set _ _) _ _).set ((b5.set _ _).set _ _) _ _, T.off⟩
  · rw [cell_other (by decide), cell_other (by decide)]; exact BlkAt.cell h5 0
  · rw [cell_other (by decide), cell_other (by decide)]; exact World.cell?_setCell_same (u := .slice none 0 0) _ _ _ (BlkAt.cell h5 1)
  · rw [cell_other (by decide), cell_other (by decide), cell_other (by decide)]; exact BlkAt.cell h5 2
  · rw [cell_other (by decide)]; exact World.cell?_setCell_same (u := .slice none 0 0) _ _ _ (by rw [cell_other (by decide)]; exact BlkAt.cell h5 3)
theorem ratQuo_new (zb b1 b2 : Nat) (s t : Bool) (N D M E : Nat) (w : World) (hK : Thr w) (hT : ThrD w) (h : NewRat w zb) (h1 : RatAt 139 w b1 s N D) (h2 : RatAt 139 w b2 t M E) (hM0 : 0 < M) (ne1 : b1 ≠ zb) (ne2 : b2 ≠ zb) (hv : zb ≠ 3) (hvk : zb ≠ 2) (L K : Nat) (hL : L + K ≤ 38) (hN : N < W64 ^ L) (hD : D < W64 ^ L) (hM : M < W64 ^ K) (hE : E < W64 ^ K) :
    Calls Tryz.prog 95 #[.pointer (some ⟨zb, 0, none⟩), .pointer (some ⟨b1, 0, none⟩), .pointer (some ⟨b2, 0, none⟩)] w (FracIs zb (!(s == t)) (N * E) (M * D) w) := by
  have lz : zb < w.heap.size := h.blk.lt
  have l1 : b1 < w.heap.size := h1.a.blk.lt
  have l2 : b2 < w.heap.size := h2.a.blk.lt
  obtain ⟨aD, nD, cD, _, qD, hND⟩ := h1.d.val
  obtain ⟨aE, nE, cE, _, qE, hNE⟩ := h2.d.val
  have qD' : w.cell? ⟨b1, 3, none⟩ = some (.slice aD nD cD) := qD
  have qE' : w.cell? ⟨b2, 3, none⟩ = some (.slice aE nE cE) := qE
  have hnD : nD < 40 := Nat.lt_of_le_of_lt (len_le W64_gt hND.num.top hD) (by omega)
  have hnE : nE < 40 := Nat.lt_of_le_of_lt (len_le W64_gt hNE.num.top hE) (by omega)
  have HSZ := Lib.hid (show N * E < W64 ^ (L + K) ∧ M * D < W64 ^ (L + K) ∧ D * E < W64 ^ (L + K) from by
    rw [Nat.pow_add, Nat.mul_comm M D]
    exact ⟨Nat.mul_lt_mul'' hN hE, Nat.mul_lt_mul'' hD hM, Nat.mul_lt_mul'' hD hE⟩)
  have HQ := Lib.hid (⟨qD', qE', hND, hNE⟩ : w.cell? ⟨b1, 3, none⟩ = some (.slice aD nD cD) ∧ w.cell? ⟨b2, 3, none⟩ = some (.slice aE nE cE) ∧ BigN 139 w aD nD cD D ∧ BigN 139 w aE nE cE E)
  have H1 := Lib.hid h1
  have H2 := Lib.hid h2
  have HZ := Lib.hid h
  have HK := Lib.hid hK
  have HT := Lib.hid hT
  have HL := Lib.hid (⟨hN, hD, hM, hE, hv⟩ : N < W64 ^ L ∧ D < W64 ^ L ∧ M < W64 ^ K ∧ E < W64 ^ K ∧ zb ≠ 3)
  have HNE := Lib.hid (⟨ne1, ne2, hvk⟩ : b1 ≠ zb ∧ b2 ≠ zb ∧ zb ≠ 2)
  obtain ⟨am, nm, cm, _, qm, hMM⟩ := h2.a.val
  have qm' : w.cell? ⟨b2, 1, none⟩ = some (.slice am nm cm) := qm
  have hnm0 : ((nm : Int) == 0) = false := by
    have := natAt_pos_len hMM.num
    have : 0 < nm := by simpa [hM0] using this
    simp; omega
  have hmm := hMM.num.cm
  have hmc := hMM.num.nc
  unfold maxLen at hmm
  have qm1 : (w.alloc (.cells #[.pointer none] 225)).cell? ⟨b2, 1, none⟩ = some (.slice am nm cm) := cell_keep qm' (Below.alloc' (Below.refl _ _) _)
  clear qm hMM
  obtain ⟨W3, hW3⟩ : ∃ W3, W3 = ((w.alloc (.cells #[.pointer none] 225)).alloc (.cells #[.bool false, .slice none 0 0] 155)).alloc (.cells #[.bool false, .slice none 0 0] 155) := ⟨_, rfl⟩
  have HW3 := Lib.hid hW3
  have hB3 : Below w.heap.size w W3 := by rw [hW3]; exact Below.alloc' (Below.alloc' (Below.alloc' (Below.refl _ _) _) _) _
  have A3 := Lib.hid (show NewInt W3 (w.heap.size + 1) 0 from by rw [hW3]; have := newInt_is (w.alloc (.cells #[.pointer none] 225)); simp at this; exact this.keep (Below.alloc' (Below.refl _ _) _))
  have B3 := Lib.hid (show NewInt W3 (w.heap.size + 1 + 1) 0 from by rw [hW3]; simpa using newInt_is ((w.alloc (.cells #[.pointer none] 225)).alloc (.cells #[.bool false, .slice none 0 0] 155)))
  have HB3 := Lib.hid hB3
  clear hW3 hB3 qD qE qD' qE' hND hNE h1 h2 h hK hT hN hD hM hE hv ne1 ne2 hvk
  go_enter_defers Tryz.func95, Tryz.ntmps95
  go_wp2_with fail
  refine (getStack_any _).mono ?_
  rintro e w1 ⟨rfl, rfl⟩
  go_upto_region 6 with fail
  rw [← HW3.out]
  have hd3 : Below W3.heap.size W3 W3.drew := (Below.refl _ _).drew
  have hb3 := Below.then HB3.out (Nat.le_refl _) hd3
  have cE3 : W3.cell? ⟨b2, 3, none⟩ = some (.slice aE nE cE) := cell_keep HQ.out.2.1 HB3.out
  have cE3' : W3.drew.cell? ⟨b2, 3, none⟩ = some (.slice aE nE cE) := cell_keep cE3 hd3
  go_region_held3 (fun w' => w'.cell? ⟨b2, 3, none⟩ = some (.slice aE nE cE))
    (first | with_reducible exact cE3 | with_reducible exact cE3' | exact cell_keep cE3 (by assumption) | with_reducible exact q23)
    ((go_at_call 162; (with_reducible refine (scaleDenomF (w.heap.size + 1) 0 b1 0 s N aE nE cE E _ _ ?_ ?_ ?_ ?_ H2.out.pos ?_ (L + K) (by omega) (Nat.lt_of_lt_of_le HL.out.1 (Nat.pow_le_pow_right W64_pos (by omega))) (Nat.lt_of_lt_of_le HL.out.2.2.2.1 (Nat.pow_le_pow_right W64_pos (by omega)))).mono ?_); exact HK.out.keep hb3; exact A3.out.keep hd3; exact (H1.out.keep hb3).a; exact HQ.out.2.2.2.keep hb3; omega; rintro e w4 ⟨rfl, hF⟩; have hO4 := IntFr.own hF (A3.out.keep hd3); have hB4 : Below w.heap.size w w4 := (hO4.2.1.below hb3 hb3.size (fun k _ e => by omega)); have q23 : w4.cell? ⟨b2, 3, none⟩ = some (.slice aE nE cE) := cell_keep HQ.out.2.1 hB4))
  have HF4 := Lib.hid hF
  have HB4 := Lib.hid hB4
  have B4 := Lib.hid (NewInt.updU (B3.out.keep hd3) hO4.2.1 (Nat.succ_ne_self _))
  clear hF hB4 hO4 q23 cE3 cE3' hd3 hb3
  have hd4 : Below w4.heap.size w4 w4.drew := (Below.refl _ _).drew
  have hb4 := Below.then HB4.out (Nat.le_refl _) hd4
  have cD4 : w4.cell? ⟨b1, 3, none⟩ = some (.slice aD nD cD) := cell_keep HQ.out.1 HB4.out
  have cD4' : w4.drew.cell? ⟨b1, 3, none⟩ = some (.slice aD nD cD) := cell_keep cD4 hd4
  go_upto_region 7 with fail
  go_region_held3 (fun w' => w'.cell? ⟨b1, 3, none⟩ = some (.slice aD nD cD))
    (first | with_reducible exact cD4 | with_reducible exact cD4' | exact cell_keep cD4 (by assumption) | with_reducible exact q23)
    ((go_at_call 162; (with_reducible refine (scaleDenomF (w.heap.size + 1 + 1) 0 b2 0 t M aD nD cD D _ _ ?_ ?_ ?_ ?_ H1.out.pos ?_ (L + K) (by omega) (Nat.lt_of_lt_of_le HL.out.2.2.1 (Nat.pow_le_pow_right W64_pos (by omega))) (Nat.lt_of_lt_of_le HL.out.2.1 (Nat.pow_le_pow_right W64_pos (by omega)))).mono ?_); exact HK.out.keep hb4; exact B4.out.keep hd4; exact (H2.out.keep hb4).a; exact HQ.out.2.2.1.keep hb4; omega; rintro e w5 ⟨rfl, hF⟩; have hO5 := IntFr.own hF (B4.out.keep hd4); have hB5 : Below w.heap.size w w5 := (hO5.2.1.below hb4 hb4.size (fun k _ e => by omega)); have q23 : w5.cell? ⟨b1, 3, none⟩ = some (.slice aD nD cD) := cell_keep HQ.out.1 hB5))
  obtain ⟨x1, m1, k1, x2, m2, k2, hT5, hz1, hz2⟩ := two_done HW3.out HF4.out hF
  have HT5 := Lib.hid hT5
  have HZZ := Lib.hid (⟨hz1, hz2⟩ : (s = true → 0 < N * E) ∧ (t = true → 0 < M * D))
  have HZ5 := Lib.hid (HZ.out.keep hT5.bel)
  clear hF hB5 hO5 q23 cD4 cD4' hd4 hb4 HF4 HB4 B4 A3 B3 hT5 hz1 hz2
  have HB8 := Lib.hid (frac_two HZ.out HT5.out (!(s == t)))
  have HC := Lib.hid (⟨BlkAt.cell HZ5.out 0, BlkAt.cell HZ5.out 1, BlkAt.cell HZ5.out 3⟩ : w5.cell? ⟨zb, 0, none⟩ = _ ∧ w5.cell? ⟨zb, 1, none⟩ = _ ∧ w5.cell? ⟨zb, 3, none⟩ = _)
  have zp : zb ≠ w.heap.size + 1 := by omega
  have zq : zb ≠ w.heap.size + 1 + 1 := by omega
  have ob : ∀ (W : World) (b i j : Nat) (v : Value), zb ≠ b → (W.setCell ⟨zb, i, none⟩ v).cell? ⟨b, j, none⟩ = W.cell? ⟨b, j, none⟩ := fun W b i j v hn => World.cell?_setCell_other _ _ _ _ (fun hh => by injection hh with hh _ _; exact hn hh)
  have HOB := Lib.hid ob
  clear ob
  have p1 : w5.cell? ⟨w.heap.size + 1, 1, none⟩ = some (.slice x1 m1 k1) := HT5.out.a.c1
  have c1 : w5.cell? ⟨zb, 1, none⟩ = some (.slice none 0 0) := by rw [HC.out.2.1]; rfl
  have g1 := HZ5.out.blk.frozen 1
  go_upto_region 9 with fail
  obtain ⟨W6, hW6⟩ : ∃ W6, W6 = w5.setCell ⟨zb, 1, none⟩ (.slice x1 m1 k1) := ⟨_, rfl⟩
  rw [← hW6] at HB8 ⊢
  have q1 : W6.cell? ⟨w.heap.size + 1 + 1, 1, none⟩ = some (.slice x2 m2 k2) := by rw [hW6, HOB.out _ _ _ _ _ zq]; exact HT5.out.d.c1
  have c3 : W6.cell? ⟨zb, 3, none⟩ = some (.slice none 0 0) := by rw [hW6, cell_other (by decide), HC.out.2.2]; rfl
  have g3 : W6.frozen? ⟨zb, 3, none⟩ = false := by rw [hW6, World.frozen?_setCell]; exact HZ5.out.blk.frozen 3
  have HW6 := Lib.hid hW6
  clear hW6 p1 c1 g1
  go_upto_region 10 with fail
  obtain ⟨W7, hW7⟩ : ∃ W7, W7 = W6.setCell ⟨zb, 3, none⟩ (.slice x2 m2 k2) := ⟨_, rfl⟩
  rw [← hW7] at HB8 ⊢
  have p0 : W7.cell? ⟨w.heap.size + 1, 0, none⟩ = some (.bool s) := by rw [hW7, HOB.out _ _ _ _ _ zp, HW6.out, HOB.out _ _ _ _ _ zp]; exact HT5.out.a.c0
  have q0 : W7.cell? ⟨w.heap.size + 1 + 1, 0, none⟩ = some (.bool t) := by rw [hW7, HOB.out _ _ _ _ _ zq, HW6.out, HOB.out _ _ _ _ _ zq]; exact HT5.out.d.c0
  have c0 : W7.cell? ⟨zb, 0, none⟩ = some (.bool false) := by rw [hW7, cell_other (by decide), HW6.out, cell_other (by decide), HC.out.1]; rfl
  have g0 : W7.frozen? ⟨zb, 0, none⟩ = false := by rw [hW7, World.frozen?_setCell, HW6.out, World.frozen?_setCell]; exact HZ5.out.blk.frozen 0
  have HU8 := Lib.hid (show Upd (· = zb) w5 (W7.setCell ⟨zb, 0, none⟩ (.bool (!(s == t)))) from by
    rw [hW7, HW6.out]
    exact (((Upd.refl (· = zb) w5).setCell (p := ⟨zb, 1, none⟩) rfl _).setCell (p := ⟨zb, 3, none⟩) rfl _).setCell (p := ⟨zb, 0, none⟩) rfl _)
  have hl := block_lt HT.out
  have HNM := Lib.hid (ratNorm_any zb (!(s == t)) x1 x2 m1 k1 (N * E) m2 k2 (M * D) _ ((HT.out.keep HT5.out.bel).upd HU8.out (fun e => HL.out.2.2.2.2 e.symm)) HB8.out (Nat.mul_pos hM0 H1.out.pos) (L + K) (by omega) HSZ.out.1 HSZ.out.2.1
    ⟨HL.out.2.2.2.2, fun h' => Nat.not_le_of_lt hl (HT5.out.f1 _ h'), fun h' => Nat.not_le_of_lt hl (HT5.out.f2 _ h')⟩)
  have hstr : Strct 139 w5 w.heap.size := ⟨_, _, HT5.out.stk, by decide⟩
  have HSB := Lib.hid (⟨hstr.notIn HT5.out.a.num, hstr.notIn HT5.out.d.num⟩ : ¬ InB x1 w.heap.size ∧ ¬ InB x2 w.heap.size)
  clear hW7 q1 c3 g3 hl hstr
  go_wp2_with fail
  refine HNM.out.mono ?_
  rintro e w9 ⟨rfl, hR9, hU9⟩
  have HR9 := Lib.hid hR9
  have HU9 := Lib.hid hU9
  clear hR9 hU9 HNM
  go_wp2
  refine leaves_cons (f := 161) (args := #[.pointer (some ⟨w.heap.size, 0, none⟩)]) (by simp) (by simp [go_sem]) ?_
  refine (stkFree_any w.heap.size 0 none .returning _ ⟨rfl, HU9.out.blk (HU8.out.blk HT5.out.stk (by omega)) (by rintro (h | h | h); omega; exact HSB.out.1 h; exact HSB.out.2 h)⟩).mono ?_
  rintro e u' w10 ⟨rfl, rfl, hU⟩
  have hU' : Below _ _ w10 := hU.toBelow (fun k _ ⟨_, _, h, _⟩ => by cases h)
  refine ⟨_, results_tmp rfl _ _ _, rfl, HR9.out.keep hU', (upd_into2 HU9.out ((Upd.of_below HT5.out.bel).trans HU8.out) (fun k hk hx => ?_)).then hU'⟩
  rcases hx with h1 | h1 | h1
  · exact h1
  · have := HT5.out.f1 k h1; omega
  · have := HT5.out.f2 k h1; omega
theorem binRQuo_any (v1 v2 : Value) (r q : Rt) (w : World) (hK : Thr w) (hT : ThrD w) (hm : Calls Tryz.prog 73 #[v1, v2] w (MatR r q w)) (h0 : 0 < q.num) (L K : Nat) (hL : L + K ≤ 38) (hr : r.num < W64 ^ L ∧ r.den < W64 ^ L) (hq : q.num < W64 ^ K ∧ q.den < W64 ^ K) :
    Calls Tryz.prog 48 #[v1, .int .i64 15, v2] w fun e w' => ∃ u, e = .returned u ∧ CRat w' u (Rt.times r q.upside) ∧ (Rt.times r q.upside).num < W64 ^ (L + K + 1) ∧ (Rt.times r q.upside).den < W64 ^ (L + K + 1) ∧ ROk (Rt.times r q.upside) ∧ Below w.heap.size w w' ∧ NewQ w.heap.size u := by
  have HM := Lib.hid hm
  have HK := Lib.hid hK
  have HT := Lib.hid hT
  clear hm hK hT
  go_enter Tryz.func48, Tryz.ntmps48
  go_wp2
  refine wp_scope_straight ?_
  go_wp2_with fail
  refine HM.out.mono ?_
  rintro e w1 ⟨u1, u2, rfl, ⟨b1, s, N, D, rfl, hR, rfl⟩, ⟨b2, t, M, E, rfl, hQ, rfl⟩, hB⟩
  obtain ⟨t1, t2, t3, t4, t5, t6, t7, t8, t9⟩ := ta_ratVal
  have HR := Lib.hid hR
  have HQ := Lib.hid hQ
  have HB := Lib.hid hB
  have HS := Lib.hid (⟨hr, hq⟩ : (N < W64 ^ L ∧ D < W64 ^ L) ∧ (M < W64 ^ K ∧ E < W64 ^ K))
  have hfld := field_ratVal
  have HM0 := Lib.hid (show 0 < M from h0)
  clear h0
  have HX := Lib.hid (show (N * E) < W64 ^ (L + K + 1) ∧ (M * D) < W64 ^ (L + K + 1) ∧ 0 < (M * D) from by
    have h3 := pow_step (L + K)
    have a1 : N * E < W64 ^ (L + K) := by rw [Nat.pow_add]; exact Nat.mul_lt_mul'' HS.out.1.1 HS.out.2.2
    have a2 : M * D < W64 ^ (L + K) := by rw [Nat.pow_add, Nat.mul_comm]; exact Nat.mul_lt_mul'' HS.out.1.2 HS.out.2.1
    have a3 : D * E < W64 ^ (L + K) := by rw [Nat.pow_add]; exact Nat.mul_lt_mul'' HS.out.1.2 HS.out.2.2
    have e1 := sg_nat s (N * E)
    have e2 := sg_nat t (M * D)
    have e3 : 0 < D * E := Nat.mul_pos HR.out.pos HQ.out.pos
    have e4 : 0 < M * D := Nat.mul_pos HM0.out HR.out.pos
    generalize W64 ^ (L + K + 1) = P at *
    generalize W64 ^ (L + K) = Q at *
    refine ⟨?_, ?_, ?_⟩ <;> omega)
  clear hR hQ hB hr hq
  obtain ⟨W2, hW2⟩ : ∃ W2, W2 = w1.alloc (.cells #[.pointer (some ⟨b1, 0, none⟩)] 106) := ⟨_, rfl⟩
  have hb2 : Below w1.heap.size w1 W2 := by rw [hW2]; exact Below.alloc' (Below.refl _ _) _
  have c0 : W2.cell? ⟨w1.heap.size, 0, none⟩ = some (.pointer (some ⟨b1, 0, none⟩)) := by rw [hW2]; exact alloc_new _ _ _ rfl rfl
  have HW2 := Lib.hid hW2
  clear hW2
  go_upto_region 76 with fail
  rw [← HW2.out]
  have HB2 := Lib.hid (Below.then HB.out (Nat.le_refl _) hb2)
  have HR2 := Lib.hid (HR.out.keep hb2)
  have HQ2 := Lib.hid (HQ.out.keep hb2)
  have HK2 := Lib.hid (HK.out.keep HB2.out)
  have HT2 := Lib.hid (HT.out.keep HB2.out)
  clear HR HQ HK HT hb2 HW2
  go_wp2_with fail
  refine (newRat_any _).mono ?_
  rintro e w3 ⟨rfl, hw3⟩
  have hb3 : Below W2.heap.size W2 w3 := by rw [hw3]; exact Below.alloc' (Below.refl _ _) _
  have HN3 := Lib.hid (show NewRat w3 W2.heap.size from by rw [hw3]; exact newRat_is W2)
  have HB3 := Lib.hid hb3
  have HS3 := Lib.hid (show w3.heap.size = W2.heap.size + 1 from by rw [hw3]; simp)
  have hk := HK2.out
  unfold Thr at hk
  have HG := Lib.hid (ratQuo_new W2.heap.size b1 b2 s t N D M E w3 (HK2.out.keep hb3) (HT2.out.keep hb3) HN3.out (HR2.out.keep hb3) (HQ2.out.keep hb3) HM0.out (Nat.ne_of_lt HR2.out.a.blk.lt) (Nat.ne_of_lt HQ2.out.a.blk.lt) (Nat.ne_of_gt (block_lt HT2.out)) (Nat.ne_of_gt (block_lt hk)) L K hL HS.out.1.1 HS.out.1.2 HS.out.2.1 HS.out.2.2)
  clear hw3 hb3 c0 hk
  go_wp2_with fail
  refine HG.out.mono ?_
  rintro e w4 ⟨rfl, hR4, hU4⟩
  have HR4 := Lib.hid hR4
  have HB4 := Lib.hid (hU4.below HB3.out (by have := HS3.out; omega) (fun k _ e => by subst e; exact Nat.le_refl _))
  clear hR4 hU4 HG
  go_wp2_with fail
  refine (makeRatF_any _ _ _ _ (L + K + 1) _ HR4.out (Nat.lt_of_le_of_lt (Nat.div_le_self _ _) HX.out.1) (Nat.lt_of_le_of_lt (Nat.div_le_self _ _) HX.out.2.1) (by omega)).mono ?_
  rintro e w5 ⟨rfl, rfl⟩
  go_wp2
  try rw [Exit.noGoto_ret]
  go_ret
  rw [← times_over]
  have hz := over_lt (s := !(s == t)) HX.out.1 HX.out.2.1
  exact ⟨_, rfl, ⟨_, _, _, _, rfl, HR4.out, rfl⟩, hz.1, hz.2, rok_over _ _ _ HX.out.2.2, Below.then HB2.out (Nat.le_refl _) HB4.out, ⟨_, rfl, HB2.out.size⟩⟩
end Go.Proofs.YtececkbcinmmpaaGreatDoor
