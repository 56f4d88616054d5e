/-
  Contracts and lemmas: BinRatAdd FrE RatSub BinRatSub CpxB OpsI.
-/
import Derived.Test.YtgmienggfaahlaaGreatDoorK32
import Derived.Test.YtgmienggfaahlaaGreatDoorK30
import Derived.Test.YtgmienggfaahlaaGreatDoorK31
import Derived.Test.YtgmienggfaahlaaGreatDoorK19
set_option linter.unusedSimpArgs false
set_option linter.unusedVariables false
set_option maxRecDepth 100000
set_option maxHeartbeats 8000000
namespace Go.Proofs.YtgmienggfaahlaaGreatDoor
open Go.RowKit Go.Bg Dg
theorem binRAdd_any (v1 v2 : Value) (r q : Rt) (w : World) (hK : Thr w) (hT : ThrD w) (hm : Calls Tryz.prog 57 #[v1, v2] w (MatR r q w)) (L K : Nat) (hL : L + K ≤ 38) (hr : r.num < W64 ^ L ∧ r.den < W64 ^ L) (hq : q.num < W64 ^ K ∧ q.den < W64 ^ K) :
    Calls Tryz.prog 37 #[v1, .int .i64 12, v2] w fun e w' => ∃ u, e = .returned u ∧ CRat w' u (Rt.plus r q) ∧ (Rt.plus r q).num < W64 ^ (L + K + 1) ∧ (Rt.plus r q).den < W64 ^ (L + K + 1) ∧ ROk (Rt.plus r q) ∧ Below w.heap.size w w' ∧ NewQ w.heap.size u := by
  have HM := Lib.hid hm
  have HK := Lib.hid hK
  have HT := Lib.hid hT
  clear hm hK hT
  go_enter Tryz.func37, Tryz.ntmps37
  go_wp2
  refine wp_scope_straight ?_
  go_wp2_with fail
  refine HM.out.mono ?_
  rintro e w1 ⟨u1, u2, rfl, ⟨b1, s, N, D, rfl, hR, rfl⟩, ⟨b2, t, M, E, rfl, hQ, rfl⟩, hB⟩
  obtain ⟨t1, t2, t3, t4, t5, t6, t7, t8, t9⟩ := ta_ratVal
  have HR := Lib.hid hR
  have HQ := Lib.hid hQ
  have HB := Lib.hid hB
  have HS := Lib.hid (⟨hr, hq⟩ : (N < W64 ^ L ∧ D < W64 ^ L) ∧ (M < W64 ^ K ∧ E < W64 ^ K))
  have hfld := field_ratVal
  skip
  have HX := Lib.hid (show (sg s (N * E) + sg t (M * D)).natAbs < W64 ^ (L + K + 1) ∧ (D * E) < W64 ^ (L + K + 1) ∧ 0 < (D * E) from by
    have h3 := pow_step (L + K)
    have a1 : N * E < W64 ^ (L + K) := by rw [Nat.pow_add]; exact Nat.mul_lt_mul'' HS.out.1.1 HS.out.2.2
    have a2 : M * D < W64 ^ (L + K) := by rw [Nat.pow_add, Nat.mul_comm]; exact Nat.mul_lt_mul'' HS.out.1.2 HS.out.2.1
    have a3 : D * E < W64 ^ (L + K) := by rw [Nat.pow_add]; exact Nat.mul_lt_mul'' HS.out.1.2 HS.out.2.2
    have e1 := sg_nat s (N * E)
    have e2 := sg_nat t (M * D)
    have e3 : 0 < D * E := Nat.mul_pos HR.out.pos HQ.out.pos
    skip
    generalize W64 ^ (L + K + 1) = P at *
    generalize W64 ^ (L + K) = Q at *
    refine ⟨?_, ?_, ?_⟩ <;> omega)
  clear hR hQ hB hr hq
  obtain ⟨W2, hW2⟩ : ∃ W2, W2 = w1.alloc (.cells #[.pointer (some ⟨b1, 0, none⟩)] 102) := ⟨_, rfl⟩
  have hb2 : Below w1.heap.size w1 W2 := by rw [hW2]; exact Below.alloc' (Below.refl _ _) _
  have c0 : W2.cell? ⟨w1.heap.size, 0, none⟩ = some (.pointer (some ⟨b1, 0, none⟩)) := by rw [hW2]; exact alloc_new _ _ _ rfl rfl
  have HW2 := Lib.hid hW2
  clear hW2
  go_upto_region 76 with fail
  rw [← HW2.out]
  have HB2 := Lib.hid (Below.then HB.out (Nat.le_refl _) hb2)
  have HR2 := Lib.hid (HR.out.keep hb2)
  have HQ2 := Lib.hid (HQ.out.keep hb2)
  have HK2 := Lib.hid (HK.out.keep HB2.out)
  have HT2 := Lib.hid (HT.out.keep HB2.out)
  clear HR HQ HK HT hb2 HW2
  go_wp2_with fail
  refine (newRat_any _).mono ?_
  rintro e w3 ⟨rfl, hw3⟩
  have hb3 : Below W2.heap.size W2 w3 := by rw [hw3]; exact Below.alloc' (Below.refl _ _) _
  have HN3 := Lib.hid (show NewRat w3 W2.heap.size from by rw [hw3]; exact newRat_is W2)
  have HB3 := Lib.hid hb3
  have HS3 := Lib.hid (show w3.heap.size = W2.heap.size + 1 from by rw [hw3]; simp)
  have hk := HK2.out
  unfold Thr at hk
  have HG := Lib.hid (ratAdd_new W2.heap.size b1 b2 s t N D M E w3 (HK2.out.keep hb3) (HT2.out.keep hb3) HN3.out (HR2.out.keep hb3) (HQ2.out.keep hb3) (Nat.ne_of_lt HR2.out.a.blk.lt) (Nat.ne_of_lt HQ2.out.a.blk.lt) (Nat.ne_of_gt (block_lt HT2.out)) (Nat.ne_of_gt (block_lt hk)) L K hL HS.out.1.1 HS.out.1.2 HS.out.2.1 HS.out.2.2)
  clear hw3 hb3 c0 hk
  go_wp2_with fail
  refine HG.out.mono ?_
  rintro e w4 ⟨rfl, hR4, hU4⟩
  have HR4 := Lib.hid hR4
  have HB4 := Lib.hid (hU4.below HB3.out (by have := HS3.out; omega) (fun k _ e => by subst e; exact Nat.le_refl _))
  clear hR4 hU4 HG
  go_wp2_with fail
  refine (makeRatF_any _ _ _ _ (L + K + 1) _ HR4.out (Nat.lt_of_le_of_lt (Nat.div_le_self _ _) HX.out.1) (Nat.lt_of_le_of_lt (Nat.div_le_self _ _) HX.out.2.1) (by omega)).mono ?_
  rintro e w5 ⟨rfl, rfl⟩
  go_wp2
  try rw [Exit.noGoto_ret]
  go_ret
  rw [← plus_over]
  have hz := over_lt (s := decide ((sg s (N * E) + sg t (M * D)) < 0)) HX.out.1 HX.out.2.1
  exact ⟨_, rfl, ⟨_, _, _, _, rfl, HR4.out, rfl⟩, hz.1, hz.2, rok_over _ _ _ HX.out.2.2, Below.then HB2.out (Nat.le_refl _) HB4.out, ⟨_, rfl, HB2.out.size⟩⟩
theorem intSubF (b o b1 o1 b2 o2 : Nat) (s t : Bool) (N M : Nat) (w : World) (h : NewInt w b o) (h1 : BigAt 155 w b1 o1 s N) (h2 : BigAt 155 w b2 o2 t M) (L : Nat) (hL : L ≤ 900000) (hN : N < W64 ^ L) (hM : M < W64 ^ L) :
    Calls Tryz.prog 63 #[.pointer (some ⟨b, o, none⟩), .pointer (some ⟨b1, o1, none⟩), .pointer (some ⟨b2, o2, none⟩)] w (IntFrE b o (decide ((sg s N - sg t M) < 0)) ((sg s N - sg t M)).natAbs w) := by
  obtain ⟨a, n, c, p0, p1, hNN⟩ := h1.val
  obtain ⟨a', n', c', q0, q1, hMM⟩ := h2.val
  have hn : n ≤ 900000 := Nat.le_trans (len_le W64_gt hNN.num.top hN) hL
  have hn' : n' ≤ 900000 := Nat.le_trans (len_le W64_gt hMM.num.top hM) hL
  have HH := Lib.hid h
  have HN := Lib.hid hNN
  have HM := Lib.hid hMM
  have k1 := h.c1
  clear h h1 h2 hNN hMM hN hM
  by_cases hst : s = !t
  · subst hst
    have hsb : ((!t) != t) = true := by cases t <;> rfl
    have H1 := HN
    have H2 := HM
    go_enter Tryz.func63, Tryz.ntmps63
    go_upto_region 2 with fail
    go_quiet (fail)
    go_upto_region 3 with fail
    have hd0 : ∀ q, Below w.heap.size w (w.drewN q) := fun q => below_drewN (Below.refl w.heap.size w) q
    go_region_with
      ((go_at_call 136; (with_reducible refine (natAddF a a' n n' c c' N M _ ?_ ?_ hn hn').mono ?_); exact H1.out.keep (hd0 _); exact H2.out.keep (hd0 _); rintro e w1 ⟨a2, n2, c2, rfl, hN2, hB, hf⟩; have hB1 := Below.then (hd0 _) (Nat.le_refl _) hB; have hf1 := (fun k hk => Nat.le_trans (hd0 _).size (hf k hk) : ∀ k, InB a2 k → w.heap.size ≤ k); have HP := Lib.hid (natAt_pos_len hN2.num); have hcm2 := hN2.num.cm; have hnc2 := hN2.num.nc; have HF := Lib.hid (fun (s' : Bool) (hs : s' = true → 0 < (N + M)) => HH.out.madeF hB1 hN2 hf1 hs); have h' := HH.out.keep hB1; obtain ⟨u0, k0⟩ := h'.c0; have k1' := h'.c1; have f0 := h'.blk.frozen o; have f1 := h'.blk.frozen (o + 1); have k0' : ∀ v, (w1.setCell ⟨b, o + 1, none⟩ v).cell? ⟨b, o, none⟩ = some u0 := (fun v => by rw [World.cell?_setCell_other _ _ _ _ (fun hh => by injection hh with _ hh _; omega)]; exact k0); clear h' hN2 hB hB1 hf hf1))
    all_goals
      clear p0 p1 q0 q1 k1
      by_cases hr : 0 < n2
      · go_wp2
        go_ret
        have hp : 0 < (N + M) := by have := HP.out; simpa [hr] using this.symm
        refine intFr_z (HF.out _ (fun _ => hp)) ?_
        have hpl := (show sg (!t && decide (0 < N + M)) (N + M) = sg (!t) N - sg t M from by rw [sum_same, sg_not t M]; omega)
        simpa [hp] using hpl
      · go_wp2
        go_ret
        have hp : ¬ 0 < (N + M) := by have := HP.out; simpa [hr] using this
        refine intFr_z (HF.out false (by simp)) ?_
        have hpl := (show sg (!t && decide (0 < N + M)) (N + M) = sg (!t) N - sg t M from by rw [sum_same, sg_not t M]; omega)
        simpa [hp] using hpl
  · obtain rfl : s = t := by cases s <;> cases t <;> simp_all
    by_cases hle : M ≤ N
    · have H1 := HN
      have H2 := HM
      have hc := cmpK_ge hle
      go_enter Tryz.func63, Tryz.ntmps63
      go_upto_region 2 with fail
      go_quiet (fail)
      go_upto_region 4 with fail
      go_quiet (first | (go_at_call 137; refine quiet_of2 (natCmp_any _ _ _ _ _ _ N M _ (HN.out.num.drewN _) (HM.out.num.drewN _))))
      generalize cmpI N M = k at *
      go_upto_region 5 with fail
      have hd0 : ∀ q, Below w.heap.size w (w.drewN q) := fun q => below_drewN (Below.refl w.heap.size w) q
      go_region_with
        ((go_at_call 138; (with_reducible refine (natSubF a a' n n' c c' N M _ ?_ ?_ hn hle).mono ?_); exact H1.out.keep (hd0 _); exact H2.out.keep (hd0 _); rintro e w1 ⟨a2, n2, c2, rfl, hN2, hB, hf⟩; have hB1 := Below.then (hd0 _) (Nat.le_refl _) hB; have hf1 := (fun k hk => Nat.le_trans (hd0 _).size (hf k hk) : ∀ k, InB a2 k → w.heap.size ≤ k); have HP := Lib.hid (natAt_pos_len hN2.num); have hcm2 := hN2.num.cm; have hnc2 := hN2.num.nc; have HF := Lib.hid (fun (s' : Bool) (hs : s' = true → 0 < (N - M)) => HH.out.madeF hB1 hN2 hf1 hs); have h' := HH.out.keep hB1; obtain ⟨u0, k0⟩ := h'.c0; have k1' := h'.c1; have f0 := h'.blk.frozen o; have f1 := h'.blk.frozen (o + 1); have k0' : ∀ v, (w1.setCell ⟨b, o + 1, none⟩ v).cell? ⟨b, o, none⟩ = some u0 := (fun v => by rw [World.cell?_setCell_other _ _ _ _ (fun hh => by injection hh with _ hh _; omega)]; exact k0); clear h' hN2 hB hB1 hf hf1))
      all_goals
        clear p0 p1 q0 q1 k1
        by_cases hr : 0 < n2
        · go_wp2
          go_ret
          have hp : 0 < (N - M) := by have := HP.out; simpa [hr] using this.symm
          refine intFr_z (HF.out _ (fun _ => hp)) ?_
          have hpl := (show sg (s && decide (0 < N - M)) (N - M) = sg s N - sg s M from by rw [sum_other (t := !s) (by cases s <;> decide) hle, sg_not]; omega)
          simpa [hp] using hpl
        · go_wp2
          go_ret
          have hp : ¬ 0 < (N - M) := by have := HP.out; simpa [hr] using this
          refine intFr_z (HF.out false (by simp)) ?_
          have hpl := (show sg (s && decide (0 < N - M)) (N - M) = sg s N - sg s M from by rw [sum_other (t := !s) (by cases s <;> decide) hle, sg_not]; omega)
          simpa [hp] using hpl
    · have hlt : N < M := by omega
      have H1 := HM
      have H2 := HN
      have hc := cmpK_lt hlt
      go_enter Tryz.func63, Tryz.ntmps63
      go_upto_region 2 with fail
      go_quiet (fail)
      go_upto_region 4 with fail
      go_quiet (first | (go_at_call 137; refine quiet_of2 (natCmp_any _ _ _ _ _ _ N M _ (HN.out.num.drewN _) (HM.out.num.drewN _))))
      generalize cmpI N M = k at *
      go_upto_region 7 with fail
      have hd0 : ∀ q, Below w.heap.size w (w.drewN q) := fun q => below_drewN (Below.refl w.heap.size w) q
      go_region_with
        ((go_at_call 138; (with_reducible refine (natSubF a' a n' n c' c M N _ ?_ ?_ hn' (Nat.le_of_lt hlt)).mono ?_); exact H1.out.keep (hd0 _); exact H2.out.keep (hd0 _); rintro e w1 ⟨a2, n2, c2, rfl, hN2, hB, hf⟩; have hB1 := Below.then (hd0 _) (Nat.le_refl _) hB; have hf1 := (fun k hk => Nat.le_trans (hd0 _).size (hf k hk) : ∀ k, InB a2 k → w.heap.size ≤ k); have HP := Lib.hid (natAt_pos_len hN2.num); have hcm2 := hN2.num.cm; have hnc2 := hN2.num.nc; have HF := Lib.hid (fun (s' : Bool) (hs : s' = true → 0 < (M - N)) => HH.out.madeF hB1 hN2 hf1 hs); have h' := HH.out.keep hB1; obtain ⟨u0, k0⟩ := h'.c0; have k1' := h'.c1; have f0 := h'.blk.frozen o; have f1 := h'.blk.frozen (o + 1); have k0' : ∀ v, (w1.setCell ⟨b, o + 1, none⟩ v).cell? ⟨b, o, none⟩ = some u0 := (fun v => by rw [World.cell?_setCell_other _ _ _ _ (fun hh => by injection hh with _ hh _; omega)]; exact k0); clear h' hN2 hB hB1 hf hf1))
      all_goals
        clear p0 p1 q0 q1 k1
        by_cases hr : 0 < n2
        · go_wp2
          go_ret
          have hp : 0 < (M - N) := by have := HP.out; simpa [hr] using this.symm
          refine intFr_z (HF.out _ (fun _ => hp)) ?_
          have hpl := (show sg (!s && decide (0 < M - N)) (M - N) = sg s N - sg s M from by rw [sum_other' (t := !s) (by cases s <;> decide) hlt, sg_not]; omega)
          simpa [hp] using hpl
        · go_wp2
          go_ret
          have hp : ¬ 0 < (M - N) := by have := HP.out; simpa [hr] using this
          refine intFr_z (HF.out false (by simp)) ?_
          have hpl := (show sg (!s && decide (0 < M - N)) (M - N) = sg s N - sg s M from by rw [sum_other' (t := !s) (by cases s <;> decide) hlt, sg_not]; omega)
          simpa [hp] using hpl
theorem ratSub_new (zb b1 b2 : Nat) (s t : Bool) (N D M E : Nat) (w : World) (hK : Thr w) (hT : ThrD w) (h : NewRat w zb) (h1 : RatAt 155 w b1 s N D) (h2 : RatAt 155 w b2 t M E) (ne1 : b1 ≠ zb) (ne2 : b2 ≠ zb) (hv : zb ≠ 3) (hvk : zb ≠ 2) (L K : Nat) (hL : L + K ≤ 38) (hN : N < W64 ^ L) (hD : D < W64 ^ L) (hM : M < W64 ^ K) (hE : E < W64 ^ K) :
    Calls Tryz.prog 77 #[.pointer (some ⟨zb, 0, none⟩), .pointer (some ⟨b1, 0, none⟩), .pointer (some ⟨b2, 0, none⟩)] w (FracIs zb (decide ((sg s (N * E) - sg t (M * D)) < 0)) ((sg s (N * E) - sg t (M * D))).natAbs (D * E) w) := by
  have lz : zb < w.heap.size := h.blk.lt
  have l1 : b1 < w.heap.size := h1.a.blk.lt
  have l2 : b2 < w.heap.size := h2.a.blk.lt
  obtain ⟨aD, nD, cD, _, qD, hND⟩ := h1.d.val
  obtain ⟨aE, nE, cE, _, qE, hNE⟩ := h2.d.val
  have qD' : w.cell? ⟨b1, 3, none⟩ = some (.slice aD nD cD) := qD
  have qE' : w.cell? ⟨b2, 3, none⟩ = some (.slice aE nE cE) := qE
  have hnD : nD < 40 := Nat.lt_of_le_of_lt (len_le W64_gt hND.num.top hD) (by omega)
  have hnE : nE < 40 := Nat.lt_of_le_of_lt (len_le W64_gt hNE.num.top hE) (by omega)
  have HSZ := Lib.hid (show N * E < W64 ^ (L + K) ∧ M * D < W64 ^ (L + K) ∧ D * E < W64 ^ (L + K) from by
    rw [Nat.pow_add, Nat.mul_comm M D]
    exact ⟨Nat.mul_lt_mul'' hN hE, Nat.mul_lt_mul'' hD hM, Nat.mul_lt_mul'' hD hE⟩)
  have HQ := Lib.hid (⟨qD', qE', hND, hNE⟩ : w.cell? ⟨b1, 3, none⟩ = some (.slice aD nD cD) ∧ w.cell? ⟨b2, 3, none⟩ = some (.slice aE nE cE) ∧ BigN 155 w aD nD cD D ∧ BigN 155 w aE nE cE E)
  have H1 := Lib.hid h1
  have H2 := Lib.hid h2
  have HZ := Lib.hid h
  have HK := Lib.hid hK
  have HT := Lib.hid hT
  have HL := Lib.hid (⟨hN, hD, hM, hE, hv⟩ : N < W64 ^ L ∧ D < W64 ^ L ∧ M < W64 ^ K ∧ E < W64 ^ K ∧ zb ≠ 3)
  have HNE := Lib.hid (⟨ne1, ne2, hvk⟩ : b1 ≠ zb ∧ b2 ≠ zb ∧ zb ≠ 2)
  obtain ⟨W3, hW3⟩ : ∃ W3, W3 = ((w.alloc (.cells #[.pointer none] 225)).alloc (.cells #[.bool false, .slice none 0 0] 168)).alloc (.cells #[.bool false, .slice none 0 0] 168) := ⟨_, rfl⟩
  have HW3 := Lib.hid hW3
  have hB3 : Below w.heap.size w W3 := by rw [hW3]; exact Below.alloc' (Below.alloc' (Below.alloc' (Below.refl _ _) _) _) _
  have A3 := Lib.hid (show NewInt W3 (w.heap.size + 1) 0 from by rw [hW3]; have := newInt_is (w.alloc (.cells #[.pointer none] 225)); simp at this; exact this.keep (Below.alloc' (Below.refl _ _) _))
  have B3 := Lib.hid (show NewInt W3 (w.heap.size + 1 + 1) 0 from by rw [hW3]; simpa using newInt_is ((w.alloc (.cells #[.pointer none] 225)).alloc (.cells #[.bool false, .slice none 0 0] 168)))
  have HB3 := Lib.hid hB3
  clear hW3 hB3 qD qE qD' qE' hND hNE h1 h2 h hK hT hN hD hM hE hv ne1 ne2 hvk
  go_enter_defers Tryz.func77, Tryz.ntmps77
  go_wp2_with fail
  refine (getStack_any _).mono ?_
  rintro e w1 ⟨rfl, rfl⟩
  go_upto_region 4 with fail
  rw [← HW3.out]
  have hd3 : Below W3.heap.size W3 W3.drew := (Below.refl _ _).drew
  have hb3 := Below.then HB3.out (Nat.le_refl _) hd3
  have cE3 : W3.cell? ⟨b2, 3, none⟩ = some (.slice aE nE cE) := cell_keep HQ.out.2.1 HB3.out
  have cE3' : W3.drew.cell? ⟨b2, 3, none⟩ = some (.slice aE nE cE) := cell_keep cE3 hd3
  go_region_held3 (fun w' => w'.cell? ⟨b2, 3, none⟩ = some (.slice aE nE cE))
    (first | with_reducible exact cE3 | with_reducible exact cE3' | exact cell_keep cE3 (by assumption) | with_reducible exact q23)
    ((go_at_call 153; (with_reducible refine (scaleDenomF (w.heap.size + 1) 0 b1 0 s N aE nE cE E _ _ ?_ ?_ ?_ ?_ H2.out.pos ?_ (L + K) (by omega) (Nat.lt_of_lt_of_le HL.out.1 (Nat.pow_le_pow_right W64_pos (by omega))) (Nat.lt_of_lt_of_le HL.out.2.2.2.1 (Nat.pow_le_pow_right W64_pos (by omega)))).mono ?_); exact HK.out.keep hb3; exact A3.out.keep hd3; exact (H1.out.keep hb3).a; exact HQ.out.2.2.2.keep hb3; omega; rintro e w4 ⟨rfl, hF⟩; have hO4 := IntFr.own hF (A3.out.keep hd3); have hB4 : Below w.heap.size w w4 := (hO4.2.1.below hb3 hb3.size (fun k _ e => by omega)); have q23 : w4.cell? ⟨b2, 3, none⟩ = some (.slice aE nE cE) := cell_keep HQ.out.2.1 hB4))
  have HF4 := Lib.hid hF
  have HB4 := Lib.hid hB4
  have B4 := Lib.hid (NewInt.updU (B3.out.keep hd3) hO4.2.1 (Nat.succ_ne_self _))
  clear hF hB4 hO4 q23 cE3 cE3' hd3 hb3
  have hd4 : Below w4.heap.size w4 w4.drew := (Below.refl _ _).drew
  have hb4 := Below.then HB4.out (Nat.le_refl _) hd4
  have cD4 : w4.cell? ⟨b1, 3, none⟩ = some (.slice aD nD cD) := cell_keep HQ.out.1 HB4.out
  have cD4' : w4.drew.cell? ⟨b1, 3, none⟩ = some (.slice aD nD cD) := cell_keep cD4 hd4
  go_upto_region 5 with fail
  go_region_held3 (fun w' => w'.cell? ⟨b1, 3, none⟩ = some (.slice aD nD cD))
    (first | with_reducible exact cD4 | with_reducible exact cD4' | exact cell_keep cD4 (by assumption) | with_reducible exact q23)
    ((go_at_call 153; (with_reducible refine (scaleDenomF (w.heap.size + 1 + 1) 0 b2 0 t M aD nD cD D _ _ ?_ ?_ ?_ ?_ H1.out.pos ?_ (L + K) (by omega) (Nat.lt_of_lt_of_le HL.out.2.2.1 (Nat.pow_le_pow_right W64_pos (by omega))) (Nat.lt_of_lt_of_le HL.out.2.1 (Nat.pow_le_pow_right W64_pos (by omega)))).mono ?_); exact HK.out.keep hb4; exact B4.out.keep hd4; exact (H2.out.keep hb4).a; exact HQ.out.2.2.1.keep hb4; omega; rintro e w5 ⟨rfl, hF⟩; have hO5 := IntFr.own hF (B4.out.keep hd4); have hB5 : Below w.heap.size w w5 := (hO5.2.1.below hb4 hb4.size (fun k _ e => by omega)); have q23 : w5.cell? ⟨b1, 3, none⟩ = some (.slice aD nD cD) := cell_keep HQ.out.1 hB5))
  obtain ⟨x1, m1, k1, x2, m2, k2, hT5, hz1, hz2⟩ := two_done HW3.out HF4.out hF
  have HT5 := Lib.hid hT5
  have HZZ := Lib.hid (⟨hz1, hz2⟩ : (s = true → 0 < N * E) ∧ (t = true → 0 < M * D))
  have HZ5 := Lib.hid (HZ.out.keep hT5.bel)
  clear hF hB5 hO5 q23 cD4 cD4' hd4 hb4 HF4 HB4 B4 A3 B3 hT5 hz1 hz2
  go_wp2_with fail
  refine (intSubF zb 0 (w.heap.size + 1) 0 (w.heap.size + 1 + 1) 0 s t (N * E) (M * D) _ HZ5.out.a (HT5.out.a.toAt HZZ.out.1) (HT5.out.d.toAt HZZ.out.2) (L + K) (by omega) HSZ.out.1 HSZ.out.2.1).mono ?_
  rintro e w6 ⟨rfl, hF⟩
  obtain ⟨a, n, c, hF6⟩ := IntFr.frac hF HZ5.out
  have HF6 := Lib.hid hF6
  have HU6 := Lib.hid hF6.upd
  have hd6 : Below w6.heap.size w6 w6.drew := (Below.refl _ _).drew
  have z6 := hF6.raw.k3
  have d6 : w6.cell? ⟨b1, 3, none⟩ = some (.slice aD nD cD) := by rw [HU6.out.cell (p := ⟨b1, 3, none⟩) (Nat.lt_of_lt_of_le l1 HT5.out.bel.size) (fun e => HNE.out.1 e)]; exact cell_keep HQ.out.1 HT5.out.bel
  have e6 : w6.cell? ⟨b2, 3, none⟩ = some (.slice aE nE cE) := by rw [HU6.out.cell (p := ⟨b2, 3, none⟩) (Nat.lt_of_lt_of_le l2 HT5.out.bel.size) (fun e => HNE.out.2.1 e)]; exact cell_keep HQ.out.2.1 HT5.out.bel
  have HMD := Lib.hid (fun p => mulDenomF p aD aE nD nE cD cE D E w6.drew
    (show Thr w6.drew from Thr.keep (by have h0 := HK.out.keep HT5.out.bel; unfold Thr at h0 ⊢; rw [HU6.out.cell (block_lt h0) (fun e => HNE.out.2.2 e.symm)]; exact h0) hd6)
    (((HQ.out.2.2.1.keep HT5.out.bel).apart HU6.out (fun k hk e => by subst e; exact HZ.out.blk.notIn HQ.out.2.2.1 hk)).keep hd6) (((HQ.out.2.2.2.keep HT5.out.bel).apart HU6.out (fun k hk e => by subst e; exact HZ.out.blk.notIn HQ.out.2.2.2 hk)).keep hd6) H1.out.pos H2.out.pos hnD hnE)
  clear hF hF6
  go_upto_region 7 with fail
  go_cut [] from 36 to 56 (fun wx => ∃ a n c a' n' c', FracUp w5 zb (decide ((sg s (N * E) - sg t (M * D)) < 0)) ((sg s (N * E) - sg t (M * D))).natAbs (D * E) wx a n c a' n' c')
  case first =>
    refine wp_region_noPanic ?_
    go_region_with
      ((go_at_call 154; (with_reducible refine (HMD.out _).mono ?_); rintro e w7 ⟨a2, n2, c2, rfl, hQ, hB, hf⟩; have HF7 := Lib.hid (HF6.out.setD hd6 (Upd.of_below hB) hQ (fun k hk => .inr (hf k hk))); have z7 : w7.cell? ⟨zb, 3, none⟩ = some (.slice none 0 0) := cell_keep (cell_keep z6 hd6) hB; have g7 := ((HF6.out.raw.blk.keep hd6).keep hB).frozen 3; clear hQ hB hf))
    all_goals
      refine NoPanic.normal ?_
      go_wp2_with fail
      go_meet
      exact ⟨_, _, _, _, _, _, HF7.out⟩
  case rest =>
  obtain ⟨b, m, k, b', m', k', hF8⟩ := hcut
  have HF8 := Lib.hid hF8
  have HZN := Lib.hid (show ((sg s (N * E) - sg t (M * D))).natAbs < W64 ^ (L + K + 1) from by
    have h1 := HSZ.out.1
    have h2 := HSZ.out.2.1
    have h3 := pow_step (L + K)
    have e1 := sg_nat s (N * E)
    have e2 := sg_nat t (M * D)
    generalize W64 ^ (L + K + 1) = P at *
    generalize W64 ^ (L + K) = Q at *
    omega)
  have HDE := Lib.hid (show D * E < W64 ^ (L + K + 1) from Nat.lt_of_lt_of_le HSZ.out.2.2 (Nat.pow_le_pow_right W64_pos (by omega)))
  clear hF8 HF6 HU6 HMD hd6 z6 d6 e6
  go_wp2_with fail
  refine (HF8.out.norm (HT.out.keep HT5.out.bel) HL.out.2.2.2.2 (Nat.mul_pos H1.out.pos H2.out.pos) (L + K + 1) (by omega) HZN.out HDE.out).mono ?_
  rintro e w9 ⟨rfl, hR9, hU9⟩
  have HR9 := Lib.hid hR9
  have HU9 := Lib.hid hU9
  clear hR9 hU9
  go_wp2
  refine leaves_cons (f := 152) (args := #[.pointer (some ⟨w.heap.size, 0, none⟩)]) (by simp) (by simp [go_sem]) ?_
  refine (stkFree_any w.heap.size 0 none .returning _ ⟨rfl, HU9.out.blk HT5.out.stk (by omega)⟩).mono ?_
  rintro e u' w10 ⟨rfl, rfl, hU⟩
  have hU' : Below _ _ w10 := hU.toBelow (fun k _ ⟨_, _, h, _⟩ => by cases h)
  exact ⟨_, results_tmp rfl _ _ _, rfl, HR9.out.keep hU', ((Upd.of_below HT5.out.bel).trans HU9.out).then hU'⟩
theorem binRSub_any (v1 v2 : Value) (r q : Rt) (w : World) (hK : Thr w) (hT : ThrD w) (hm : Calls Tryz.prog 57 #[v1, v2] w (MatR r q w)) (L K : Nat) (hL : L + K ≤ 38) (hr : r.num < W64 ^ L ∧ r.den < W64 ^ L) (hq : q.num < W64 ^ K ∧ q.den < W64 ^ K) :
    Calls Tryz.prog 37 #[v1, .int .i64 13, v2] w fun e w' => ∃ u, e = .returned u ∧ CRat w' u (Rt.minus r q) ∧ (Rt.minus r q).num < W64 ^ (L + K + 1) ∧ (Rt.minus r q).den < W64 ^ (L + K + 1) ∧ ROk (Rt.minus r q) ∧ Below w.heap.size w w' ∧ NewQ w.heap.size u := by
  have HM := Lib.hid hm
  have HK := Lib.hid hK
  have HT := Lib.hid hT
  clear hm hK hT
  go_enter Tryz.func37, Tryz.ntmps37
  go_wp2
  refine wp_scope_straight ?_
  go_wp2_with fail
  refine HM.out.mono ?_
  rintro e w1 ⟨u1, u2, rfl, ⟨b1, s, N, D, rfl, hR, rfl⟩, ⟨b2, t, M, E, rfl, hQ, rfl⟩, hB⟩
  obtain ⟨t1, t2, t3, t4, t5, t6, t7, t8, t9⟩ := ta_ratVal
  have HR := Lib.hid hR
  have HQ := Lib.hid hQ
  have HB := Lib.hid hB
  have HS := Lib.hid (⟨hr, hq⟩ : (N < W64 ^ L ∧ D < W64 ^ L) ∧ (M < W64 ^ K ∧ E < W64 ^ K))
  have hfld := field_ratVal
  skip
  have HX := Lib.hid (show (sg s (N * E) - sg t (M * D)).natAbs < W64 ^ (L + K + 1) ∧ (D * E) < W64 ^ (L + K + 1) ∧ 0 < (D * E) from by
    have h3 := pow_step (L + K)
    have a1 : N * E < W64 ^ (L + K) := by rw [Nat.pow_add]; exact Nat.mul_lt_mul'' HS.out.1.1 HS.out.2.2
    have a2 : M * D < W64 ^ (L + K) := by rw [Nat.pow_add, Nat.mul_comm]; exact Nat.mul_lt_mul'' HS.out.1.2 HS.out.2.1
    have a3 : D * E < W64 ^ (L + K) := by rw [Nat.pow_add]; exact Nat.mul_lt_mul'' HS.out.1.2 HS.out.2.2
    have e1 := sg_nat s (N * E)
    have e2 := sg_nat t (M * D)
    have e3 : 0 < D * E := Nat.mul_pos HR.out.pos HQ.out.pos
    skip
    generalize W64 ^ (L + K + 1) = P at *
    generalize W64 ^ (L + K) = Q at *
    refine ⟨?_, ?_, ?_⟩ <;> omega)
  clear hR hQ hB hr hq
  obtain ⟨W2, hW2⟩ : ∃ W2, W2 = w1.alloc (.cells #[.pointer (some ⟨b1, 0, none⟩)] 102) := ⟨_, rfl⟩
  have hb2 : Below w1.heap.size w1 W2 := by rw [hW2]; exact Below.alloc' (Below.refl _ _) _
  have c0 : W2.cell? ⟨w1.heap.size, 0, none⟩ = some (.pointer (some ⟨b1, 0, none⟩)) := by rw [hW2]; exact alloc_new _ _ _ rfl rfl
  have HW2 := Lib.hid hW2
  clear hW2
  go_upto_region 76 with fail
  rw [← HW2.out]
  have HB2 := Lib.hid (Below.then HB.out (Nat.le_refl _) hb2)
  have HR2 := Lib.hid (HR.out.keep hb2)
  have HQ2 := Lib.hid (HQ.out.keep hb2)
  have HK2 := Lib.hid (HK.out.keep HB2.out)
  have HT2 := Lib.hid (HT.out.keep HB2.out)
  clear HR HQ HK HT hb2 HW2
  go_wp2_with fail
  refine (newRat_any _).mono ?_
  rintro e w3 ⟨rfl, hw3⟩
  have hb3 : Below W2.heap.size W2 w3 := by rw [hw3]; exact Below.alloc' (Below.refl _ _) _
  have HN3 := Lib.hid (show NewRat w3 W2.heap.size from by rw [hw3]; exact newRat_is W2)
  have HB3 := Lib.hid hb3
  have HS3 := Lib.hid (show w3.heap.size = W2.heap.size + 1 from by rw [hw3]; simp)
  have hk := HK2.out
  unfold Thr at hk
  have HG := Lib.hid (ratSub_new W2.heap.size b1 b2 s t N D M E w3 (HK2.out.keep hb3) (HT2.out.keep hb3) HN3.out (HR2.out.keep hb3) (HQ2.out.keep hb3) (Nat.ne_of_lt HR2.out.a.blk.lt) (Nat.ne_of_lt HQ2.out.a.blk.lt) (Nat.ne_of_gt (block_lt HT2.out)) (Nat.ne_of_gt (block_lt hk)) L K hL HS.out.1.1 HS.out.1.2 HS.out.2.1 HS.out.2.2)
  clear hw3 hb3 c0 hk
  go_wp2_with fail
  refine HG.out.mono ?_
  rintro e w4 ⟨rfl, hR4, hU4⟩
  have HR4 := Lib.hid hR4
  have HB4 := Lib.hid (hU4.below HB3.out (by have := HS3.out; omega) (fun k _ e => by subst e; exact Nat.le_refl _))
  clear hR4 hU4 HG
  go_wp2_with fail
  refine (makeRatF_any _ _ _ _ (L + K + 1) _ HR4.out (Nat.lt_of_le_of_lt (Nat.div_le_self _ _) HX.out.1) (Nat.lt_of_le_of_lt (Nat.div_le_self _ _) HX.out.2.1) (by omega)).mono ?_
  rintro e w5 ⟨rfl, rfl⟩
  go_wp2
  try rw [Exit.noGoto_ret]
  go_ret
  rw [← minus_over]
  have hz := over_lt (s := decide ((sg s (N * E) - sg t (M * D)) < 0)) HX.out.1 HX.out.2.1
  exact ⟨_, rfl, ⟨_, _, _, _, rfl, HR4.out, rfl⟩, hz.1, hz.2, rok_over _ _ _ HX.out.2.2, Below.then HB2.out (Nat.le_refl _) HB4.out, ⟨_, rfl, HB2.out.size⟩⟩
structure PLt (r q : Rt) (L : Nat) : Prop where
  l1 : 1 ≤ L
  l2 : L ≤ 63
  n1 : r.num < W64 ^ L
  d1 : r.den < W64 ^ L
  n2 : q.num < W64 ^ L
  d2 : q.den < W64 ^ L
  ok1 : ROk r
  ok2 : ROk q
def Part (w : World) (v : Value) (r : Rt) : Prop := CRat w v r ∨ (v = .iface 87 (.int .i64 0) ∧ r = rz 0)
theorem Part.keep {w w' : World} {v : Value} {r : Rt} (h : Part w v r) (hb : Below w.heap.size w w') : Part w' v r := by
  rcases h with h | h
  · exact .inl (h.keep hb)
  · exact .inr h
theorem cint_zero (w : World) : CInt w (.iface 87 (.int .i64 0)) 0 := .inl ⟨rfl, by decide⟩
theorem orKeep {w w' : World} {v1 v2 : Value} {r q : Rt} (h : CRat w v1 r ∨ CRat w v2 q) (hb : Below w.heap.size w w') : CRat w' v1 r ∨ CRat w' v2 q := h.imp (fun h => h.keep hb) (fun h => h.keep hb)
theorem matchP_any {w : World} {v1 v2 : Value} {r q : Rt} (h1 : Part w v1 r) (h2 : Part w v2 q) (hx : CRat w v1 r ∨ CRat w v2 q) : Calls Tryz.prog 57 #[v1, v2] w (MatR r q w) := by
  rcases hx with hx | hx
  · rcases h2 with h2 | ⟨rfl, rfl⟩
    · exact matchRR_any v1 v2 r q w hx h2
    · exact matchRI_any _ v1 0 r w (cint_zero w) hx 0 (by omega) (by decide)
  · rcases h1 with h1 | ⟨rfl, rfl⟩
    · exact matchRR_any v1 v2 r q w h1 hx
    · exact matchIR_any _ v2 0 q w (cint_zero w) hx 0 (by omega) (by decide)
theorem Part.iface {w : World} {v : Value} {r : Rt} (h : Part w v r) : ∃ t x, v = .iface t x := by
  rcases h with ⟨b, s, N, D, rfl, _⟩ | ⟨rfl, _⟩
  · exact ⟨_, _, rfl⟩
  · exact ⟨_, _, rfl⟩
theorem rz0_lt : (rz 0).num < W64 ^ 1 ∧ (rz 0).den < W64 ^ 1 := ⟨Nat.pow_pos W64_pos, Nat.one_lt_pow (by decide) W64_gt⟩
theorem addP_any (v1 v2 : Value) (r q : Rt) (w : World) (hK : Thr w) (hT : ThrD w) (h1 : Part w v1 r) (h2 : Part w v2 q) (hx : CRat w v1 r ∨ CRat w v2 q) (L K : Nat) (hL : L + K ≤ 38) (hr : r.num < W64 ^ L ∧ r.den < W64 ^ L) (hq : q.num < W64 ^ K ∧ q.den < W64 ^ K) :
    Calls Tryz.prog 86 #[v1, v2] w fun e w' => ∃ u, e = .returned u ∧ RSing w.heap.size w' u (Rt.plus r q) ∧ Below w.heap.size w w' :=
  add_of v1 v2 w (fun w' u => RSing w.heap.size w' u (Rt.plus r q) ∧ Below w.heap.size w w') ((binRAdd_any v1 v2 r q w hK hT (matchP_any h1 h2 hx) L K hL hr hq).mono fun e w' ⟨u, he, hu, _, _, _, hB, hn⟩ => ⟨u, he, newQ_rat hu hn, hB⟩)
theorem subP_any (v1 v2 : Value) (r q : Rt) (w : World) (hK : Thr w) (hT : ThrD w) (h1 : Part w v1 r) (h2 : Part w v2 q) (hx : CRat w v1 r ∨ CRat w v2 q) (L K : Nat) (hL : L + K ≤ 38) (hr : r.num < W64 ^ L ∧ r.den < W64 ^ L) (hq : q.num < W64 ^ K ∧ q.den < W64 ^ K) :
    Calls Tryz.prog 87 #[v1, v2] w fun e w' => ∃ u, e = .returned u ∧ RSing w.heap.size w' u (Rt.minus r q) ∧ Below w.heap.size w w' :=
  sub_of v1 v2 w (fun w' u => RSing w.heap.size w' u (Rt.minus r q) ∧ Below w.heap.size w w') ((binRSub_any v1 v2 r q w hK hT (matchP_any h1 h2 hx) L K hL hr hq).mono fun e w' ⟨u, he, hu, _, _, _, hB, hn⟩ => ⟨u, he, newQ_rat hu hn, hB⟩)
theorem binCAdd_core (v1 v2 : Value) (t1 t2 t3 t4 : TypeId) (x1 x2 x3 x4 : Value) (r1 q1 r2 q2 : Rt) (L1 K1 L2 K2 : Nat) (w : World) (hK : Thr w) (hT : ThrD w)
    (hm : Calls Tryz.prog 57 #[v1, v2] w fun e w' => e = .returned (.tuple #[.iface 111 (.agg #[.iface t1 x1, .iface t2 x2]), .iface 111 (.agg #[.iface t3 x3, .iface t4 x4])]) ∧ Below w.heap.size w w')
    (h1 : Part w (.iface t1 x1) r1) (h2 : Part w (.iface t2 x2) q1) (h3 : Part w (.iface t3 x3) r2) (h4 : Part w (.iface t4 x4) q2) (hx : CRat w (.iface t1 x1) r1 ∨ CRat w (.iface t3 x3) r2) (hy : CRat w (.iface t2 x2) q1 ∨ CRat w (.iface t4 x4) q2)
    (hL1 : L1 + K1 ≤ 38) (hL2 : L2 + K2 ≤ 38) (s1 : r1.num < W64 ^ L1 ∧ r1.den < W64 ^ L1) (s2 : r2.num < W64 ^ K1 ∧ r2.den < W64 ^ K1) (s3 : q1.num < W64 ^ L2 ∧ q1.den < W64 ^ L2) (s4 : q2.num < W64 ^ K2 ∧ q2.den < W64 ^ K2) :
    Calls Tryz.prog 37 #[v1, .int .i64 12, v2] w fun e w' => ∃ u, e = .returned u ∧ CPair w.heap.size w' u (Rt.plus r1 r2) (Rt.plus q1 q2) ∧ Below w.heap.size w w' := by
  have HM := Lib.hid hm
  have HK := Lib.hid hK
  have HT := Lib.hid hT
  have HP := Lib.hid (⟨h1, h2, h3, h4⟩ : Part w (.iface t1 x1) r1 ∧ Part w (.iface t2 x2) q1 ∧ Part w (.iface t3 x3) r2 ∧ Part w (.iface t4 x4) q2)
  have HX := Lib.hid (⟨hx, hy⟩ : (CRat w (.iface t1 x1) r1 ∨ CRat w (.iface t3 x3) r2) ∧ (CRat w (.iface t2 x2) q1 ∨ CRat w (.iface t4 x4) q2))
  have HS := Lib.hid (⟨s1, s2, s3, s4⟩ : (r1.num < W64 ^ L1 ∧ r1.den < W64 ^ L1) ∧ (r2.num < W64 ^ K1 ∧ r2.den < W64 ^ K1) ∧ (q1.num < W64 ^ L2 ∧ q1.den < W64 ^ L2) ∧ (q2.num < W64 ^ K2 ∧ q2.den < W64 ^ K2))
  clear hm hK hT h1 h2 h3 h4 hx hy s1 s2 s3 s4
  go_enter Tryz.func37, Tryz.ntmps37
  go_wp2
  refine wp_scope_straight ?_
  go_wp2_with fail
  refine HM.out.mono ?_
  rintro e w1 ⟨rfl, hB⟩
  have HB := Lib.hid hB
  clear hB
  obtain ⟨u1, u2, u3, u4, u5, u6, u7, u8, u9⟩ := ta_complexVal
  obtain ⟨W2, hW2⟩ : ∃ W2, W2 = (w1.alloc (.cells #[.iface t1 x1, .iface t2 x2] 111)).alloc (.cells #[.iface t3 x3, .iface t4 x4] 111) := ⟨_, rfl⟩
  have hb2 : Below w1.heap.size w1 W2 := by rw [hW2]; exact Below.alloc' (Below.alloc' (Below.refl _ _) _) _
  have c0 : W2.cell? ⟨w1.heap.size, 0, none⟩ = some (.iface t1 x1) := by rw [hW2]; exact alloc_keep _ _ (alloc_new _ _ _ rfl rfl)
  have c1 : W2.cell? ⟨w1.heap.size, 1, none⟩ = some (.iface t2 x2) := by rw [hW2]; exact alloc_keep _ _ (alloc_new _ _ _ rfl rfl)
  have c2 : W2.cell? ⟨w1.heap.size + 1, 0, none⟩ = some (.iface t3 x3) := by rw [hW2]; exact alloc_new _ _ _ (by simp) rfl
  have c3 : W2.cell? ⟨w1.heap.size + 1, 1, none⟩ = some (.iface t4 x4) := by rw [hW2]; exact alloc_new _ _ _ (by simp) rfl
  have HW2 := Lib.hid hW2
  have HBQ := Lib.hid (fun q => (Below.then (Below.then HB.out (Nat.le_refl _) hb2) (Nat.le_refl _) (below_of_drewN ⟨q, rfl⟩) : Below w.heap.size w (W2.drewN q)))
  clear hW2 hb2
  go_upto_region 107 with fail
  rw [← HW2.out]
  go_quiet (fail)
  go_upto_region 108 with fail
  go_quiet (fail)
  clear c0 c1 c2 c3
  go_wp2_with fail
  refine (addP_any _ _ r1 r2 _ (HK.out.keep (HBQ.out _)) (HT.out.keep (HBQ.out _)) (HP.out.1.keep (HBQ.out _)) (HP.out.2.2.1.keep (HBQ.out _)) (orKeep HX.out.1 (HBQ.out _)) L1 K1 hL1 HS.out.1 HS.out.2.1).mono ?_
  rintro e w3 ⟨_, rfl, ⟨b1, rfl, hR1, hle1⟩, hB3⟩
  have hb3 := Below.then (HBQ.out _) (Nat.le_refl _) hB3
  have HR1 := Lib.hid hR1
  have HE1 := Lib.hid (Nat.le_trans (HBQ.out _).size hle1)
  clear hR1 hle1 hB3
  go_wp2_with fail
  refine (addP_any _ _ q1 q2 _ (HK.out.keep hb3) (HT.out.keep hb3) (HP.out.2.1.keep hb3) (HP.out.2.2.2.keep hb3) (orKeep HX.out.2 hb3) L2 K2 hL2 HS.out.2.2.1 HS.out.2.2.2).mono ?_
  rintro e w4 ⟨_, rfl, ⟨b2, rfl, hR2, hle2⟩, hB4⟩
  have HR1' := Lib.hid (HR1.out.keep hB4)
  have HR2 := Lib.hid hR2
  have HE2 := Lib.hid (Nat.le_trans hb3.size hle2)
  have hb4 := Below.then hb3 (Nat.le_refl _) hB4
  clear hR2 hle2 hB4 hb3
  go_wp2_with fail
  refine (makeComplex_any _ _ _ (.inr (.inr ⟨_, rfl⟩)) (.inr (.inr ⟨_, rfl⟩))).mono ?_
  rintro e w5 ⟨rfl, hB5⟩
  have hb5 := Below.then hb4 (Nat.le_refl _) hB5
  go_wp2
  try rw [Exit.noGoto_ret]
  go_ret
  exact ⟨_, rfl, ⟨_, _, rfl, HR1'.out.keep hB5, HR2.out.keep hB5, HE1.out, HE2.out⟩, hb5⟩
theorem binMadeC_any (b1 b2 : Nat) (r q : Rt) (L : Nat) (hL : L ≤ 37) (w : World) (hK : Thr w) (hT : ThrD w) (h1 : RatAt 155 w b1 r.neg r.num r.den) (h2 : RatAt 155 w b2 q.neg q.num q.den) (p : PLt r q L) :
    Calls Tryz.prog 37 #[.iface 102 (.agg #[.pointer (some ⟨b1, 0, none⟩)]), .int .i64 12, .iface 111 (.agg #[.iface 87 (.int .i64 0), .iface 102 (.agg #[.pointer (some ⟨b2, 0, none⟩)])])] w fun e w' => ∃ u, e = .returned u ∧ CPair w.heap.size w' u r q ∧ Below w.heap.size w w' := by
  have := binCAdd_core _ _ _ _ _ _ _ _ _ _ r (rz 0) (rz 0) q L 1 1 L w hK hT (matchRC_any b1 r _ _ w (crat_of h1)) (.inl (crat_of h1)) (.inr ⟨rfl, rfl⟩) (.inr ⟨rfl, rfl⟩) (.inl (crat_of h2)) (.inl (crat_of h1)) (.inr (crat_of h2)) (by omega) (by omega) ⟨p.n1, p.d1⟩ rz0_lt rz0_lt ⟨p.n2, p.d2⟩
  rw [plus_zero p.ok1, zero_plus p.ok2] at this
  exact this
theorem implToComplex_any (x : Vl) (r : Rt) (w : World) (h : VlAt w x) (hm : NumV x r) :
    Calls Tryz.prog 22 #[.agg #[.int .i64 x.kind, .bool x.truth, .string x.text, .bool x.neg, .slice x.wa x.wn x.wc, .slice x.da x.dn x.dc, .bool x.ineg, .slice x.ia x.inn x.ic, .slice x.ea x.en x.ec]] w (GivesV (IsC r (rz 0) 63) w) := by
  obtain ⟨W0, hW0⟩ : ∃ W0, W0 = (w.alloc (.cells #[.int .i64 x.kind, .bool x.truth, .string x.text, .bool x.neg, .slice x.wa x.wn x.wc, .slice x.da x.dn x.dc, .bool x.ineg, .slice x.ia x.inn x.ic, .slice x.ea x.en x.ec] 26)).alloc (.cells #[.int .i64 0, .bool false, .string ⟨#[]⟩, .bool false, .slice none 0 0, .slice none 0 0, .bool false, .slice none 0 0, .slice none 0 0] 26) := ⟨_, rfl⟩
  have HW := Lib.hid hW0
  have hb0 : Below w.heap.size w W0 := by rw [hW0]; exact Below.alloc' (Below.alloc' (Below.refl _ _) _) _
  have X : Box9 W0 w.heap.size x := by rw [hW0]; exact (Box9.new w x _ rfl).alloc _
  have hR : BlkAt W0 (w.heap.size + 1) #[.int .i64 0, .bool false, .string ⟨#[]⟩, .bool false, .slice none 0 0, .slice none 0 0, .bool false, .slice none 0 0, .slice none 0 0] 26 := by
    rw [hW0]
    have := BlkAt.new (w.alloc (.cells #[.int .i64 x.kind, .bool x.truth, .string x.text, .bool x.neg, .slice x.wa x.wn x.wc, .slice x.da x.dn x.dc, .bool x.ineg, .slice x.ia x.inn x.ic, .slice x.ea x.en x.ec] 26)) #[.int .i64 0, .bool false, .string ⟨#[]⟩, .bool false, .slice none 0 0, .slice none 0 0, .bool false, .slice none 0 0, .slice none 0 0] 26
    simpa using this
  have HX := Lib.hid (h.keep hb0)
  have HL := Lib.hid (hm.lt h)
  have HL1 := Lib.hid (show 1 < W64 ^ 63 from Nat.lt_of_lt_of_le W64_gt (by rw [show (63 : Nat) = 62 + 1 from rfl, Nat.pow_succ]; exact Nat.le_mul_of_pos_left _ (Nat.pow_pos W64_pos)))
  have HO := Lib.hid hm.ok
  have HM := Lib.hid hm
  clear hW0 h hm
  go_enter Tryz.func22, Tryz.ntmps22
  go_upto_region 1 with fail
  rw [← HW.out]
  obtain ⟨xc0, xc1, xc2, xc3, xc4, xc5, xc6, xc7, xc8⟩ := (X).all
  go_wp2_with fail
  refine (madeNum_any x r _ HX.out HM.out).mono ?_
  rintro e w1 ⟨u, rfl, hu, hB1⟩
  have hb1 := Below.then hb0 (Nat.le_refl _) hB1
  have hR1 := hR.keep hB1
  clear xc0 xc1 xc2 xc3 xc4 xc5 xc6 xc7 xc8 hB1 hR hb0
  go_wp2_with fail
  refine (toComplex_any u r _ hu).mono ?_
  rintro e w2 ⟨u2, rfl, hu2, hB2⟩
  have hb2 := Below.then hb1 (Nat.le_refl _) hB2
  have hR2 := hR1.keep hB2
  clear hR1 hb1
  go_wp2_with fail
  refine (toldCpx_any u2 r (rz 0) _ hu2 HO.out (rok_rz 0) 63 (by omega) (by omega) HL.out.1 HL.out.2 (Nat.pow_pos W64_pos) (by have := HL1.out; exact this)).mono ?_
  rintro e w4 ⟨y, rfl, hy, hP, hB4⟩
  have hb4 := Below.then hb2 (Nat.le_refl _) hB4
  have hR4 := hR2.keep hB4
  have HE := Lib.hid (givesV_end hR4 (Nat.le_add_right _ 1) hb4 hy hP)
  have rc0 := (hR4).cell 0; have rc1 := (hR4).cell 1; have rc2 := (hR4).cell 2; have rc3 := (hR4).cell 3; have rc4 := (hR4).cell 4; have rc5 := (hR4).cell 5; have rc6 := (hR4).cell 6; have rc7 := (hR4).cell 7; have rc8 := (hR4).cell 8; simp only [List.getElem?_toArray, List.getElem?_cons_zero, List.getElem?_cons_succ] at rc0 rc1 rc2 rc3 rc4 rc5 rc6 rc7 rc8
  have rf0 := (hR4).frozen 0; have rf1 := (hR4).frozen 1; have rf2 := (hR4).frozen 2; have rf3 := (hR4).frozen 3; have rf4 := (hR4).frozen 4; have rf5 := (hR4).frozen 5; have rf6 := (hR4).frozen 6; have rf7 := (hR4).frozen 7; have rf8 := (hR4).frozen 8
  clear hR2 hR4 hb2 hb4 hB4 hy hP
  go_wp2
  exact bodyPost_ret (v := .agg #[.int .i64 y.kind, .bool y.truth, .string y.text, .bool y.neg, .slice y.wa y.wn y.wc, .slice y.da y.dn y.dc, .bool y.ineg, .slice y.ia y.inn y.ic, .slice y.ea y.en y.ec]) (by simp [results, Tryz.results22, go_sem, rc0, rc1, rc2, rc3, rc4, rc5, rc6, rc7, rc8]) rfl HE.out
end Go.Proofs.YtgmienggfaahlaaGreatDoor
