/-
  Contracts and lemmas: RcmpB OpsC.
-/
import Derived.Test.YtececkbcinmmpaaGreatDoorK16
import Derived.Test.YtececkbcinmmpaaGreatDoorK12
set_option linter.unusedSimpArgs false
set_option linter.unusedVariables false
set_option maxRecDepth 100000
set_option maxHeartbeats 8000000
namespace Go.Proofs.YtececkbcinmmpaaGreatDoor
open Go.RowKit Go.Bg Dg
theorem NewInt.updU {w w1 : World} {b o d : Nat} (h : NewInt w b o) (hu : Upd (· = d) w w1) (hne : b ≠ d) : NewInt w1 b o := by
  obtain ⟨u, h0⟩ := h.c0
  exact ⟨h.blk.upd hu hne, ⟨u, by rw [hu.cell (p := ⟨b, o, none⟩) (block_lt h0) hne]; exact h0⟩, by rw [hu.cell (p := ⟨b, o + 1, none⟩) (block_lt h.c1) hne]; exact h.c1⟩
theorem ratCmp_any (b1 b2 : Nat) (s t : Bool) (N D M E : Nat) (w : World) (hK : Thr w) (h1 : RatAt 139 w b1 s N D) (h2 : RatAt 139 w b2 t M E) (L : Nat) (hL : L < 40) (hN : N < W64 ^ L) (hD : D < W64 ^ L) (hM : M < W64 ^ L) (hE : E < W64 ^ L) :
    Calls Tryz.prog 129 #[.pointer (some ⟨b1, 0, none⟩), .pointer (some ⟨b2, 0, none⟩)] w fun e w' => e = .returned (.int .i64 (cmpZ (sg s (N * E)) (sg t (M * D)))) ∧ Below w.heap.size w w' := by
  obtain ⟨W0, hW0⟩ : ∃ W0, W0 = (w.alloc (.cells #[.bool false, .slice none 0 0] 155)).alloc (.cells #[.bool false, .slice none 0 0] 155) := ⟨_, rfl⟩
  have HW := Lib.hid hW0
  have hb0 : Below w.heap.size w W0 := by rw [hW0]; exact Below.alloc' (Below.alloc' (Below.refl _ _) _) _
  have hs0 : W0.heap.size = w.heap.size + 1 + 1 := by rw [hW0]; simp
  have A0 : NewInt W0 w.heap.size 0 := by rw [hW0]; exact (newInt_is w).keep ((Below.refl _ _).alloc (Nat.le_refl _) _)
  have B0 : NewInt W0 (w.heap.size + 1) 0 := by rw [hW0]; simpa using newInt_is (w.alloc (.cells #[.bool false, .slice none 0 0] 155))
  have l1 : b1 < w.heap.size := h1.a.blk.lt
  have l2 : b2 < w.heap.size := h2.a.blk.lt
  have H1 := Lib.hid (h1.keep hb0)
  have H2 := Lib.hid (h2.keep hb0)
  have HK := Lib.hid (hK.keep hb0)
  have HKG := Lib.hid (show ¬ (2 : Nat) = w.heap.size from Nat.ne_of_lt (block_lt (show w.cell? ⟨2, 0, none⟩ = some (.int .i64 40) from hK)))
  have HDP := Lib.hid h1.pos
  have HEP := Lib.hid h2.pos
  have HN := Lib.hid hN
  have HD := Lib.hid hD
  have HM := Lib.hid hM
  have HE := Lib.hid hE
  clear hW0 h1 h2 hK hN hD hM hE
  go_enter_defers Tryz.func129, Tryz.ntmps129
  go_upto_region 2 with fail
  rw [← HW.out]
  go_wp2_with fail
  refine (getStack_any _).mono ?_
  rintro e w1 ⟨rfl, hw1⟩
  have hB1 : Below W0.heap.size W0 w1 := by rw [hw1]; exact Below.alloc' (Below.refl _ _) _
  have hst : BlkAt w1 W0.heap.size #[.pointer none] 225 := by rw [hw1]; exact BlkAt.new _ _ _
  have hs1 : w1.heap.size = W0.heap.size + 1 := by rw [hw1]; simp
  have A1 := A0.keep hB1
  have B1 := B0.keep hB1
  have hb1 := Below.then hb0 (Nat.le_refl _) hB1
  have H11 := Lib.hid (H1.out.keep hB1)
  have H21 := Lib.hid (H2.out.keep hB1)
  have HK1 := Lib.hid (HK.out.keep hB1)
  clear hw1 hB1 A0 B0 H1 H2 HK HW
  obtain ⟨aE, nE, cE, q0, q1, hNE⟩ := H21.out.d.val
  have q13 : w1.cell? ⟨b2, 3, none⟩ = some (.slice aE nE cE) := q1
  have HNE := Lib.hid hNE
  clear q0 q1 hNE
  have hd0 : Below w1.heap.size w1 w1.drew := (Below.refl _ _).drew
  go_upto_region 4 with fail
  go_region_held3 (fun w' => w'.cell? ⟨b2, 3, none⟩ = some (.slice aE nE cE))
    (first | with_reducible exact q13 | exact cell_keep q13 (by assumption) | with_reducible exact q23)
    ((go_at_call 162; (with_reducible refine (scaleDenom_new w.heap.size 0 b1 0 s N aE nE cE E _ _ ?_ ?_ ?_ ?_ HEP.out ?_ L hL HN.out HE.out).mono ?_); exact HK1.out.keep (by assumption); exact A1.keep (by assumption); exact H11.out.a.keep (by assumption); exact HNE.out.keep (by assumption); exact Nat.ne_of_lt l1; rintro e w2 ⟨rfl, hI, hU⟩; have q23 : w2.cell? ⟨b2, 3, none⟩ = some (.slice aE nE cE) := (by rw [hU.upd.cell (p := ⟨b2, 3, none⟩) (block_lt (cell_keep q13 hd0)) (Nat.ne_of_lt l2)]; exact cell_keep q13 hd0)))
  have hsz2 : w.heap.size ≤ w1.drew.heap.size := Nat.le_trans hb1.size hd0.size
  have hB2 := hU.upd.below (Below.then hb1 (Nat.le_refl _) hd0) hsz2 (fun k _ e => by subst e; exact Nat.le_refl _)
  have A2 := Lib.hid hI
  have hns : ∀ k, k < w1.drew.heap.size → k = w.heap.size → Strct 139 w1.drew k := fun k _ e => by subst e; exact (A1.keep hd0).blk
  have H12 := Lib.hid ((H11.out.keep hd0).upd hU.upd (Nat.ne_of_lt l1) hns)
  have H22 := Lib.hid ((H21.out.keep hd0).upd hU.upd (Nat.ne_of_lt l2) hns)
  have B2 := NewInt.updU (B1.keep hd0) hU.upd (Nat.succ_ne_self _)
  have S2 := hU.upd.blk (hst.keep hd0) (show ¬ W0.heap.size = w.heap.size from by omega)
  have HK2 := Lib.hid (show Thr w2 from by
    have h0 := HK1.out.keep hd0
    unfold Thr at h0 ⊢
    rw [hU.upd.cell (block_lt h0) HKG.out]
    exact h0)
  clear hI hU q13 q23 A1 B1 hb1 hst H11 H21 HK1 hd0 hns HNE hsz2
  obtain ⟨aD, nD, cD, q0, q1, hND⟩ := H12.out.d.val
  have q13 : w2.cell? ⟨b1, 3, none⟩ = some (.slice aD nD cD) := q1
  have HND := Lib.hid hND
  clear q0 q1 hND
  have hd0 : Below w2.heap.size w2 w2.drew := (Below.refl _ _).drew
  go_upto_region 5 with fail
  go_region_held3 (fun w' => w'.cell? ⟨b1, 3, none⟩ = some (.slice aD nD cD))
    (first | with_reducible exact q13 | exact cell_keep q13 (by assumption) | with_reducible exact q23)
    ((go_at_call 162; (with_reducible refine (scaleDenom_new (w.heap.size + 1) 0 b2 0 t M aD nD cD D _ _ ?_ ?_ ?_ ?_ HDP.out ?_ L hL HM.out HD.out).mono ?_); exact HK2.out.keep (by assumption); exact B2.keep (by assumption); exact H22.out.a.keep (by assumption); exact HND.out.keep (by assumption); exact Nat.ne_of_lt (Nat.lt_succ_of_lt l2); rintro e w3 ⟨rfl, hI, hU⟩; have q23 : w3.cell? ⟨b1, 3, none⟩ = some (.slice aD nD cD) := (by rw [hU.upd.cell (p := ⟨b1, 3, none⟩) (block_lt (cell_keep q13 hd0)) (Nat.ne_of_lt (Nat.lt_succ_of_lt l1))]; exact cell_keep q13 hd0)))
  have hsz3 : w.heap.size ≤ w2.drew.heap.size := Nat.le_trans hB2.size hd0.size
  have hB3 := hU.upd.below (Below.then hB2 (Nat.le_refl _) hd0) hsz3 (fun k _ e => by subst e; exact Nat.le_add_right _ 1)
  have hns : ∀ k, k < w2.drew.heap.size → k = w.heap.size + 1 → Strct 139 w2.drew k := fun k _ e => by subst e; exact (B2.keep hd0).blk
  have A3 := Lib.hid ((A2.out.keep hd0).upd hU.upd (Nat.ne_of_lt (Nat.lt_succ_self _)) hns)
  have B3 := Lib.hid hI
  have S3 := hU.upd.blk (S2.keep hd0) (show ¬ W0.heap.size = w.heap.size + 1 from by omega)
  have HB3 := Lib.hid hB3
  have HS3 := Lib.hid S3
  clear hI hU q13 q23 A2 B2 S2 hB2 H12 H22 HK2 hd0 hns HND hsz3 hB3 S3
  go_wp2_with fail
  refine (intCmp_any w.heap.size 0 (w.heap.size + 1) 0 s t (N * E) (M * D) _ A3.out B3.out).mono ?_
  rintro e w4 ⟨rfl, hd⟩
  have hb4 : Below w3.heap.size w3 w4 := below_of_drewN hd
  have hst4 := (HS3.out.keep hb4).cell 0
  simp only [List.getElem?_toArray, List.getElem?_cons_zero] at hst4
  rw [hs0] at hst4
  have HB4 := Lib.hid (Below.then HB3.out (Nat.le_refl _) hb4)
  clear hd hb4
  go_wp2
  refine leaves_cons (f := 161) (args := #[.pointer (some ⟨w.heap.size + 1 + 1, 0, none⟩)]) (by simp) (by simp [go_sem]) ?_
  refine (free_d _ .returning _ hst4).mono ?_
  rintro e u' w'' ⟨rfl, rfl, rfl⟩
  exact ⟨_, results_tmp rfl _ _ _, rfl, HB4.out⟩
end Go.Proofs.YtececkbcinmmpaaGreatDoor
namespace Go.Bg
open Go.RowKit Dg
theorem RatAt.signed {T : TypeId} {w : World} {b : Nat} {s t : Bool} {N D : Nat} (h : RatAt T w b s N D) (hz : t = true → 0 < N) : RatAt T (w.setCell ⟨b, 0, none⟩ (.bool t)) b t N D :=
  ⟨h.a.signed hz, h.d.other h.a.blk (UpdI.set0 w b 0 (.bool t)) (.inr (.inr (by omega))), h.pos⟩
end Go.Bg
namespace Go.Proofs.YtececkbcinmmpaaGreatDoor
open Go.RowKit Go.Bg Dg
theorem infoBigRatSize : (Tryz.prog.info? 170).map (·.size) = some 4 := by kernel_rfl
theorem ratSetInt64_new (b : Nat) (x : Int) (hx : -9223372036854775808 ≤ x ∧ x < 9223372036854775808) (w : World) (h : NewRat w b) :
    Calls Tryz.prog 194 #[.pointer (some ⟨b, 0, none⟩), .int .i64 x] w (RatIs b (decide (x < 0)) x.natAbs 1 w) := by
  have HS := Lib.hid (setInt64_any b 0 x hx w h.a)
  have HQ := Lib.hid (BlkAt.cell h 3)
  have HQ2 := Lib.hid (BlkAt.cell h 2)
  clear h hx
  go_enter Tryz.func194, Tryz.ntmps194
  go_wp2_with fail
  refine HS.out.mono ?_
  rintro e w1 ⟨rfl, hI, hU⟩
  have q3 : w1.cell? ⟨b, 3, none⟩ = some (.slice none 0 0) := by rw [hU.rest 3 (by decide) (by decide), HQ.out]; rfl
  have q2 : w1.cell? ⟨b, 2, none⟩ = some (.bool false) := by rw [hU.rest 2 (by decide) (by decide), HQ2.out]; rfl
  have Q2 := Lib.hid q2
  have HI := Lib.hid hI
  have HU := Lib.hid hU
  clear q2 hI hU
  go_wp2_with fail
  refine (setWord_nil 1 (by omega) _).mono ?_
  rintro e w2 ⟨a, n, c, rfl, hN, hB⟩
  have HI2 := Lib.hid (HI.out.keep hB)
  have k3 := cell_keep q3 hB
  have HR := Lib.hid (ratAt_den HI2.out (cell_keep Q2.out hB) ⟨_, k3⟩ hN (by omega))
  have HF := Lib.hid ((HU.out.toB.trans (UpdB.of_below hB)).trans (UpdB.set w2 b 3 (.slice a n c)))
  have f3 := HI2.out.blk.frozen 3
  clear q3 hN hB
  go_wp2
  go_ret
  exact ⟨rfl, HR.out, HF.out⟩
theorem ratSet_new (b b1 : Nat) (s : Bool) (N D : Nat) (w : World) (h : NewRat w b) (h1 : RatAt 139 w b1 s N D) (hne : b ≠ b1) (L : Nat) (hL : L ≤ 1000000) (hN : N < W64 ^ L) (hD : D < W64 ^ L) :
    Calls Tryz.prog 183 #[.pointer (some ⟨b, 0, none⟩), .pointer (some ⟨b1, 0, none⟩)] w (RatIs b s N D w) := by
  obtain ⟨j, hj, hj2⟩ := Option.map_eq_some_iff.1 infoBigRatSize
  obtain ⟨cur2, e2, k2, _⟩ := h1.a.blk
  have hq := run_neq_ptr_other (P := Tryz.prog) (a := ⟨b, 0, none⟩) (b := ⟨b1, 0, none⟩) w Tryz.underlying99 hj (by rw [hj2]; decide) (by intro h; injection h with h h' _; omega) h k2
  have HH := Lib.hid h
  have HQ := Lib.hid (BlkAt.cell h 3)
  have HQ2 := Lib.hid (BlkAt.cell h 2)
  have H1 := Lib.hid h1
  have HN := Lib.hid hN
  have HD := Lib.hid hD
  clear h h1 hN hD k2 hj2
  go_enter Tryz.func183, Tryz.ntmps183
  go_upto_region 2 with fail
  have hd0 : Below w.heap.size w w.drew := (Below.refl _ _).drew
  go_region_held3 (fun _ => True) (exact trivial) ((go_at_call 182; (with_reducible refine (intSet_new b 0 b1 0 s N _ ?_ ?_ (.inl hne) L hL HN.out).mono ?_); exact (HH.out.keep hd0).a; exact (H1.out.keep hd0).a; rintro e w1 ⟨rfl, hI, hU⟩))
  have q3 : w1.cell? ⟨b, 3, none⟩ = some (.slice none 0 0) := by rw [hU.rest 3 (by decide) (by decide)]; exact cell_keep HQ.out hd0
  have q2 : w1.cell? ⟨b, 2, none⟩ = some (.bool false) := by rw [hU.rest 2 (by decide) (by decide)]; exact cell_keep HQ2.out hd0
  have HB1 := Lib.hid (hU.blk ((HH.out.keep hd0).blk))
  have HX1 := Lib.hid ((H1.out.keep hd0).other ((HH.out.keep hd0).blk) hU.toB (Ne.symm hne))
  have HN2 := Lib.hid (show NewInt w1 b 2 from ⟨HB1.out, ⟨_, q2⟩, q3⟩)
  have HI := Lib.hid hI
  have HU := Lib.hid ((UpdB.of_below hd0).trans hU.toB)
  clear q2 q3 hI hU
  go_upto_region 3 with fail
  have hd1 : Below w1.heap.size w1 w1.drew := (Below.refl _ _).drew
  go_region_held3 (fun _ => True) (exact trivial) ((go_at_call 182; (with_reducible refine (intSet_new b 2 b1 2 false D _ ?_ ?_ (.inl hne) L hL HD.out).mono ?_); exact HN2.out.keep hd1; exact (HX1.out.keep hd1).d; rintro e w2 ⟨rfl, hJ, hV⟩))
  have HA := Lib.hid ((HI.out.keep hd1).other (HN2.out.keep hd1).blk hV (.inr (.inl (by omega))))
  have HR := Lib.hid (show RatAt 139 w2 b s N D from ⟨HA.out, hJ, H1.out.pos⟩)
  have HF := Lib.hid ((HU.out.trans (UpdB.of_below hd1)).trans hV.toB)
  obtain ⟨aD, nD, cD, p2, p3, hDN⟩ := hJ.val
  have hp := natAt_pos_len hDN.num
  have hz : ((nD : Int) == 0) = false := by
    have h1 : 0 < D := H1.out.pos
    simp [h1] at hp
    simp; omega
  have hcm := hDN.num.cm
  have hnc := hDN.num.nc
  clear hp hJ hV hDN p2
  go_wp2
  go_ret
  exact ⟨rfl, HR.out, HF.out⟩
theorem ratNeg_new (b b1 : Nat) (s : Bool) (N D : Nat) (w : World) (h : NewRat w b) (h1 : RatAt 139 w b1 s N D) (hne : b ≠ b1) (L : Nat) (hL : L ≤ 1000000) (hN : N < W64 ^ L) (hD : D < W64 ^ L) :
    Calls Tryz.prog 123 #[.pointer (some ⟨b, 0, none⟩), .pointer (some ⟨b1, 0, none⟩)] w (RatIs b (!s && decide (0 < N)) N D w) := by
  have HS := Lib.hid (ratSet_new b b1 s N D w h h1 hne L hL hN hD)
  clear h h1 hN hD
  go_enter Tryz.func123, Tryz.ntmps123
  go_wp2_with fail
  refine HS.out.mono ?_
  rintro e w1 ⟨rfl, hI, hU⟩
  have HT := Lib.hid (fun t ht => hI.signed (t := t) ht)
  have HU := Lib.hid hU
  have f0 := hI.a.blk.frozen 0
  obtain ⟨a, n, c, h0, h1, hNN⟩ := hI.a.val
  have HP := Lib.hid (natAt_pos_len hNN.num)
  clear hNN hI hU
  by_cases hn : 0 < n
  · go_wp2
    go_ret
    have hp : 0 < N := by have := HP.out; simpa [hn] using this.symm
    exact ⟨rfl, by simpa [hp] using HT.out (!s) (fun _ => hp), HU.out.trans (UpdB.set _ _ _ _)⟩
  · go_wp2
    go_ret
    have hp : ¬ 0 < N := by have := HP.out; simpa [hn] using this
    exact ⟨rfl, by simpa [hp] using HT.out false (by simp), HU.out.trans (UpdB.set _ _ _ _)⟩
theorem newRat_any (w : World) : Calls Tryz.prog 84 #[] w fun e w' => e = .returned (.pointer (some ⟨w.heap.size, 0, none⟩)) ∧ w' = w.alloc (.cells #[.bool false, .slice none 0 0, .bool false, .slice none 0 0] 170) := by
  go_enter Tryz.func84, Tryz.ntmps84
  go_wp2
  go_ret
  exact ⟨rfl, rfl⟩
theorem newRat_is (w : World) : NewRat (w.alloc (.cells #[.bool false, .slice none 0 0, .bool false, .slice none 0 0] 170)) w.heap.size := BlkAt.new w _ _
theorem unarySubRat_any (v : Value) (r : Rt) (p : Int) (w : World) (h : CRat w v r) (L : Nat) (hL : L ≤ 63) (hN : r.num < W64 ^ L) (hD : r.den < W64 ^ L) :
    Calls Tryz.prog 65 #[.int .i64 13, v, .int .u64 p] w fun e w' => ∃ u, e = .returned u ∧ CRat w' u r.negated ∧ Below w.heap.size w w' := by
  obtain ⟨b, s, N, D, rfl, hI, rfl⟩ := h
  obtain ⟨W0, hW0⟩ : ∃ W0, W0 = w.alloc (.cells #[.pointer (some ⟨b, 0, none⟩)] 106) := ⟨_, rfl⟩
  have HW := Lib.hid hW0
  have hb0 : Below w.heap.size w W0 := by rw [hW0]; exact Below.alloc' (Below.refl _ _) _
  have hx : W0.cell? ⟨w.heap.size, 0, none⟩ = some (.pointer (some ⟨b, 0, none⟩)) := by rw [hW0]; exact alloc_new _ _ _ rfl rfl
  have HH := Lib.hid (hI.keep hb0)
  have HN := Lib.hid (show N < W64 ^ L from hN)
  have HD := Lib.hid (show D < W64 ^ L from hD)
  clear hW0 hI hN hD
  obtain ⟨t1, t2, t3, t4, t5, t6, t7, t8, t9⟩ := ta_ratVal
  go_enter Tryz.func65, Tryz.ntmps65
  go_wp2
  refine wp_scope_straight ?_
  go_upto_region 22 with fail
  rw [← HW.out]
  have hd0 : Below W0.heap.size W0 W0.drew := (Below.refl _ _).drew
  go_region_held3 (fun w' => w'.cell? ⟨w.heap.size, 0, none⟩ = some (.pointer (some ⟨b, 0, none⟩)))
    (first | exact hx | exact cell_keep hx (by assumption))
    (first | (go_at_call 84; (with_reducible refine (newRat_any _).mono ?_); rintro e w1 ⟨rfl, hw1⟩; have hn1 : NewRat w1 W0.heap.size := (by rw [hw1]; exact newRat_is W0.drew); have hB1 : Below W0.heap.size W0 w1 := (by rw [hw1]; exact Below.alloc' hd0 _); have HS1 := Lib.hid (show w1.heap.size = W0.heap.size + 1 from by rw [hw1]; simp); clear hw1) | (go_at_call 123; (with_reducible refine (ratNeg_new W0.heap.size b s N D _ ?_ ?_ ?_ L ?_ ?_ ?_).mono ?_); exact hn1; exact HH.out.keep hB1; exact Nat.ne_of_gt HH.out.a.blk.lt; omega; exact HN.out; exact HD.out; rintro e w3 ⟨rfl, hJ, hU⟩; have hbg : Below W0.heap.size W0 w3 := hU.below hB1 (by have := HS1.out; omega) (Nat.le_refl _)) | (go_at_call 82; (with_reducible refine (makeRat_any W0.heap.size (!s && decide (0 < N)) N D L _ hJ HN.out HD.out hL).mono ?_); rintro e w4 ⟨u, rfl, hu, rfl⟩))
  go_wp2
  try rw [Exit.noGoto_ret]
  go_ret
  exact ⟨_, rfl, hu, Below.then hb0 (Nat.le_refl _) hbg⟩
theorem i64tor_any (x : Int) (hx : -9223372036854775808 ≤ x ∧ x < 9223372036854775808) (w : World) :
    Calls Tryz.prog 197 #[.int .i64 x] w fun e w' => ∃ b, e = .returned (.agg #[.pointer (some ⟨b, 0, none⟩)]) ∧ RatAt 139 w' b (decide (x < 0)) x.natAbs 1 ∧ Below w.heap.size w w' := by
  have HX := Lib.hid hx
  clear hx
  go_enter Tryz.func197, Tryz.ntmps197
  go_wp2_with fail
  refine (newRat_any _).mono ?_
  rintro e w1 ⟨rfl, hw1⟩
  have hs1 : w1.heap.size = w.heap.size + 1 + 1 := by rw [hw1]; simp
  have hb1 : Below w.heap.size w w1 := by rw [hw1]; exact Below.alloc' (Below.alloc' (Below.refl _ _) _) _
  have hn1 : NewRat w1 (w.heap.size + 1) := by rw [hw1]; simpa using newRat_is (w.alloc (.cells #[.pointer none] 106))
  have hl : BlkAt w1 w.heap.size #[.pointer none] 106 := by rw [hw1]; exact (BlkAt.new _ _ _).keep ((Below.refl _ _).alloc (Nat.le_refl _) _)
  have HW1 := Lib.hid hw1
  clear hw1
  go_wp2_with fail
  refine (ratSetInt64_new (w.heap.size + 1) x HX.out _ hn1).mono ?_
  rintro e w2 ⟨rfl, hI, hU⟩
  have hl2 := hU.upd.blk hl (Nat.ne_of_lt (Nat.lt_succ_self _))
  have HI := Lib.hid (hI.upd (Upd.set1 w2 w.heap.size 0 (.pointer (some ⟨w.heap.size + 1, 0, none⟩))) (Nat.ne_of_gt (Nat.lt_succ_self _)) (fun k _ e => by subst e; exact ⟨_, _, hl2, by decide⟩))
  have HB := Lib.hid ((hU.below hb1 (by omega) (Nat.le_add_right _ 1)).setCell (p := ⟨w.heap.size, 0, none⟩) (Nat.le_refl _) (.pointer (some ⟨w.heap.size + 1, 0, none⟩)))
  have c0 := hl2.cell 0
  have f0 := hl2.frozen 0
  simp only [List.getElem?_toArray, List.getElem?_cons_zero] at c0
  clear hl hl2 hI hU hn1 hb1
  go_wp2
  exact bodyPost_ret (v := .agg #[.pointer (some ⟨w.heap.size + 1, 0, none⟩)]) (by simp [results, Tryz.results197, go_sem, c0]) rfl ⟨_, rfl, HI.out, HB.out⟩
theorem itor_any (b o : Nat) (s : Bool) (N L : Nat) (w : World) (h : BigAt 139 w b o s N) (hL : L ≤ 1000000) (hN : N < W64 ^ L) :
    Calls Tryz.prog 198 #[.agg #[.pointer (some ⟨b, o, none⟩)]] w fun e w' => ∃ b2, e = .returned (.agg #[.pointer (some ⟨b2, 0, none⟩)]) ∧ RatAt 139 w' b2 s N 1 ∧ Below w.heap.size w w' := by
  obtain ⟨W0, hW0⟩ : ∃ W0, W0 = (w.alloc (.cells #[.pointer (some ⟨b, o, none⟩)] 102)).alloc (.cells #[.pointer none] 106) := ⟨_, rfl⟩
  have HS0 := Lib.hid (show W0.heap.size = w.heap.size + 1 + 1 from by rw [hW0]; simp)
  have HW := Lib.hid hW0
  have hb0 : Below w.heap.size w W0 := by rw [hW0]; exact Below.alloc' (Below.alloc' (Below.refl _ _) _) _
  have hx : W0.cell? ⟨w.heap.size, 0, none⟩ = some (.pointer (some ⟨b, o, none⟩)) := by rw [hW0]; exact alloc_keep _ _ (alloc_new _ _ _ rfl rfl)
  have hl : BlkAt W0 (w.heap.size + 1) #[.pointer none] 106 := by
    rw [hW0]
    have := BlkAt.new (w.alloc (.cells #[.pointer (some ⟨b, o, none⟩)] 102)) #[.pointer none] 106
    simpa using this
  have HH := Lib.hid (h.keep hb0)
  have HN := Lib.hid hN
  clear hW0 h hN
  go_enter Tryz.func198, Tryz.ntmps198
  go_upto_region 1 with fail
  rw [← HW.out]
  have hd0 : Below W0.heap.size W0 W0.drew := (Below.refl _ _).drew
  go_region_held3 (fun w' => w'.cell? ⟨w.heap.size, 0, none⟩ = some (.pointer (some ⟨b, o, none⟩)))
    (first | exact hx | exact cell_keep hx (by assumption) | (rw [cell?_setCell_ne (by omega)]; exact cell_keep hx (by assumption)))
    (first | (go_at_call 84; (with_reducible refine (newRat_any _).mono ?_); rintro e w1 ⟨rfl, hw1⟩; have hn1 : NewRat w1 W0.heap.size := (by rw [hw1]; exact newRat_is W0.drew); have hB1 : Below W0.heap.size W0 w1 := (by rw [hw1]; exact Below.alloc' hd0 _); have HS1 := Lib.hid (show w1.heap.size = W0.heap.size + 1 from by rw [hw1]; simp); clear hw1) | (go_at_call 176; (with_reducible refine (ratSetInt_new W0.heap.size b o s N _ ?_ ?_ ?_ L ?_ ?_).mono ?_); exact hn1; exact HH.out.keep hB1; exact Nat.ne_of_gt HH.out.blk.lt; omega; exact HN.out; rintro e w3 ⟨rfl, hJ, hU⟩; have hbg : Below W0.heap.size W0 w3 := hU.below hB1 (by have := HS1.out; omega) (Nat.le_refl _); have hl3 := hl.keep hbg; have c0 := hl3.cell 0; have f0 := hl3.frozen 0; simp only [List.getElem?_toArray, List.getElem?_cons_zero] at c0))
  have HI := Lib.hid (hJ.upd (Upd.set1 w3 (w.heap.size + 1) 0 (.pointer (some ⟨W0.heap.size, 0, none⟩))) (by have := HS0.out; omega) (fun k _ e => by subst e; exact ⟨_, _, hl3, by decide⟩))
  have HB := Lib.hid ((Below.then hb0 (Nat.le_refl _) hbg).setCell (p := ⟨w.heap.size + 1, 0, none⟩) (Nat.le_add_right _ 1) (.pointer (some ⟨W0.heap.size, 0, none⟩)))
  go_wp2
  exact bodyPost_ret (v := .agg #[.pointer (some ⟨W0.heap.size, 0, none⟩)]) (by simp [results, Tryz.results198, go_sem, c0]) rfl ⟨_, rfl, HI.out, HB.out⟩
theorem rz_sg {s : Bool} {N : Nat} (h : s = true → 0 < N) : (⟨s, N, 1⟩ : Rt) = rz (sg s N) := by
  rw [← whole_rz]
  unfold Rt.whole
  cases s
  · rfl
  · simp [h rfl]
end Go.Proofs.YtececkbcinmmpaaGreatDoor
