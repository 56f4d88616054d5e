/-
  Contracts and lemmas: CpxM CpxI OpsRAdd OpsRSub RatQuo BinRatQuo OpsRQuo SpT Open.
-/
import Derived.Test.YtgmienggfaahlaaGreatDoorK33
import Derived.Test.YtgmienggfaahlaaGreatDoorK32
import Derived.Test.YtgmienggfaahlaaGreatDoorK34
import Derived.Test.YtgmienggfaahlaaGreatDoorK19
import Derived.Test.YtgmienggfaahlaaGreatDoorK31
import Derived.Test.YtgmienggfaahlaaGreatDoorK09
import Derived.Test.YtgmienggfaahlaaGreatDoorK11
import Derived.Test.YtgmienggfaahlaaGreatDoorProg
import Derived.KernelRfl
import Derived.ChangeSlices
import Derived.WideShapes
import Derived.Test.YtgmienggfaahlaaGreatDoorK01
set_option linter.unusedSimpArgs false
set_option linter.unusedVariables false
set_option maxRecDepth 100000
set_option maxHeartbeats 8000000
namespace Go.Proofs.YtgmienggfaahlaaGreatDoor
open Go.RowKit Go.Bg Dg
def mirt (v : Vl) : Rt := ⟨v.ineg && decide (0 < val W64 v.jf v.inn), val W64 v.jf v.inn, val W64 v.ef v.en⟩
abbrev MadeC (x : Vl) (r q : Rt) : Prop := MadeLo x (fun lo w v => CPair lo w v r q)
theorem ratAt_eq {w : World} {b : Nat} {p r : Rt} (h : RatAt 155 w b p.neg p.num p.den) (e : p = r) : RatAt 155 w b r.neg r.num r.den := e ▸ h
theorem madeC_any (v : Vl) (r q : Rt) (L : Nat) (w : World) (hK : Thr w) (hT : ThrD w) (h : VlAt w v) (hk : v.kind = 5) (hn : v.wn ≤ 63) (hd : v.dn ≤ 63) (hi : v.inn ≤ 63) (he : v.en ≤ 63) (e1 : mrt v = r) (e2 : mirt v = q) (hl : PLt r q L) (hL : L ≤ 37) :
    Calls Tryz.prog 38 #[.agg #[.int .i64 v.kind, .bool v.truth, .string v.text, .bool v.neg, .slice v.wa v.wn v.wc, .slice v.da v.dn v.dc, .bool v.ineg, .slice v.ia v.inn v.ic, .slice v.ea v.en v.ec]] w fun e w' => ∃ u, e = .returned u ∧ CPair w.heap.size w' u r q ∧ Below w.heap.size w w' := by
  obtain ⟨W0, hW0⟩ : ∃ W0, W0 = w.alloc (.cells #[.int .i64 v.kind, .bool v.truth, .string v.text, .bool v.neg, .slice v.wa v.wn v.wc, .slice v.da v.dn v.dc, .bool v.ineg, .slice v.ia v.inn v.ic, .slice v.ea v.en v.ec] 26) := ⟨_, rfl⟩
  have HW := Lib.hid hW0
  have hb0 : Below w.heap.size w W0 := by rw [hW0]; exact Below.alloc' (Below.refl _ _) _
  have X : Box9 W0 w.heap.size v := by rw [hW0]; exact Box9.new w v _ rfl
  have HX := Lib.hid (h.keep hb0)
  have HK := Lib.hid (hK.keep hb0)
  have HT := Lib.hid (hT.keep hb0)
  have HL := Lib.hid hl
  have N1 := Lib.hid (show val W64 v.wf v.wn < W64 ^ 63 from Nat.lt_of_lt_of_le (val_lt h.ws.lt) (Nat.pow_le_pow_right W64_pos hn))
  have D1 := Lib.hid (show val W64 v.df v.dn < W64 ^ 63 from Nat.lt_of_lt_of_le (val_lt h.ds.lt) (Nat.pow_le_pow_right W64_pos hd))
  have N2 := Lib.hid (show val W64 v.jf v.inn < W64 ^ 63 from Nat.lt_of_lt_of_le (val_lt h.is.lt) (Nat.pow_le_pow_right W64_pos hi))
  have D2 := Lib.hid (show val W64 v.ef v.en < W64 ^ 63 from Nat.lt_of_lt_of_le (val_lt h.es.lt) (Nat.pow_le_pow_right W64_pos he))
  have P1 := Lib.hid (show 0 < val W64 v.df v.dn from by have := hl.ok1.den; rw [← e1] at this; exact this)
  have P2 := Lib.hid (show 0 < val W64 v.ef v.en from by have := hl.ok2.den; rw [← e2] at this; exact this)
  have E1 := Lib.hid e1
  have E2 := Lib.hid e2
  have XH := Lib.hid X
  clear hW0 h hK hT hl e1 e2
  obtain ⟨xc0, xc1, xc2, xc3, xc4, xc5, xc6, xc7, xc8⟩ := (X).all
  rw [hk] at xc0
  clear hk
  go_enter Tryz.func38, Tryz.ntmps38
  go_upto_region 1 with fail
  rw [← HW.out]
  go_upto_region 11 with fail
  clear xc0 xc1 xc2 xc3 xc4 xc5 xc6 xc7 xc8 X
  have hd0 : Below W0.heap.size W0 W0.drew := (Below.refl _ _).drew
  go_region_held3 (fun w' => w'.cell? ⟨w.heap.size, 0, none⟩ = some (.int .i64 v.kind) ∧ w'.cell? ⟨w.heap.size, 1, none⟩ = some (.bool v.truth) ∧ w'.cell? ⟨w.heap.size, 2, none⟩ = some (.string v.text) ∧ w'.cell? ⟨w.heap.size, 3, none⟩ = some (.bool v.neg) ∧ w'.cell? ⟨w.heap.size, 4, none⟩ = some (.slice v.wa v.wn v.wc) ∧ w'.cell? ⟨w.heap.size, 5, none⟩ = some (.slice v.da v.dn v.dc) ∧ w'.cell? ⟨w.heap.size, 6, none⟩ = some (.bool v.ineg) ∧ w'.cell? ⟨w.heap.size, 7, none⟩ = some (.slice v.ia v.inn v.ic) ∧ w'.cell? ⟨w.heap.size, 8, none⟩ = some (.slice v.ea v.en v.ec))
    (first | with_reducible exact XH.out.all | with_reducible exact (XH.out.keep (by assumption)).all)
    (first | (go_at_call 95; (with_reducible refine (implOverF_any v.neg v.wa v.wn v.wc v.wf v.da v.dn v.dc v.df _ ?_ ?_ ?_ ?_ P1.out).mono ?_); exact (HX.out.keep (by assumption)).ws; exact (HX.out.keep (by assumption)).ds; omega; omega; rintro e w1 ⟨b1, rfl, hR1, hg1, hB1⟩; have hb1 := Below.then hd0 (Nat.le_refl _) hB1) | (go_at_call 93; (with_reducible refine (makeOfRatF_any b1 (v.neg && decide (0 < val W64 v.wf v.wn)) (val W64 v.wf v.wn) (val W64 v.df v.dn) 63 _ ?_ N1.out D1.out ?_).mono ?_); exact hR1; omega; rintro e w2 ⟨rfl, rfl⟩) | (go_at_call 95; (with_reducible refine (implOverF_any v.ineg v.ia v.inn v.ic v.jf v.ea v.en v.ec v.ef _ ?_ ?_ ?_ ?_ P2.out).mono ?_); exact (HX.out.keep (by assumption)).is; exact (HX.out.keep (by assumption)).es; omega; omega; rintro e w3 ⟨b2, rfl, hR2, hg2, hB3⟩; have hb3 := Below.then hb1 (Nat.le_refl _) hB3) | (go_at_call 93; (with_reducible refine (makeOfRatF_any b2 (v.ineg && decide (0 < val W64 v.jf v.inn)) (val W64 v.jf v.inn) (val W64 v.ef v.en) 63 _ ?_ N2.out D2.out ?_).mono ?_); exact hR2; omega; rintro e w4 ⟨rfl, rfl⟩) | (go_at_call 96; (with_reducible refine (makeImagR_any b2 _).mono ?_); rintro e w5 ⟨rfl, hB5⟩; have hb5 := Below.then hb3 (Nat.le_refl _) hB5) | (go_at_call 37; (with_reducible refine (binMadeC_any b1 b2 r q L hL _ ?_ ?_ ?_ ?_ HL.out).mono ?_); exact HK.out.keep hb5; exact HT.out.keep hb5; exact ratAt_eq (p := mrt v) ((hR1.keep hB3).keep hB5) E1.out; exact ratAt_eq (p := mirt v) (hR2.keep hB5) E2.out; rintro e w6 ⟨u, rfl, hu, hB6⟩; have hb6 := Below.then hb5 (Nat.le_refl _) hB6))
  have HU := Lib.hid (hu.le (Nat.le_trans hb0.size hb5.size))
  have hbf6 := Below.then hb0 (Nat.le_refl _) hb6
  clear hu
  go_wp2
  go_ret
  exact ⟨_, rfl, HU.out, hbf6⟩
theorem pairB_parts {x : Vl} (h : pairB x = true) : x.kind = 5 ∧ fracB x.neg x.wf x.wn x.df x.dn = true ∧ fracB x.ineg x.jf x.inn x.ef x.en = true := by
  unfold pairB at h
  simp only [Bool.and_eq_true, decide_eq_true_eq] at h
  exact ⟨h.1.1.1.1, h.1.2, h.2⟩
theorem madeC_of {x : Vl} {r q : Rt} {L : Nat} (h : pairB x = true) (e1 : vrt x = r) (e2 : virt x = q) (hn : x.wn ≤ 63) (hd : x.dn ≤ 63) (hi : x.inn ≤ 63) (he : x.en ≤ 63) (hl : PLt r q L) (hL : L ≤ 37) : MadeC x r q := fun w hK hT hV => by
  obtain ⟨h1, h2, h3⟩ := pairB_parts h
  obtain ⟨-, h6⟩ := fracB_parts h2
  obtain ⟨-, h7⟩ := fracB_parts h3
  have m1 : mrt x = vrt x := by
    unfold vrt mrt frt
    rw [← h6]
  have m2 : mirt x = virt x := by
    unfold virt mirt frt
    rw [← h7]
  exact madeC_any x r q L w hK hT hV h1 hn hd hi he (m1.trans e1) (m2.trans e2) hl hL
theorem plt_pair {w : World} {x : Vl} {k : Nat} (h : VlAt w x) (hb : lpairB x k = true) (h1 : 1 ≤ k) (hk : k ≤ 37) : PLt (vrt x) (virt x) k := by
  unfold lpairB at hb
  simp only [Bool.and_eq_true, decide_eq_true_eq] at hb
  obtain ⟨⟨⟨⟨a1, a2⟩, a3⟩, a4⟩, a5⟩ := hb
  obtain ⟨-, h2, h3⟩ := pairB_parts a5
  exact ⟨h1, by omega, Nat.lt_of_lt_of_le (val_lt h.ws.lt) (Nat.pow_le_pow_right W64_pos a1), Nat.lt_of_lt_of_le (val_lt h.ds.lt) (Nat.pow_le_pow_right W64_pos a2), Nat.lt_of_lt_of_le (val_lt h.is.lt) (Nat.pow_le_pow_right W64_pos a3), Nat.lt_of_lt_of_le (val_lt h.es.lt) (Nat.pow_le_pow_right W64_pos a4), (fracB_parts h2).1, (fracB_parts h3).1⟩
theorem madeC_pair {x : Vl} {k : Nat} (hb : lpairB x k = true) (h1 : 1 ≤ k) (hk : k ≤ 37) : MadeC x (vrt x) (virt x) := fun w hK hT hV => by
  have hp := plt_pair hV hb h1 hk
  have hb' := hb
  unfold lpairB at hb'
  simp only [Bool.and_eq_true, decide_eq_true_eq] at hb'
  obtain ⟨⟨⟨⟨a1, a2⟩, a3⟩, a4⟩, a5⟩ := hb'
  exact madeC_of a5 rfl rfl (by omega) (by omega) (by omega) (by omega) hp hk w hK hT hV
theorem bndAdd (r q : Rt) (L : Nat) (hr : r.num < W64 ^ L ∧ r.den < W64 ^ L) (hq : q.num < W64 ^ L ∧ q.den < W64 ^ L) (hd : 0 < r.den) (he : 0 < q.den) : (Rt.plus r q).num < W64 ^ (L + L + 1) ∧ (Rt.plus r q).den < W64 ^ (L + L + 1) ∧ ROk (Rt.plus r q) := by
  obtain ⟨s, N, D⟩ := r
  obtain ⟨t, M, E⟩ := q
  dsimp only at hr hq hd he 
  rw [← plus_over]
  have h3 := pow_step (L + L)
  have a1 : N * E < W64 ^ (L + L) := by rw [Nat.pow_add]; exact Nat.mul_lt_mul'' hr.1 hq.2
  have a2 : M * D < W64 ^ (L + L) := by rw [Nat.pow_add]; exact Nat.mul_lt_mul'' hq.1 hr.2
  have a3 : D * E < W64 ^ (L + L) := by rw [Nat.pow_add]; exact Nat.mul_lt_mul'' hr.2 hq.2
  have e1 := sg_nat s (N * E)
  have e2 := sg_nat t (M * D)
  have e3 : 0 < D * E := Nat.mul_pos hd he
  skip
  have hx : (sg s (N * E) + sg t (M * D)).natAbs < W64 ^ (L + L + 1) ∧ (D * E) < W64 ^ (L + L + 1) ∧ 0 < (D * E) := by
    generalize W64 ^ (L + L + 1) = P at *
    generalize W64 ^ (L + L) = Q at *
    refine ⟨?_, ?_, ?_⟩ <;> omega
  have hz := fun s => over_lt (s := s) hx.1 hx.2.1
  exact ⟨(hz _).1, (hz _).2, rok_over _ _ _ hx.2.2⟩
theorem bndSub (r q : Rt) (L : Nat) (hr : r.num < W64 ^ L ∧ r.den < W64 ^ L) (hq : q.num < W64 ^ L ∧ q.den < W64 ^ L) (hd : 0 < r.den) (he : 0 < q.den) : (Rt.minus r q).num < W64 ^ (L + L + 1) ∧ (Rt.minus r q).den < W64 ^ (L + L + 1) ∧ ROk (Rt.minus r q) := by
  obtain ⟨s, N, D⟩ := r
  obtain ⟨t, M, E⟩ := q
  dsimp only at hr hq hd he 
  rw [← minus_over]
  have h3 := pow_step (L + L)
  have a1 : N * E < W64 ^ (L + L) := by rw [Nat.pow_add]; exact Nat.mul_lt_mul'' hr.1 hq.2
  have a2 : M * D < W64 ^ (L + L) := by rw [Nat.pow_add]; exact Nat.mul_lt_mul'' hq.1 hr.2
  have a3 : D * E < W64 ^ (L + L) := by rw [Nat.pow_add]; exact Nat.mul_lt_mul'' hr.2 hq.2
  have e1 := sg_nat s (N * E)
  have e2 := sg_nat t (M * D)
  have e3 : 0 < D * E := Nat.mul_pos hd he
  skip
  have hx : (sg s (N * E) - sg t (M * D)).natAbs < W64 ^ (L + L + 1) ∧ (D * E) < W64 ^ (L + L + 1) ∧ 0 < (D * E) := by
    generalize W64 ^ (L + L + 1) = P at *
    generalize W64 ^ (L + L) = Q at *
    refine ⟨?_, ?_, ?_⟩ <;> omega
  have hz := fun s => over_lt (s := s) hx.1 hx.2.1
  exact ⟨(hz _).1, (hz _).2, rok_over _ _ _ hx.2.2⟩
theorem frac_two {w w5 : World} {zb : Nat} {s t : Bool} {X Y : Nat} {x1 : Option Addr} {m1 k1 : Nat} {x2 : Option Addr} {m2 k2 : Nat} (h : NewRat w zb) (T : TwoS w s t X Y w5 x1 m1 k1 x2 m2 k2) (u : Bool) :
    RatRaw (((w5.setCell ⟨zb, 1, none⟩ (.slice x1 m1 k1)).setCell ⟨zb, 3, none⟩ (.slice x2 m2 k2)).setCell ⟨zb, 0, none⟩ (.bool u)) zb u x1 m1 k1 X x2 m2 k2 Y := by
  have h5 := h.keep T.bel
  have b5 := h5.blk
  refine ⟨((b5.set _ _).set _ _).set _ _, World.cell?_setCell_same (u := .bool false) _ _ _ ?_, ?_, ?_, ?_, ((T.a.num.set b5 _ _).set (b5.set _ _) _ _).set ((b5.set _ _).set _ _) _ _, ((T.d.num.set b5 _ _).set (b5.set _ _) _ _).set ((b5.set _ _).set _ _) _ _, T.off⟩
  · rw [cell_other (by decide), cell_other (by decide)]; exact BlkAt.cell h5 0
  · rw [cell_other (by decide), cell_other (by decide)]; exact World.cell?_setCell_same (u := .slice none 0 0) _ _ _ (BlkAt.cell h5 1)
  · rw [cell_other (by decide), cell_other (by decide), cell_other (by decide)]; exact BlkAt.cell h5 2
  · rw [cell_other (by decide)]; exact World.cell?_setCell_same (u := .slice none 0 0) _ _ _ (by rw [cell_other (by decide)]; exact BlkAt.cell h5 3)
theorem ratQuo_new (zb b1 b2 : Nat) (s t : Bool) (N D M E : Nat) (w : World) (hK : Thr w) (hT : ThrD w) (h : NewRat w zb) (h1 : RatAt 155 w b1 s N D) (h2 : RatAt 155 w b2 t M E) (hM0 : 0 < M) (ne1 : b1 ≠ zb) (ne2 : b2 ≠ zb) (hv : zb ≠ 3) (hvk : zb ≠ 2) (L K : Nat) (hL : L + K ≤ 38) (hN : N < W64 ^ L) (hD : D < W64 ^ L) (hM : M < W64 ^ K) (hE : E < W64 ^ K) :
    Calls Tryz.prog 79 #[.pointer (some ⟨zb, 0, none⟩), .pointer (some ⟨b1, 0, none⟩), .pointer (some ⟨b2, 0, none⟩)] w (FracIs zb (!(s == t)) (N * E) (M * D) w) := by
  have lz : zb < w.heap.size := h.blk.lt
  have l1 : b1 < w.heap.size := h1.a.blk.lt
  have l2 : b2 < w.heap.size := h2.a.blk.lt
  obtain ⟨aD, nD, cD, _, qD, hND⟩ := h1.d.val
  obtain ⟨aE, nE, cE, _, qE, hNE⟩ := h2.d.val
  have qD' : w.cell? ⟨b1, 3, none⟩ = some (.slice aD nD cD) := qD
  have qE' : w.cell? ⟨b2, 3, none⟩ = some (.slice aE nE cE) := qE
  have hnD : nD < 40 := Nat.lt_of_le_of_lt (len_le W64_gt hND.num.top hD) (by omega)
  have hnE : nE < 40 := Nat.lt_of_le_of_lt (len_le W64_gt hNE.num.top hE) (by omega)
  have HSZ := Lib.hid (show N * E < W64 ^ (L + K) ∧ M * D < W64 ^ (L + K) ∧ D * E < W64 ^ (L + K) from by
    rw [Nat.pow_add, Nat.mul_comm M D]
    exact ⟨Nat.mul_lt_mul'' hN hE, Nat.mul_lt_mul'' hD hM, Nat.mul_lt_mul'' hD hE⟩)
  have HQ := Lib.hid (⟨qD', qE', hND, hNE⟩ : w.cell? ⟨b1, 3, none⟩ = some (.slice aD nD cD) ∧ w.cell? ⟨b2, 3, none⟩ = some (.slice aE nE cE) ∧ BigN 155 w aD nD cD D ∧ BigN 155 w aE nE cE E)
  have H1 := Lib.hid h1
  have H2 := Lib.hid h2
  have HZ := Lib.hid h
  have HK := Lib.hid hK
  have HT := Lib.hid hT
  have HL := Lib.hid (⟨hN, hD, hM, hE, hv⟩ : N < W64 ^ L ∧ D < W64 ^ L ∧ M < W64 ^ K ∧ E < W64 ^ K ∧ zb ≠ 3)
  have HNE := Lib.hid (⟨ne1, ne2, hvk⟩ : b1 ≠ zb ∧ b2 ≠ zb ∧ zb ≠ 2)
  obtain ⟨am, nm, cm, _, qm, hMM⟩ := h2.a.val
  have qm' : w.cell? ⟨b2, 1, none⟩ = some (.slice am nm cm) := qm
  have hnm0 : ((nm : Int) == 0) = false := by
    have := natAt_pos_len hMM.num
    have : 0 < nm := by simpa [hM0] using this
    simp; omega
  have hmm := hMM.num.cm
  have hmc := hMM.num.nc
  unfold maxLen at hmm
  have qm1 : (w.alloc (.cells #[.pointer none] 225)).cell? ⟨b2, 1, none⟩ = some (.slice am nm cm) := cell_keep qm' (Below.alloc' (Below.refl _ _) _)
  clear qm hMM
  obtain ⟨W3, hW3⟩ : ∃ W3, W3 = ((w.alloc (.cells #[.pointer none] 225)).alloc (.cells #[.bool false, .slice none 0 0] 168)).alloc (.cells #[.bool false, .slice none 0 0] 168) := ⟨_, rfl⟩
  have HW3 := Lib.hid hW3
  have hB3 : Below w.heap.size w W3 := by rw [hW3]; exact Below.alloc' (Below.alloc' (Below.alloc' (Below.refl _ _) _) _) _
  have A3 := Lib.hid (show NewInt W3 (w.heap.size + 1) 0 from by rw [hW3]; have := newInt_is (w.alloc (.cells #[.pointer none] 225)); simp at this; exact this.keep (Below.alloc' (Below.refl _ _) _))
  have B3 := Lib.hid (show NewInt W3 (w.heap.size + 1 + 1) 0 from by rw [hW3]; simpa using newInt_is ((w.alloc (.cells #[.pointer none] 225)).alloc (.cells #[.bool false, .slice none 0 0] 168)))
  have HB3 := Lib.hid hB3
  clear hW3 hB3 qD qE qD' qE' hND hNE h1 h2 h hK hT hN hD hM hE hv ne1 ne2 hvk
  go_enter_defers Tryz.func79, Tryz.ntmps79
  go_wp2_with fail
  refine (getStack_any _).mono ?_
  rintro e w1 ⟨rfl, rfl⟩
  go_upto_region 6 with fail
  rw [← HW3.out]
  have hd3 : Below W3.heap.size W3 W3.drew := (Below.refl _ _).drew
  have hb3 := Below.then HB3.out (Nat.le_refl _) hd3
  have cE3 : W3.cell? ⟨b2, 3, none⟩ = some (.slice aE nE cE) := cell_keep HQ.out.2.1 HB3.out
  have cE3' : W3.drew.cell? ⟨b2, 3, none⟩ = some (.slice aE nE cE) := cell_keep cE3 hd3
  go_region_held3 (fun w' => w'.cell? ⟨b2, 3, none⟩ = some (.slice aE nE cE))
    (first | with_reducible exact cE3 | with_reducible exact cE3' | exact cell_keep cE3 (by assumption) | with_reducible exact q23)
    ((go_at_call 153; (with_reducible refine (scaleDenomF (w.heap.size + 1) 0 b1 0 s N aE nE cE E _ _ ?_ ?_ ?_ ?_ H2.out.pos ?_ (L + K) (by omega) (Nat.lt_of_lt_of_le HL.out.1 (Nat.pow_le_pow_right W64_pos (by omega))) (Nat.lt_of_lt_of_le HL.out.2.2.2.1 (Nat.pow_le_pow_right W64_pos (by omega)))).mono ?_); exact HK.out.keep hb3; exact A3.out.keep hd3; exact (H1.out.keep hb3).a; exact HQ.out.2.2.2.keep hb3; omega; rintro e w4 ⟨rfl, hF⟩; have hO4 := IntFr.own hF (A3.out.keep hd3); have hB4 : Below w.heap.size w w4 := (hO4.2.1.below hb3 hb3.size (fun k _ e => by omega)); have q23 : w4.cell? ⟨b2, 3, none⟩ = some (.slice aE nE cE) := cell_keep HQ.out.2.1 hB4))
  have HF4 := Lib.hid hF
  have HB4 := Lib.hid hB4
  have B4 := Lib.hid (NewInt.updU (B3.out.keep hd3) hO4.2.1 (Nat.succ_ne_self _))
  clear hF hB4 hO4 q23 cE3 cE3' hd3 hb3
  have hd4 : Below w4.heap.size w4 w4.drew := (Below.refl _ _).drew
  have hb4 := Below.then HB4.out (Nat.le_refl _) hd4
  have cD4 : w4.cell? ⟨b1, 3, none⟩ = some (.slice aD nD cD) := cell_keep HQ.out.1 HB4.out
  have cD4' : w4.drew.cell? ⟨b1, 3, none⟩ = some (.slice aD nD cD) := cell_keep cD4 hd4
  go_upto_region 7 with fail
  go_region_held3 (fun w' => w'.cell? ⟨b1, 3, none⟩ = some (.slice aD nD cD))
    (first | with_reducible exact cD4 | with_reducible exact cD4' | exact cell_keep cD4 (by assumption) | with_reducible exact q23)
    ((go_at_call 153; (with_reducible refine (scaleDenomF (w.heap.size + 1 + 1) 0 b2 0 t M aD nD cD D _ _ ?_ ?_ ?_ ?_ H1.out.pos ?_ (L + K) (by omega) (Nat.lt_of_lt_of_le HL.out.2.2.1 (Nat.pow_le_pow_right W64_pos (by omega))) (Nat.lt_of_lt_of_le HL.out.2.1 (Nat.pow_le_pow_right W64_pos (by omega)))).mono ?_); exact HK.out.keep hb4; exact B4.out.keep hd4; exact (H2.out.keep hb4).a; exact HQ.out.2.2.1.keep hb4; omega; rintro e w5 ⟨rfl, hF⟩; have hO5 := IntFr.own hF (B4.out.keep hd4); have hB5 : Below w.heap.size w w5 := (hO5.2.1.below hb4 hb4.size (fun k _ e => by omega)); have q23 : w5.cell? ⟨b1, 3, none⟩ = some (.slice aD nD cD) := cell_keep HQ.out.1 hB5))
  obtain ⟨x1, m1, k1, x2, m2, k2, hT5, hz1, hz2⟩ := two_done HW3.out HF4.out hF
  have HT5 := Lib.hid hT5
  have HZZ := Lib.hid (⟨hz1, hz2⟩ : (s = true → 0 < N * E) ∧ (t = true → 0 < M * D))
  have HZ5 := Lib.hid (HZ.out.keep hT5.bel)
  clear hF hB5 hO5 q23 cD4 cD4' hd4 hb4 HF4 HB4 B4 A3 B3 hT5 hz1 hz2
  have HB8 := Lib.hid (frac_two HZ.out HT5.out (!(s == t)))
  have HC := Lib.hid (⟨BlkAt.cell HZ5.out 0, BlkAt.cell HZ5.out 1, BlkAt.cell HZ5.out 3⟩ : w5.cell? ⟨zb, 0, none⟩ = _ ∧ w5.cell? ⟨zb, 1, none⟩ = _ ∧ w5.cell? ⟨zb, 3, none⟩ = _)
  have zp : zb ≠ w.heap.size + 1 := by omega
  have zq : zb ≠ w.heap.size + 1 + 1 := by omega
  have ob : ∀ (W : World) (b i j : Nat) (v : Value), zb ≠ b → (W.setCell ⟨zb, i, none⟩ v).cell? ⟨b, j, none⟩ = W.cell? ⟨b, j, none⟩ := fun W b i j v hn => World.cell?_setCell_other _ _ _ _ (fun hh => by injection hh with hh _ _; exact hn hh)
  have HOB := Lib.hid ob
  clear ob
  have p1 : w5.cell? ⟨w.heap.size + 1, 1, none⟩ = some (.slice x1 m1 k1) := HT5.out.a.c1
  have c1 : w5.cell? ⟨zb, 1, none⟩ = some (.slice none 0 0) := by rw [HC.out.2.1]; rfl
  have g1 := HZ5.out.blk.frozen 1
  go_upto_region 9 with fail
  obtain ⟨W6, hW6⟩ : ∃ W6, W6 = w5.setCell ⟨zb, 1, none⟩ (.slice x1 m1 k1) := ⟨_, rfl⟩
  rw [← hW6] at HB8 ⊢
  have q1 : W6.cell? ⟨w.heap.size + 1 + 1, 1, none⟩ = some (.slice x2 m2 k2) := by rw [hW6, HOB.out _ _ _ _ _ zq]; exact HT5.out.d.c1
  have c3 : W6.cell? ⟨zb, 3, none⟩ = some (.slice none 0 0) := by rw [hW6, cell_other (by decide), HC.out.2.2]; rfl
  have g3 : W6.frozen? ⟨zb, 3, none⟩ = false := by rw [hW6, World.frozen?_setCell]; exact HZ5.out.blk.frozen 3
  have HW6 := Lib.hid hW6
  clear hW6 p1 c1 g1
  go_upto_region 10 with fail
  obtain ⟨W7, hW7⟩ : ∃ W7, W7 = W6.setCell ⟨zb, 3, none⟩ (.slice x2 m2 k2) := ⟨_, rfl⟩
  rw [← hW7] at HB8 ⊢
  have p0 : W7.cell? ⟨w.heap.size + 1, 0, none⟩ = some (.bool s) := by rw [hW7, HOB.out _ _ _ _ _ zp, HW6.out, HOB.out _ _ _ _ _ zp]; exact HT5.out.a.c0
  have q0 : W7.cell? ⟨w.heap.size + 1 + 1, 0, none⟩ = some (.bool t) := by rw [hW7, HOB.out _ _ _ _ _ zq, HW6.out, HOB.out _ _ _ _ _ zq]; exact HT5.out.d.c0
  have c0 : W7.cell? ⟨zb, 0, none⟩ = some (.bool false) := by rw [hW7, cell_other (by decide), HW6.out, cell_other (by decide), HC.out.1]; rfl
  have g0 : W7.frozen? ⟨zb, 0, none⟩ = false := by rw [hW7, World.frozen?_setCell, HW6.out, World.frozen?_setCell]; exact HZ5.out.blk.frozen 0
  have HU8 := Lib.hid (show Upd (· = zb) w5 (W7.setCell ⟨zb, 0, none⟩ (.bool (!(s == t)))) from by
    rw [hW7, HW6.out]
    exact (((Upd.refl (· = zb) w5).setCell (p := ⟨zb, 1, none⟩) rfl _).setCell (p := ⟨zb, 3, none⟩) rfl _).setCell (p := ⟨zb, 0, none⟩) rfl _)
  have hl := block_lt HT.out
  have HNM := Lib.hid (ratNorm_any zb (!(s == t)) x1 x2 m1 k1 (N * E) m2 k2 (M * D) _ ((HT.out.keep HT5.out.bel).upd HU8.out (fun e => HL.out.2.2.2.2 e.symm)) HB8.out (Nat.mul_pos hM0 H1.out.pos) (L + K) (by omega) HSZ.out.1 HSZ.out.2.1
    ⟨HL.out.2.2.2.2, fun h' => Nat.not_le_of_lt hl (HT5.out.f1 _ h'), fun h' => Nat.not_le_of_lt hl (HT5.out.f2 _ h')⟩)
  have hstr : Strct 155 w5 w.heap.size := ⟨_, _, HT5.out.stk, by decide⟩
  have HSB := Lib.hid (⟨hstr.notIn HT5.out.a.num, hstr.notIn HT5.out.d.num⟩ : ¬ InB x1 w.heap.size ∧ ¬ InB x2 w.heap.size)
  clear hW7 q1 c3 g3 hl hstr
  go_wp2_with fail
  refine HNM.out.mono ?_
  rintro e w9 ⟨rfl, hR9, hU9⟩
  have HR9 := Lib.hid hR9
  have HU9 := Lib.hid hU9
  clear hR9 hU9 HNM
  go_wp2
  refine leaves_cons (f := 152) (args := #[.pointer (some ⟨w.heap.size, 0, none⟩)]) (by simp) (by simp [go_sem]) ?_
  refine (stkFree_any w.heap.size 0 none .returning _ ⟨rfl, HU9.out.blk (HU8.out.blk HT5.out.stk (by omega)) (by rintro (h | h | h); omega; exact HSB.out.1 h; exact HSB.out.2 h)⟩).mono ?_
  rintro e u' w10 ⟨rfl, rfl, hU⟩
  have hU' : Below _ _ w10 := hU.toBelow (fun k _ ⟨_, _, h, _⟩ => by cases h)
  refine ⟨_, results_tmp rfl _ _ _, rfl, HR9.out.keep hU', (upd_into2 HU9.out ((Upd.of_below HT5.out.bel).trans HU8.out) (fun k hk hx => ?_)).then hU'⟩
  rcases hx with h1 | h1 | h1
  · exact h1
  · have := HT5.out.f1 k h1; omega
  · have := HT5.out.f2 k h1; omega
theorem binRQuo_any (v1 v2 : Value) (r q : Rt) (w : World) (hK : Thr w) (hT : ThrD w) (hm : Calls Tryz.prog 57 #[v1, v2] w (MatR r q w)) (h0 : 0 < q.num) (L K : Nat) (hL : L + K ≤ 38) (hr : r.num < W64 ^ L ∧ r.den < W64 ^ L) (hq : q.num < W64 ^ K ∧ q.den < W64 ^ K) :
    Calls Tryz.prog 37 #[v1, .int .i64 15, v2] w fun e w' => ∃ u, e = .returned u ∧ CRat w' u (Rt.times r q.upside) ∧ (Rt.times r q.upside).num < W64 ^ (L + K + 1) ∧ (Rt.times r q.upside).den < W64 ^ (L + K + 1) ∧ ROk (Rt.times r q.upside) ∧ Below w.heap.size w w' ∧ NewQ w.heap.size u := by
  have HM := Lib.hid hm
  have HK := Lib.hid hK
  have HT := Lib.hid hT
  clear hm hK hT
  go_enter Tryz.func37, Tryz.ntmps37
  go_wp2
  refine wp_scope_straight ?_
  go_wp2_with fail
  refine HM.out.mono ?_
  rintro e w1 ⟨u1, u2, rfl, ⟨b1, s, N, D, rfl, hR, rfl⟩, ⟨b2, t, M, E, rfl, hQ, rfl⟩, hB⟩
  obtain ⟨t1, t2, t3, t4, t5, t6, t7, t8, t9⟩ := ta_ratVal
  have HR := Lib.hid hR
  have HQ := Lib.hid hQ
  have HB := Lib.hid hB
  have HS := Lib.hid (⟨hr, hq⟩ : (N < W64 ^ L ∧ D < W64 ^ L) ∧ (M < W64 ^ K ∧ E < W64 ^ K))
  have hfld := field_ratVal
  have HM0 := Lib.hid (show 0 < M from h0)
  clear h0
  have HX := Lib.hid (show (N * E) < W64 ^ (L + K + 1) ∧ (M * D) < W64 ^ (L + K + 1) ∧ 0 < (M * D) from by
    have h3 := pow_step (L + K)
    have a1 : N * E < W64 ^ (L + K) := by rw [Nat.pow_add]; exact Nat.mul_lt_mul'' HS.out.1.1 HS.out.2.2
    have a2 : M * D < W64 ^ (L + K) := by rw [Nat.pow_add, Nat.mul_comm]; exact Nat.mul_lt_mul'' HS.out.1.2 HS.out.2.1
    have a3 : D * E < W64 ^ (L + K) := by rw [Nat.pow_add]; exact Nat.mul_lt_mul'' HS.out.1.2 HS.out.2.2
    have e1 := sg_nat s (N * E)
    have e2 := sg_nat t (M * D)
    have e3 : 0 < D * E := Nat.mul_pos HR.out.pos HQ.out.pos
    have e4 : 0 < M * D := Nat.mul_pos HM0.out HR.out.pos
    generalize W64 ^ (L + K + 1) = P at *
    generalize W64 ^ (L + K) = Q at *
    refine ⟨?_, ?_, ?_⟩ <;> omega)
  clear hR hQ hB hr hq
  obtain ⟨W2, hW2⟩ : ∃ W2, W2 = w1.alloc (.cells #[.pointer (some ⟨b1, 0, none⟩)] 102) := ⟨_, rfl⟩
  have hb2 : Below w1.heap.size w1 W2 := by rw [hW2]; exact Below.alloc' (Below.refl _ _) _
  have c0 : W2.cell? ⟨w1.heap.size, 0, none⟩ = some (.pointer (some ⟨b1, 0, none⟩)) := by rw [hW2]; exact alloc_new _ _ _ rfl rfl
  have HW2 := Lib.hid hW2
  clear hW2
  go_upto_region 76 with fail
  rw [← HW2.out]
  have HB2 := Lib.hid (Below.then HB.out (Nat.le_refl _) hb2)
  have HR2 := Lib.hid (HR.out.keep hb2)
  have HQ2 := Lib.hid (HQ.out.keep hb2)
  have HK2 := Lib.hid (HK.out.keep HB2.out)
  have HT2 := Lib.hid (HT.out.keep HB2.out)
  clear HR HQ HK HT hb2 HW2
  go_wp2_with fail
  refine (newRat_any _).mono ?_
  rintro e w3 ⟨rfl, hw3⟩
  have hb3 : Below W2.heap.size W2 w3 := by rw [hw3]; exact Below.alloc' (Below.refl _ _) _
  have HN3 := Lib.hid (show NewRat w3 W2.heap.size from by rw [hw3]; exact newRat_is W2)
  have HB3 := Lib.hid hb3
  have HS3 := Lib.hid (show w3.heap.size = W2.heap.size + 1 from by rw [hw3]; simp)
  have hk := HK2.out
  unfold Thr at hk
  have HG := Lib.hid (ratQuo_new W2.heap.size b1 b2 s t N D M E w3 (HK2.out.keep hb3) (HT2.out.keep hb3) HN3.out (HR2.out.keep hb3) (HQ2.out.keep hb3) HM0.out (Nat.ne_of_lt HR2.out.a.blk.lt) (Nat.ne_of_lt HQ2.out.a.blk.lt) (Nat.ne_of_gt (block_lt HT2.out)) (Nat.ne_of_gt (block_lt hk)) L K hL HS.out.1.1 HS.out.1.2 HS.out.2.1 HS.out.2.2)
  clear hw3 hb3 c0 hk
  go_wp2_with fail
  refine HG.out.mono ?_
  rintro e w4 ⟨rfl, hR4, hU4⟩
  have HR4 := Lib.hid hR4
  have HB4 := Lib.hid (hU4.below HB3.out (by have := HS3.out; omega) (fun k _ e => by subst e; exact Nat.le_refl _))
  clear hR4 hU4 HG
  go_wp2_with fail
  refine (makeRatF_any _ _ _ _ (L + K + 1) _ HR4.out (Nat.lt_of_le_of_lt (Nat.div_le_self _ _) HX.out.1) (Nat.lt_of_le_of_lt (Nat.div_le_self _ _) HX.out.2.1) (by omega)).mono ?_
  rintro e w5 ⟨rfl, rfl⟩
  go_wp2
  try rw [Exit.noGoto_ret]
  go_ret
  rw [← times_over]
  have hz := over_lt (s := !(s == t)) HX.out.1 HX.out.2.1
  exact ⟨_, rfl, ⟨_, _, _, _, rfl, HR4.out, rfl⟩, hz.1, hz.2, rok_over _ _ _ HX.out.2.2, Below.then HB2.out (Nat.le_refl _) HB4.out, ⟨_, rfl, HB2.out.size⟩⟩
theorem bndQuo (r q : Rt) (L : Nat) (hr : r.num < W64 ^ L ∧ r.den < W64 ^ L) (hq : q.num < W64 ^ L ∧ q.den < W64 ^ L) (hd : 0 < r.den) (he : 0 < q.den) (h0 : 0 < q.num) : (Rt.times r q.upside).num < W64 ^ (L + L + 1) ∧ (Rt.times r q.upside).den < W64 ^ (L + L + 1) ∧ ROk (Rt.times r q.upside) := by
  obtain ⟨s, N, D⟩ := r
  obtain ⟨t, M, E⟩ := q
  dsimp only at hr hq hd he h0
  rw [← times_over]
  have h3 := pow_step (L + L)
  have a1 : N * E < W64 ^ (L + L) := by rw [Nat.pow_add]; exact Nat.mul_lt_mul'' hr.1 hq.2
  have a2 : M * D < W64 ^ (L + L) := by rw [Nat.pow_add]; exact Nat.mul_lt_mul'' hq.1 hr.2
  have a3 : D * E < W64 ^ (L + L) := by rw [Nat.pow_add]; exact Nat.mul_lt_mul'' hr.2 hq.2
  have e1 := sg_nat s (N * E)
  have e2 := sg_nat t (M * D)
  have e3 : 0 < D * E := Nat.mul_pos hd he
  have e4 : 0 < M * D := Nat.mul_pos h0 hd
  have hx : (N * E) < W64 ^ (L + L + 1) ∧ (M * D) < W64 ^ (L + L + 1) ∧ 0 < (M * D) := by
    generalize W64 ^ (L + L + 1) = P at *
    generalize W64 ^ (L + L) = Q at *
    refine ⟨?_, ?_, ?_⟩ <;> omega
  have hz := fun s => over_lt (s := s) hx.1 hx.2.1
  exact ⟨(hz _).1, (hz _).2, rok_over _ _ _ hx.2.2⟩
theorem times_any (s1 s2 : Bool) (a1 : Option Addr) (n1 c1 : Nat) (a1' : Option Addr) (n1' c1' : Nat) (a2 : Option Addr) (n2 c2 : Nat) (a2' : Option Addr) (n2' c2' : Nat) (x y : Rt) (L : Nat) (w : World)
    (hx : RtAt w s1 a1 n1 c1 a1' n1' c1' x L) (hy : RtAt w s2 a2 n2 c2 a2' n2' c2' y L) (hxd : 0 < x.den) (hyd : 0 < y.den) (hL2 : L ≤ 20000) :
    Calls Tryz.prog 11 #[.agg #[.bool s1, .slice a1 n1 c1, .slice a1' n1' c1'], .agg #[.bool s2, .slice a2 n2 c2, .slice a2' n2' c2']] w (GivesR (x.times y) (2 * L) w) := by
  have hn1 := hx.n_le
  have hd1 := hx.d_le
  have hn2 := hy.n_le
  have hd2 := hy.d_le
  obtain ⟨W0, hW0⟩ : ∃ W0, W0 = ((w.alloc (.cells #[.bool s1, .slice a1 n1 c1, .slice a1' n1' c1'] 31)).alloc (.cells #[.bool s2, .slice a2 n2 c2, .slice a2' n2' c2'] 31)).alloc (.cells #[.bool false, .slice none 0 0, .slice none 0 0] 31) := ⟨_, rfl⟩
  have P := plusW w s1 s2 (.slice a1 n1 c1) (.slice a1' n1' c1') (.slice a2 n2 c2) (.slice a2' n2' c2') 31
  rw [← hW0] at P
  have HW := Lib.hid hW0
  clear hW0
  have XN := Lib.hid (show ∀ W', Below W0.heap.size W0 W' → NatAt W' a1 n1 c1 x.num from fun W' hb => (hx.num.keep P.below).keep hb)
  have XD := Lib.hid (show ∀ W', Below W0.heap.size W0 W' → NatAt W' a1' n1' c1' x.den from fun W' hb => (hx.den.keep P.below).keep hb)
  have YN := Lib.hid (show ∀ W', Below W0.heap.size W0 W' → NatAt W' a2 n2 c2 y.num from fun W' hb => (hy.num.keep P.below).keep hb)
  have YD := Lib.hid (show ∀ W', Below W0.heap.size W0 W' → NatAt W' a2' n2' c2' y.den from fun W' hb => (hy.den.keep P.below).keep hb)
  have hneg : s1 = x.neg := hx.neg
  have hneg2 : s2 = y.neg := hy.neg
  have HLN := Lib.hid (show x.num * y.num < 65536 ^ (2 * L) from by rw [Nat.two_mul, Nat.pow_add]; exact Nat.mul_lt_mul'' hx.numL hy.numL)
  have HLD := Lib.hid (show x.den * y.den < 65536 ^ (2 * L) from by rw [Nat.two_mul, Nat.pow_add]; exact Nat.mul_lt_mul'' hx.denL hy.denL)
  have HDP := Lib.hid (Nat.mul_pos hxd hyd)
  have HRES := Lib.hid (show x.times y = Rt.over (!(s1 == s2)) (x.num * y.num) (x.den * y.den) from by unfold Rt.times; rw [hneg, hneg2]; rfl)
  clear hx hy hxd hyd hneg hneg2
  go_enter Tryz.func11, Tryz.ntmps11
  go_wp2_with fail
  rw [← HW.out]
  have hb0 : Below W0.heap.size W0 W0.drew := (Below.refl _ _).drew
  go_region_held3 (fun w' => w'.cell? ⟨w.heap.size, 0, none⟩ = some (.bool s1) ∧ w'.cell? ⟨w.heap.size, 1, none⟩ = some (.slice a1 n1 c1) ∧ w'.cell? ⟨w.heap.size, 2, none⟩ = some (.slice a1' n1' c1') ∧
      w'.cell? ⟨w.heap.size + 1, 0, none⟩ = some (.bool s2) ∧ w'.cell? ⟨w.heap.size + 1, 1, none⟩ = some (.slice a2 n2 c2) ∧ w'.cell? ⟨w.heap.size + 1, 2, none⟩ = some (.slice a2' n2' c2'))
    (first | exact ⟨P.x0, P.x1, P.x2, P.y0, P.y1, P.y2⟩ | exact ⟨cell_keep P.x0 (by assumption), cell_keep P.x1 (by assumption), cell_keep P.x2 (by assumption), cell_keep P.y0 (by assumption), cell_keep P.y1 (by assumption), cell_keep P.y2 (by assumption)⟩ | (refine ⟨?_, ?_, ?_, ?_, ?_, ?_⟩ <;> (rw [cell?_setCell_ne (by omega), cell?_setCell_ne (by omega), cell?_setCell_ne (by omega)]) <;> first | exact cell_keep P.x0 (by assumption) | exact cell_keep P.x1 (by assumption) | exact cell_keep P.x2 (by assumption) | exact cell_keep P.y0 (by assumption) | exact cell_keep P.y1 (by assumption) | exact cell_keep P.y2 (by assumption)))
    (first | (go_at_call 28; (with_reducible refine (mul_any a1 a2 n1 n2 c1 c2 x.num y.num _ (XN.out _ (by assumption)) (YN.out _ (by assumption)) (by omega) (by omega)).mono ?_); rintro e w1 ⟨aM, nM, cM, rfl, hM, hB1⟩; have hb1 := Below.then hb0 (Nat.le_refl _) hB1) | (go_at_call 28; (with_reducible refine (mul_any a1' a2' n1' n2' c1' c2' x.den y.den _ (XD.out _ (by assumption)) (YD.out _ (by assumption)) (by omega) (by omega)).mono ?_); rintro e w3 ⟨aD, nD, cD, rfl, hD, hB3⟩; have hb3 := Below.then hb1 (Nat.le_refl _) hB3) | (go_at_call 29; (with_reducible refine (over_any (!(s1 == s2)) aM nM cM aD nD cD (x.num * y.num) (x.den * y.den) (2 * L) _ (hM.keep hB3) hD HLN.out HLD.out HDP.out (by omega)).mono ?_); rintro e w5 ⟨sR, aR, nR, cR, aE, nE, cE, rfl, hR, hB5⟩; have hb5 := Below.then hb3 (Nat.le_refl _) hB5; have R5 := P.res.below P.res.lt hb5; obtain ⟨⟨u0, r0⟩, ⟨u1, r1⟩, ⟨u2, r2⟩⟩ := (R5).cells; have f0 := (R5).frozen 0; have f1 := (R5).frozen 1; have f2 := (R5).frozen 2))
  have hbf := Below.then P.below (Nat.le_refl _) hb5
  go_wp2
  exact bodyPost_ret (v := .agg #[.bool sR, .slice aR nR cR, .slice aE nE cE]) (by simp [results, Tryz.results11, go_sem, r0, r1, r2]) rfl (givesR_end R5 (by omega) hbf (by rw [HRES.out]; exact hR))
end Go.Proofs.YtgmienggfaahlaaGreatDoor
namespace Go.Bg
open Go.RowKit Go.ChangeShapes Go.WideShapes Dg
theorem spot_none {w : World} {a : Addr} {v : Value} (h : w.cell? a = some v) : a = ⟨a.block, a.off, none⟩ := by
  obtain ⟨b, o, s⟩ := a
  cases s with
  | none => rfl
  | some k =>
    simp only [World.cell?] at h
    split at h <;> simp at h
theorem open_words {H : Type} {enc : TypeId × Value → H} {P : Program} {w : World} {base : Nat} {spare : Nat → Bool} {held : Bool} {t e : TypeId} {fuel : Nat} {cs : List Value} {x : DataW H × List MemPlace}
    (ht : P.underlying t = some (.slice e)) (he : P.underlying e = some (.int .u64)) (hc : P.cellsOf e = 1)
    (h : DataW.trod enc P w base spare held fuel t cs = some x) : ∃ a n c f, cs = [.slice a n c] ∧ WordsAt w a n c f := by
  rcases open_ints ht he hc h with ⟨rfl, _⟩ | ⟨a, len, cap, zs, rfl, _, hlc, hcm, hlen, _, hcell, hwf⟩
  · exact ⟨none, 0, 0, fun _ => 0, rfl, ⟨fun h => by omega, fun i h => by omega, Nat.le_refl _, by simp [maxLen], fun _ => rfl⟩⟩
  · have hz : len ≤ zs.length := by rw [hlen]; split <;> omega
    have hbd : ∀ i, i < len → 0 ≤ zs.getD i 0 ∧ zs.getD i 0 < 18446744073709551616 := by
      intro i hi
      have hm : zs.getD i 0 ∈ zs := by
        rw [List.getD_eq_getElem?_getD, List.getElem?_eq_getElem (show i < zs.length by omega)]
        exact List.getElem_mem _
      have := hwf _ hm
      simp [Lit.wf, IntKind.min, IntKind.max, IntKind.bits, IntKind.signed] at this
      simp only [List.getD_eq_getElem?_getD]
      omega
    refine ⟨some a, len, cap, fun i => (zs.getD i 0).toNat, rfl, ⟨fun h0 => ?_, fun i hi => ?_, hlc, hcm, by simp⟩⟩
    · have c0 := hcell 0 (by omega)
      have hs := spot_none (by simpa [Addr.add] using c0)
      refine ⟨a.block, a.off, by rw [← hs], fun i hi => ?_⟩
      have hci := hcell i (by omega)
      have hb := hbd i hi
      have e : a.add i = ⟨a.block, a.off + i, none⟩ := by
        rw [hs]; unfold Addr.add; split
        · next h => subst h; rfl
        · rfl
      rw [e] at hci
      rw [hci]
      simp only [Option.some.injEq, Value.int.injEq, true_and]
      omega
    · have hb := hbd i hi
      show (zs.getD i 0).toNat < W64
      unfold W64
      omega
end Go.Bg
namespace Go.Bg
theorem trodVars_len {H : Type} {enc : TypeId × Value → H} {P : Program} {w : World} {sp : Nat → Bool} : ∀ {ns : List String} {gs : List (DataW H)} {ps : List MemPlace}, DataW.TrodVars enc P w sp ns gs ps → gs.length = ns.length
  | [], [], _, _ => rfl
  | [], _ :: _, _, h => h.elim
  | _ :: _, [], _, h => h.elim
  | n :: ns, d :: ds, ps, h => by
    obtain ⟨_, _, _, _, _, _, _, _, _, _, hs, _⟩ := h
    simp [trodVars_len hs]
theorem list4 {α : Type} {l : List α} (h : l.length = 4) : ∃ c0 c1 c2 c3, l = [c0, c1, c2, c3] := by
  match l, h with
  | [c0, c1, c2, c3], _ => exact ⟨c0, c1, c2, c3, rfl⟩
theorem array9 {α : Type} {cs : Array α} (h : cs.size = 9) : ∃ c0 c1 c2 c3 c4 c5 c6 c7 c8, cs = #[c0, c1, c2, c3, c4, c5, c6, c7, c8] := by
  obtain ⟨l⟩ := cs
  match l, h with
  | [c0, c1, c2, c3, c4, c5, c6, c7, c8], _ => exact ⟨c0, c1, c2, c3, c4, c5, c6, c7, c8, rfl⟩
theorem list7 {α : Type} {l : List α} (h : l.length = 7) : ∃ c0 c1 c2 c3 c4 c5 c6, l = [c0, c1, c2, c3, c4, c5, c6] := by
  match l, h with
  | [c0, c1, c2, c3, c4, c5, c6], _ => exact ⟨c0, c1, c2, c3, c4, c5, c6, rfl⟩
theorem list2 {α : Type} {l : List α} (h : l.length = 2) : ∃ c0 c1, l = [c0, c1] := by
  match l, h with
  | [c0, c1], _ => exact ⟨c0, c1, rfl⟩
end Go.Bg
namespace Go.Proofs.YtgmienggfaahlaaGreatDoor
open Go.RowKit Go.ChangeShapes Go.WideShapes Go.Bg Dg
theorem cellsValue : Tryz.prog.cellsOf 26 = 9 := by kernel_rfl
theorem cellsNumber : Tryz.prog.cellsOf 24 = 2 := by kernel_rfl
theorem cellsWords : Tryz.prog.cellsOf 22 = 1 := by kernel_rfl
theorem cellsUint : Tryz.prog.cellsOf 151 = 1 := by kernel_rfl
theorem cellsInt : Tryz.prog.cellsOf 3 = 1 := by kernel_rfl
theorem cellsBool : Tryz.prog.cellsOf 4 = 1 := by kernel_rfl
theorem cellsString : Tryz.prog.cellsOf 9 = 1 := by kernel_rfl
theorem open_num {H : Type} {enc : TypeId × Value → H} {w : World} {base : Nat} {spare : Nat → Bool} {held : Bool} {fuel : Nat} {c0 c1 : Value} {x : DataW H × List MemPlace}
    (h : DataW.trod enc Tryz.prog w base spare held fuel 24 [c0, c1] = some x) : ∃ b a n c f, c0 = .bool b ∧ c1 = .slice a n c ∧ WordsAt w a n c f := by
  obtain ⟨xs, n, _, rfl, hl, hlen, hf⟩ := DataW.trod_struct Tryz.underlying24 h
  obtain ⟨y0, y1, rfl⟩ := list2 hlen
  have h0 := hf 0 _ rfl
  have h1 := hf 1 _ rfl
  simp only [cellsBool, cellsWords, List.drop_zero, List.take_succ_cons, List.take_zero, List.drop_succ_cons, List.getElem?_cons_zero, List.getElem?_cons_succ] at h0 h1
  obtain ⟨b, e0, _⟩ := DataW.trod_bool Tryz.underlying4 h0
  obtain ⟨a, m, c, f, e1, hw⟩ := open_words Tryz.underlying22 Tryz.underlying151 cellsUint h1
  injection e0 with e0 _
  injection e1 with e1 _
  exact ⟨b, a, m, c, f, e0, e1, hw⟩
theorem open_vl {H : Type} {enc : TypeId × Value → H} {w : World} {base : Nat} {spare : Nat → Bool} {held : Bool} {r : Reach} {b0 : Nat} {v : Value} {d : DataW H} {ps : List MemPlace}
    (hval : Value.okWide Tryz.prog w r b0 26 v) (h : DataW.Trod enc Tryz.prog w base spare held 26 v d ps) : ∃ x : Vl, v = .agg #[.int .i64 x.kind, .bool x.truth, .string x.text, .bool x.neg, .slice x.wa x.wn x.wc, .slice x.da x.dn x.dc, .bool x.ineg, .slice x.ia x.inn x.ic, .slice x.ea x.en x.ec] ∧ VlAt w x := by
  obtain ⟨cs, rfl, hsz⟩ := okWide_struct Tryz.underlying26 hval
  obtain ⟨c0, c1, c2, c3, c4, c5, c6, c7, c8, rfl⟩ := array9 (hsz.trans cellsValue)
  obtain ⟨fuel, hf⟩ := h
  obtain ⟨xs, n, _, _, hl, hlen, hg⟩ := DataW.trod_struct Tryz.underlying26 hf
  obtain ⟨y0, y1, y2, y3, y4, y5, y6, rfl⟩ := list7 hlen
  have g0 := hg 0 _ rfl
  have g1 := hg 1 _ rfl
  have g2 := hg 2 _ rfl
  have g3 := hg 3 _ rfl
  have g4 := hg 4 _ rfl
  have g5 := hg 5 _ rfl
  have g6 := hg 6 _ rfl
  simp only [Value.cells, cellsInt, cellsBool, cellsString, cellsNumber, cellsWords, List.drop_zero, List.take_succ_cons, List.take_zero, List.drop_succ_cons, List.getElem?_cons_zero, List.getElem?_cons_succ] at g0 g1 g2 g3 g4 g5 g6
  obtain ⟨k, e0, _, hk⟩ := DataW.trod_int Tryz.underlying3 g0
  obtain ⟨tr, e1, _⟩ := DataW.trod_bool Tryz.underlying4 g1
  obtain ⟨tx, e2, _, htx⟩ := DataW.trod_string Tryz.underlying9 g2
  obtain ⟨ng, wa, wn, wc, wf, e3, e4, hw⟩ := open_num g3
  obtain ⟨da, dn, dc, df, e5, hd⟩ := open_words Tryz.underlying22 Tryz.underlying151 cellsUint g4
  obtain ⟨ig, ia, inn, ic, jf, e6, e7, hi⟩ := open_num g5
  obtain ⟨ea, en, ec, ef, e8, he⟩ := open_words Tryz.underlying22 Tryz.underlying151 cellsUint g6
  injection e0 with e0 _
  injection e1 with e1 _
  injection e2 with e2 _
  injection e5 with e5 _
  injection e8 with e8 _
  subst e0 e1 e2 e3 e4 e5 e6 e7 e8
  refine ⟨⟨k, tr, tx, ng, wa, wn, wc, wf, da, dn, dc, df, ig, ia, inn, ic, jf, ea, en, ec, ef⟩, rfl, ⟨hw, hd, hi, he, htx, ?_⟩⟩
  simp [Lit.wf, IntKind.min, IntKind.max, IntKind.bits, IntKind.signed] at hk
  show -9223372036854775808 ≤ k ∧ k ≤ 9223372036854775807
  omega
theorem open_u8 {H : Type} {enc : TypeId × Value → H} {w : World} {base : Nat} {spare : Nat → Bool} {held : Bool} {r : Reach} {b0 : Nat} {v : Value} {d : DataW H} {ps : List MemPlace}
    (hval : Value.okWide Tryz.prog w r b0 5 v) (h : DataW.Trod enc Tryz.prog w base spare held 5 v d ps) : ∃ n : Nat, v = .int .u8 n ∧ n < 256 := by
  obtain ⟨n, rfl, _, _, hw⟩ := open_int Tryz.underlying5 hval h
  simp [Lit.wf, IntKind.min, IntKind.max, IntKind.bits, IntKind.signed] at hw
  exact ⟨n.toNat, by rw [Int.toNat_of_nonneg (by omega)], by omega⟩
end Go.Proofs.YtgmienggfaahlaaGreatDoor
