/-
  Contracts and lemmas: LNeg LawN Law4 FrC RatMul OpsR OpsM.
-/
import Derived.Test.YtgmienggfaahlaaGreatDoorK19
import Derived.Test.YtgmienggfaahlaaGreatDoorK18
import Derived.Test.YtgmienggfaahlaaGreatDoorK33
import Derived.Test.YtgmienggfaahlaaGreatDoorK02
import Derived.Test.YtgmienggfaahlaaGreatDoorK30
import Derived.Test.YtgmienggfaahlaaGreatDoorK11
import Derived.Test.YtgmienggfaahlaaGreatDoorK31
import Derived.Test.YtgmienggfaahlaaGreatDoorK32
import Derived.Test.YtgmienggfaahlaaGreatDoorK17
set_option linter.unusedSimpArgs false
set_option linter.unusedVariables false
set_option maxRecDepth 100000
set_option maxHeartbeats 8000000
namespace Go.Proofs.YtgmienggfaahlaaGreatDoor
open Go.RowKit Go.Bg Dg
theorem isC_same {r q : Rt} {L : Nat} {y : Vl} (h : IsC r q L y) : (pairB y && sameB (vrt y) r && sameB (virt y) q) = true := by
  obtain ⟨h1, h2, h3, _⟩ := h
  rw [h1, h2, h3, sameB_refl, sameB_refl]; rfl
theorem isQ_same {r : Rt} {L : Nat} {y : Vl} (h : IsQ r L y) : (ratB y && sameB (vrt y) r) = true := by
  obtain ⟨h1, h2, _⟩ := h
  rw [h1, h2, sameB_refl]; rfl
theorem fracB_parts {s : Bool} {f : Nat → Nat} {n : Nat} {f' : Nat → Nat} {n' : Nat} (h : fracB s f n f' n' = true) :
    ROk (frt s f n f' n') ∧ s = (s && decide (0 < val W64 f n)) := by
  unfold fracB isNumB at h
  simp only [Bool.and_eq_true, decide_eq_true_eq, beq_iff_eq] at h
  obtain ⟨⟨⟨h1, h2, h3⟩, h4⟩, h5⟩ := h
  refine ⟨⟨h1, fun hs => ?_, h5⟩, h2⟩
  have hs : s = true := hs
  rw [hs] at h2
  show 0 < val W64 f n
  simpa using h2.symm
theorem lratB_parts {x : Vl} {k : Nat} (h : lratB x k = true) : x.kind = 4 ∧ x.wn ≤ k ∧ x.dn ≤ k ∧ fracB x.neg x.wf x.wn x.df x.dn = true := by
  unfold lratB ratB at h
  simp only [Bool.and_eq_true, decide_eq_true_eq] at h
  exact ⟨h.2.1.1, h.1.1, h.1.2, h.2.2⟩
theorem numV_rat {x : Vl} {k : Nat} (h : lratB x k = true) (hk : k ≤ 63) : NumV x (vrt x) := by
  obtain ⟨h1, h2, h3, h4⟩ := lratB_parts h
  obtain ⟨h5, h6⟩ := fracB_parts h4
  refine ⟨.inr ⟨h1, h5.den, ?_⟩, by omega, by omega, h5⟩
  unfold vrt mrt frt
  rw [← h6]
def lpairB (v : Vl) (k : Nat) : Bool := decide (v.wn ≤ k) && decide (v.dn ≤ k) && decide (v.inn ≤ k) && decide (v.en ≤ k) && pairB v
theorem lawPair_any (v : Vl) (k : Nat) (w : World) (h : VlAt w v) (hk : k ≤ 1000) :
    Calls Tryz.prog 7 #[.agg #[.int .i64 v.kind, .bool v.truth, .string v.text, .bool v.neg, .slice v.wa v.wn v.wc, .slice v.da v.dn v.dc, .bool v.ineg, .slice v.ia v.inn v.ic, .slice v.ea v.en v.ec], .int .i64 k] w (Reads2 (lpairB v k) (vrt v) (virt v) (4 * k) w) := by
  obtain ⟨W0, hW0⟩ : ∃ W0, W0 = ((w.alloc (.cells #[.int .i64 v.kind, .bool v.truth, .string v.text, .bool v.neg, .slice v.wa v.wn v.wc, .slice v.da v.dn v.dc, .bool v.ineg, .slice v.ia v.inn v.ic, .slice v.ea v.en v.ec] 26)).alloc (.cells #[.bool false, .slice none 0 0, .slice none 0 0] 31)).alloc (.cells #[.bool false, .slice none 0 0, .slice none 0 0] 31) := ⟨_, rfl⟩
  have HW := Lib.hid hW0
  have hb0 : Below w.heap.size w W0 := by rw [hW0]; exact Below.alloc' (Below.alloc' (Below.alloc' (Below.refl _ _) _) _) _
  by_cases hn : v.wn ≤ k ∧ v.dn ≤ k ∧ v.inn ≤ k ∧ v.en ≤ k
  · obtain ⟨hn, hd, hi, he⟩ := hn
    have R1 : ResBlk W0 (w.heap.size + 1) := by rw [hW0]; exact (ResBlk.new _ _ (by simp)).alloc1 _
    have R2 : ResBlk W0 (w.heap.size + 1 + 1) := by rw [hW0]; exact ResBlk.new _ _ (by simp)
    have X : Box9 W0 w.heap.size v := by rw [hW0]; exact ((Box9.new w v _ rfl).alloc _).alloc _
    have HI := Lib.hid (show lpairB v k = pairB v from by unfold lpairB; simp [hn, hd, hi, he])
    have HV := Lib.hid (h.keep hb0)
    clear hW0 h
    go_enter Tryz.func7, Tryz.ntmps7
    go_upto_region 3 with fail
    rw [← HW.out]
    obtain ⟨xc0, xc1, xc2, xc3, xc4, xc5, xc6, xc7, xc8⟩ := (X).all
    go_wp2_with fail
    refine (pair_any v (4 * k) _ HV.out (by omega) (by omega) (by omega) (by omega) (by omega)).mono ?_
    rintro e w1 ⟨sA, aA, nA, cA, aB, nB, cB, sC, aC, nC, cC, aD, nD, cD, rfl, hR, hB1⟩
    have Q1 := R1.below R1.lt hB1
    have Q2 := R2.below R2.lt hB1
    have hbf := Below.then hb0 (Nat.le_refl _) hB1
    have HR := Lib.hid hR
    clear xc0 xc1 xc2 xc3 xc4 xc5 xc6 xc7 xc8 hR
    obtain ⟨⟨u0, r0⟩, ⟨u1, r1⟩, ⟨u2, r2⟩⟩ := Q1.cells
    have f0 := Q1.frozen 0
    have f1 := Q1.frozen 1
    have f2 := Q1.frozen 2
    obtain ⟨⟨z0, q0⟩, ⟨z1, q1⟩, ⟨z2, q2⟩⟩ := Q2.cells
    have g0 := Q2.frozen 0
    have g1 := Q2.frozen 1
    have g2 := Q2.frozen 2
    go_wp2
    exact bodyPost_ret (v := .tuple #[.agg #[.bool sA, .slice aA nA cA, .slice aB nB cB], .agg #[.bool sC, .slice aC nC cC, .slice aD nD cD], .bool (pairB v)]) (by simp [results, Tryz.results7, go_sem, r0, r1, r2, q0, q1, q2]) rfl
      ⟨_, _, _, _, _, _, _, _, _, _, _, _, _, _, by rw [HI.out], fun hb => ⟨stored33 Q1.noInt Q2.noInt (HR.out (by rw [← HI.out]; exact hb)).1, stored33 Q1.noInt Q2.noInt (HR.out (by rw [← HI.out]; exact hb)).2⟩, (((((hbf.setCell (Nat.le_add_right _ 1) _).setCell (Nat.le_add_right _ 1) _).setCell (Nat.le_add_right _ 1) _).setCell (Nat.le_add_right _ 2) _).setCell (Nat.le_add_right _ 2) _).setCell (Nat.le_add_right _ 2) _⟩
  · have HI := Lib.hid (show lpairB v k = false from by
      unfold lpairB
      by_cases h1 : v.wn ≤ k <;> by_cases h2 : v.dn ≤ k <;> by_cases h3 : v.inn ≤ k <;> by_cases h4 : v.en ≤ k <;> simp [h1, h2, h3, h4] <;> exact absurd ⟨h1, h2, h3, h4⟩ hn)
    have HB := Lib.hid (show Below w.heap.size w (((w.alloc (.cells #[.int .i64 v.kind, .bool v.truth, .string v.text, .bool v.neg, .slice v.wa v.wn v.wc, .slice v.da v.dn v.dc, .bool v.ineg, .slice v.ia v.inn v.ic, .slice v.ea v.en v.ec] 26)).alloc (.cells #[.bool false, .slice none 0 0, .slice none 0 0] 31)).alloc (.cells #[.bool false, .slice none 0 0, .slice none 0 0] 31)) from by rw [← hW0]; exact hb0)
    clear hW0 hb0 h HW
    by_cases h1 : v.wn ≤ k
    · by_cases h2 : v.dn ≤ k
      · by_cases h3 : v.inn ≤ k
        · have h4 : ¬ v.en ≤ k := fun h4 => hn ⟨h1, h2, h3, h4⟩
          clear hn
          go_enter Tryz.func7, Tryz.ntmps7
          go_wp2
          exact bodyPost_ret (v := .tuple #[.agg #[.bool false, .slice none 0 0, .slice none 0 0], .agg #[.bool false, .slice none 0 0, .slice none 0 0], .bool false]) (by simp [results, Tryz.results7, go_sem]) rfl
            ⟨_, _, _, _, _, _, _, _, _, _, _, _, _, _, by rw [HI.out], fun h => (by rw [HI.out] at h; cases h), HB.out⟩
        · clear hn
          go_enter Tryz.func7, Tryz.ntmps7
          go_wp2
          exact bodyPost_ret (v := .tuple #[.agg #[.bool false, .slice none 0 0, .slice none 0 0], .agg #[.bool false, .slice none 0 0, .slice none 0 0], .bool false]) (by simp [results, Tryz.results7, go_sem]) rfl
            ⟨_, _, _, _, _, _, _, _, _, _, _, _, _, _, by rw [HI.out], fun h => (by rw [HI.out] at h; cases h), HB.out⟩
      · clear hn
        go_enter Tryz.func7, Tryz.ntmps7
        go_wp2
        exact bodyPost_ret (v := .tuple #[.agg #[.bool false, .slice none 0 0, .slice none 0 0], .agg #[.bool false, .slice none 0 0, .slice none 0 0], .bool false]) (by simp [results, Tryz.results7, go_sem]) rfl
          ⟨_, _, _, _, _, _, _, _, _, _, _, _, _, _, by rw [HI.out], fun h => (by rw [HI.out] at h; cases h), HB.out⟩
    · clear hn
      go_enter Tryz.func7, Tryz.ntmps7
      go_wp2
      exact bodyPost_ret (v := .tuple #[.agg #[.bool false, .slice none 0 0, .slice none 0 0], .agg #[.bool false, .slice none 0 0, .slice none 0 0], .bool false]) (by simp [results, Tryz.results7, go_sem]) rfl
        ⟨_, _, _, _, _, _, _, _, _, _, _, _, _, _, by rw [HI.out], fun h => (by rw [HI.out] at h; cases h), HB.out⟩
theorem intmulF (b o b1 o1 b2 o2 : Nat) (s t : Bool) (N M : Nat) (w : World) (hK : Thr w) (h : NewInt w b o) (h1 : BigAt 155 w b1 o1 s N) (h2 : BigAt 155 w b2 o2 t M) (hne : b1 ≠ b2) (hb1 : b1 ≠ b) (hb2 : b2 ≠ b) (L : Nat) (hL : L < 40) (hN : N < W64 ^ L) (hM : M < W64 ^ L) (p : Value) :
    Calls Tryz.prog 139 #[.pointer (some ⟨b, o, none⟩), p, .pointer (some ⟨b1, o1, none⟩), .pointer (some ⟨b2, o2, none⟩)] w fun e w' => e = .returned (.tuple #[]) ∧ IntFr 155 b o (decide (sg s N * sg t M < 0)) (sg s N * sg t M).natAbs w w' := by
  obtain ⟨j, hj, hj2⟩ := Option.map_eq_some_iff.1 infoBigIntSize
  obtain ⟨a, n, c, p0, p1, hNN⟩ := h1.val
  obtain ⟨a', n', c', q0, q1, hMM⟩ := h2.val
  have hn : n < 40 := Nat.lt_of_le_of_lt (len_le W64_gt hNN.num.top hN) hL
  have hn' : n' < 40 := Nat.lt_of_le_of_lt (len_le W64_gt hMM.num.top hM) hL
  obtain ⟨cur1, e1, r1, _⟩ := h1.blk
  obtain ⟨cur2, e2, r2, _⟩ := h2.blk
  have hq := run_eql_ptr_other (P := Tryz.prog) (a := ⟨b1, o1, none⟩) (b := ⟨b2, o2, none⟩) w Tryz.underlying90 hj (by rw [hj2]; decide) (by intro h; injection h with h _ _; exact hne h) r1 r2
  have HH := Lib.hid h
  have HN := Lib.hid hNN
  have HM := Lib.hid hMM
  have H0 := Lib.hid h1
  have H5 := Lib.hid h2
  have HK := Lib.hid hK
  have HP0 := Lib.hid p0
  have HQ0 := Lib.hid q0
  have k1 := h.c1
  clear h h1 h2 hNN hMM hN hM r1 r2 hK p0 q0 hj2
  go_enter Tryz.func139, Tryz.ntmps139
  go_upto_region 3 with fail
  clear hq
  have hd0 : ∀ q, Below w.heap.size w (w.drewN q) := fun q => below_drewN (Below.refl w.heap.size w) q
  go_region_with
    ((go_at_call 199; (with_reducible refine (natMulF a a' n n' c c' N M _ ?_ ?_ ?_ (by omega) (by omega) (.inl hn) p).mono ?_); exact HK.out.keep (hd0 _); exact HN.out.keep (hd0 _); exact HM.out.keep (hd0 _); rintro e w1 ⟨a2, n2, c2, rfl, hN2, hB, hf⟩; have hB1 := Below.then (hd0 _) (Nat.le_refl _) hB; have hf1 := (fun k hk => Nat.le_trans (hd0 _).size (hf k hk) : ∀ k, InB a2 k → w.heap.size ≤ k); have HP := Lib.hid (natAt_pos_len hN2.num); have hcm2 := hN2.num.cm; have hnc2 := hN2.num.nc; have HF := Lib.hid (fun (s' : Bool) (hs : s' = true → 0 < N * M) => HH.out.madeF hB1 hN2 hf1 hs); have h' := HH.out.keep hB1; obtain ⟨u0, k0⟩ := h'.c0; have k1' := h'.c1; have f0 := h'.blk.frozen o; have f1 := h'.blk.frozen (o + 1); have k0' : ∀ v, (w1.setCell ⟨b, o + 1, none⟩ v).cell? ⟨b, o, none⟩ = some u0 := (fun v => by rw [World.cell?_setCell_other _ _ _ _ (fun hh => by injection hh with _ hh _; omega)]; exact k0); have x0 := cell_keep HP0.out hB1; have y0 := cell_keep HQ0.out hB1; have x0' : ∀ v, (w1.setCell ⟨b, o + 1, none⟩ v).cell? ⟨b1, o1, none⟩ = some (.bool s) := (fun v => by rw [World.cell?_setCell_other _ _ _ _ (fun hh => by injection hh with hh _ _; exact hb1 hh.symm)]; exact x0); have y0' : ∀ v, (w1.setCell ⟨b, o + 1, none⟩ v).cell? ⟨b2, o2, none⟩ = some (.bool t) := (fun v => by rw [World.cell?_setCell_other _ _ _ _ (fun hh => by injection hh with hh _ _; exact hb2 hh.symm)]; exact y0); clear h' hN2 hB hB1 hf hf1 x0 y0))
  all_goals
    clear p1 q1 k1
    obtain ⟨W5, hW5⟩ : ∃ W5, W5 = w1.setCell ⟨b, o + 1, none⟩ (.slice a2 n2 c2) := ⟨_, rfl⟩
    have HW := Lib.hid hW5
    have cc1 : W5.cell? ⟨b, o + 1, none⟩ = some (.slice a2 n2 c2) := by rw [hW5]; exact World.cell?_setCell_same _ _ _ k1'
    have cc0 : W5.cell? ⟨b, o, none⟩ = some u0 := by rw [hW5]; exact k0' _
    have ccx : W5.cell? ⟨b1, o1, none⟩ = some (.bool s) := by rw [hW5]; exact x0' _
    have ccy : W5.cell? ⟨b2, o2, none⟩ = some (.bool t) := by rw [hW5]; exact y0' _
    have ff0 : W5.frozen? ⟨b, o, none⟩ = false := by rw [hW5, World.frozen?_setCell]; exact f0
    go_upto_region 4 with fail
    rw [← HW.out]
    rw [← HW.out] at HF
    clear hW5 k0' x0' y0' f0 f1 k1' k0
    by_cases hr : 0 < n2
    · have hdd : decide (0 < n2) = true := by simpa using hr
      go_region
      all_goals
        go_wp2
        go_end0
        have hp : 0 < N * M := by have := HP.out; simpa [hr] using this.symm
        refine intFr_set (HF.out _ (fun _ => hp)) ?_
        have hpl := sg_mul s t N M
        have hbe : (s != t) = !(s == t) := rfl
        rw [hbe] at hpl
        simp only [hp, decide_true, Bool.and_true] at hpl
        exact hpl
    · have hdd : decide (0 < n2) = false := by simpa using hr
      go_region
      all_goals
        go_wp2
        go_end0
        have hp : ¬ 0 < N * M := by have := HP.out; simpa [hr] using this
        refine intFr_set (HF.out false (by simp)) ?_
        have hpl := sg_mul s t N M
        simpa [hp] using hpl
theorem ratMul_new (zb b1 b2 : Nat) (s t : Bool) (N D M E : Nat) (w : World) (hK : Thr w) (hT : ThrD w) (h : NewRat w zb) (h1 : RatAt 155 w b1 s N D) (h2 : RatAt 155 w b2 t M E) (hne : b1 ≠ b2) (ne1 : b1 ≠ zb) (ne2 : b2 ≠ zb) (hv : zb ≠ 3) (hvk : zb ≠ 2) (L K : Nat) (hL : L + K ≤ 38) (hN : N < W64 ^ L) (hD : D < W64 ^ L) (hM : M < W64 ^ K) (hE : E < W64 ^ K) :
    Calls Tryz.prog 78 #[.pointer (some ⟨zb, 0, none⟩), .pointer (some ⟨b1, 0, none⟩), .pointer (some ⟨b2, 0, none⟩)] w (FracIs zb (decide (sg s N * sg t M < 0)) (sg s N * sg t M).natAbs (D * E) w) := by
  have lz : zb < w.heap.size := h.blk.lt
  have l1 : b1 < w.heap.size := h1.a.blk.lt
  have l2 : b2 < w.heap.size := h2.a.blk.lt
  obtain ⟨aD, nD, cD, _, qD, hND⟩ := h1.d.val
  obtain ⟨aE, nE, cE, _, qE, hNE⟩ := h2.d.val
  have qD' : w.cell? ⟨b1, 3, none⟩ = some (.slice aD nD cD) := qD
  have qE' : w.cell? ⟨b2, 3, none⟩ = some (.slice aE nE cE) := qE
  have hnD : nD < 40 := Nat.lt_of_le_of_lt (len_le W64_gt hND.num.top hD) (by omega)
  have hnE : nE < 40 := Nat.lt_of_le_of_lt (len_le W64_gt hNE.num.top hE) (by omega)
  have HSZ := Lib.hid (show (sg s N * sg t M).natAbs < W64 ^ (L + K) ∧ D * E < W64 ^ (L + K) from by
    rw [Nat.pow_add, Int.natAbs_mul, sg_nat, sg_nat]
    exact ⟨Nat.mul_lt_mul'' hN hM, Nat.mul_lt_mul'' hD hE⟩)
  have HQ := Lib.hid (⟨qD', qE', hND, hNE⟩ : w.cell? ⟨b1, 3, none⟩ = some (.slice aD nD cD) ∧ w.cell? ⟨b2, 3, none⟩ = some (.slice aE nE cE) ∧ BigN 155 w aD nD cD D ∧ BigN 155 w aE nE cE E)
  obtain ⟨j, hj, hj2⟩ := Option.map_eq_some_iff.1 infoBigRatSize
  obtain ⟨cur1, e1, r1, _⟩ := h1.a.blk
  obtain ⟨cur2, e2, r2, _⟩ := h2.a.blk
  obtain ⟨W1, hW1⟩ : ∃ W1, W1 = w.alloc (.cells #[.pointer none] 225) := ⟨_, rfl⟩
  have hb1 : Below w.heap.size w W1 := by rw [hW1]; exact Below.alloc' (Below.refl _ _) _
  have hq := run_eql_ptr_other (P := Tryz.prog) (a := ⟨b1, 0, none⟩) (b := ⟨b2, 0, none⟩) W1 Tryz.underlying95 hj (by rw [hj2]; decide) (by intro h; injection h with h _ _; exact hne h) (BlkAt.keep r1 hb1) (BlkAt.keep r2 hb1)
  have hs1 : W1.heap.size = w.heap.size + 1 := by rw [hW1]; simp
  have S1 := Lib.hid (show BlkAt W1 w.heap.size #[.pointer none] 225 from by rw [hW1]; exact BlkAt.new _ _ _)
  have HW1 := Lib.hid hW1
  have HB1 := Lib.hid hb1
  have H1 := Lib.hid h1
  have H2 := Lib.hid h2
  have HZ := Lib.hid h
  have HK := Lib.hid hK
  have HT := Lib.hid hT
  have HL := Lib.hid (⟨hN, hD, hM, hE, hv⟩ : N < W64 ^ L ∧ D < W64 ^ L ∧ M < W64 ^ K ∧ E < W64 ^ K ∧ zb ≠ 3)
  have HNE := Lib.hid (⟨ne1, ne2, hvk, hne⟩ : b1 ≠ zb ∧ b2 ≠ zb ∧ zb ≠ 2 ∧ b1 ≠ b2)
  clear hW1 hb1 qD qE qD' qE' hND hNE h1 h2 h hK hT hN hD hM hE hv ne1 ne2 hvk hne r1 r2 hj2
  go_enter_defers Tryz.func78, Tryz.ntmps78
  go_wp2_with fail
  refine (getStack_any _).mono ?_
  rintro e wx ⟨rfl, hw1⟩
  rw [← HW1.out] at hw1
  rw [hw1]
  clear hw1
  go_upto_region 10 with fail
  clear hq
  have hd1 : Below W1.heap.size W1 W1.drew := (Below.refl _ _).drew
  have hb5 := Below.then HB1.out (Nat.le_refl _) hd1
  go_region_held3 (fun _ => True) (exact trivial)
    (first | (go_at_call 139; (with_reducible refine (intmulF zb 0 b1 0 b2 0 s t N M _ ?_ ?_ ?_ ?_ HNE.out.2.2.2 HNE.out.1 HNE.out.2.1 (L + K) (by omega) (Nat.lt_of_lt_of_le HL.out.1 (Nat.pow_le_pow_right W64_pos (by omega))) (Nat.lt_of_lt_of_le HL.out.2.2.1 (Nat.pow_le_pow_right W64_pos (by omega))) _).mono ?_); exact HK.out.keep hb5; exact (HZ.out.keep hb5).a; exact (H1.out.keep hb5).a; exact (H2.out.keep hb5).a; rintro e w6 ⟨rfl, hF⟩))
  obtain ⟨w5, hw5⟩ : ∃ w5, w5 = W1.drew := ⟨_, rfl⟩
  have HB5 := Lib.hid (show Below w.heap.size w w5 from by rw [hw5]; exact hb5)
  have S5 := Lib.hid (show BlkAt w5 w.heap.size #[.pointer none] 225 from by rw [hw5]; exact BlkAt.keep S1.out hd1)
  rw [← hw5] at hF
  have HZ5 := Lib.hid (HZ.out.keep HB5.out)
  obtain ⟨a, n, c, hF6⟩ := IntFr.frac hF HZ5.out
  have HF6 := Lib.hid hF6
  have HU6 := Lib.hid hF6.upd
  have hd6 : Below w6.heap.size w6 w6.drew := (Below.refl _ _).drew
  have z6 := hF6.raw.k3
  have d6 : w6.cell? ⟨b1, 3, none⟩ = some (.slice aD nD cD) := by rw [HU6.out.cell (p := ⟨b1, 3, none⟩) (Nat.lt_of_lt_of_le l1 HB5.out.size) (fun e => HNE.out.1 e)]; exact cell_keep HQ.out.1 HB5.out
  have e6 : w6.cell? ⟨b2, 3, none⟩ = some (.slice aE nE cE) := by rw [HU6.out.cell (p := ⟨b2, 3, none⟩) (Nat.lt_of_lt_of_le l2 HB5.out.size) (fun e => HNE.out.2.1 e)]; exact cell_keep HQ.out.2.1 HB5.out
  have HMD := Lib.hid (fun p => mulDenomF p aD aE nD nE cD cE D E w6.drew
    (show Thr w6.drew from Thr.keep (by have h0 := HK.out.keep HB5.out; unfold Thr at h0 ⊢; rw [HU6.out.cell (block_lt h0) (fun e => HNE.out.2.2.1 e.symm)]; exact h0) hd6)
    (((HQ.out.2.2.1.keep HB5.out).apart HU6.out (fun k hk e => by subst e; exact HZ.out.blk.notIn HQ.out.2.2.1 hk)).keep hd6) (((HQ.out.2.2.2.keep HB5.out).apart HU6.out (fun k hk e => by subst e; exact HZ.out.blk.notIn HQ.out.2.2.2 hk)).keep hd6) H1.out.pos H2.out.pos hnD hnE)
  clear hF hF6 hw5 hd1 hb5 S1 HW1 HB1
  go_upto_region 11 with fail
  go_cut [] from 78 to 98 (fun wx => ∃ a n c a' n' c', FracUp w5 zb (decide (sg s N * sg t M < 0)) (sg s N * sg t M).natAbs (D * E) wx a n c a' n' c')
  case first =>
    refine wp_region_noPanic ?_
    go_region_with
      ((go_at_call 154; (with_reducible refine (HMD.out _).mono ?_); rintro e w7 ⟨a2, n2, c2, rfl, hQ, hB, hf⟩; have HF7 := Lib.hid (HF6.out.setD hd6 (Upd.of_below hB) hQ (fun k hk => .inr (hf k hk))); have z7 : w7.cell? ⟨zb, 3, none⟩ = some (.slice none 0 0) := cell_keep (cell_keep z6 hd6) hB; have g7 := ((HF6.out.raw.blk.keep hd6).keep hB).frozen 3; clear hQ hB hf))
    all_goals
      refine NoPanic.normal ?_
      go_wp2_with fail
      go_meet
      exact ⟨_, _, _, _, _, _, HF7.out⟩
  case rest =>
  obtain ⟨b, m, k, b', m', k', hF8⟩ := hcut
  have HF8 := Lib.hid hF8
  clear hF8 HF6 HU6 HMD hd6 z6 d6 e6
  go_wp2_with fail
  refine (HF8.out.norm (HT.out.keep HB5.out) HL.out.2.2.2.2 (Nat.mul_pos H1.out.pos H2.out.pos) (L + K) (by omega) HSZ.out.1 HSZ.out.2).mono ?_
  rintro e w9 ⟨rfl, hR9, hU9⟩
  have HR9 := Lib.hid hR9
  have HU9 := Lib.hid hU9
  clear hR9 hU9
  go_wp2
  refine leaves_cons (f := 152) (args := #[.pointer (some ⟨w.heap.size, 0, none⟩)]) (by simp) (by simp [go_sem]) ?_
  refine (stkFree_any w.heap.size 0 none .returning _ ⟨rfl, HU9.out.blk S5.out (by omega)⟩).mono ?_
  rintro e u' w10 ⟨rfl, rfl, hU⟩
  have hU' : Below _ _ w10 := hU.toBelow (fun k _ ⟨_, _, h, _⟩ => by cases h)
  exact ⟨_, results_tmp rfl _ _ _, rfl, HR9.out.keep hU', ((Upd.of_below HB5.out).trans HU9.out).then hU'⟩
theorem lrat_lt2 {w : World} {x : Vl} {k : Nat} (h : VlAt w x) (hb : lratB x k = true) : (vrt x).num < W64 ^ k ∧ (vrt x).den < W64 ^ k := by
  obtain ⟨h1, h2, h3, h4⟩ := lratB_parts hb
  exact ⟨Nat.lt_of_lt_of_le (val_lt h.ws.lt) (Nat.pow_le_pow_right W64_pos h2), Nat.lt_of_lt_of_le (val_lt h.ds.lt) (Nat.pow_le_pow_right W64_pos h3)⟩
theorem madeAs_rat {x : Vl} {k : Nat} (hb : lratB x k = true) (hk : k ≤ 63) : MadeAs x (fun w v => CRat w v (vrt x)) := fun w h => by
  have nv := numV_rat hb hk
  obtain ⟨h1, h2, h3, h4⟩ := lratB_parts hb
  obtain ⟨h5, h6⟩ := fracB_parts h4
  have e : mrt x = vrt x := by
    unfold vrt mrt frt
    rw [← h6]
  have hd : 0 < val W64 x.df x.dn := by
    rcases nv.form with ⟨h, _⟩ | ⟨_, h, _⟩
    · rw [h1] at h; exact absurd h (by decide)
    · exact h
  have := madeRat_any x w h h1 (by omega) (by omega) hd
  rw [e] at this
  exact this
theorem signOf_pos {r : Rt} (h : r.signOf ≠ 0) : 0 < r.num := by
  apply Nat.pos_of_ne_zero
  intro e
  apply h
  unfold Rt.signOf
  rw [if_pos e]
theorem signOf_one {r : Rt} (h : r.signOf ≠ 0) : r.signOf = 1 ∨ r.signOf = -1 := by
  have := signOf_pos h
  unfold Rt.signOf
  rw [if_neg (by omega)]
  split
  · exact .inr rfl
  · exact .inl rfl
def MatA (s : Bool) (N D : Nat) (t : Bool) (M E : Nat) (w : World) (e : Ending) (w' : World) : Prop := ∃ b1 b2, e = .returned (.tuple #[.iface 102 (.agg #[.pointer (some ⟨b1, 0, none⟩)]), .iface 102 (.agg #[.pointer (some ⟨b2, 0, none⟩)])]) ∧ RatAt 155 w' b1 s N D ∧ RatAt 155 w' b2 t M E ∧ b1 ≠ b2 ∧ Below w.heap.size w w'
theorem prod_over (s t : Bool) (N D M E : Nat) : Rt.over (decide (sg s N * sg t M < 0)) (sg s N * sg t M).natAbs (D * E) = Rt.times ⟨s, N, D⟩ ⟨t, M, E⟩ := over_sg (sg_mul s t N M)
theorem matchRR_same (b1 b2 : Nat) (s t : Bool) (N D M E : Nat) (w : World) (h1 : RatAt 155 w b1 s N D) (h2 : RatAt 155 w b2 t M E) :
    Calls Tryz.prog 57 #[.iface 102 (.agg #[.pointer (some ⟨b1, 0, none⟩)]), .iface 102 (.agg #[.pointer (some ⟨b2, 0, none⟩)])] w fun e w' => e = .returned (.tuple #[.iface 102 (.agg #[.pointer (some ⟨b1, 0, none⟩)]), .iface 102 (.agg #[.pointer (some ⟨b2, 0, none⟩)])]) ∧ w' = w := by
  have H1 := Lib.hid (⟨b1, s, N, D, rfl, h1, rfl⟩ : CRat w (.iface 102 (.agg #[.pointer (some ⟨b1, 0, none⟩)])) ⟨s, N, D⟩)
  have H2 := Lib.hid (⟨b2, t, M, E, rfl, h2, rfl⟩ : CRat w (.iface 102 (.agg #[.pointer (some ⟨b2, 0, none⟩)])) ⟨t, M, E⟩)
  clear h1 h2
  go_enter Tryz.func57, Tryz.ntmps57
  go_wp2_with fail
  refine (ordRat_any _ _ _ H1.out).mono ?_
  rintro e w1 ⟨rfl, rfl⟩
  go_wp2_with fail
  refine (ordRat_any _ _ _ H2.out).mono ?_
  rintro e w1 ⟨rfl, rfl⟩
  go_wp2
  exact bodyPost_ret (v := .tuple #[.iface 102 (.agg #[.pointer (some ⟨b1, 0, none⟩)]), .iface 102 (.agg #[.pointer (some ⟨b2, 0, none⟩)])]) (by simp [results, Tryz.results57, go_sem]) rfl ⟨rfl, rfl⟩
theorem binRMulM_any (v1 v2 : Value) (s t : Bool) (N D M E : Nat) (w : World) (hK : Thr w) (hT : ThrD w) (hm : Calls Tryz.prog 57 #[v1, v2] w (MatA s N D t M E w)) (L K : Nat) (hL : L + K ≤ 38) (hr : N < W64 ^ L ∧ D < W64 ^ L) (hq : M < W64 ^ K ∧ E < W64 ^ K) :
    Calls Tryz.prog 37 #[v1, .int .i64 14, v2] w fun e w' => ∃ u, e = .returned u ∧ CRat w' u (Rt.times ⟨s, N, D⟩ ⟨t, M, E⟩) ∧ (Rt.times ⟨s, N, D⟩ ⟨t, M, E⟩).num < W64 ^ (L + K + 1) ∧ (Rt.times ⟨s, N, D⟩ ⟨t, M, E⟩).den < W64 ^ (L + K + 1) ∧ ROk (Rt.times ⟨s, N, D⟩ ⟨t, M, E⟩) ∧ Below w.heap.size w w' ∧ NewQ w.heap.size u := by
  have HM := Lib.hid hm
  have HK := Lib.hid hK
  have HT := Lib.hid hT
  clear hm hK hT
  go_enter Tryz.func37, Tryz.ntmps37
  go_wp2
  refine wp_scope_straight ?_
  go_wp2_with fail
  refine HM.out.mono ?_
  rintro e w1 ⟨b1, b2, rfl, hR, hQ, hne, hB⟩
  obtain ⟨t1, t2, t3, t4, t5, t6, t7, t8, t9⟩ := ta_ratVal
  have HR := Lib.hid hR
  have HQ := Lib.hid hQ
  have HB := Lib.hid hB
  have HS := Lib.hid (⟨hr, hq⟩ : (N < W64 ^ L ∧ D < W64 ^ L) ∧ (M < W64 ^ K ∧ E < W64 ^ K))
  have hfld := field_ratVal
  skip
  have HX := Lib.hid (show (sg s N * sg t M).natAbs < W64 ^ (L + K + 1) ∧ (D * E) < W64 ^ (L + K + 1) ∧ 0 < (D * E) from by
    have h3 := pow_step (L + K)
    have a1 : (sg s N * sg t M).natAbs < W64 ^ (L + K) := by rw [Nat.pow_add, Int.natAbs_mul, sg_nat, sg_nat]; exact Nat.mul_lt_mul'' HS.out.1.1 HS.out.2.1
    have a3 : D * E < W64 ^ (L + K) := by rw [Nat.pow_add]; exact Nat.mul_lt_mul'' HS.out.1.2 HS.out.2.2
    have e3 : 0 < D * E := Nat.mul_pos HR.out.pos HQ.out.pos
    skip
    generalize (sg s N * sg t M).natAbs = Z at *
    generalize W64 ^ (L + K + 1) = P at *
    generalize W64 ^ (L + K) = Q at *
    refine ⟨?_, ?_, ?_⟩ <;> omega)
  clear hR hQ hB hr hq
  obtain ⟨W2, hW2⟩ : ∃ W2, W2 = w1.alloc (.cells #[.pointer (some ⟨b1, 0, none⟩)] 102) := ⟨_, rfl⟩
  have hb2 : Below w1.heap.size w1 W2 := by rw [hW2]; exact Below.alloc' (Below.refl _ _) _
  have c0 : W2.cell? ⟨w1.heap.size, 0, none⟩ = some (.pointer (some ⟨b1, 0, none⟩)) := by rw [hW2]; exact alloc_new _ _ _ rfl rfl
  have HW2 := Lib.hid hW2
  clear hW2
  go_upto_region 76 with fail
  rw [← HW2.out]
  have HB2 := Lib.hid (Below.then HB.out (Nat.le_refl _) hb2)
  have HR2 := Lib.hid (HR.out.keep hb2)
  have HQ2 := Lib.hid (HQ.out.keep hb2)
  have HK2 := Lib.hid (HK.out.keep HB2.out)
  have HT2 := Lib.hid (HT.out.keep HB2.out)
  clear HR HQ HK HT hb2 HW2
  go_wp2_with fail
  refine (newRat_any _).mono ?_
  rintro e w3 ⟨rfl, hw3⟩
  have hb3 : Below W2.heap.size W2 w3 := by rw [hw3]; exact Below.alloc' (Below.refl _ _) _
  have HN3 := Lib.hid (show NewRat w3 W2.heap.size from by rw [hw3]; exact newRat_is W2)
  have HB3 := Lib.hid hb3
  have HS3 := Lib.hid (show w3.heap.size = W2.heap.size + 1 from by rw [hw3]; simp)
  have hk := HK2.out
  unfold Thr at hk
  have HG := Lib.hid (ratMul_new W2.heap.size b1 b2 s t N D M E w3 (HK2.out.keep hb3) (HT2.out.keep hb3) HN3.out (HR2.out.keep hb3) (HQ2.out.keep hb3) hne (Nat.ne_of_lt HR2.out.a.blk.lt) (Nat.ne_of_lt HQ2.out.a.blk.lt) (Nat.ne_of_gt (block_lt HT2.out)) (Nat.ne_of_gt (block_lt hk)) L K hL HS.out.1.1 HS.out.1.2 HS.out.2.1 HS.out.2.2)
  clear hw3 hb3 c0 hk
  go_wp2_with fail
  refine HG.out.mono ?_
  rintro e w4 ⟨rfl, hR4, hU4⟩
  have HR4 := Lib.hid hR4
  have HB4 := Lib.hid (hU4.below HB3.out (by have := HS3.out; omega) (fun k _ e => by subst e; exact Nat.le_refl _))
  clear hR4 hU4 HG
  go_wp2_with fail
  refine (makeRatF_any _ _ _ _ (L + K + 1) _ HR4.out (Nat.lt_of_le_of_lt (Nat.div_le_self _ _) HX.out.1) (Nat.lt_of_le_of_lt (Nat.div_le_self _ _) HX.out.2.1) (by omega)).mono ?_
  rintro e w5 ⟨rfl, rfl⟩
  go_wp2
  try rw [Exit.noGoto_ret]
  go_ret
  rw [← prod_over]
  have hz := over_lt (s := decide (sg s N * sg t M < 0)) HX.out.1 HX.out.2.1
  exact ⟨_, rfl, ⟨_, _, _, _, rfl, HR4.out, rfl⟩, hz.1, hz.2, rok_over _ _ _ HX.out.2.2, Below.then HB2.out (Nat.le_refl _) HB4.out, ⟨_, rfl, HB2.out.size⟩⟩
theorem binRMul_any (b1 b2 : Nat) (s t : Bool) (N D M E : Nat) (w : World) (hK : Thr w) (hT : ThrD w) (h1 : RatAt 155 w b1 s N D) (h2 : RatAt 155 w b2 t M E) (hne : b1 ≠ b2) (L K : Nat) (hL : L + K ≤ 38) (hr : N < W64 ^ L ∧ D < W64 ^ L) (hq : M < W64 ^ K ∧ E < W64 ^ K) :
    Calls Tryz.prog 37 #[.iface 102 (.agg #[.pointer (some ⟨b1, 0, none⟩)]), .int .i64 14, .iface 102 (.agg #[.pointer (some ⟨b2, 0, none⟩)])] w fun e w' => ∃ u, e = .returned u ∧ CRat w' u (Rt.times ⟨s, N, D⟩ ⟨t, M, E⟩) ∧ (Rt.times ⟨s, N, D⟩ ⟨t, M, E⟩).num < W64 ^ (L + K + 1) ∧ (Rt.times ⟨s, N, D⟩ ⟨t, M, E⟩).den < W64 ^ (L + K + 1) ∧ ROk (Rt.times ⟨s, N, D⟩ ⟨t, M, E⟩) ∧ Below w.heap.size w w' ∧ NewQ w.heap.size u :=
  binRMulM_any _ _ s t N D M E w hK hT ((matchRR_same b1 b2 s t N D M E w h1 h2).mono fun e w' ⟨he, hw⟩ => ⟨b1, b2, he, by rw [hw]; exact h1, by rw [hw]; exact h2, hne, by rw [hw]; exact Below.refl _ _⟩) L K hL hr hq
abbrev MadeNew (x : Vl) (r : Rt) : Prop := ∀ w, VlAt w x → Calls Tryz.prog 38 #[.agg #[.int .i64 x.kind, .bool x.truth, .string x.text, .bool x.neg, .slice x.wa x.wn x.wc, .slice x.da x.dn x.dc, .bool x.ineg, .slice x.ia x.inn x.ic, .slice x.ea x.en x.ec]] w fun e w' => ∃ b, e = .returned (.iface 102 (.agg #[.pointer (some ⟨b, 0, none⟩)])) ∧ RatAt 155 w' b r.neg r.num r.den ∧ w.heap.size ≤ b ∧ Below w.heap.size w w'
theorem madeNew_rat {x : Vl} {k : Nat} (hb : lratB x k = true) (hk : k ≤ 63) : MadeNew x (vrt x) := fun w h => by
  have nv := numV_rat hb hk
  obtain ⟨h1, h2, h3, h4⟩ := lratB_parts hb
  obtain ⟨h5, h6⟩ := fracB_parts h4
  have e : mrt x = vrt x := by
    unfold vrt mrt frt
    rw [← h6]
  have hd : 0 < val W64 x.df x.dn := by
    rcases nv.form with ⟨h, _⟩ | ⟨_, h, _⟩
    · rw [h1] at h; exact absurd h (by decide)
    · exact h
  have := madeRatF_any x w h h1 (by omega) (by omega) hd
  rw [e] at this
  exact this
theorem implBinaryA_any (k : Nat) (hk : k < 10) (x y : Vl) (r q z : Rt) (L : Nat) (w : World) (h1 : VlAt w x) (h2 : VlAt w y) (k1 : MadeNew x r) (k2 : MadeNew y q) (hL : L ≤ 100000) (hz : z.num < W64 ^ L ∧ z.den < W64 ^ L ∧ ROk z)
    (H : ∀ (b1 b2 : Nat) (w' : World), Below w.heap.size w w' → RatAt 155 w' b1 r.neg r.num r.den → RatAt 155 w' b2 q.neg q.num q.den → b1 ≠ b2 →
      Calls Tryz.prog 37 #[.iface 102 (.agg #[.pointer (some ⟨b1, 0, none⟩)]), .int .i64 (opTok k), .iface 102 (.agg #[.pointer (some ⟨b2, 0, none⟩)])] w' fun e w'' => ∃ u, e = .returned u ∧ CRat w'' u z ∧ Below w'.heap.size w' w'') :
    Calls Tryz.prog 15 #[.int .i64 k, .agg #[.int .i64 x.kind, .bool x.truth, .string x.text, .bool x.neg, .slice x.wa x.wn x.wc, .slice x.da x.dn x.dc, .bool x.ineg, .slice x.ia x.inn x.ic, .slice x.ea x.en x.ec], .agg #[.int .i64 y.kind, .bool y.truth, .string y.text, .bool y.neg, .slice y.wa y.wn y.wc, .slice y.da y.dn y.dc, .bool y.ineg, .slice y.ia y.inn y.ic, .slice y.ea y.en y.ec]] w (GivesV (IsQ z L) w) := by
  obtain ⟨W0, hW0⟩ : ∃ W0, W0 = ((w.alloc (.cells #[.int .i64 x.kind, .bool x.truth, .string x.text, .bool x.neg, .slice x.wa x.wn x.wc, .slice x.da x.dn x.dc, .bool x.ineg, .slice x.ia x.inn x.ic, .slice x.ea x.en x.ec] 26)).alloc (.cells #[.int .i64 y.kind, .bool y.truth, .string y.text, .bool y.neg, .slice y.wa y.wn y.wc, .slice y.da y.dn y.dc, .bool y.ineg, .slice y.ia y.inn y.ic, .slice y.ea y.en y.ec] 26)).alloc (.cells #[.int .i64 0, .bool false, .string ⟨#[]⟩, .bool false, .slice none 0 0, .slice none 0 0, .bool false, .slice none 0 0, .slice none 0 0] 26) := ⟨_, rfl⟩
  have HW := Lib.hid hW0
  have hb0 : Below w.heap.size w W0 := by rw [hW0]; exact Below.alloc' (Below.alloc' (Below.alloc' (Below.refl _ _) _) _) _
  have X : Box9 W0 w.heap.size x := by rw [hW0]; exact ((Box9.new w x _ rfl).alloc _).alloc _
  have Y : Box9 W0 (w.heap.size + 1) y := by rw [hW0]; exact (Box9.new _ y _ (by simp)).alloc _
  have hR : BlkAt W0 (w.heap.size + 1 + 1) #[.int .i64 0, .bool false, .string ⟨#[]⟩, .bool false, .slice none 0 0, .slice none 0 0, .bool false, .slice none 0 0, .slice none 0 0] 26 := by
    rw [hW0]
    have := BlkAt.new ((w.alloc (.cells #[.int .i64 x.kind, .bool x.truth, .string x.text, .bool x.neg, .slice x.wa x.wn x.wc, .slice x.da x.dn x.dc, .bool x.ineg, .slice x.ia x.inn x.ic, .slice x.ea x.en x.ec] 26)).alloc (.cells #[.int .i64 y.kind, .bool y.truth, .string y.text, .bool y.neg, .slice y.wa y.wn y.wc, .slice y.da y.dn y.dc, .bool y.ineg, .slice y.ia y.inn y.ic, .slice y.ea y.en y.ec] 26)) #[.int .i64 0, .bool false, .string ⟨#[]⟩, .bool false, .slice none 0 0, .slice none 0 0, .bool false, .slice none 0 0, .slice none 0 0] 26
    simpa using this
  have HX := Lib.hid (h1.keep hb0)
  have HY := Lib.hid (h2.keep hb0)
  have K1 := Lib.hid k1
  have K2 := Lib.hid k2
  have HZ := Lib.hid hz
  have HH := Lib.hid H
  clear hW0 h1 h2 k1 k2 hz H
  go_enter Tryz.func15, Tryz.ntmps15
  go_upto_region 1 with fail
  rw [← HW.out]
  go_wp2_with fail
  refine (operator_any k hk _).mono ?_
  rintro e w1 ⟨rfl, hB1⟩
  have hb1 := Below.then hb0 (Nat.le_refl _) hB1
  have hR1 := hR.keep hB1
  have X1 := X.keep hB1
  have Y1 := Y.keep hB1
  have HX1 := Lib.hid (HX.out.keep hB1)
  have HY1 := Lib.hid (HY.out.keep hB1)
  go_wp2_with fail
  have hd0 : Below w1.heap.size w1 w1.drew := (Below.refl _ _).drew
  go_region_held3 (fun w' => (w'.cell? ⟨w.heap.size, 0, none⟩ = some (.int .i64 x.kind) ∧ w'.cell? ⟨w.heap.size, 1, none⟩ = some (.bool x.truth) ∧ w'.cell? ⟨w.heap.size, 2, none⟩ = some (.string x.text) ∧ w'.cell? ⟨w.heap.size, 3, none⟩ = some (.bool x.neg) ∧ w'.cell? ⟨w.heap.size, 4, none⟩ = some (.slice x.wa x.wn x.wc) ∧ w'.cell? ⟨w.heap.size, 5, none⟩ = some (.slice x.da x.dn x.dc) ∧ w'.cell? ⟨w.heap.size, 6, none⟩ = some (.bool x.ineg) ∧ w'.cell? ⟨w.heap.size, 7, none⟩ = some (.slice x.ia x.inn x.ic) ∧ w'.cell? ⟨w.heap.size, 8, none⟩ = some (.slice x.ea x.en x.ec)) ∧ (w'.cell? ⟨(w.heap.size + 1), 0, none⟩ = some (.int .i64 y.kind) ∧ w'.cell? ⟨(w.heap.size + 1), 1, none⟩ = some (.bool y.truth) ∧ w'.cell? ⟨(w.heap.size + 1), 2, none⟩ = some (.string y.text) ∧ w'.cell? ⟨(w.heap.size + 1), 3, none⟩ = some (.bool y.neg) ∧ w'.cell? ⟨(w.heap.size + 1), 4, none⟩ = some (.slice y.wa y.wn y.wc) ∧ w'.cell? ⟨(w.heap.size + 1), 5, none⟩ = some (.slice y.da y.dn y.dc) ∧ w'.cell? ⟨(w.heap.size + 1), 6, none⟩ = some (.bool y.ineg) ∧ w'.cell? ⟨(w.heap.size + 1), 7, none⟩ = some (.slice y.ia y.inn y.ic) ∧ w'.cell? ⟨(w.heap.size + 1), 8, none⟩ = some (.slice y.ea y.en y.ec)))
    (first | with_reducible exact ⟨X1.all, Y1.all⟩ | with_reducible exact ⟨(X1.keep (by assumption)).all, (Y1.keep (by assumption)).all⟩ | with_reducible exact ⟨((X1.keep (by assumption)).set9 (by omega) _ _ _ _ _ _ _ _ _).all, ((Y1.keep (by assumption)).set9 (by omega) _ _ _ _ _ _ _ _ _).all⟩)
    (first | (go_at_call 38; (with_reducible refine (K1.out _ ?_).mono ?_); exact HX1.out.keep (by assumption); rintro e w2 ⟨b1, rfl, hu1, hg1, hB2⟩; have hb2 := Below.then hd0 (Nat.le_refl _) hB2) | (go_at_call 38; (with_reducible refine (K2.out _ ?_).mono ?_); exact HY1.out.keep (by assumption); rintro e w3 ⟨b2, rfl, hu2, hg2, hB3⟩; have hb3 := Below.then hb2 (Nat.le_refl _) hB3) | (go_at_call 37; have q1 := Below.then hb1 (Nat.le_refl _) hb3; have q2 := hu1.keep hB3; have q3 := Nat.ne_of_lt (Nat.lt_of_lt_of_le hu1.a.blk.lt hg2); (with_reducible refine (HH.out b1 b2 _ q1 q2 hu2 q3).mono ?_); clear q1 q2 q3; rintro e w4 ⟨u, rfl, hu, hB4⟩; have hb4 := Below.then hb3 (Nat.le_refl _) hB4) | (go_at_call 36; (with_reducible refine (toldRat_any u z _ ?_ HZ.out.2.2 L hL HZ.out.1 HZ.out.2.1).mono ?_); exact hu; rintro e w5 ⟨o, rfl, hy, hP, hB5⟩; have hb5 := Below.then hb4 (Nat.le_refl _) hB5; have hR5 := hR1.keep hb5; have HE := Lib.hid (givesV_end hR5 (by omega) (Below.then hb1 (Nat.le_refl _) hb5) hy hP); have oc0 := (hR5).cell 0; have oc1 := (hR5).cell 1; have oc2 := (hR5).cell 2; have oc3 := (hR5).cell 3; have oc4 := (hR5).cell 4; have oc5 := (hR5).cell 5; have oc6 := (hR5).cell 6; have oc7 := (hR5).cell 7; have oc8 := (hR5).cell 8; simp only [List.getElem?_toArray, List.getElem?_cons_zero, List.getElem?_cons_succ] at oc0 oc1 oc2 oc3 oc4 oc5 oc6 oc7 oc8; have of0 := (hR5).frozen 0; have of1 := (hR5).frozen 1; have of2 := (hR5).frozen 2; have of3 := (hR5).frozen 3; have of4 := (hR5).frozen 4; have of5 := (hR5).frozen 5; have of6 := (hR5).frozen 6; have of7 := (hR5).frozen 7; have of8 := (hR5).frozen 8))
  go_wp2
  exact bodyPost_ret (v := .agg #[.int .i64 o.kind, .bool o.truth, .string o.text, .bool o.neg, .slice o.wa o.wn o.wc, .slice o.da o.dn o.dc, .bool o.ineg, .slice o.ia o.inn o.ic, .slice o.ea o.en o.ec]) (by simp [results, Tryz.results15, go_sem, oc0, oc1, oc2, oc3, oc4, oc5, oc6, oc7, oc8]) rfl HE.out
theorem bndMul (r q : Rt) (L : Nat) (hr : r.num < W64 ^ L ∧ r.den < W64 ^ L) (hq : q.num < W64 ^ L ∧ q.den < W64 ^ L) (hd : 0 < r.den) (he : 0 < q.den) : (Rt.times r q).num < W64 ^ (L + L) ∧ (Rt.times r q).den < W64 ^ (L + L) ∧ ROk (Rt.times r q) := by
  have hz := over_lt (s := (r.neg != q.neg)) (N := r.num * q.num) (D := r.den * q.den) (B := W64 ^ (L + L)) (by rw [Nat.pow_add]; exact Nat.mul_lt_mul'' hr.1 hq.1) (by rw [Nat.pow_add]; exact Nat.mul_lt_mul'' hr.2 hq.2)
  exact ⟨hz.1, hz.2, rok_over _ _ _ (Nat.mul_pos hd he)⟩
end Go.Proofs.YtgmienggfaahlaaGreatDoor
