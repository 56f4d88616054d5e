/-
  Contracts and lemmas: CpxP Law4.
-/
import Derived.Test.YtececkbcinmmpaaGreatDoorK37
import Derived.Test.YtececkbcinmmpaaGreatDoorK13
import Derived.Test.YtececkbcinmmpaaGreatDoorK02
set_option linter.unusedSimpArgs false
set_option linter.unusedVariables false
set_option maxRecDepth 100000
set_option maxHeartbeats 8000000
namespace Go.Proofs.YtececkbcinmmpaaGreatDoor
open Go.RowKit Go.Bg Dg
theorem over_self {r : Rt} (h : ROk r) : Rt.over r.neg r.num r.den = r := by
  obtain ⟨s, N, D⟩ := r
  obtain ⟨h1, h2, h3⟩ := h
  dsimp only at h1 h2 h3 ⊢
  unfold Rt.over
  rw [h3, Nat.div_one, Nat.div_one]
  cases s
  · simp
  · simp [h2 rfl]
theorem zero_rz : rz 0 = ⟨false, 0, 1⟩ := rfl
theorem plus_comm (r q : Rt) : Rt.plus r q = Rt.plus q r := by
  obtain ⟨s, N, D⟩ := r
  obtain ⟨t, M, E⟩ := q
  rw [← plus_over, ← plus_over, Int.add_comm, Nat.mul_comm D E]
theorem plus_zero {r : Rt} (h : ROk r) : Rt.plus r (rz 0) = r := by
  have h0 := over_self h
  have h1 := h.sign
  obtain ⟨s, N, D⟩ := r
  dsimp only at h0 h1
  rw [zero_rz, ← plus_over]
  have e : sg s (N * 1) + sg false (0 * D) = sg s N := by simp [sg]
  rw [e, sg_neg, sg_nat, Nat.mul_one]
  have e2 : (s && decide (0 < N)) = s := by
    cases s
    · rfl
    · simp [h1 rfl]
  rw [e2]
  exact h0
theorem zero_plus {r : Rt} (h : ROk r) : Rt.plus (rz 0) r = r := by rw [plus_comm]; exact plus_zero h
theorem rok_negated {r : Rt} (h : ROk r) : ROk r.negated := ⟨h.den, fun e => by
  have e' : (!r.neg && decide (0 < r.num)) = true := e
  simp only [Bool.and_eq_true, decide_eq_true_eq] at e'
  exact e'.2, h.gcd⟩
theorem negated_negated {r : Rt} (h : ROk r) : r.negated.negated = r := by
  have h1 := h.sign
  obtain ⟨s, N, D⟩ := r
  dsimp only at h1
  unfold Rt.negated
  dsimp only
  by_cases h0 : 0 < N
  · simp [h0]
  · cases s
    · simp [h0]
    · exact absurd (h1 rfl) h0
theorem negated_zero : (rz 0).negated = rz 0 := rfl
theorem minus_zero {r : Rt} (h : ROk r) : Rt.minus r (rz 0) = r := by
  show Rt.plus r (rz 0).negated = r
  rw [negated_zero]
  exact plus_zero h
theorem zero_minus {r : Rt} (h : ROk r) : Rt.minus (rz 0) r = r.negated := zero_plus (rok_negated h)
theorem times_comm (r q : Rt) : Rt.times r q = Rt.times q r := by
  unfold Rt.times
  rw [Nat.mul_comm r.num, Nat.mul_comm r.den]
  cases r.neg <;> cases q.neg <;> rfl
theorem rok_times {r q : Rt} (h1 : ROk r) (h2 : ROk q) : ROk (Rt.times r q) := rok_over _ _ _ (Nat.mul_pos h1.den h2.den)
theorem times_negated {r q : Rt} (h1 : ROk r) (h2 : ROk q) : Rt.times r q.negated = (Rt.times r q).negated := by
  have hd := Nat.mul_pos h1.den h2.den
  obtain ⟨s, N, D⟩ := r
  obtain ⟨t, M, E⟩ := q
  dsimp only at hd
  unfold Rt.times Rt.negated Rt.over
  dsimp only
  have hg : 0 < Nat.gcd (N * M) (D * E) := Nat.gcd_pos_of_pos_right _ hd
  by_cases h0 : 0 < N * M
  · have hM : 0 < M := Nat.pos_of_mul_pos_left h0
    have hq : 0 < N * M / Nat.gcd (N * M) (D * E) := Nat.div_pos (Nat.gcd_le_left _ h0) hg
    cases s <;> cases t <;> simp [h0, hM, hq]
  · have hz : N * M = 0 := by omega
    rw [hz]
    simp
theorem minus_negated {r q : Rt} (h : ROk q) : Rt.minus r q.negated = Rt.plus r q := by
  show Rt.plus r q.negated.negated = _
  rw [negated_negated h]
theorem plus_negated {r : Rt} (h : ROk r) : Rt.plus r r.negated = rz 0 := by
  have hd := h.den
  obtain ⟨s, N, D⟩ := r
  dsimp only at hd
  show Rt.plus ⟨s, N, D⟩ ⟨!s && decide (0 < N), N, D⟩ = _
  rw [← plus_over]
  have e : sg s (N * D) + sg (!s && decide (0 < N)) (N * D) = 0 := by
    by_cases h0 : 0 < N
    · rw [decide_eq_true h0, Bool.and_true, sg_not]; omega
    · have : N = 0 := by omega
      subst this
      cases s <;> simp [sg]
  rw [e]
  have h1 : 0 < D * D := Nat.mul_pos hd hd
  show (⟨_, 0 / Nat.gcd 0 (D * D), D * D / Nat.gcd 0 (D * D)⟩ : Rt) = ⟨false, 0, 1⟩
  rw [Nat.gcd_zero_left, Nat.zero_div, Nat.div_self h1]
  rfl
def lpairB (v : Vl) (k : Nat) : Bool := decide (v.wn ≤ k) && decide (v.dn ≤ k) && decide (v.inn ≤ k) && decide (v.en ≤ k) && pairB v
theorem lawPair_any (v : Vl) (k : Nat) (w : World) (h : VlAt w v) (hk : k ≤ 1000) :
    Calls Tryz.prog 31 #[.agg #[.int .i64 v.kind, .bool v.truth, .string v.text, .bool v.neg, .slice v.wa v.wn v.wc, .slice v.da v.dn v.dc, .bool v.ineg, .slice v.ia v.inn v.ic, .slice v.ea v.en v.ec], .int .i64 k] w (Reads2 (lpairB v k) (vrt v) (virt v) (4 * k) w) := by
  obtain ⟨W0, hW0⟩ : ∃ W0, W0 = ((w.alloc (.cells #[.int .i64 v.kind, .bool v.truth, .string v.text, .bool v.neg, .slice v.wa v.wn v.wc, .slice v.da v.dn v.dc, .bool v.ineg, .slice v.ia v.inn v.ic, .slice v.ea v.en v.ec] 26)).alloc (.cells #[.bool false, .slice none 0 0, .slice none 0 0] 31)).alloc (.cells #[.bool false, .slice none 0 0, .slice none 0 0] 31) := ⟨_, rfl⟩
  have HW := Lib.hid hW0
  have hb0 : Below w.heap.size w W0 := by rw [hW0]; exact Below.alloc' (Below.alloc' (Below.alloc' (Below.refl _ _) _) _) _
  by_cases hn : v.wn ≤ k ∧ v.dn ≤ k ∧ v.inn ≤ k ∧ v.en ≤ k
  · obtain ⟨hn, hd, hi, he⟩ := hn
    have R1 : ResBlk W0 (w.heap.size + 1) := by rw [hW0]; exact (ResBlk.new _ _ (by simp)).alloc1 _
    have R2 : ResBlk W0 (w.heap.size + 1 + 1) := by rw [hW0]; exact ResBlk.new _ _ (by simp)
    have X : Box9 W0 w.heap.size v := by rw [hW0]; exact ((Box9.new w v _ rfl).alloc _).alloc _
    have HI := Lib.hid (show lpairB v k = pairB v from by unfold lpairB; simp [hn, hd, hi, he])
    have HV := Lib.hid (h.keep hb0)
    clear hW0 h
    go_enter Tryz.func31, Tryz.ntmps31
    go_upto_region 3 with fail
    rw [← HW.out]
    obtain ⟨xc0, xc1, xc2, xc3, xc4, xc5, xc6, xc7, xc8⟩ := (X).all
    go_wp2_with fail
    refine (pair_any v (4 * k) _ HV.out (by omega) (by omega) (by omega) (by omega) (by omega)).mono ?_
    rintro e w1 ⟨sA, aA, nA, cA, aB, nB, cB, sC, aC, nC, cC, aD, nD, cD, rfl, hR, hB1⟩
    have Q1 := R1.below R1.lt hB1
    have Q2 := R2.below R2.lt hB1
    have hbf := Below.then hb0 (Nat.le_refl _) hB1
    have HR := Lib.hid hR
    clear xc0 xc1 xc2 xc3 xc4 xc5 xc6 xc7 xc8 hR
    obtain ⟨⟨u0, r0⟩, ⟨u1, r1⟩, ⟨u2, r2⟩⟩ := Q1.cells
    have f0 := Q1.frozen 0
    have f1 := Q1.frozen 1
    have f2 := Q1.frozen 2
    obtain ⟨⟨z0, q0⟩, ⟨z1, q1⟩, ⟨z2, q2⟩⟩ := Q2.cells
    have g0 := Q2.frozen 0
    have g1 := Q2.frozen 1
    have g2 := Q2.frozen 2
    go_wp2
    exact bodyPost_ret (v := .tuple #[.agg #[.bool sA, .slice aA nA cA, .slice aB nB cB], .agg #[.bool sC, .slice aC nC cC, .slice aD nD cD], .bool (pairB v)]) (by simp [results, Tryz.results31, go_sem, r0, r1, r2, q0, q1, q2]) rfl
      ⟨_, _, _, _, _, _, _, _, _, _, _, _, _, _, by rw [HI.out], fun hb => ⟨stored33 Q1.noInt Q2.noInt (HR.out (by rw [← HI.out]; exact hb)).1, stored33 Q1.noInt Q2.noInt (HR.out (by rw [← HI.out]; exact hb)).2⟩, (((((hbf.setCell (Nat.le_add_right _ 1) _).setCell (Nat.le_add_right _ 1) _).setCell (Nat.le_add_right _ 1) _).setCell (Nat.le_add_right _ 2) _).setCell (Nat.le_add_right _ 2) _).setCell (Nat.le_add_right _ 2) _⟩
  · have HI := Lib.hid (show lpairB v k = false from by
      unfold lpairB
      by_cases h1 : v.wn ≤ k <;> by_cases h2 : v.dn ≤ k <;> by_cases h3 : v.inn ≤ k <;> by_cases h4 : v.en ≤ k <;> simp [h1, h2, h3, h4] <;> exact absurd ⟨h1, h2, h3, h4⟩ hn)
    have HB := Lib.hid (show Below w.heap.size w (((w.alloc (.cells #[.int .i64 v.kind, .bool v.truth, .string v.text, .bool v.neg, .slice v.wa v.wn v.wc, .slice v.da v.dn v.dc, .bool v.ineg, .slice v.ia v.inn v.ic, .slice v.ea v.en v.ec] 26)).alloc (.cells #[.bool false, .slice none 0 0, .slice none 0 0] 31)).alloc (.cells #[.bool false, .slice none 0 0, .slice none 0 0] 31)) from by rw [← hW0]; exact hb0)
    clear hW0 hb0 h HW
    by_cases h1 : v.wn ≤ k
    · by_cases h2 : v.dn ≤ k
      · by_cases h3 : v.inn ≤ k
        · have h4 : ¬ v.en ≤ k := fun h4 => hn ⟨h1, h2, h3, h4⟩
          clear hn
          go_enter Tryz.func31, Tryz.ntmps31
          go_wp2
          exact bodyPost_ret (v := .tuple #[.agg #[.bool false, .slice none 0 0, .slice none 0 0], .agg #[.bool false, .slice none 0 0, .slice none 0 0], .bool false]) (by simp [results, Tryz.results31, go_sem]) rfl
            ⟨_, _, _, _, _, _, _, _, _, _, _, _, _, _, by rw [HI.out], fun h => (by rw [HI.out] at h; cases h), HB.out⟩
        · clear hn
          go_enter Tryz.func31, Tryz.ntmps31
          go_wp2
          exact bodyPost_ret (v := .tuple #[.agg #[.bool false, .slice none 0 0, .slice none 0 0], .agg #[.bool false, .slice none 0 0, .slice none 0 0], .bool false]) (by simp [results, Tryz.results31, go_sem]) rfl
            ⟨_, _, _, _, _, _, _, _, _, _, _, _, _, _, by rw [HI.out], fun h => (by rw [HI.out] at h; cases h), HB.out⟩
      · clear hn
        go_enter Tryz.func31, Tryz.ntmps31
        go_wp2
        exact bodyPost_ret (v := .tuple #[.agg #[.bool false, .slice none 0 0, .slice none 0 0], .agg #[.bool false, .slice none 0 0, .slice none 0 0], .bool false]) (by simp [results, Tryz.results31, go_sem]) rfl
          ⟨_, _, _, _, _, _, _, _, _, _, _, _, _, _, by rw [HI.out], fun h => (by rw [HI.out] at h; cases h), HB.out⟩
    · clear hn
      go_enter Tryz.func31, Tryz.ntmps31
      go_wp2
      exact bodyPost_ret (v := .tuple #[.agg #[.bool false, .slice none 0 0, .slice none 0 0], .agg #[.bool false, .slice none 0 0, .slice none 0 0], .bool false]) (by simp [results, Tryz.results31, go_sem]) rfl
        ⟨_, _, _, _, _, _, _, _, _, _, _, _, _, _, by rw [HI.out], fun h => (by rw [HI.out] at h; cases h), HB.out⟩
end Go.Proofs.YtececkbcinmmpaaGreatDoor
