/-
  The law on comparison, plain; and its walk.
  spec.same: two fractions are one.
  Integers as fractions of the reference: plain laws.
  spec.IsInt.
-/
import Derived.Test.YtdkipndepkblhaaGreatDoorBuG
import Derived.Test.YtdkipndepkblhaaGreatDoorBuE
import Derived.Test.YtdkipndepkblhaaGreatDoorBuA
set_option linter.unusedSimpArgs false
set_option linter.unusedVariables false
namespace Go.Bg
open Go.RowKit Dg
theorem Rt.over_one (s : Bool) (n : Nat) : Rt.over s n 1 = ⟨s && decide (0 < n), n, 1⟩ := by
  simp [Rt.over]
end Go.Bg
namespace Go.Proofs.YtdkipndepkblhaaGreatDoor
open Go.RowKit Go.Bg Dg

theorem signOf_mk (s : Bool) (n d : Nat) : Rt.signOf ⟨s && decide (0 < n), n, d⟩ = cmpZ (sg s n) 0 := by
  unfold Rt.signOf cmpZ sg
  by_cases hn : n = 0
  · subst hn; cases s <;> rfl
  · have h0 : 0 < n := by omega
    have h1 : ¬ ((n : Int) < 0) := by omega
    have h2 : (0 : Int) < n := by omega
    cases s
    · simp [h0, hn, h1, h2]
    · have h3 : -(n : Int) < 0 := by omega
      simp [h0, hn, h3]

theorem minus_whole (s t : Bool) (N M : Nat) : ∃ u n, Rt.minus (Rt.whole s N) (Rt.whole t M) = ⟨u && decide (0 < n), n, 1⟩ ∧ sg u n = sg s N - sg t M := by
  unfold Rt.minus Rt.plus Rt.negated Rt.whole
  simp only [Rt.over_one, Nat.mul_one]
  by_cases hN : 0 < N <;> by_cases hM : 0 < M
  · simp only [hN, hM, decide_true, Bool.and_true]
    cases s <;> cases t <;> simp only [Bool.not_false, Bool.not_true, if_true, if_false, Bool.true_eq_false, Bool.false_eq_true]
    · split
      · exact ⟨_, _, rfl, by simp [sg]; omega⟩
      · exact ⟨_, _, rfl, by simp [sg]; omega⟩
    · exact ⟨_, _, rfl, by simp [sg]⟩
    · exact ⟨_, _, rfl, by simp [sg]; omega⟩
    · split
      · exact ⟨_, _, rfl, by simp [sg]; omega⟩
      · exact ⟨_, _, rfl, by simp [sg]; omega⟩
  · obtain rfl : M = 0 := by omega
    exact ⟨s, N, by cases s <;> cases t <;> simp [hN], by cases s <;> cases t <;> simp [sg]⟩
  · obtain rfl : N = 0 := by omega
    exact ⟨!t, M, by cases s <;> cases t <;> simp [hM, Nat.not_le_of_lt hM, Nat.ne_of_gt hM], by cases s <;> cases t <;> simp [sg]⟩
  · obtain rfl : N = 0 := by omega
    obtain rfl : M = 0 := by omega
    exact ⟨false, 0, by cases s <;> cases t <;> rfl, by cases s <;> cases t <;> rfl⟩

theorem signOf_minus_whole (s t : Bool) (N M : Nat) : Rt.signOf (Rt.minus (Rt.whole s N) (Rt.whole t M)) = cmpZ (sg s N) (sg t M) := by
  obtain ⟨u, n, h, e⟩ := minus_whole s t N M
  rw [h, signOf_mk, e]
  unfold cmpZ
  split <;> split <;> (try split) <;> (try split) <;> omega
end Go.Proofs.YtdkipndepkblhaaGreatDoor

set_option linter.unusedSimpArgs false
set_option linter.unusedVariables false
namespace Go.Proofs.YtdkipndepkblhaaGreatDoor
open Go.RowKit Go.Bg Dg

def sameB (r q : Rt) : Bool := (r.neg == q.neg) && decide (r.num = q.num) && decide (r.den = q.den)

theorem cmpI_zero (N M : Nat) : (cmpI N M == 0) = decide (N = M) := by
  unfold cmpI
  rcases Nat.lt_trichotomy N M with h | h | h
  · have h1 : N ≠ M := by omega
    simp [h, h1]
  · subst h; simp
  · have h1 : N ≠ M := by omega
    have h2 : ¬ N < M := by omega
    simp [h, h1, h2]

set_option maxRecDepth 100000 in
set_option maxHeartbeats 1000000 in
theorem same_any (s t : Bool) (a1 : Option Addr) (n1 c1 : Nat) (a1' : Option Addr) (n1' c1' : Nat) (a2 : Option Addr) (n2 c2 : Nat) (a2' : Option Addr) (n2' c2' : Nat) (r q : Rt) (L : Nat) (w : World)
    (h1 : RtAt w s a1 n1 c1 a1' n1' c1' r L) (h2 : RtAt w t a2 n2 c2 a2' n2' c2' q L) (hL : L ≤ 400000) :
    Calls Tryz.prog 41 #[.agg #[.bool s, .slice a1 n1 c1, .slice a1' n1' c1'], .agg #[.bool t, .slice a2 n2 c2, .slice a2' n2' c2']] w fun e w' => e = .returned (.bool (sameB r q)) ∧ Below w.heap.size w w' := by
  have l1 := h1.n_le
  have l2 := h2.n_le
  have l3 := h1.d_le
  have l4 := h2.d_le
  obtain ⟨W0, hW0⟩ : ∃ W0, W0 = (w.alloc (.cells #[.bool s, .slice a1 n1 c1, .slice a1' n1' c1'] 31)).alloc (.cells #[.bool t, .slice a2 n2 c2, .slice a2' n2' c2'] 31) := ⟨_, rfl⟩
  have HW := Lib.hid hW0
  have hb0 : Below w.heap.size w W0 := by rw [hW0]; exact Below.alloc' (Below.alloc' (Below.refl _ _) _) _
  have A : RtBlk W0 w.heap.size s a1 n1 c1 a1' n1' c1' := by rw [hW0]; exact (RtBlk.new _ _ rfl _ _ _ _ _ _ _).keep ((Below.refl _ _).alloc (Nat.le_refl _) _)
  have C : RtBlk W0 (w.heap.size + 1) t a2 n2 c2 a2' n2' c2' := by rw [hW0]; exact RtBlk.new _ _ (by simp) _ _ _ _ _ _ _
  have HA := Lib.hid (h1.keep hb0)
  have HC := Lib.hid (h2.keep hb0)
  have hs := h1.neg
  have ht := h2.neg
  clear hW0 h1 h2
  obtain ⟨x0, x1, x2⟩ := A
  obtain ⟨y0, y1, y2⟩ := C
  have HS := Lib.hid hs
  have HT := Lib.hid ht
  clear hs ht
  by_cases hst : s = t
  · subst hst
    have HN := Lib.hid (cmpI_zero r.num q.num)
    have HD := Lib.hid (cmpI_zero r.den q.den)
    have HST := Lib.hid (show (r.neg == q.neg) = true from by rw [← HS.out, ← HT.out]; simp)
    by_cases hn : r.num = q.num
    · have hz : (cmpI r.num q.num == 0) = true := by rw [HN.out]; simpa using hn
      go_enter Tryz.func41, Tryz.ntmps41
      go_upto_region 1 with fail
      rw [← HW.out]
      go_wp2_with fail
      refine (cmp_any a1 a2 n1 n2 c1 c2 r.num q.num _ HA.out.num HC.out.num (by omega) (by omega)).mono ?_
      rintro e w1 ⟨rfl, hm1⟩
      have hB1 := below_of_drewN (B := W0.heap.size) hm1
      have hc1 := HN.out
      have x2' := cell_keep x2 hB1
      have y2' := cell_keep y2 hB1
      have HNE := Lib.hid hn
      clear hc1 hn
      generalize cmpI r.num q.num = k1 at *
      go_wp2_with fail
      refine (cmp_any a1' a2' n1' n2' c1' c2' r.den q.den _ (HA.out.den.keep hB1) (HC.out.den.keep hB1) (by omega) (by omega)).mono ?_
      rintro e w2 ⟨rfl, hm2⟩
      have hB2 := below_of_drewN (B := w1.heap.size) hm2
      have hbf := Below.then (Below.then hb0 (Nat.le_refl _) hB1) (Nat.le_refl _) hB2
      clear hm1 hm2
      go_wp2
      go_ret
      exact ⟨ret_bool (by unfold sameB; rw [HD.out, HST.out, HNE.out]; simp), hbf⟩
    · have hz : (cmpI r.num q.num == 0) = false := by rw [HN.out]; simpa using hn
      go_enter Tryz.func41, Tryz.ntmps41
      go_upto_region 1 with fail
      rw [← HW.out]
      go_wp2_with fail
      refine (cmp_any a1 a2 n1 n2 c1 c2 r.num q.num _ HA.out.num HC.out.num (by omega) (by omega)).mono ?_
      rintro e w1 ⟨rfl, hm1⟩
      have hB1 := below_of_drewN (B := W0.heap.size) hm1
      have hc1 := HN.out
      have HNE := Lib.hid hn
      have hbf := Below.then hb0 (Nat.le_refl _) hB1
      clear hc1 hn hm1
      generalize cmpI r.num q.num = k1 at *
      go_wp2
      go_ret
      exact ⟨ret_bool (by unfold sameB; simp [HNE.out]), hbf⟩
  · have hb : (s == t) = false := by cases s <;> cases t <;> simp_all
    go_enter Tryz.func41, Tryz.ntmps41
    go_upto_region 1 with fail
    rw [← HW.out]
    go_wp2
    go_ret
    exact ⟨ret_bool (by unfold sameB; rw [← HS.out, ← HT.out, hb]; rfl), hb0⟩
end Go.Proofs.YtdkipndepkblhaaGreatDoor

set_option linter.unusedSimpArgs false
set_option linter.unusedVariables false
namespace Go.Bg
open Go.RowKit Dg
/-- the fraction of an integer -/
def rz (z : Int) : Rt := ⟨decide (z < 0), z.natAbs, 1⟩
theorem sg_nat (s : Bool) (N : Nat) : (sg s N).natAbs = N := by cases s <;> simp [sg]
theorem sg_neg (s : Bool) (N : Nat) : decide (sg s N < 0) = (s && decide (0 < N)) := by
  cases s
  · simp [sg]
  · by_cases h : 0 < N <;> simp [sg, h] <;> omega
theorem whole_rz (s : Bool) (N : Nat) : Rt.whole s N = rz (sg s N) := by
  unfold Rt.whole rz
  rw [sg_nat, sg_neg]
theorem whole_abs (z : Int) : Rt.whole (decide (z < 0)) z.natAbs = rz z := by
  unfold Rt.whole rz
  by_cases h : z < 0
  · have : 0 < z.natAbs := by omega
    simp [h, this]
  · simp [h]
theorem negated_rz (z : Int) : (rz z).negated = rz (-z) := by
  unfold Rt.negated rz
  simp only [Int.natAbs_neg, Rt.mk.injEq, and_true, true_and]
  by_cases h : z < 0
  · have h1 : ¬ (-z < 0) := by omega
    simp [h, h1]; omega
  · by_cases h2 : z = 0
    · subst h2; rfl
    · have h1 : -z < 0 := by omega
      have : 0 < z.natAbs := by omega
      simp [h, h1, this]; omega
end Go.Bg
namespace Go.Proofs.YtdkipndepkblhaaGreatDoor
open Go.RowKit Go.Bg Dg
theorem plus_rz (x y : Int) : (rz x).plus (rz y) = rz (x + y) := by
  obtain ⟨u, n, h, e⟩ := minus_whole (decide (x < 0)) (decide (-y < 0)) x.natAbs (-y).natAbs
  rw [whole_abs, whole_abs, Rt.minus, negated_rz, Int.neg_neg] at h
  rw [h]
  have hx : sg (decide (x < 0)) x.natAbs = x := sg_natAbs x
  have hy : sg (decide (-y < 0)) (-y).natAbs = -y := sg_natAbs (-y)
  rw [hx, hy] at e
  have : (⟨u && decide (0 < n), n, 1⟩ : Rt) = Rt.whole u n := rfl
  rw [this, whole_rz, e]
  congr 1
  omega
theorem minus_rz (x y : Int) : (rz x).minus (rz y) = rz (x - y) := by
  rw [Rt.minus, negated_rz, plus_rz]; rfl
theorem times_rz (x y : Int) : (rz x).times (rz y) = rz (x * y) := by
  unfold Rt.times
  show Rt.over _ (x.natAbs * y.natAbs) (1 * 1) = _
  rw [Nat.mul_one, Rt.over_one, ← Int.natAbs_mul]
  unfold rz
  simp only [Rt.mk.injEq, and_true, true_and]
  have hp : (0 < (x * y).natAbs) = (x ≠ 0 ∧ y ≠ 0) := by
    rw [Int.natAbs_mul]
    apply propext
    constructor
    · intro h
      constructor
      · rintro rfl; simp at h
      · rintro rfl; simp at h
    · rintro ⟨h1, h2⟩
      exact Nat.mul_pos (by omega) (by omega)
  rcases Int.lt_trichotomy x 0 with h1 | rfl | h1
  · rcases Int.lt_trichotomy y 0 with h2 | rfl | h2
    · have := Int.mul_pos_of_neg_of_neg h1 h2
      simp [h1, h2]; omega
    · simp
    · have := Int.mul_neg_of_neg_of_pos h1 h2
      have h3 : ¬ y < 0 := by omega
      simp [h1, h3, this]; omega
  · simp
  · rcases Int.lt_trichotomy y 0 with h2 | rfl | h2
    · have := Int.mul_neg_of_pos_of_neg h1 h2
      have h3 : ¬ x < 0 := by omega
      simp [h2, h3, this]; omega
    · simp
    · have := Int.mul_pos h1 h2
      have h3 : ¬ x < 0 := by omega
      have h4 : ¬ y < 0 := by omega
      have h5 : ¬ x * y < 0 := by omega
      simp [h3, h4, h5]
theorem sameB_refl (r : Rt) : sameB r r = true := by unfold sameB; simp
end Go.Proofs.YtdkipndepkblhaaGreatDoor

set_option linter.unusedSimpArgs false
set_option linter.unusedVariables false
namespace Go.Proofs.YtdkipndepkblhaaGreatDoor
open Go.RowKit Go.Bg Dg

set_option maxRecDepth 100000 in
set_option maxHeartbeats 2000000 in
theorem isInt_any (x : Vl) (t : Bool) (a2 : Option Addr) (n2 c2 : Nat) (a2' : Option Addr) (n2' c2' : Nat) (q : Rt) (L : Nat) (w : World)
    (h1 : VlAt w x) (h2 : RtAt w t a2 n2 c2 a2' n2' c2' q L) (hL : L ≤ 100000) (hn : x.wn ≤ 1000) :
    Calls Tryz.prog 16 #[.agg #[.int .i64 x.kind, .bool x.truth, .string x.text, .bool x.neg, .slice x.wa x.wn x.wc, .slice x.da x.dn x.dc, .bool x.ineg, .slice x.ia x.inn x.ic, .slice x.ea x.en x.ec], .agg #[.bool t, .slice a2 n2 c2, .slice a2' n2' c2']] w fun e w' => e = .returned (.bool (intB x && sameB (Rt.whole x.neg (val W64 x.wf x.wn)) q)) ∧ Below w.heap.size w w' := by
  obtain ⟨W0, hW0⟩ : ∃ W0, W0 = (w.alloc (.cells #[.int .i64 x.kind, .bool x.truth, .string x.text, .bool x.neg, .slice x.wa x.wn x.wc, .slice x.da x.dn x.dc, .bool x.ineg, .slice x.ia x.inn x.ic, .slice x.ea x.en x.ec] 26)).alloc (.cells #[.bool t, .slice a2 n2 c2, .slice a2' n2' c2'] 31) := ⟨_, rfl⟩
  have HW := Lib.hid hW0
  have hb0 : Below w.heap.size w W0 := by rw [hW0]; exact Below.alloc' (Below.alloc' (Below.refl _ _) _) _
  have X : Box9 W0 w.heap.size x := by rw [hW0]; exact (Box9.new w x _ rfl).alloc _
  have C : RtBlk W0 (w.heap.size + 1) t a2 n2 c2 a2' n2' c2' := by rw [hW0]; exact RtBlk.new _ _ (by simp) _ _ _ _ _ _ _
  have HX := Lib.hid (h1.keep hb0)
  have HC := Lib.hid (h2.keep hb0)
  clear hW0 h1 h2
  go_enter Tryz.func16, Tryz.ntmps16
  go_upto_region 1 with fail
  rw [← HW.out]
  obtain ⟨xc0, xc1, xc2, xc3, xc4, xc5, xc6, xc7, xc8⟩ := (X).all
  go_wp2_with fail
  refine (integer_any x _ HX.out hn).mono ?_
  rintro e w1 ⟨sV, aV, nV, cV, aE, nE, cE, rfl, hR, hB1⟩
  clear xc0 xc1 xc2 xc3 xc4 xc5 xc6 xc7 xc8
  go_upto_region 2 with fail
  obtain ⟨W1, hW1⟩ : ∃ W1, W1 = w1.alloc (.cells #[.bool sV, .slice aV nV cV, .slice aE nE cE] 31) := ⟨_, rfl⟩
  rw [← hW1]
  have hb1 : Below W0.heap.size W0 W1 := by rw [hW1]; exact Below.alloc' hB1 _
  have V1 : RtBlk W1 w1.heap.size sV aV nV cV aE nE cE := by rw [hW1]; exact RtBlk.new _ _ rfl _ _ _ _ _ _ _
  have R1 := Lib.hid (show intB x = true → RtAt W1 sV aV nV cV aE nE cE (Rt.whole x.neg (val W64 x.wf x.wn)) (4 * x.wn + 1) from fun hb => by
    rw [hW1]; exact (hR hb).keep ((Below.refl _ _).alloc (Nat.le_refl _) _))
  have C1 := C.keep hb1
  have HC1 := Lib.hid (HC.out.keep hb1)
  have hbf := Below.then hb0 (Nat.le_refl _) hb1
  clear hW1 hR hB1 C HC X HX hb1
  obtain ⟨v0, v1, v2⟩ := V1
  obtain ⟨y0, y1, y2⟩ := C1
  cases hb : intB x
  · go_wp2
    go_ret
    exact ⟨ret_bool (by rw [hb]; rfl), hbf⟩
  · have HR := R1.out hb
    have hL' : 4 * x.wn + 1 ≤ L + 4001 := by omega
    have HBB := Lib.hid hb
    clear hb R1
    go_wp2_with fail
    refine (same_any sV t aV nV cV aE nE cE a2 n2 c2 a2' n2' c2' (Rt.whole x.neg (val W64 x.wf x.wn)) q (L + 4001) _ (HR.mono hL') (HC1.out.mono (by omega)) (by omega)).mono ?_
    rintro e w2 ⟨rfl, hB2⟩
    have hbg := Below.then hbf (Nat.le_refl _) hB2
    go_wp2
    go_ret
    exact ⟨ret_bool (by rw [HBB.out, Bool.true_and]), hbg⟩
end Go.Proofs.YtdkipndepkblhaaGreatDoor
