/-
  Contracts and lemmas: KnuG DivW DivG DivS DivR.
-/
import Derived.Test.YtgmienggfaahlaaGreatDoorK14
import Derived.Test.YtgmienggfaahlaaGreatDoorK03
import Derived.Test.YtgmienggfaahlaaGreatDoorK12
import Derived.Test.YtgmienggfaahlaaGreatDoorK13
import Derived.Test.YtgmienggfaahlaaGreatDoorK05
set_option linter.unusedSimpArgs false
set_option linter.unusedVariables false
set_option maxRecDepth 100000
set_option maxHeartbeats 8000000
namespace Go.Bg
open Go.RowKit Dg
theorem top_two {B V n : Nat} (hB : 0 < B) (hV : V < B ^ (n + 2)) : V = (dg B V (n + 1) * B + dg B V n) * B ^ n + V % B ^ n ∧ dg B V (n + 1) < B ∧ dg B V n < B := by
  refine ⟨?_, dg_lt hB _ _, dg_lt hB _ _⟩
  have h1 := mod_succ B V (n + 1)
  have h2 := mod_succ B V n
  rw [Nat.mod_eq_of_lt hV] at h1
  rw [h2] at h1
  rw [Nat.add_mul, Nat.mul_assoc, Nat.mul_comm B (B ^ n), ← Nat.pow_succ, Nat.mul_comm _ (B ^ (n + 1)), Nat.mul_comm _ (B ^ n)]
  omega
theorem top_three {B S n : Nat} (hB : 0 < B) (hS : S < B ^ (n + 3)) : S = ((dg B S (n + 2) * B + dg B S (n + 1)) * B + dg B S n) * B ^ n + S % B ^ n := by
  have h1 := mod_succ B S (n + 2)
  have h2 := mod_succ B S (n + 1)
  have h3 := mod_succ B S n
  rw [Nat.mod_eq_of_lt hS, h2, h3] at h1
  have e1 : (dg B S (n + 2) * B + dg B S (n + 1)) * B * B ^ n = B ^ (n + 2) * dg B S (n + 2) + B ^ (n + 1) * dg B S (n + 1) := by
    rw [Nat.mul_assoc, Nat.mul_comm B (B ^ n), ← Nat.pow_succ, Nat.add_mul, Nat.mul_assoc, Nat.mul_comm B (B ^ (n + 1)), ← Nat.pow_succ, Nat.mul_comm, Nat.mul_comm (dg B S (n + 1))]
  rw [Nat.add_mul, e1, Nat.mul_comm (dg B S n)]
  omega
theorem guess_alike {n S V : Nat} (hV : V < W64 ^ (n + 2)) (hS : S < V * W64) (hn : W64 ≤ 2 * dg W64 V (n + 1)) (he : dg W64 S (n + 2) = dg W64 V (n + 1)) :
    S / V ≤ W64 - 1 ∧ W64 - 1 ≤ S / V + 1 := by
  have hS3 : S < W64 ^ (n + 3) := by
    rw [Nat.pow_succ]; exact Nat.lt_of_lt_of_le hS (Nat.mul_le_mul_right _ (Nat.le_of_lt hV))
  have h1 := mod_succ W64 V (n + 1)
  rw [Nat.mod_eq_of_lt hV] at h1
  have h2 := mod_succ W64 S (n + 2)
  rw [Nat.mod_eq_of_lt hS3, he] at h2
  refine guess_top (B := W64) (P := W64 ^ (n + 1)) (h := dg W64 V (n + 1)) (y := V % W64 ^ (n + 1)) (by decide) (Nat.mod_lt _ (Nat.pow_pos W64_pos)) (by rw [Nat.mul_comm]; omega) ?_ (by rw [Nat.mul_comm]; exact hS) hn
  have e : dg W64 V (n + 1) * W64 ^ (n + 1) * W64 = W64 ^ (n + 2) * dg W64 V (n + 1) := by rw [Nat.mul_assoc, ← Nat.pow_succ, Nat.mul_comm]
  rw [e, h2]
  exact Nat.le_add_left _ _
theorem guess_three {n S V q : Nat} (hV : V < W64 ^ (n + 2)) (hS : S < V * W64) (hn : W64 ≤ 2 * dg W64 V (n + 1))
    (hq : q = ((dg W64 S (n + 2) * W64 + dg W64 S (n + 1)) * W64 + dg W64 S n) / (dg W64 V (n + 1) * W64 + dg W64 V n)) (hqB : q < W64) :
    S / V ≤ q ∧ q ≤ S / V + 1 := by
  have hS3 : S < W64 ^ (n + 3) := by
    rw [Nat.pow_succ]; exact Nat.lt_of_lt_of_le hS (Nat.mul_le_mul_right _ (Nat.le_of_lt hV))
  have hh : 0 < dg W64 V (n + 1) := by
    have : 0 < W64 := W64_pos
    omega
  have hb : W64 ≤ dg W64 V (n + 1) * W64 + dg W64 V n := by
    have : 1 * W64 ≤ dg W64 V (n + 1) * W64 := Nat.mul_le_mul_right _ hh
    omega
  exact guess_off (Nat.pow_pos W64_pos) (Nat.mod_lt _ (Nat.pow_pos W64_pos)) (Nat.mod_lt _ (Nat.pow_pos W64_pos)) (top_three W64_pos hS3) (top_two W64_pos hV).1 (by have := W64_pos; omega) hq (by omega)
theorem top_le {n S V : Nat} (hV : V < W64 ^ (n + 2)) (hS : S < V * W64) : dg W64 S (n + 2) ≤ dg W64 V (n + 1) := by
  have hS3 : S < W64 ^ (n + 3) := by
    rw [Nat.pow_succ]; exact Nat.lt_of_lt_of_le hS (Nat.mul_le_mul_right _ (Nat.le_of_lt hV))
  have e1 : dg W64 S (n + 2) = S / W64 ^ (n + 2) := by
    unfold dg; exact Nat.mod_eq_of_lt ((Nat.div_lt_iff_lt_mul (Nat.pow_pos W64_pos)).2 (by rw [← Nat.pow_succ']; exact hS3))
  have e2 : dg W64 V (n + 1) = V / W64 ^ (n + 1) := by
    unfold dg; exact Nat.mod_eq_of_lt ((Nat.div_lt_iff_lt_mul (Nat.pow_pos W64_pos)).2 (by rw [← Nat.pow_succ']; exact hV))
  rw [e1, e2]
  have h1 : S / W64 ^ (n + 2) ≤ V * W64 / W64 ^ (n + 2) := Nat.div_le_div_right (Nat.le_of_lt hS)
  rw [Nat.pow_succ W64 (n + 1), Nat.mul_div_mul_right _ _ W64_pos] at h1
  rw [Nat.pow_succ W64 (n + 1)]
  exact h1
theorem fin0 {d q R : Nat} (h : R < d) : (d * q + R) / d = q ∧ (d * q + R) % d = R :=
  (Nat.div_mod_unique (by omega)).2 ⟨by omega, h⟩
theorem fin1 {d q R : Nat} (h0 : d ≤ R) (h : R < 2 * d) : (d * q + R) / d = q + 1 ∧ (d * q + R) % d = R - d :=
  (Nat.div_mod_unique (by omega)).2 ⟨by rw [Nat.mul_add]; omega, by omega⟩
theorem fin2 {d q R : Nat} (h0 : 2 * d ≤ R) (h : R < 3 * d) : (d * q + R) / d = q + 2 ∧ (d * q + R) % d = R - d - d :=
  (Nat.div_mod_unique (by omega)).2 ⟨by rw [Nat.mul_add]; omega, by omega⟩
theorem est_words {d m x1 x0 : Nat} (h1 : 9223372036854775808 ≤ d) (h2 : d < 18446744073709551616) (hx : x1 < d) (h0 : x0 < 18446744073709551616) (hm : m + W64 = (W64 * W64 - 1) / d) :
    ∃ q R : Nat, d * q + R = x1 * W64 + x0 ∧ R < 18446744073709551616 + d ∧ q < 18446744073709551616 ∧
      (m * x1 / 18446744073709551616 + x1 + (m * x1 % 18446744073709551616 + x0 + 0) / 18446744073709551616) % 18446744073709551616 = q := by
  obtain ⟨q, hq⟩ : ∃ q, q = (x1 * m + x0) / W64 + x1 := ⟨_, rfl⟩
  obtain ⟨e1, e2⟩ := est (B := W64) h2 (by omega) hx h0 hm hq
  have hql : q < 18446744073709551616 := by
    have h3 : q * d < W64 * d := by
      have : x1 * W64 + x0 < d * W64 := by
        have : (x1 + 1) * W64 ≤ d * W64 := Nat.mul_le_mul_right _ hx
        unfold W64 at *; omega
      rw [Nat.mul_comm W64]; omega
    exact Nat.lt_of_mul_lt_mul_right h3
  refine ⟨q, x1 * W64 + x0 - d * q, ?_, ?_, hql, ?_⟩
  · rw [Nat.mul_comm q] at e1; omega
  · rw [Nat.mul_comm q] at e1 e2; unfold W64 at *; omega
  · rw [Nat.mul_comm x1] at hq
    unfold W64 at hq
    generalize m * x1 = p at *
    omega
theorem rem_words {d q R x1 x0 P : Nat} (hP : P = d * q) (hd : d < 18446744073709551616) (he : d * q + R = x1 * W64 + x0) (hR : R < 18446744073709551616 + d) (h1 : x1 < 18446744073709551616) (h0 : x0 < 18446744073709551616) :
    (x0 + 18446744073709551616 - P % 18446744073709551616 - 0) % 18446744073709551616 = R % 18446744073709551616 ∧
    (x1 + 18446744073709551616 - P / 18446744073709551616 - (if x0 < P % 18446744073709551616 + 0 then 1 else 0)) % 18446744073709551616 = R / 18446744073709551616 := by
  rw [← hP] at he
  unfold W64 at he
  clear hP
  constructor
  · omega
  · split <;> omega
end Go.Bg
namespace Go.Proofs.YtgmienggfaahlaaGreatDoor
open Go.RowKit Go.Bg Dg
theorem fin_tup {A B : Int} {Q M s : Nat} (h1 : A = (Q : Int)) (h2 : B = (M : Int)) : Ending.returned (.tuple #[.int .u64 A, .int .u64 (B / 2 ^ s)]) = Ending.returned (.tuple #[.int .u64 (Q : Nat), .int .u64 ((M / 2 ^ s : Nat) : Int)]) := by
  subst h1 h2; simp
def Two (f : FuncId) (args : Array Value) (a b : Nat) : Prop :=
  ∀ w, Calls Tryz.prog f args w fun e w' => e = .returned (.tuple #[.int .u64 (a : Nat), .int .u64 (b : Nat)]) ∧ w = w'
theorem divWW_walk (X1 X0 y m s t x1 x0 d t1 t0 z1 c q z2 p1 p0 r0 b r1 z3 R Q M : Nat)
    (HN : Hid (∀ w, Calls Tryz.prog 243 #[.int .u64 y] w fun e w' => e = .returned (.int .u64 (s : Nat)) ∧ w' = w))
    (hs : s < 64) (hz : s = 0 → x1 = X1 ∧ x0 = X0 ∧ d = y) (hsub : (64 : Int) - s = t)
    (hU : bits .or .u64 (IntKind.u64.wrap ((X1 : Int) * 2 ^ s)) ((X0 : Int) / 2 ^ t) = (x1 : Int)) (hW : IntKind.u64.wrap ((X0 : Int) * 2 ^ s) = (x0 : Int)) (hD : IntKind.u64.wrap ((y : Int) * 2 ^ s) = (d : Int))
    (HC1 : Hid (Two 246 #[.int .u64 m, .int .u64 x1] t1 t0)) (HC2 : Hid (Two 227 #[.int .u64 t0, .int .u64 x0, .int .u64 0] z1 c)) (HC3 : Hid (Two 227 #[.int .u64 t1, .int .u64 x1, .int .u64 c] q z2))
    (HC4 : Hid (Two 246 #[.int .u64 d, .int .u64 q] p1 p0)) (HC5 : Hid (Two 229 #[.int .u64 x0, .int .u64 p0, .int .u64 0] r0 b)) (HC6 : Hid (Two 229 #[.int .u64 x1, .int .u64 p1, .int .u64 b] r1 z3))
    (hql : q < 18446744073709551616) (hQl : Q < 18446744073709551616) (hd1 : 9223372036854775808 ≤ d) (hd2 : d < 18446744073709551616) (hR : R < 18446744073709551616 + d) (hr0 : r0 = R % 18446744073709551616) (hr1 : r1 = R / 18446744073709551616)
    (hQ : Q = (d * q + R) / d) (hM : M = (d * q + R) % d) (w : World) :
    Calls Tryz.prog 275 #[.int .u64 X1, .int .u64 X0, .int .u64 y, .int .u64 m] w fun e w' => e = .returned (.tuple #[.int .u64 (Q : Nat), .int .u64 ((M / 2 ^ s : Nat) : Int)]) ∧ w = w' := by
  have HR0 := Lib.hid hr0
  have HR1 := Lib.hid hr1
  have HQ := Lib.hid hQ
  have HM := Lib.hid hM
  clear hr0 hr1 hQ hM
  by_cases hs0 : s = 0
  · obtain ⟨rfl, rfl, rfl⟩ := hz hs0
    have hsz : ((s : Int) != 0) = false := by simp; omega
    clear hz hU hW hD hsub hs0
    go_enter Tryz.func275, Tryz.ntmps275
    go_wp2_with fail
    refine (HN.out _).mono ?_
    rintro e w1 ⟨rfl, rfl⟩
    go_wp2_with fail
    refine (HC1.out _).mono ?_
    rintro e w2 ⟨rfl, rfl⟩
    go_wp2_with fail
    refine (HC2.out _).mono ?_
    rintro e w3 ⟨rfl, rfl⟩
    go_wp2_with fail
    refine (HC3.out _).mono ?_
    rintro e w4 ⟨rfl, rfl⟩
    go_wp2_with fail
    refine (HC4.out _).mono ?_
    rintro e w5 ⟨rfl, rfl⟩
    go_wp2_with fail
    refine (HC5.out _).mono ?_
    rintro e w6 ⟨rfl, rfl⟩
    go_wp2_with fail
    refine (HC6.out _).mono ?_
    rintro e w7 ⟨rfl, rfl⟩
    have hr0 := HR0.out
    have hr1 := HR1.out
    have hQ := HQ.out
    have hM := HM.out
    clear HR0 HR1 HQ HM
    by_cases hr : 18446744073709551616 ≤ R
    · have k1 : ((r1 : Int) != 0) = true := by simp; omega
      have k1' : ¬ (r1 : Int) = 0 := by omega
      obtain ⟨ra, hra⟩ : ∃ ra, ra = R - d := ⟨_, rfl⟩
      have hral : ra < 18446744073709551616 := by omega
      have k2 : IntKind.u64.wrap ((r0 : Int) - (d : Int)) = (ra : Int) := by rw [IntKind.wrap_u64]; omega
      by_cases hc : d ≤ ra
      · obtain ⟨f1, f2⟩ := fin2 (d := d) (q := q) (R := R) (by omega) (by omega)
        rw [← hQ] at f1
        rw [← hM] at f2
        have HF1 := Lib.hid f1
        have HF2 := Lib.hid f2
        have HRA := Lib.hid hra
        have k3 : (d : Int) ≤ (ra : Int) := by omega
        obtain ⟨qa, hqa⟩ : ∃ qa, qa = q + 1 := ⟨_, rfl⟩
        obtain ⟨qb, hqb⟩ : ∃ qb, qb = qa + 1 := ⟨_, rfl⟩
        have k4 : IntKind.u64.wrap ((q : Int) + 1) = (qa : Int) := by rw [IntKind.wrap_u64]; omega
        have k5 : IntKind.u64.wrap ((qa : Int) + 1) = (qb : Int) := by rw [IntKind.wrap_u64]; omega
        have HQB := Lib.hid (show qb = q + 2 from by omega)
        clear hqa hqb
        clear hra hr0 hr1 hQ hM f1 f2 hR hr
        go_wp2
        exact bodyPost_ret (v := .tuple #[.int .u64 (qb : Int), .int .u64 (((ra : Int) - (d : Int)) / 2 ^ s)]) (by simp [results, Tryz.results275, go_sem]) rfl ⟨by rw [HF1.out, HF2.out, ← HRA.out]; exact fin_tup (by rw [HQB.out]) (by omega), rfl⟩
      · obtain ⟨f1, f2⟩ := fin1 (d := d) (q := q) (R := R) (by omega) (by omega)
        rw [← hQ] at f1
        rw [← hM] at f2
        have HF1 := Lib.hid f1
        have HF2 := Lib.hid f2
        have HRA := Lib.hid hra
        have k3 : ¬ (d : Int) ≤ (ra : Int) := by omega
        obtain ⟨qb, hqb⟩ : ∃ qb, qb = q + 1 := ⟨_, rfl⟩
        have k4 : IntKind.u64.wrap ((q : Int) + 1) = (qb : Int) := by rw [IntKind.wrap_u64]; omega
        have HQB := Lib.hid hqb
        clear hqb
        clear hra hr0 hr1 hQ hM f1 f2 hR hr
        go_wp2
        exact bodyPost_ret (v := .tuple #[.int .u64 (qb : Int), .int .u64 ((ra : Int) / 2 ^ s)]) (by simp [results, Tryz.results275, go_sem]) rfl ⟨by rw [HF1.out, HF2.out, ← HRA.out]; exact fin_tup (by rw [HQB.out]) (by omega), rfl⟩
    · obtain rfl : r1 = 0 := by omega
      obtain rfl : r0 = R := by omega
      by_cases hc : d ≤ r0
      · obtain ⟨f1, f2⟩ := fin1 (d := d) (q := q) (R := r0) (by omega) (by omega)
        rw [← hQ] at f1
        rw [← hM] at f2
        have HF1 := Lib.hid f1
        have HF2 := Lib.hid f2
        have k3 : (d : Int) ≤ (r0 : Int) := by omega
        obtain ⟨qb, hqb⟩ : ∃ qb, qb = q + 1 := ⟨_, rfl⟩
        have k4 : IntKind.u64.wrap ((q : Int) + 1) = (qb : Int) := by rw [IntKind.wrap_u64]; omega
        have HQB := Lib.hid hqb
        clear hqb
        clear hr0 hr1 hQ hM f1 f2 hR
        go_wp2
        exact bodyPost_ret (v := .tuple #[.int .u64 (qb : Int), .int .u64 (((r0 : Int) - (d : Int)) / 2 ^ s)]) (by simp [results, Tryz.results275, go_sem]) rfl ⟨by rw [HF1.out, HF2.out]; exact fin_tup (by rw [HQB.out]) (by omega), rfl⟩
      · obtain ⟨f1, f2⟩ := fin0 (d := d) (q := q) (R := r0) (by omega)
        rw [← hQ] at f1
        rw [← hM] at f2
        have HF1 := Lib.hid f1
        have HF2 := Lib.hid f2
        have k3 : ¬ (d : Int) ≤ (r0 : Int) := by omega
        clear hr0 hr1 hQ hM f1 f2 hR
        go_wp2
        exact bodyPost_ret (v := .tuple #[.int .u64 (q : Int), .int .u64 ((r0 : Int) / 2 ^ s)]) (by simp [results, Tryz.results275, go_sem]) rfl ⟨by rw [HF1.out, HF2.out]; exact fin_tup rfl rfl, rfl⟩
  · have hsz : ((s : Int) != 0) = true := by simp; omega
    clear hz
    go_enter Tryz.func275, Tryz.ntmps275
    go_wp2_with fail
    refine (HN.out _).mono ?_
    rintro e w1 ⟨rfl, rfl⟩
    go_wp2_with fail
    refine (HC1.out _).mono ?_
    rintro e w2 ⟨rfl, rfl⟩
    go_wp2_with fail
    refine (HC2.out _).mono ?_
    rintro e w3 ⟨rfl, rfl⟩
    go_wp2_with fail
    refine (HC3.out _).mono ?_
    rintro e w4 ⟨rfl, rfl⟩
    go_wp2_with fail
    refine (HC4.out _).mono ?_
    rintro e w5 ⟨rfl, rfl⟩
    go_wp2_with fail
    refine (HC5.out _).mono ?_
    rintro e w6 ⟨rfl, rfl⟩
    go_wp2_with fail
    refine (HC6.out _).mono ?_
    rintro e w7 ⟨rfl, rfl⟩
    have hr0 := HR0.out
    have hr1 := HR1.out
    have hQ := HQ.out
    have hM := HM.out
    clear HR0 HR1 HQ HM
    by_cases hr : 18446744073709551616 ≤ R
    · have k1 : ((r1 : Int) != 0) = true := by simp; omega
      have k1' : ¬ (r1 : Int) = 0 := by omega
      obtain ⟨ra, hra⟩ : ∃ ra, ra = R - d := ⟨_, rfl⟩
      have hral : ra < 18446744073709551616 := by omega
      have k2 : IntKind.u64.wrap ((r0 : Int) - (d : Int)) = (ra : Int) := by rw [IntKind.wrap_u64]; omega
      by_cases hc : d ≤ ra
      · obtain ⟨f1, f2⟩ := fin2 (d := d) (q := q) (R := R) (by omega) (by omega)
        rw [← hQ] at f1
        rw [← hM] at f2
        have HF1 := Lib.hid f1
        have HF2 := Lib.hid f2
        have HRA := Lib.hid hra
        have k3 : (d : Int) ≤ (ra : Int) := by omega
        obtain ⟨qa, hqa⟩ : ∃ qa, qa = q + 1 := ⟨_, rfl⟩
        obtain ⟨qb, hqb⟩ : ∃ qb, qb = qa + 1 := ⟨_, rfl⟩
        have k4 : IntKind.u64.wrap ((q : Int) + 1) = (qa : Int) := by rw [IntKind.wrap_u64]; omega
        have k5 : IntKind.u64.wrap ((qa : Int) + 1) = (qb : Int) := by rw [IntKind.wrap_u64]; omega
        have HQB := Lib.hid (show qb = q + 2 from by omega)
        clear hqa hqb
        clear hra hr0 hr1 hQ hM f1 f2 hR hr
        go_wp2
        exact bodyPost_ret (v := .tuple #[.int .u64 (qb : Int), .int .u64 (((ra : Int) - (d : Int)) / 2 ^ s)]) (by simp [results, Tryz.results275, go_sem]) rfl ⟨by rw [HF1.out, HF2.out, ← HRA.out]; exact fin_tup (by rw [HQB.out]) (by omega), rfl⟩
      · obtain ⟨f1, f2⟩ := fin1 (d := d) (q := q) (R := R) (by omega) (by omega)
        rw [← hQ] at f1
        rw [← hM] at f2
        have HF1 := Lib.hid f1
        have HF2 := Lib.hid f2
        have HRA := Lib.hid hra
        have k3 : ¬ (d : Int) ≤ (ra : Int) := by omega
        obtain ⟨qb, hqb⟩ : ∃ qb, qb = q + 1 := ⟨_, rfl⟩
        have k4 : IntKind.u64.wrap ((q : Int) + 1) = (qb : Int) := by rw [IntKind.wrap_u64]; omega
        have HQB := Lib.hid hqb
        clear hqb
        clear hra hr0 hr1 hQ hM f1 f2 hR hr
        go_wp2
        exact bodyPost_ret (v := .tuple #[.int .u64 (qb : Int), .int .u64 ((ra : Int) / 2 ^ s)]) (by simp [results, Tryz.results275, go_sem]) rfl ⟨by rw [HF1.out, HF2.out, ← HRA.out]; exact fin_tup (by rw [HQB.out]) (by omega), rfl⟩
    · obtain rfl : r1 = 0 := by omega
      obtain rfl : r0 = R := by omega
      by_cases hc : d ≤ r0
      · obtain ⟨f1, f2⟩ := fin1 (d := d) (q := q) (R := r0) (by omega) (by omega)
        rw [← hQ] at f1
        rw [← hM] at f2
        have HF1 := Lib.hid f1
        have HF2 := Lib.hid f2
        have k3 : (d : Int) ≤ (r0 : Int) := by omega
        obtain ⟨qb, hqb⟩ : ∃ qb, qb = q + 1 := ⟨_, rfl⟩
        have k4 : IntKind.u64.wrap ((q : Int) + 1) = (qb : Int) := by rw [IntKind.wrap_u64]; omega
        have HQB := Lib.hid hqb
        clear hqb
        clear hr0 hr1 hQ hM f1 f2 hR
        go_wp2
        exact bodyPost_ret (v := .tuple #[.int .u64 (qb : Int), .int .u64 (((r0 : Int) - (d : Int)) / 2 ^ s)]) (by simp [results, Tryz.results275, go_sem]) rfl ⟨by rw [HF1.out, HF2.out]; exact fin_tup (by rw [HQB.out]) (by omega), rfl⟩
      · obtain ⟨f1, f2⟩ := fin0 (d := d) (q := q) (R := r0) (by omega)
        rw [← hQ] at f1
        rw [← hM] at f2
        have HF1 := Lib.hid f1
        have HF2 := Lib.hid f2
        have k3 : ¬ (d : Int) ≤ (r0 : Int) := by omega
        clear hr0 hr1 hQ hM f1 f2 hR
        go_wp2
        exact bodyPost_ret (v := .tuple #[.int .u64 (q : Int), .int .u64 ((r0 : Int) / 2 ^ s)]) (by simp [results, Tryz.results275, go_sem]) rfl ⟨by rw [HF1.out, HF2.out]; exact fin_tup rfl rfl, rfl⟩
theorem two_mul (x y : Nat) (hx : x < 18446744073709551616) (hy : y < 18446744073709551616) : Two 246 #[.int .u64 x, .int .u64 y] (x * y / 18446744073709551616) (x * y % 18446744073709551616) :=
  fun w => (Tryz.bits_Mul x y hx hy w).mono fun _ _ h => ⟨h.1, h.2.symm⟩
theorem divWW_any (X1 X0 y : Nat) (h1 : X1 < y) (h0 : X0 < 18446744073709551616) (hy : y < 18446744073709551616) (w : World) :
    Calls Tryz.prog 275 #[.int .u64 X1, .int .u64 X0, .int .u64 y, .int .u64 (recip y : Nat)] w fun e w' => e = .returned (.tuple #[.int .u64 (((X1 * W64 + X0) / y : Nat) : Int), .int .u64 (((X1 * W64 + X0) % y : Nat) : Int)]) ∧ w = w' := by
  have hy0 : 0 < y := by omega
  have hyW : y < W64 := hy
  obtain ⟨hs, hs2⟩ := lz_sum hy0 hyW
  obtain ⟨ht1, ht2⟩ := lz_top hy0 hyW
  obtain ⟨f1, f2, f3⟩ := recip_form ht2 ht1
  obtain ⟨t, hst⟩ : ∃ t, lz y + t = 64 := ⟨64 - lz y, by omega⟩
  have hN1 : X1 * W64 + X0 < y * W64 := by
    have : (X1 + 1) * W64 ≤ y * W64 := Nat.mul_le_mul_right _ h1
    unfold W64 at *; omega
  have hN2 : (X1 * W64 + X0) % W64 = X0 := by unfold W64; omega
  have hN3 : (X1 * W64 + X0) / W64 = X1 := by unfold W64; omega
  obtain ⟨d1, d2⟩ := div_norm (s := lz y) hst hN1 hN2 ht2
  have hh := half hst (X1 * W64 + X0)
  rw [hN2, hN3, Nat.mod_eq_of_lt (show X1 < W64 from by omega)] at hh
  have hU := bits_orS X1 X0 (lz y) t h0
  rw [← hh] at hU
  have hW := wrap_shl X0 (lz y)
  have hD := wrap_shl y (lz y)
  rw [Nat.mod_eq_of_lt (show y * 2 ^ lz y < W64 from ht2)] at hD
  have hz : lz y = 0 → (X1 * W64 + X0) / 2 ^ t % W64 = X1 ∧ X0 * 2 ^ lz y % W64 = X0 ∧ y * 2 ^ lz y = y := by
    intro e
    obtain rfl : t = 64 := by omega
    rw [e, Nat.pow_zero, Nat.mul_one, Nat.mul_one, show (2 : Nat) ^ 64 = W64 from rfl, hN3]
    exact ⟨Nat.mod_eq_of_lt (by omega), Nat.mod_eq_of_lt h0, rfl⟩
  have hx0 : X0 * 2 ^ lz y % W64 < 18446744073709551616 := Nat.mod_lt _ W64_pos
  have hQ2 : (X1 * W64 + X0) * 2 ^ lz y / (y * 2 ^ lz y) = (X1 * W64 + X0) / y := Nat.mul_div_mul_right _ _ (Nat.pow_pos (by decide))
  have hM2 : (X1 * W64 + X0) * 2 ^ lz y % (y * 2 ^ lz y) / 2 ^ lz y = (X1 * W64 + X0) % y := by
    rw [Nat.mul_mod_mul_right, Nat.mul_div_cancel _ (Nat.pow_pos (by decide))]
  have hQl : (X1 * W64 + X0) / y < 18446744073709551616 := (Nat.div_lt_iff_lt_mul hy0).2 (by rw [Nat.mul_comm _ y]; exact hN1)
  have HN := Lib.hid (nlz_any y hy0 hy)
  have HR := Lib.hid (show (W64 * W64 - 1) / (y * 2 ^ lz y) - W64 = recip y from by rw [recip])
  rw [HR.out] at f2 f3
  have hs64 : (64 : Int) - (lz y : Nat) = (t : Int) := by omega
  generalize recip y = m at *
  generalize (X1 * W64 + X0) / 2 ^ t % W64 = x1 at *
  generalize X0 * 2 ^ lz y % W64 = x0 at *
  generalize lz y = s at *
  obtain ⟨q, R, e1, e2, e3, e4⟩ := est_words ht1 ht2 d1 hx0 f3
  obtain ⟨g1, g2⟩ := rem_words (P := y * 2 ^ s * q) rfl ht2 e1 e2 (by omega) hx0
  rw [← hQ2] at hQl
  rw [← hQ2, ← hM2, ← d2, ← e1]
  rw [← d2, ← e1] at hQl
  have hc : (m * x1 % 18446744073709551616 + x0 + 0) / 18446744073709551616 ≤ 1 := by
    have : m * x1 % 18446744073709551616 < 18446744073709551616 := Nat.mod_lt _ (by decide)
    omega
  have hb : (if x0 < y * 2 ^ s * q % 18446744073709551616 + 0 then 1 else 0 : Nat) ≤ 1 := by split <;> omega
  have C3 : Two 227 #[.int .u64 ((m * x1 / 18446744073709551616 : Nat) : Int), .int .u64 x1, .int .u64 (((m * x1 % 18446744073709551616 + x0 + 0) / 18446744073709551616 : Nat) : Int)] q _ := fun w => by
    have := bitsAdd_any (m * x1 / 18446744073709551616) x1 ((m * x1 % 18446744073709551616 + x0 + 0) / 18446744073709551616) hc w
    rw [e4] at this
    exact this
  exact divWW_walk X1 X0 y m s t x1 x0 (y * 2 ^ s) _ _ _ _ q _ _ _ _ _ _ _ R _ _ HN hs2 hz hs64 hU hW hD
    (Lib.hid (two_mul m x1 f2 (by omega))) (Lib.hid (fun w => bitsAdd_any _ x0 0 (by omega) w)) (Lib.hid C3)
    (Lib.hid (two_mul _ q ht2 e3)) (Lib.hid (fun w => bitsSub_any x0 _ 0 (by omega) w)) (Lib.hid (fun w => bitsSub_any x1 _ _ hb w))
    e3 hQl ht1 ht2 e2 g1 g2 rfl rfl w
theorem mulWW_any (x y : Nat) (hx : x < 18446744073709551616) (hy : y < 18446744073709551616) (w : World) :
    Calls Tryz.prog 206 #[.int .u64 x, .int .u64 y] w fun e w' => e = .returned (.tuple #[.int .u64 ((x * y / 18446744073709551616 : Nat) : Int), .int .u64 ((x * y % 18446744073709551616 : Nat) : Int)]) ∧ w = w' := by
  have HM := Lib.hid (two_mul x y hx hy)
  have h1 : x * y / 18446744073709551616 < 18446744073709551616 := by
    rw [Nat.div_lt_iff_lt_mul (by decide)]
    exact Nat.lt_of_le_of_lt (Nat.mul_le_mul_left _ (Nat.le_of_lt hy)) (Nat.mul_lt_mul_of_pos_right hx (by decide))
  have h2 : x * y % 18446744073709551616 < 18446744073709551616 := Nat.mod_lt _ (by decide)
  generalize x * y / 18446744073709551616 = a at *
  generalize x * y % 18446744073709551616 = b at *
  go_enter Tryz.func206, Tryz.ntmps206
  go_wp2_with fail
  refine (HM.out _).mono ?_
  rintro e w1 ⟨rfl, rfl⟩
  go_wp2
  exact bodyPost_ret (v := .tuple #[.int .u64 (a : Nat), .int .u64 (b : Nat)]) (by simp [results, Tryz.results206, go_sem]) rfl ⟨rfl, rfl⟩
theorem greaterThan_any (x1 x2 y1 y2 : Nat) (h1 : x1 < 18446744073709551616) (h2 : x2 < 18446744073709551616) (h3 : y1 < 18446744073709551616) (h4 : y2 < 18446744073709551616) (w : World) :
    Calls Tryz.prog 277 #[.int .u64 x1, .int .u64 x2, .int .u64 y1, .int .u64 y2] w fun e w' => e = .returned (.bool (decide (y1 * W64 + y2 < x1 * W64 + x2))) ∧ w = w' := by
  by_cases c1 : y1 < x1
  · have k1 : ¬ ((x1 : Int) ≤ (y1 : Int)) := by omega
    have HE := Lib.hid (show decide (y1 * W64 + y2 < x1 * W64 + x2) = true from by
      have : (y1 + 1) * W64 ≤ x1 * W64 := Nat.mul_le_mul_right _ c1
      unfold W64 at *; simp; omega)
    clear c1
    rw [HE.out]
    go_enter Tryz.func277, Tryz.ntmps277
    go_wp2
    go_ret
    exact ⟨rfl, rfl⟩
  · have k1 : ((x1 : Int) ≤ (y1 : Int)) := by omega
    by_cases c2 : x1 = y1
    · subst c2
      have HE := Lib.hid (show decide (y2 < x2) = decide (x1 * W64 + y2 < x1 * W64 + x2) from by
        have e : y2 < x2 ↔ x1 * W64 + y2 < x1 * W64 + x2 := by omega
        exact decide_eq_decide.2 e)
      clear c1
      go_enter Tryz.func277, Tryz.ntmps277
      go_wp2
      go_ret
      exact ⟨ret_bool HE.out, rfl⟩
    · have k2 : ((x1 : Int) == (y1 : Int)) = false := by simp; omega
      have k2' : ¬ (x1 : Int) = (y1 : Int) := by omega
      have HE := Lib.hid (show decide (y1 * W64 + y2 < x1 * W64 + x2) = false from by
        have : (x1 + 1) * W64 ≤ y1 * W64 := Nat.mul_le_mul_right _ (by omega)
        unfold W64 at *; simp; omega)
      have HE2 := Lib.hid (show decide (y1 < x1) = false from by simp; omega)
      clear c1 c2
      rw [HE.out]
      go_enter Tryz.func277, Tryz.ntmps277
      go_wp2
      go_ret
      exact ⟨ret_bool HE2.out, rfl⟩
end Go.Proofs.YtgmienggfaahlaaGreatDoor
namespace Go.Bg
open Go.RowKit
theorem Upd.into {S S' : Nat → Prop} {a w w' : World} (h : Upd S' w w') (hb : Upd S a w) (hS : ∀ k, k < w.heap.size → S' k → S k) : Upd S a w' := hb.trans (h.mono hS)
end Go.Bg
namespace Go.Proofs.YtgmienggfaahlaaGreatDoor
open Go.RowKit Go.Bg Dg
def New (S : Nat → Prop) (w : World) : Prop := ∀ x, w.heap.size ≤ x → S x
theorem New.up {S : Nat → Prop} {w w' : World} (h : New S w) (k : w.heap.size ≤ w'.heap.size) : New S w' := fun x hx => h x (Nat.le_trans k hx)
structure WrAt (g : Nat) (w w' : World) : Prop where
  upd : Upd (· = g) w w'
  blk : ∀ cur, BlkAt w g cur 155 → ∃ cur', BlkAt w' g cur' 155 ∧ cur'.size = cur.size
theorem WrAt.refl (g : Nat) (w : World) : WrAt g w w := ⟨Upd.refl _ _, fun cur h => ⟨cur, h, rfl⟩⟩
theorem WrAt.trans {g : Nat} {a b c : World} (h : WrAt g a b) (k : WrAt g b c) : WrAt g a c :=
  ⟨h.upd.trans k.upd, fun cur hc => by obtain ⟨c1, h1, e1⟩ := h.blk cur hc; obtain ⟨c2, h2, e2⟩ := k.blk c1 h1; exact ⟨c2, h2, e2.trans e1⟩⟩
theorem WrAt.setCell (g i : Nat) (v : Value) (w : World) : WrAt g w (w.setCell ⟨g, i, none⟩ v) :=
  ⟨Upd.set1 w g i v, fun cur h => ⟨_, h.set i v, by simp⟩⟩
theorem WrAt.of_row {w w' : World} {g o n : Nat} {cur : Array Value} {h : Nat → Nat} (hg : BlkAt w g cur 155) (r : RowUp 155 w w' g o n cur h) : WrAt g w w' :=
  ⟨r.upd, fun c hc => by
    obtain ⟨cur', h1, h2, h3, h4⟩ := r.blk
    have e : c = cur := by
      unfold BlkAt at hc hg
      rw [hg] at hc
      injection hc with hc
      injection hc with e
      exact e.symm
    exact ⟨cur', h1, by rw [h2, e]⟩⟩
theorem WrAt.drewN (g : Nat) (w : World) (q : Nat) : WrAt g w (w.drewN q) := ⟨Upd.of_below (below_drewN (Below.refl _ _) q), fun cur h => ⟨cur, h.keep (below_drewN (Below.refl _ _) q), rfl⟩⟩
def WBlk (w : World) (g c : Nat) : Prop := ∃ cur, BlkAt w g cur 155 ∧ cur.size = c
theorem WBlk.wr {w w' : World} {g x c : Nat} (h : WBlk w x c) (k : WrAt g w w') : WBlk w' x c := by
  obtain ⟨cur, h1, h2⟩ := h
  by_cases e : x = g
  · subst e
    obtain ⟨c1, h3, h4⟩ := k.blk cur h1
    exact ⟨c1, h3, h4.trans h2⟩
  · exact ⟨cur, k.upd.blk h1 e, h2⟩
theorem WBlk.keep {w w' : World} {x c : Nat} (h : WBlk w x c) (k : Below w.heap.size w w') : WBlk w' x c := by
  obtain ⟨cur, h1, h2⟩ := h
  exact ⟨cur, h1.keep k, h2⟩
theorem StkAt.wr {w w' : World} {g sb l c : Nat} {st : Option (Nat × Nat)} (h : StkAt w sb st l) (hg : WBlk w g c) (k : WrAt g w w') : StkAt w' sb st l := by
  obtain ⟨cur, hgb, -⟩ := hg
  rcases st with _ | ⟨ib, gi⟩
  · exact ⟨h.1, k.upd.blk h.2 (fun e => words_ne hgb h.2 (by decide) e.symm)⟩
  · obtain ⟨c, cur2, e1, e2, e3, e4, e5, e6⟩ := h
    obtain ⟨c3, f1, f2⟩ := WBlk.wr ⟨cur2, e3, e4⟩ k
    exact ⟨c, c3, k.upd.blk e1 (fun e => words_ne hgb e1 (by decide) e.symm), k.upd.blk e2 (fun e => words_ne hgb e2 (by decide) e.symm), f1, f2, e5, e6⟩
theorem WrAt.into {B : Nat → Prop} {g : Nat} {w0 w w' : World} (k : WrAt g w w') (hb : Upd B w0 w) (hg : B g) : Upd B w0 w' :=
  k.upd.into hb (fun x _ e => by subst e; exact hg)
theorem WrAt.cell {g b p c : Nat} {w w' : World} (k : WrAt g w w') (hb : WBlk w b c) (hne : b ≠ g) : w'.cell? ⟨b, p, none⟩ = w.cell? ⟨b, p, none⟩ := by
  obtain ⟨cur, h1, -⟩ := hb
  exact k.upd.cell (p := ⟨b, p, none⟩) h1.lt hne
structure DivInv (sb gu gv ov gq gh n m cu cv cq ch U V : Nat) (st : Option (Nat × Nat)) (l : Nat) (B : Nat → Prop) (w0 : World) (k : Nat) (w : World) : Prop where
  ub : WBlk w gu cu
  vb : WBlk w gv cv
  qb : WBlk w gq cq
  hb : WBlk w gh ch
  uw : WCells w gu 0 (m + n) (dg W64 (urest W64 U V k))
  qw : ∀ i, k ≤ i → i < m → w.cell? ⟨gq, i, none⟩ = some (.int .u64 (dg W64 (U / V) i : Nat))
  vw : WCells w gv ov n (dg W64 V)
  stk : StkAt w sb st l
  bel : Upd B w0 w
  siz : New B w
theorem DivInv.keep {sb gu gv ov gq gh n m cu cv cq ch U V : Nat} {st : Option (Nat × Nat)} {l : Nat} {B : Nat → Prop} {w0 : World} {k : Nat} {w w' : World} (h : DivInv sb gu gv ov gq gh n m cu cv cq ch U V st l B w0 k w) (hb : Below w.heap.size w w') :
    DivInv sb gu gv ov gq gh n m cu cv cq ch U V st l B w0 k w' :=
  ⟨h.ub.keep hb, h.vb.keep hb, h.qb.keep hb, h.hb.keep hb, fun i hi => cell_keep (h.uw i hi) hb, fun i h1 h2 => cell_keep (h.qw i h1 h2) hb, fun i hi => cell_keep (h.vw i hi) hb, h.stk.keep hb, h.bel.then hb, h.siz.up hb.size⟩
theorem divInv_start {sb gu gv ov gq n m cu cv cq l U V : Nat} {B : Nat → Prop} {st : Option (Nat × Nat)} {w0 w w2 : World} (hm : U < V * W64 ^ m) (hV : V < W64 ^ n) (hV0 : 0 < V)
    (ub : WBlk w gu cu) (vb : WBlk w gv cv) (qb : WBlk w gq cq) (hu : WCells w gu 0 (m + n) (dg W64 U)) (hv : WCells w gv ov n (dg W64 V)) (hst : StkAt w sb st l) (hus : ¬ StkBlk sb st gu) (hqs : ¬ StkBlk sb st gq) (hvs : ∀ ib, st = some (ib, gv) → ov + n ≤ l) (hsB : ∀ x, StkBlk sb st x → B x) (bel : Upd B w0 w) (siz : New B w)
    {st' : Option (Nat × Nat)} {l' gh oh : Nat} {curh : Array Value} (hbh : BlkAt w2 gh curh 155) (hst' : StkAt w2 sb st' l') (hloc : (w.heap.size ≤ gh) ∨ ((∃ ib, st = some (ib, gh)) ∧ l ≤ oh)) (hUpd : Upd (StkBlk sb st) w w2) (hwd : ∀ x cx, BlkAt w x cx 155 → ∃ c', BlkAt w2 x c' 155 ∧ c'.size = cx.size) (hlow : ∀ ib g0, st = some (ib, g0) → ∀ i, i < l → w2.cell? ⟨g0, i, none⟩ = w.cell? ⟨g0, i, none⟩) :
    DivInv sb gu gv ov gq gh n m cu cv cq curh.size U V st' l' B w0 (m + 1) w2 ∧ gh ≠ gu ∧ gh ≠ gq ∧ (gv ≠ gh ∨ ov + n ≤ oh) ∧ B gh := by
  have wb : ∀ {x c}, WBlk w x c → WBlk w2 x c := fun {x c} h => by
    obtain ⟨cur, h1, h2⟩ := h
    obtain ⟨c', h3, h4⟩ := hwd x cur h1
    exact ⟨c', h3, h4.trans h2⟩
  have hlt : ∀ {x c}, WBlk w x c → x < w.heap.size := fun {x c} h => by obtain ⟨cur, h1, _⟩ := h; exact h1.lt
  have hne : ∀ {x c}, WBlk w x c → ¬ StkBlk sb st x → gh ≠ x := fun {x c} h hs e => by
    rcases hloc with h1 | ⟨⟨ib, h1⟩, _⟩
    · have := hlt h; omega
    · exact hs (.inr ⟨ib, gh, h1, .inr e.symm⟩)
  have hU1 : U < V * W64 ^ (m + 1) := Nat.lt_of_lt_of_le hm (Nat.mul_le_mul_left _ (Nat.pow_le_pow_right W64_pos (by omega)))
  refine ⟨⟨wb ub, wb vb, wb qb, ⟨curh, hbh, rfl⟩, ?_, fun i h1 h2 => by omega, ?_, hst', hUpd.into bel (fun k _ hk => hsB k hk), siz.up hUpd.size⟩, hne ub hus, hne qb hqs, ?_, by rcases hloc with h1 | ⟨⟨ib, h1⟩, _⟩; exact siz _ h1; exact hsB gh (.inr ⟨ib, gh, h1, .inr rfl⟩)⟩
  · intro i hi
    rw [urest_start hU1, hUpd.cell (p := ⟨gu, 0 + i, none⟩) (hlt ub) hus]
    exact hu i hi
  · intro i hi
    by_cases hs : StkBlk sb st gv
    · rcases hs with e | ⟨ib, g, e, h | h⟩
      · obtain ⟨cur, h1, _⟩ := vb
        rcases st with _ | ⟨ib, g⟩
        · exact absurd e (words_ne h1 hst.2 (by decide))
        · obtain ⟨c, cur2, e1, _⟩ := hst
          exact absurd e (words_ne h1 e1 (by decide))
      · subst e
        obtain ⟨cur, h1, _⟩ := vb
        obtain ⟨c, cur2, e1, e2, _⟩ := hst
        exact absurd h (words_ne h1 e2 (by decide))
      · subst h
        rw [hlow ib gv e (ov + i) (by have := hvs ib e; omega)]
        exact hv i hi
    · rw [hUpd.cell (p := ⟨gv, ov + i, none⟩) (hlt vb) hs]
      exact hv i hi
  · by_cases e : gv = gh
    · rcases hloc with h1 | ⟨⟨ib, h1⟩, h2⟩
      · have := hlt vb; omega
      · right
        have := hvs ib (by rw [e]; exact h1)
        omega
    · exact .inl e
theorem wcells_out {w w' : World} {g o n b p m : Nat} {cur : Array Value} {h f : Nat → Nat} (hg : BlkAt w g cur 155) (r : RowUp 155 w w' g o n cur h) (hc : WCells w b p m f) (hne : b ≠ g ∨ p + m ≤ o ∨ o + n ≤ p) : WCells w' b p m f :=
  fun i hi => r.readOut hg (hc i hi) (by rcases hne with h | h | h; exact .inl h; exact .inr (.inl (by omega)); exact .inr (.inr (by omega)))
theorem wcells_set {w : World} {g j b p m : Nat} {v : Value} {f : Nat → Nat} (hc : WCells w b p m f) (hne : b ≠ g ∨ p + m ≤ j ∨ j < p) : WCells (w.setCell ⟨g, j, none⟩ v) b p m f :=
  fun i hi => by
    rw [World.cell?_setCell_other _ _ _ _ (fun hh => by injection hh with e1 e2 _; rcases hne with h | h | h <;> omega)]
    exact hc i hi
theorem urest_zero {U V n k i : Nat} (hV : V < W64 ^ n) (h0 : 0 < V) (hi : n + k ≤ i) : dg W64 (urest W64 U V k) i = 0 := by
  refine dg_of_lt (Nat.lt_of_lt_of_le (urest_lt W64_pos h0) ?_)
  refine Nat.le_trans (Nat.mul_le_mul_right _ (Nat.le_of_lt hV)) ?_
  rw [← Nat.pow_add]
  exact Nat.pow_le_pow_right W64_pos hi
theorem add_top {T V n : Nat} (hV : V < W64 ^ n) : (dg W64 T n + (T % W64 ^ n + V % W64 ^ n) / W64 ^ n) % W64 = dg W64 (T + V) n := by
  unfold dg
  rw [addw_div W64_pos T V n, Nat.mod_eq_of_lt hV, Nat.mod_add_mod]
theorem dg_over {X M n i : Nat} (hM : M = W64 ^ n) (hi : i < n) : dg W64 (X + M) i = dg W64 X i := by
  rw [← dg_mod (X + M) hi, hM, Nat.add_mod_right, dg_mod _ hi]
theorem sec_top {U V m S j : Nat} (hU : U < V * W64 ^ m) (hV0 : 0 < V) (hS : S = urest W64 U V (j + 1) / W64 ^ j) (hj : j = m) : S < V := by
  subst hj
  rw [hS, urest_start (Nat.lt_of_lt_of_le hU (Nat.mul_le_mul_left _ (Nat.pow_le_pow_right W64_pos (Nat.le_succ j))))]
  exact (Nat.div_lt_iff_lt_mul (Nat.pow_pos W64_pos)).2 hU
theorem cell_drew' (w : World) (p : Addr) : w.drew.cell? p = w.cell? p := rfl
theorem row_out {w w' : World} {g o n i : Nat} {cur : Array Value} {h : Nat → Nat} (hg : BlkAt w g cur 155) (r : RowUp 155 w w' g o n cur h) (hi : i < o ∨ o + n ≤ i) : w'.cell? ⟨g, i, none⟩ = w.cell? ⟨g, i, none⟩ := by
  obtain ⟨cur', h1, h2, h3, h4⟩ := r.blk
  rw [h1.cell, hg.cell]
  exact h4 i (by omega)
theorem DivInv.beside {sb gu gv ov gq gh n m cu cv cq ch U V l : Nat} {B : Nat → Prop} {st : Option (Nat × Nat)} {w0 : World} {k : Nat} {w w' : World} (h : DivInv sb gu gv ov gq gh n m cu cv cq ch U V st l B w0 k w) (k1 : WrAt gh w w') (hgu : gh ≠ gu) (hgq : gh ≠ gq) (hv : WCells w' gv ov n (dg W64 V)) (hB : B gh) :
    DivInv sb gu gv ov gq gh n m cu cv cq ch U V st l B w0 k w' :=
  ⟨h.ub.wr k1, h.vb.wr k1, h.qb.wr k1, h.hb.wr k1, fun i hi => by rw [k1.cell h.ub (Ne.symm hgu)]; exact h.uw i hi, fun i h1 h2 => by rw [k1.cell h.qb (Ne.symm hgq)]; exact h.qw i h1 h2, hv, h.stk.wr h.hb k1, k1.into h.bel hB, h.siz.up k1.upd.size⟩
theorem DivInv.sect {sb gu gv ov gq gh n m cu cv cq ch U V l : Nat} {B : Nat → Prop} {st : Option (Nat × Nat)} {w0 : World} {j : Nat} {w : World} (h : DivInv sb gu gv ov gq gh n m cu cv cq ch U V st l B w0 (j + 1) w) {S : Nat} (hS : S = urest W64 U V (j + 1) / W64 ^ j) (r : Nat) (hr : j + r ≤ m + n) : WCells w gu j r (dg W64 S) := fun i hi => by
  have := h.uw (j + i) (by omega)
  rw [Nat.zero_add] at this
  rw [this, hS, Dg.dg_div]
theorem DivInv.next {sb gu gv ov gq gh n m cu cv cq ch U V l : Nat} {B : Nat → Prop} {st : Option (Nat × Nat)} {w0 : World} {j : Nat} {w w' w'' : World} (h : DivInv sb gu gv ov gq gh n m cu cv cq ch U V st l B w0 (j + 1) w) {S : Nat} (hS : S = urest W64 U V (j + 1) / W64 ^ j) (hSV : S < V * W64) (hV : V < W64 ^ n) (hV0 : 0 < V)
    (k1 : WrAt gu w w') (hlo : ∀ i, i < j → w'.cell? ⟨gu, i, none⟩ = w.cell? ⟨gu, i, none⟩) (hmid : ∀ i, i ≤ n → j + i < m + n → w'.cell? ⟨gu, j + i, none⟩ = some (.int .u64 (dg W64 (S % V) i : Nat))) (hhi : ∀ i, j + n < i → w'.cell? ⟨gu, i, none⟩ = w.cell? ⟨gu, i, none⟩)
    (k2 : WrAt gq w' w'') (hq : j < m → w''.cell? ⟨gq, j, none⟩ = some (.int .u64 (S / V : Nat))) (hqo : ∀ i, j < i → i < m → w''.cell? ⟨gq, i, none⟩ = w'.cell? ⟨gq, i, none⟩)
    (huv : gu ≠ gv) (huq : gu ≠ gq) (hvq : gv ≠ gq) (hBu : B gu) (hBq : B gq) :
    DivInv sb gu gv ov gq gh n m cu cv cq ch U V st l B w0 j w'' := by
  have qb1 := h.qb.wr k1
  have ub1 := h.ub.wr k1
  have bel1 := k1.into h.bel hBu
  have siz1 := h.siz.up k1.upd.size
  refine ⟨ub1.wr k2, (h.vb.wr k1).wr k2, qb1.wr k2, (h.hb.wr k1).wr k2, ?_, ?_, ?_, (h.stk.wr h.ub k1).wr qb1 k2, k2.into bel1 hBq, siz1.up k2.upd.size⟩
  · intro i hi
    rw [Nat.zero_add, k2.cell ub1 huq]
    by_cases h1 : i < j
    · rw [hlo i h1, urest_lo W64_pos h1]
      have := h.uw i hi
      rwa [Nat.zero_add] at this
    · by_cases h2 : i ≤ j + n
      · obtain ⟨d, rfl⟩ : ∃ d, i = j + d := ⟨i - j, by omega⟩
        rw [hmid d (by omega) hi, urest_hi W64_pos, ← hS]
      · rw [hhi i (by omega), urest_zero hV hV0 (by omega)]
        have := h.uw i hi
        rw [Nat.zero_add, urest_zero hV hV0 (by omega)] at this
        exact this
  · intro i h1 h2
    by_cases e : i = j
    · subst e
      rw [hq h2, hS, usec_digit]
    · rw [hqo i (by omega) h2, k1.cell h.qb (Ne.symm huq)]
      exact h.qw i (by omega) h2
  · intro i hi
    rw [k2.cell (h.vb.wr k1) hvq, k1.cell h.vb (Ne.symm huv)]
    exact h.vw i hi
end Go.Proofs.YtgmienggfaahlaaGreatDoor
