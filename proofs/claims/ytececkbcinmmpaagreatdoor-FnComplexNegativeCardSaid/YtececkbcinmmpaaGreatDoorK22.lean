/-
  Contracts and lemmas: KnuR KnuG DivW DivG.
-/
import Derived.Test.YtececkbcinmmpaaGreatDoorK21
import Derived.Test.YtececkbcinmmpaaGreatDoorK14
set_option linter.unusedSimpArgs false
set_option linter.unusedVariables false
set_option maxRecDepth 100000
set_option maxHeartbeats 8000000
namespace Go.Bg
open Go.RowKit Dg
def urest (B U V k : Nat) : Nat := U % (V * B ^ k)
theorem urest_lt {B U V k : Nat} (hB : 0 < B) (hV : 0 < V) : urest B U V k < V * B ^ k := Nat.mod_lt _ (Nat.mul_pos hV (Nat.pow_pos hB))
theorem urest_start {B U V k : Nat} (h : U < V * B ^ k) : urest B U V k = U := Nat.mod_eq_of_lt h
theorem urest_done (B U V : Nat) : urest B U V 0 = U % V := by unfold urest; rw [Nat.pow_zero, Nat.mul_one]
theorem usec_lt {B U V k : Nat} (hB : 0 < B) (hV : 0 < V) : urest B U V (k + 1) / B ^ k < V * B := by
  refine (Nat.div_lt_iff_lt_mul (Nat.pow_pos hB)).2 ?_
  have := urest_lt (B := B) (U := U) (V := V) (k := k + 1) hB hV
  rw [Nat.mul_assoc, Nat.mul_comm B, ← Nat.pow_succ]; exact this
theorem usec_step {B U V k : Nat} : urest B U V k = urest B U V (k + 1) % B ^ k + urest B U V (k + 1) / B ^ k % V * B ^ k := by
  unfold urest
  have e : U % (V * B ^ k) = U % (V * B ^ (k + 1)) % (B ^ k * V) := by
    rw [Nat.pow_succ, ← Nat.mul_assoc, Nat.mul_comm (B ^ k) V, Nat.mod_mul_right_mod]
  rw [e, Nat.mod_mul, Nat.mul_comm (B ^ k)]
theorem usec_digit {B U V k : Nat} : urest B U V (k + 1) / B ^ k / V = dg B (U / V) k := by
  unfold urest dg
  rw [Nat.div_div_eq_div_mul, Nat.div_div_eq_div_mul, Nat.mul_comm (B ^ k) V, Nat.pow_succ, ← Nat.mul_assoc, Nat.mod_mul_right_div_self]
theorem dg_lo {B a x k i : Nat} (hB : 0 < B) (hi : i < k) : dg B (a % B ^ k + x * B ^ k) i = dg B a i := by
  rw [← dg_mod (a % B ^ k + x * B ^ k) hi, Nat.add_mul_mod_self_right, Nat.mod_mod, dg_mod _ hi]
theorem dg_hi {B a x k i : Nat} (hB : 0 < B) : dg B (a % B ^ k + x * B ^ k) (k + i) = dg B x i := by
  rw [← Dg.dg_div, Nat.add_mul_div_right _ _ (Nat.pow_pos hB), Nat.div_eq_of_lt (Nat.mod_lt _ (Nat.pow_pos hB)), Nat.zero_add]
theorem urest_lo {B U V k i : Nat} (hB : 0 < B) (hi : i < k) : dg B (urest B U V k) i = dg B (urest B U V (k + 1)) i := by
  rw [usec_step, dg_lo hB hi]
theorem urest_hi {B U V k i : Nat} (hB : 0 < B) : dg B (urest B U V k) (k + i) = dg B (urest B U V (k + 1) / B ^ k % V) i := by
  rw [usec_step, dg_hi hB]
theorem sub_right {B n S V q : Nat} (hS : S < B ^ (n + 1)) (hV : 0 < V) (h1 : S / V ≤ q) (hle : q * V ≤ S) : q = S / V ∧ S - q * V = S % V := by
  have e : q = S / V := Nat.le_antisymm ((Nat.le_div_iff_mul_le hV).2 hle) h1
  refine ⟨e, ?_⟩
  have := Nat.div_add_mod S V
  rw [e, Nat.mul_comm]
  omega
theorem sub_wrong {S V q : Nat} (hV : 0 < V) (h1 : S / V ≤ q) (h2 : q ≤ S / V + 1) (hgt : S < q * V) : q = S / V + 1 ∧ ∀ M, q * V ≤ S + M → V ≤ M → S + M - q * V + V = M + S % V := by
  have hne : q ≠ S / V := fun e => by
    have := Nat.div_mul_le_self S V
    rw [← e] at this
    omega
  have e : q = S / V + 1 := by omega
  refine ⟨e, fun M hM hVM => ?_⟩
  have := Nat.div_add_mod S V
  have h3 : q * V = V * (S / V) + V := by rw [e, Nat.add_mul, Nat.one_mul, Nat.mul_comm]
  omega
theorem guess_fits {B n V q : Nat} (hV : V < B ^ n) (hq : q < B) (hB : 0 < B) : q * V < B ^ (n + 1) := by
  rw [Nat.pow_succ, Nat.mul_comm (B ^ n)]
  have h1 : q * V ≤ q * B ^ n := Nat.mul_le_mul_left _ (Nat.le_of_lt hV)
  have h2 : q * B ^ n < B * B ^ n := Nat.mul_lt_mul_of_pos_right hq (Nat.pow_pos hB)
  omega
end Go.Bg
namespace Go.Proofs.YtececkbcinmmpaaGreatDoor
open Go.RowKit Go.Bg Dg
theorem bor_sec {n S Y M : Nat} (hS : S < W64 ^ n) (hY : Y < W64 ^ n) (hM : M = W64 ^ n) : bor (S + M) Y n = if S < Y then 1 else 0 := by
  unfold bor
  rw [hM, Nat.add_mod_right, Nat.mod_eq_of_lt hS, Nat.mod_eq_of_lt hY]
end Go.Proofs.YtececkbcinmmpaaGreatDoor
namespace Go.Bg
open Go.RowKit Dg
theorem top_two {B V n : Nat} (hB : 0 < B) (hV : V < B ^ (n + 2)) : V = (dg B V (n + 1) * B + dg B V n) * B ^ n + V % B ^ n ∧ dg B V (n + 1) < B ∧ dg B V n < B := by
  refine ⟨?_, dg_lt hB _ _, dg_lt hB _ _⟩
  have h1 := mod_succ B V (n + 1)
  have h2 := mod_succ B V n
  rw [Nat.mod_eq_of_lt hV] at h1
  rw [h2] at h1
  rw [Nat.add_mul, Nat.mul_assoc, Nat.mul_comm B (B ^ n), ← Nat.pow_succ, Nat.mul_comm _ (B ^ (n + 1)), Nat.mul_comm _ (B ^ n)]
  omega
theorem top_three {B S n : Nat} (hB : 0 < B) (hS : S < B ^ (n + 3)) : S = ((dg B S (n + 2) * B + dg B S (n + 1)) * B + dg B S n) * B ^ n + S % B ^ n := by
  have h1 := mod_succ B S (n + 2)
  have h2 := mod_succ B S (n + 1)
  have h3 := mod_succ B S n
  rw [Nat.mod_eq_of_lt hS, h2, h3] at h1
  have e1 : (dg B S (n + 2) * B + dg B S (n + 1)) * B * B ^ n = B ^ (n + 2) * dg B S (n + 2) + B ^ (n + 1) * dg B S (n + 1) := by
    rw [Nat.mul_assoc, Nat.mul_comm B (B ^ n), ← Nat.pow_succ, Nat.add_mul, Nat.mul_assoc, Nat.mul_comm B (B ^ (n + 1)), ← Nat.pow_succ, Nat.mul_comm, Nat.mul_comm (dg B S (n + 1))]
  rw [Nat.add_mul, e1, Nat.mul_comm (dg B S n)]
  omega
theorem guess_alike {n S V : Nat} (hV : V < W64 ^ (n + 2)) (hS : S < V * W64) (hn : W64 ≤ 2 * dg W64 V (n + 1)) (he : dg W64 S (n + 2) = dg W64 V (n + 1)) :
    S / V ≤ W64 - 1 ∧ W64 - 1 ≤ S / V + 1 := by
  have hS3 : S < W64 ^ (n + 3) := by
    rw [Nat.pow_succ]; exact Nat.lt_of_lt_of_le hS (Nat.mul_le_mul_right _ (Nat.le_of_lt hV))
  have h1 := mod_succ W64 V (n + 1)
  rw [Nat.mod_eq_of_lt hV] at h1
  have h2 := mod_succ W64 S (n + 2)
  rw [Nat.mod_eq_of_lt hS3, he] at h2
  refine guess_top (B := W64) (P := W64 ^ (n + 1)) (h := dg W64 V (n + 1)) (y := V % W64 ^ (n + 1)) (by decide) (Nat.mod_lt _ (Nat.pow_pos W64_pos)) (by rw [Nat.mul_comm]; omega) ?_ (by rw [Nat.mul_comm]; exact hS) hn
  have e : dg W64 V (n + 1) * W64 ^ (n + 1) * W64 = W64 ^ (n + 2) * dg W64 V (n + 1) := by rw [Nat.mul_assoc, ← Nat.pow_succ, Nat.mul_comm]
  rw [e, h2]
  exact Nat.le_add_left _ _
theorem guess_three {n S V q : Nat} (hV : V < W64 ^ (n + 2)) (hS : S < V * W64) (hn : W64 ≤ 2 * dg W64 V (n + 1))
    (hq : q = ((dg W64 S (n + 2) * W64 + dg W64 S (n + 1)) * W64 + dg W64 S n) / (dg W64 V (n + 1) * W64 + dg W64 V n)) (hqB : q < W64) :
    S / V ≤ q ∧ q ≤ S / V + 1 := by
  have hS3 : S < W64 ^ (n + 3) := by
    rw [Nat.pow_succ]; exact Nat.lt_of_lt_of_le hS (Nat.mul_le_mul_right _ (Nat.le_of_lt hV))
  have hh : 0 < dg W64 V (n + 1) := by
    have : 0 < W64 := W64_pos
    omega
  have hb : W64 ≤ dg W64 V (n + 1) * W64 + dg W64 V n := by
    have : 1 * W64 ≤ dg W64 V (n + 1) * W64 := Nat.mul_le_mul_right _ hh
    omega
  exact guess_off (Nat.pow_pos W64_pos) (Nat.mod_lt _ (Nat.pow_pos W64_pos)) (Nat.mod_lt _ (Nat.pow_pos W64_pos)) (top_three W64_pos hS3) (top_two W64_pos hV).1 (by have := W64_pos; omega) hq (by omega)
theorem top_le {n S V : Nat} (hV : V < W64 ^ (n + 2)) (hS : S < V * W64) : dg W64 S (n + 2) ≤ dg W64 V (n + 1) := by
  have hS3 : S < W64 ^ (n + 3) := by
    rw [Nat.pow_succ]; exact Nat.lt_of_lt_of_le hS (Nat.mul_le_mul_right _ (Nat.le_of_lt hV))
  have e1 : dg W64 S (n + 2) = S / W64 ^ (n + 2) := by
    unfold dg; exact Nat.mod_eq_of_lt ((Nat.div_lt_iff_lt_mul (Nat.pow_pos W64_pos)).2 (by rw [← Nat.pow_succ']; exact hS3))
  have e2 : dg W64 V (n + 1) = V / W64 ^ (n + 1) := by
    unfold dg; exact Nat.mod_eq_of_lt ((Nat.div_lt_iff_lt_mul (Nat.pow_pos W64_pos)).2 (by rw [← Nat.pow_succ']; exact hV))
  rw [e1, e2]
  have h1 : S / W64 ^ (n + 2) ≤ V * W64 / W64 ^ (n + 2) := Nat.div_le_div_right (Nat.le_of_lt hS)
  rw [Nat.pow_succ W64 (n + 1), Nat.mul_div_mul_right _ _ W64_pos] at h1
  rw [Nat.pow_succ W64 (n + 1)]
  exact h1
theorem fin0 {d q R : Nat} (h : R < d) : (d * q + R) / d = q ∧ (d * q + R) % d = R :=
  (Nat.div_mod_unique (by omega)).2 ⟨by omega, h⟩
theorem fin1 {d q R : Nat} (h0 : d ≤ R) (h : R < 2 * d) : (d * q + R) / d = q + 1 ∧ (d * q + R) % d = R - d :=
  (Nat.div_mod_unique (by omega)).2 ⟨by rw [Nat.mul_add]; omega, by omega⟩
theorem fin2 {d q R : Nat} (h0 : 2 * d ≤ R) (h : R < 3 * d) : (d * q + R) / d = q + 2 ∧ (d * q + R) % d = R - d - d :=
  (Nat.div_mod_unique (by omega)).2 ⟨by rw [Nat.mul_add]; omega, by omega⟩
theorem est_words {d m x1 x0 : Nat} (h1 : 9223372036854775808 ≤ d) (h2 : d < 18446744073709551616) (hx : x1 < d) (h0 : x0 < 18446744073709551616) (hm : m + W64 = (W64 * W64 - 1) / d) :
    ∃ q R : Nat, d * q + R = x1 * W64 + x0 ∧ R < 18446744073709551616 + d ∧ q < 18446744073709551616 ∧
      (m * x1 / 18446744073709551616 + x1 + (m * x1 % 18446744073709551616 + x0 + 0) / 18446744073709551616) % 18446744073709551616 = q := by
  obtain ⟨q, hq⟩ : ∃ q, q = (x1 * m + x0) / W64 + x1 := ⟨_, rfl⟩
  obtain ⟨e1, e2⟩ := est (B := W64) h2 (by omega) hx h0 hm hq
  have hql : q < 18446744073709551616 := by
    have h3 : q * d < W64 * d := by
      have : x1 * W64 + x0 < d * W64 := by
        have : (x1 + 1) * W64 ≤ d * W64 := Nat.mul_le_mul_right _ hx
        unfold W64 at *; omega
      rw [Nat.mul_comm W64]; omega
    exact Nat.lt_of_mul_lt_mul_right h3
  refine ⟨q, x1 * W64 + x0 - d * q, ?_, ?_, hql, ?_⟩
  · rw [Nat.mul_comm q] at e1; omega
  · rw [Nat.mul_comm q] at e1 e2; unfold W64 at *; omega
  · rw [Nat.mul_comm x1] at hq
    unfold W64 at hq
    generalize m * x1 = p at *
    omega
theorem rem_words {d q R x1 x0 P : Nat} (hP : P = d * q) (hd : d < 18446744073709551616) (he : d * q + R = x1 * W64 + x0) (hR : R < 18446744073709551616 + d) (h1 : x1 < 18446744073709551616) (h0 : x0 < 18446744073709551616) :
    (x0 + 18446744073709551616 - P % 18446744073709551616 - 0) % 18446744073709551616 = R % 18446744073709551616 ∧
    (x1 + 18446744073709551616 - P / 18446744073709551616 - (if x0 < P % 18446744073709551616 + 0 then 1 else 0)) % 18446744073709551616 = R / 18446744073709551616 := by
  rw [← hP] at he
  unfold W64 at he
  clear hP
  constructor
  · omega
  · split <;> omega
end Go.Bg
namespace Go.Proofs.YtececkbcinmmpaaGreatDoor
open Go.RowKit Go.Bg Dg
theorem fin_tup {A B : Int} {Q M s : Nat} (h1 : A = (Q : Int)) (h2 : B = (M : Int)) : Ending.returned (.tuple #[.int .u64 A, .int .u64 (B / 2 ^ s)]) = Ending.returned (.tuple #[.int .u64 (Q : Nat), .int .u64 ((M / 2 ^ s : Nat) : Int)]) := by
  subst h1 h2; simp
def Two (f : FuncId) (args : Array Value) (a b : Nat) : Prop :=
  ∀ w, Calls Tryz.prog f args w fun e w' => e = .returned (.tuple #[.int .u64 (a : Nat), .int .u64 (b : Nat)]) ∧ w = w'
theorem divWW_walk (X1 X0 y m s t x1 x0 d t1 t0 z1 c q z2 p1 p0 r0 b r1 z3 R Q M : Nat)
    (HN : Hid (∀ w, Calls Tryz.prog 251 #[.int .u64 y] w fun e w' => e = .returned (.int .u64 (s : Nat)) ∧ w' = w))
    (hs : s < 64) (hz : s = 0 → x1 = X1 ∧ x0 = X0 ∧ d = y) (hsub : (64 : Int) - s = t)
    (hU : bits .or .u64 (IntKind.u64.wrap ((X1 : Int) * 2 ^ s)) ((X0 : Int) / 2 ^ t) = (x1 : Int)) (hW : IntKind.u64.wrap ((X0 : Int) * 2 ^ s) = (x0 : Int)) (hD : IntKind.u64.wrap ((y : Int) * 2 ^ s) = (d : Int))
    (HC1 : Hid (Two 255 #[.int .u64 m, .int .u64 x1] t1 t0)) (HC2 : Hid (Two 234 #[.int .u64 t0, .int .u64 x0, .int .u64 0] z1 c)) (HC3 : Hid (Two 234 #[.int .u64 t1, .int .u64 x1, .int .u64 c] q z2))
    (HC4 : Hid (Two 255 #[.int .u64 d, .int .u64 q] p1 p0)) (HC5 : Hid (Two 236 #[.int .u64 x0, .int .u64 p0, .int .u64 0] r0 b)) (HC6 : Hid (Two 236 #[.int .u64 x1, .int .u64 p1, .int .u64 b] r1 z3))
    (hql : q < 18446744073709551616) (hQl : Q < 18446744073709551616) (hd1 : 9223372036854775808 ≤ d) (hd2 : d < 18446744073709551616) (hR : R < 18446744073709551616 + d) (hr0 : r0 = R % 18446744073709551616) (hr1 : r1 = R / 18446744073709551616)
    (hQ : Q = (d * q + R) / d) (hM : M = (d * q + R) % d) (w : World) :
    Calls Tryz.prog 284 #[.int .u64 X1, .int .u64 X0, .int .u64 y, .int .u64 m] w fun e w' => e = .returned (.tuple #[.int .u64 (Q : Nat), .int .u64 ((M / 2 ^ s : Nat) : Int)]) ∧ w = w' := by
  have HR0 := Lib.hid hr0
  have HR1 := Lib.hid hr1
  have HQ := Lib.hid hQ
  have HM := Lib.hid hM
  clear hr0 hr1 hQ hM
  by_cases hs0 : s = 0
  · obtain ⟨rfl, rfl, rfl⟩ := hz hs0
    have hsz : ((s : Int) != 0) = false := by simp; omega
    clear hz hU hW hD hsub hs0
    go_enter Tryz.func284, Tryz.ntmps284
    go_wp2_with fail
    refine (HN.out _).mono ?_
    rintro e w1 ⟨rfl, rfl⟩
    go_wp2_with fail
    refine (HC1.out _).mono ?_
    rintro e w2 ⟨rfl, rfl⟩
    go_wp2_with fail
    refine (HC2.out _).mono ?_
    rintro e w3 ⟨rfl, rfl⟩
    go_wp2_with fail
    refine (HC3.out _).mono ?_
    rintro e w4 ⟨rfl, rfl⟩
    go_wp2_with fail
    refine (HC4.out _).mono ?_
    rintro e w5 ⟨rfl, rfl⟩
    go_wp2_with fail
    refine (HC5.out _).mono ?_
    rintro e w6 ⟨rfl, rfl⟩
    go_wp2_with fail
    refine (HC6.out _).mono ?_
    rintro e w7 ⟨rfl, rfl⟩
    have hr0 := HR0.out
    have hr1 := HR1.out
    have hQ := HQ.out
    have hM := HM.out
    clear HR0 HR1 HQ HM
    by_cases hr : 18446744073709551616 ≤ R
    · have k1 : ((r1 : Int) != 0) = true := by simp; omega
      have k1' : ¬ (r1 : Int) = 0 := by omega
      obtain ⟨ra, hra⟩ : ∃ ra, ra = R - d := ⟨_, rfl⟩
      have hral : ra < 18446744073709551616 := by omega
      have k2 : IntKind.u64.wrap ((r0 : Int) - (d : Int)) = (ra : Int) := by rw [IntKind.wrap_u64]; omega
      by_cases hc : d ≤ ra
      · obtain ⟨f1, f2⟩ := fin2 (d := d) (q := q) (R := R) (by omega) (by omega)
        rw [← hQ] at f1
        rw [← hM] at f2
        have HF1 := Lib.hid f1
        have HF2 := Lib.hid f2
        have HRA := Lib.hid hra
        have k3 : (d : Int) ≤ (ra : Int) := by omega
        obtain ⟨qa, hqa⟩ : ∃ qa, qa = q + 1 := ⟨_, rfl⟩
        obtain ⟨qb, hqb⟩ : ∃ qb, qb = qa + 1 := ⟨_, rfl⟩
        have k4 : IntKind.u64.wrap ((q : Int) + 1) = (qa : Int) := by rw [IntKind.wrap_u64]; omega
        have k5 : IntKind.u64.wrap ((qa : Int) + 1) = (qb : Int) := by rw [IntKind.wrap_u64]; omega
        have HQB := Lib.hid (show qb = q + 2 from by omega)
        clear hqa hqb
        clear hra hr0 hr1 hQ hM f1 f2 hR hr
        go_wp2
        exact bodyPost_ret (v := .tuple #[.int .u64 (qb : Int), .int .u64 (((ra : Int) - (d : Int)) / 2 ^ s)]) (by simp [results, Tryz.results284, go_sem]) rfl ⟨by rw [HF1.out, HF2.out, ← HRA.out]; exact fin_tup (by rw [HQB.out]) (by omega), rfl⟩
      · obtain ⟨f1, f2⟩ := fin1 (d := d) (q := q) (R := R) (by omega) (by omega)
        rw [← hQ] at f1
        rw [← hM] at f2
        have HF1 := Lib.hid f1
        have HF2 := Lib.hid f2
        have HRA := Lib.hid hra
        have k3 : ¬ (d : Int) ≤ (ra : Int) := by omega
        obtain ⟨qb, hqb⟩ : ∃ qb, qb = q + 1 := ⟨_, rfl⟩
        have k4 : IntKind.u64.wrap ((q : Int) + 1) = (qb : Int) := by rw [IntKind.wrap_u64]; omega
        have HQB := Lib.hid hqb
        clear hqb
        clear hra hr0 hr1 hQ hM f1 f2 hR hr
        go_wp2
        exact bodyPost_ret (v := .tuple #[.int .u64 (qb : Int), .int .u64 ((ra : Int) / 2 ^ s)]) (by simp [results, Tryz.results284, go_sem]) rfl ⟨by rw [HF1.out, HF2.out, ← HRA.out]; exact fin_tup (by rw [HQB.out]) (by omega), rfl⟩
    · obtain rfl : r1 = 0 := by omega
      obtain rfl : r0 = R := by omega
      by_cases hc : d ≤ r0
      · obtain ⟨f1, f2⟩ := fin1 (d := d) (q := q) (R := r0) (by omega) (by omega)
        rw [← hQ] at f1
        rw [← hM] at f2
        have HF1 := Lib.hid f1
        have HF2 := Lib.hid f2
        have k3 : (d : Int) ≤ (r0 : Int) := by omega
        obtain ⟨qb, hqb⟩ : ∃ qb, qb = q + 1 := ⟨_, rfl⟩
        have k4 : IntKind.u64.wrap ((q : Int) + 1) = (qb : Int) := by rw [IntKind.wrap_u64]; omega
        have HQB := Lib.hid hqb
        clear hqb
        clear hr0 hr1 hQ hM f1 f2 hR
        go_wp2
        exact bodyPost_ret (v := .tuple #[.int .u64 (qb : Int), .int .u64 (((r0 : Int) - (d : Int)) / 2 ^ s)]) (by simp [results, Tryz.results284, go_sem]) rfl ⟨by rw [HF1.out, HF2.out]; exact fin_tup (by rw [HQB.out]) (by omega), rfl⟩
      · obtain ⟨f1, f2⟩ := fin0 (d := d) (q := q) (R := r0) (by omega)
        rw [← hQ] at f1
        rw [← hM] at f2
        have HF1 := Lib.hid f1
        have HF2 := Lib.hid f2
        have k3 : ¬ (d : Int) ≤ (r0 : Int) := by omega
        clear hr0 hr1 hQ hM f1 f2 hR
        go_wp2
        exact bodyPost_ret (v := .tuple #[.int .u64 (q : Int), .int .u64 ((r0 : Int) / 2 ^ s)]) (by simp [results, Tryz.results284, go_sem]) rfl ⟨by rw [HF1.out, HF2.out]; exact fin_tup rfl rfl, rfl⟩
  · have hsz : ((s : Int) != 0) = true := by simp; omega
    clear hz
    go_enter Tryz.func284, Tryz.ntmps284
    go_wp2_with fail
    refine (HN.out _).mono ?_
    rintro e w1 ⟨rfl, rfl⟩
    go_wp2_with fail
    refine (HC1.out _).mono ?_
    rintro e w2 ⟨rfl, rfl⟩
    go_wp2_with fail
    refine (HC2.out _).mono ?_
    rintro e w3 ⟨rfl, rfl⟩
    go_wp2_with fail
    refine (HC3.out _).mono ?_
    rintro e w4 ⟨rfl, rfl⟩
    go_wp2_with fail
    refine (HC4.out _).mono ?_
    rintro e w5 ⟨rfl, rfl⟩
    go_wp2_with fail
    refine (HC5.out _).mono ?_
    rintro e w6 ⟨rfl, rfl⟩
    go_wp2_with fail
    refine (HC6.out _).mono ?_
    rintro e w7 ⟨rfl, rfl⟩
    have hr0 := HR0.out
    have hr1 := HR1.out
    have hQ := HQ.out
    have hM := HM.out
    clear HR0 HR1 HQ HM
    by_cases hr : 18446744073709551616 ≤ R
    · have k1 : ((r1 : Int) != 0) = true := by simp; omega
      have k1' : ¬ (r1 : Int) = 0 := by omega
      obtain ⟨ra, hra⟩ : ∃ ra, ra = R - d := ⟨_, rfl⟩
      have hral : ra < 18446744073709551616 := by omega
      have k2 : IntKind.u64.wrap ((r0 : Int) - (d : Int)) = (ra : Int) := by rw [IntKind.wrap_u64]; omega
      by_cases hc : d ≤ ra
      · obtain ⟨f1, f2⟩ := fin2 (d := d) (q := q) (R := R) (by omega) (by omega)
        rw [← hQ] at f1
        rw [← hM] at f2
        have HF1 := Lib.hid f1
        have HF2 := Lib.hid f2
        have HRA := Lib.hid hra
        have k3 : (d : Int) ≤ (ra : Int) := by omega
        obtain ⟨qa, hqa⟩ : ∃ qa, qa = q + 1 := ⟨_, rfl⟩
        obtain ⟨qb, hqb⟩ : ∃ qb, qb = qa + 1 := ⟨_, rfl⟩
        have k4 : IntKind.u64.wrap ((q : Int) + 1) = (qa : Int) := by rw [IntKind.wrap_u64]; omega
        have k5 : IntKind.u64.wrap ((qa : Int) + 1) = (qb : Int) := by rw [IntKind.wrap_u64]; omega
        have HQB := Lib.hid (show qb = q + 2 from by omega)
        clear hqa hqb
        clear hra hr0 hr1 hQ hM f1 f2 hR hr
        go_wp2
        exact bodyPost_ret (v := .tuple #[.int .u64 (qb : Int), .int .u64 (((ra : Int) - (d : Int)) / 2 ^ s)]) (by simp [results, Tryz.results284, go_sem]) rfl ⟨by rw [HF1.out, HF2.out, ← HRA.out]; exact fin_tup (by rw [HQB.out]) (by omega), rfl⟩
      · obtain ⟨f1, f2⟩ := fin1 (d := d) (q := q) (R := R) (by omega) (by omega)
        rw [← hQ] at f1
        rw [← hM] at f2
        have HF1 := Lib.hid f1
        have HF2 := Lib.hid f2
        have HRA := Lib.hid hra
        have k3 : ¬ (d : Int) ≤ (ra : Int) := by omega
        obtain ⟨qb, hqb⟩ : ∃ qb, qb = q + 1 := ⟨_, rfl⟩
        have k4 : IntKind.u64.wrap ((q : Int) + 1) = (qb : Int) := by rw [IntKind.wrap_u64]; omega
        have HQB := Lib.hid hqb
        clear hqb
        clear hra hr0 hr1 hQ hM f1 f2 hR hr
        go_wp2
        exact bodyPost_ret (v := .tuple #[.int .u64 (qb : Int), .int .u64 ((ra : Int) / 2 ^ s)]) (by simp [results, Tryz.results284, go_sem]) rfl ⟨by rw [HF1.out, HF2.out, ← HRA.out]; exact fin_tup (by rw [HQB.out]) (by omega), rfl⟩
    · obtain rfl : r1 = 0 := by omega
      obtain rfl : r0 = R := by omega
      by_cases hc : d ≤ r0
      · obtain ⟨f1, f2⟩ := fin1 (d := d) (q := q) (R := r0) (by omega) (by omega)
        rw [← hQ] at f1
        rw [← hM] at f2
        have HF1 := Lib.hid f1
        have HF2 := Lib.hid f2
        have k3 : (d : Int) ≤ (r0 : Int) := by omega
        obtain ⟨qb, hqb⟩ : ∃ qb, qb = q + 1 := ⟨_, rfl⟩
        have k4 : IntKind.u64.wrap ((q : Int) + 1) = (qb : Int) := by rw [IntKind.wrap_u64]; omega
        have HQB := Lib.hid hqb
        clear hqb
        clear hr0 hr1 hQ hM f1 f2 hR
        go_wp2
        exact bodyPost_ret (v := .tuple #[.int .u64 (qb : Int), .int .u64 (((r0 : Int) - (d : Int)) / 2 ^ s)]) (by simp [results, Tryz.results284, go_sem]) rfl ⟨by rw [HF1.out, HF2.out]; exact fin_tup (by rw [HQB.out]) (by omega), rfl⟩
      · obtain ⟨f1, f2⟩ := fin0 (d := d) (q := q) (R := r0) (by omega)
        rw [← hQ] at f1
        rw [← hM] at f2
        have HF1 := Lib.hid f1
        have HF2 := Lib.hid f2
        have k3 : ¬ (d : Int) ≤ (r0 : Int) := by omega
        clear hr0 hr1 hQ hM f1 f2 hR
        go_wp2
        exact bodyPost_ret (v := .tuple #[.int .u64 (q : Int), .int .u64 ((r0 : Int) / 2 ^ s)]) (by simp [results, Tryz.results284, go_sem]) rfl ⟨by rw [HF1.out, HF2.out]; exact fin_tup rfl rfl, rfl⟩
theorem two_mul (x y : Nat) (hx : x < 18446744073709551616) (hy : y < 18446744073709551616) : Two 255 #[.int .u64 x, .int .u64 y] (x * y / 18446744073709551616) (x * y % 18446744073709551616) :=
  fun w => (Tryz.bits_Mul x y hx hy w).mono fun _ _ h => ⟨h.1, h.2.symm⟩
theorem divWW_any (X1 X0 y : Nat) (h1 : X1 < y) (h0 : X0 < 18446744073709551616) (hy : y < 18446744073709551616) (w : World) :
    Calls Tryz.prog 284 #[.int .u64 X1, .int .u64 X0, .int .u64 y, .int .u64 (recip y : Nat)] w fun e w' => e = .returned (.tuple #[.int .u64 (((X1 * W64 + X0) / y : Nat) : Int), .int .u64 (((X1 * W64 + X0) % y : Nat) : Int)]) ∧ w = w' := by
  have hy0 : 0 < y := by omega
  have hyW : y < W64 := hy
  obtain ⟨hs, hs2⟩ := lz_sum hy0 hyW
  obtain ⟨ht1, ht2⟩ := lz_top hy0 hyW
  obtain ⟨f1, f2, f3⟩ := recip_form ht2 ht1
  obtain ⟨t, hst⟩ : ∃ t, lz y + t = 64 := ⟨64 - lz y, by omega⟩
  have hN1 : X1 * W64 + X0 < y * W64 := by
    have : (X1 + 1) * W64 ≤ y * W64 := Nat.mul_le_mul_right _ h1
    unfold W64 at *; omega
  have hN2 : (X1 * W64 + X0) % W64 = X0 := by unfold W64; omega
  have hN3 : (X1 * W64 + X0) / W64 = X1 := by unfold W64; omega
  obtain ⟨d1, d2⟩ := div_norm (s := lz y) hst hN1 hN2 ht2
  have hh := half hst (X1 * W64 + X0)
  rw [hN2, hN3, Nat.mod_eq_of_lt (show X1 < W64 from by omega)] at hh
  have hU := bits_orS X1 X0 (lz y) t h0
  rw [← hh] at hU
  have hW := wrap_shl X0 (lz y)
  have hD := wrap_shl y (lz y)
  rw [Nat.mod_eq_of_lt (show y * 2 ^ lz y < W64 from ht2)] at hD
  have hz : lz y = 0 → (X1 * W64 + X0) / 2 ^ t % W64 = X1 ∧ X0 * 2 ^ lz y % W64 = X0 ∧ y * 2 ^ lz y = y := by
    intro e
    obtain rfl : t = 64 := by omega
    rw [e, Nat.pow_zero, Nat.mul_one, Nat.mul_one, show (2 : Nat) ^ 64 = W64 from rfl, hN3]
    exact ⟨Nat.mod_eq_of_lt (by omega), Nat.mod_eq_of_lt h0, rfl⟩
  have hx0 : X0 * 2 ^ lz y % W64 < 18446744073709551616 := Nat.mod_lt _ W64_pos
  have hQ2 : (X1 * W64 + X0) * 2 ^ lz y / (y * 2 ^ lz y) = (X1 * W64 + X0) / y := Nat.mul_div_mul_right _ _ (Nat.pow_pos (by decide))
  have hM2 : (X1 * W64 + X0) * 2 ^ lz y % (y * 2 ^ lz y) / 2 ^ lz y = (X1 * W64 + X0) % y := by
    rw [Nat.mul_mod_mul_right, Nat.mul_div_cancel _ (Nat.pow_pos (by decide))]
  have hQl : (X1 * W64 + X0) / y < 18446744073709551616 := (Nat.div_lt_iff_lt_mul hy0).2 (by rw [Nat.mul_comm _ y]; exact hN1)
  have HN := Lib.hid (nlz_any y hy0 hy)
  have HR := Lib.hid (show (W64 * W64 - 1) / (y * 2 ^ lz y) - W64 = recip y from by rw [recip])
  rw [HR.out] at f2 f3
  have hs64 : (64 : Int) - (lz y : Nat) = (t : Int) := by omega
  generalize recip y = m at *
  generalize (X1 * W64 + X0) / 2 ^ t % W64 = x1 at *
  generalize X0 * 2 ^ lz y % W64 = x0 at *
  generalize lz y = s at *
  obtain ⟨q, R, e1, e2, e3, e4⟩ := est_words ht1 ht2 d1 hx0 f3
  obtain ⟨g1, g2⟩ := rem_words (P := y * 2 ^ s * q) rfl ht2 e1 e2 (by omega) hx0
  rw [← hQ2] at hQl
  rw [← hQ2, ← hM2, ← d2, ← e1]
  rw [← d2, ← e1] at hQl
  have hc : (m * x1 % 18446744073709551616 + x0 + 0) / 18446744073709551616 ≤ 1 := by
    have : m * x1 % 18446744073709551616 < 18446744073709551616 := Nat.mod_lt _ (by decide)
    omega
  have hb : (if x0 < y * 2 ^ s * q % 18446744073709551616 + 0 then 1 else 0 : Nat) ≤ 1 := by split <;> omega
  have C3 : Two 234 #[.int .u64 ((m * x1 / 18446744073709551616 : Nat) : Int), .int .u64 x1, .int .u64 (((m * x1 % 18446744073709551616 + x0 + 0) / 18446744073709551616 : Nat) : Int)] q _ := fun w => by
    have := bitsAdd_any (m * x1 / 18446744073709551616) x1 ((m * x1 % 18446744073709551616 + x0 + 0) / 18446744073709551616) hc w
    rw [e4] at this
    exact this
  exact divWW_walk X1 X0 y m s t x1 x0 (y * 2 ^ s) _ _ _ _ q _ _ _ _ _ _ _ R _ _ HN hs2 hz hs64 hU hW hD
    (Lib.hid (two_mul m x1 f2 (by omega))) (Lib.hid (fun w => bitsAdd_any _ x0 0 (by omega) w)) (Lib.hid C3)
    (Lib.hid (two_mul _ q ht2 e3)) (Lib.hid (fun w => bitsSub_any x0 _ 0 (by omega) w)) (Lib.hid (fun w => bitsSub_any x1 _ _ hb w))
    e3 hQl ht1 ht2 e2 g1 g2 rfl rfl w
theorem mulWW_any (x y : Nat) (hx : x < 18446744073709551616) (hy : y < 18446744073709551616) (w : World) :
    Calls Tryz.prog 218 #[.int .u64 x, .int .u64 y] w fun e w' => e = .returned (.tuple #[.int .u64 ((x * y / 18446744073709551616 : Nat) : Int), .int .u64 ((x * y % 18446744073709551616 : Nat) : Int)]) ∧ w = w' := by
  have HM := Lib.hid (two_mul x y hx hy)
  have h1 : x * y / 18446744073709551616 < 18446744073709551616 := by
    rw [Nat.div_lt_iff_lt_mul (by decide)]
    exact Nat.lt_of_le_of_lt (Nat.mul_le_mul_left _ (Nat.le_of_lt hy)) (Nat.mul_lt_mul_of_pos_right hx (by decide))
  have h2 : x * y % 18446744073709551616 < 18446744073709551616 := Nat.mod_lt _ (by decide)
  generalize x * y / 18446744073709551616 = a at *
  generalize x * y % 18446744073709551616 = b at *
  go_enter Tryz.func218, Tryz.ntmps218
  go_wp2_with fail
  refine (HM.out _).mono ?_
  rintro e w1 ⟨rfl, rfl⟩
  go_wp2
  exact bodyPost_ret (v := .tuple #[.int .u64 (a : Nat), .int .u64 (b : Nat)]) (by simp [results, Tryz.results218, go_sem]) rfl ⟨rfl, rfl⟩
theorem greaterThan_any (x1 x2 y1 y2 : Nat) (h1 : x1 < 18446744073709551616) (h2 : x2 < 18446744073709551616) (h3 : y1 < 18446744073709551616) (h4 : y2 < 18446744073709551616) (w : World) :
    Calls Tryz.prog 286 #[.int .u64 x1, .int .u64 x2, .int .u64 y1, .int .u64 y2] w fun e w' => e = .returned (.bool (decide (y1 * W64 + y2 < x1 * W64 + x2))) ∧ w = w' := by
  by_cases c1 : y1 < x1
  · have k1 : ¬ ((x1 : Int) ≤ (y1 : Int)) := by omega
    have HE := Lib.hid (show decide (y1 * W64 + y2 < x1 * W64 + x2) = true from by
      have : (y1 + 1) * W64 ≤ x1 * W64 := Nat.mul_le_mul_right _ c1
      unfold W64 at *; simp; omega)
    clear c1
    rw [HE.out]
    go_enter Tryz.func286, Tryz.ntmps286
    go_wp2
    go_ret
    exact ⟨rfl, rfl⟩
  · have k1 : ((x1 : Int) ≤ (y1 : Int)) := by omega
    by_cases c2 : x1 = y1
    · subst c2
      have HE := Lib.hid (show decide (y2 < x2) = decide (x1 * W64 + y2 < x1 * W64 + x2) from by
        have e : y2 < x2 ↔ x1 * W64 + y2 < x1 * W64 + x2 := by omega
        exact decide_eq_decide.2 e)
      clear c1
      go_enter Tryz.func286, Tryz.ntmps286
      go_wp2
      go_ret
      exact ⟨ret_bool HE.out, rfl⟩
    · have k2 : ((x1 : Int) == (y1 : Int)) = false := by simp; omega
      have k2' : ¬ (x1 : Int) = (y1 : Int) := by omega
      have HE := Lib.hid (show decide (y1 * W64 + y2 < x1 * W64 + x2) = false from by
        have : (x1 + 1) * W64 ≤ y1 * W64 := Nat.mul_le_mul_right _ (by omega)
        unfold W64 at *; simp; omega)
      have HE2 := Lib.hid (show decide (y1 < x1) = false from by simp; omega)
      clear c1 c2
      rw [HE.out]
      go_enter Tryz.func286, Tryz.ntmps286
      go_wp2
      go_ret
      exact ⟨ret_bool HE2.out, rfl⟩
end Go.Proofs.YtececkbcinmmpaaGreatDoor
