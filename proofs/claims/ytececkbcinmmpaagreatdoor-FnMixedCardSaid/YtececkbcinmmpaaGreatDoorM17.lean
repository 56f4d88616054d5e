/-
  Contracts and lemmas: DivW DivV ShC ShL ShR.
-/
import Derived.Test.YtececkbcinmmpaaGreatDoorM16
import Derived.Test.YtececkbcinmmpaaGreatDoorM13
import Derived.Test.YtececkbcinmmpaaGreatDoorM10
import Derived.Test.YtececkbcinmmpaaGreatDoorM15
set_option linter.unusedSimpArgs false
set_option linter.unusedVariables false
set_option maxRecDepth 100000
set_option maxHeartbeats 8000000
namespace Go.Bg
open Go.RowKit Dg
theorem fin0 {d q R : Nat} (h : R < d) : (d * q + R) / d = q ∧ (d * q + R) % d = R :=
  (Nat.div_mod_unique (by omega)).2 ⟨by omega, h⟩
theorem fin1 {d q R : Nat} (h0 : d ≤ R) (h : R < 2 * d) : (d * q + R) / d = q + 1 ∧ (d * q + R) % d = R - d :=
  (Nat.div_mod_unique (by omega)).2 ⟨by rw [Nat.mul_add]; omega, by omega⟩
theorem fin2 {d q R : Nat} (h0 : 2 * d ≤ R) (h : R < 3 * d) : (d * q + R) / d = q + 2 ∧ (d * q + R) % d = R - d - d :=
  (Nat.div_mod_unique (by omega)).2 ⟨by rw [Nat.mul_add]; omega, by omega⟩
theorem est_words {d m x1 x0 : Nat} (h1 : 9223372036854775808 ≤ d) (h2 : d < 18446744073709551616) (hx : x1 < d) (h0 : x0 < 18446744073709551616) (hm : m + W64 = (W64 * W64 - 1) / d) :
    ∃ q R : Nat, d * q + R = x1 * W64 + x0 ∧ R < 18446744073709551616 + d ∧ q < 18446744073709551616 ∧
      (m * x1 / 18446744073709551616 + x1 + (m * x1 % 18446744073709551616 + x0 + 0) / 18446744073709551616) % 18446744073709551616 = q := by
  obtain ⟨q, hq⟩ : ∃ q, q = (x1 * m + x0) / W64 + x1 := ⟨_, rfl⟩
  obtain ⟨e1, e2⟩ := est (B := W64) h2 (by omega) hx h0 hm hq
  have hql : q < 18446744073709551616 := by
    have h3 : q * d < W64 * d := by
      have : x1 * W64 + x0 < d * W64 := by
        have : (x1 + 1) * W64 ≤ d * W64 := Nat.mul_le_mul_right _ hx
        unfold W64 at *; omega
      rw [Nat.mul_comm W64]; omega
    exact Nat.lt_of_mul_lt_mul_right h3
  refine ⟨q, x1 * W64 + x0 - d * q, ?_, ?_, hql, ?_⟩
  · rw [Nat.mul_comm q] at e1; omega
  · rw [Nat.mul_comm q] at e1 e2; unfold W64 at *; omega
  · rw [Nat.mul_comm x1] at hq
    unfold W64 at hq
    generalize m * x1 = p at *
    omega
theorem rem_words {d q R x1 x0 P : Nat} (hP : P = d * q) (hd : d < 18446744073709551616) (he : d * q + R = x1 * W64 + x0) (hR : R < 18446744073709551616 + d) (h1 : x1 < 18446744073709551616) (h0 : x0 < 18446744073709551616) :
    (x0 + 18446744073709551616 - P % 18446744073709551616 - 0) % 18446744073709551616 = R % 18446744073709551616 ∧
    (x1 + 18446744073709551616 - P / 18446744073709551616 - (if x0 < P % 18446744073709551616 + 0 then 1 else 0)) % 18446744073709551616 = R / 18446744073709551616 := by
  rw [← hP] at he
  unfold W64 at he
  clear hP
  constructor
  · omega
  · split <;> omega
end Go.Bg
namespace Go.Proofs.YtececkbcinmmpaaGreatDoor
open Go.RowKit Go.Bg Dg
theorem fin_tup {A B : Int} {Q M s : Nat} (h1 : A = (Q : Int)) (h2 : B = (M : Int)) : Ending.returned (.tuple #[.int .u64 A, .int .u64 (B / 2 ^ s)]) = Ending.returned (.tuple #[.int .u64 (Q : Nat), .int .u64 ((M / 2 ^ s : Nat) : Int)]) := by
  subst h1 h2; simp
def Two (f : FuncId) (args : Array Value) (a b : Nat) : Prop :=
  ∀ w, Calls Tryz.prog f args w fun e w' => e = .returned (.tuple #[.int .u64 (a : Nat), .int .u64 (b : Nat)]) ∧ w = w'
theorem divWW_walk (X1 X0 y m s t x1 x0 d t1 t0 z1 c q z2 p1 p0 r0 b r1 z3 R Q M : Nat)
    (HN : Hid (∀ w, Calls Tryz.prog 251 #[.int .u64 y] w fun e w' => e = .returned (.int .u64 (s : Nat)) ∧ w' = w))
    (hs : s < 64) (hz : s = 0 → x1 = X1 ∧ x0 = X0 ∧ d = y) (hsub : (64 : Int) - s = t)
    (hU : bits .or .u64 (IntKind.u64.wrap ((X1 : Int) * 2 ^ s)) ((X0 : Int) / 2 ^ t) = (x1 : Int)) (hW : IntKind.u64.wrap ((X0 : Int) * 2 ^ s) = (x0 : Int)) (hD : IntKind.u64.wrap ((y : Int) * 2 ^ s) = (d : Int))
    (HC1 : Hid (Two 255 #[.int .u64 m, .int .u64 x1] t1 t0)) (HC2 : Hid (Two 234 #[.int .u64 t0, .int .u64 x0, .int .u64 0] z1 c)) (HC3 : Hid (Two 234 #[.int .u64 t1, .int .u64 x1, .int .u64 c] q z2))
    (HC4 : Hid (Two 255 #[.int .u64 d, .int .u64 q] p1 p0)) (HC5 : Hid (Two 236 #[.int .u64 x0, .int .u64 p0, .int .u64 0] r0 b)) (HC6 : Hid (Two 236 #[.int .u64 x1, .int .u64 p1, .int .u64 b] r1 z3))
    (hql : q < 18446744073709551616) (hQl : Q < 18446744073709551616) (hd1 : 9223372036854775808 ≤ d) (hd2 : d < 18446744073709551616) (hR : R < 18446744073709551616 + d) (hr0 : r0 = R % 18446744073709551616) (hr1 : r1 = R / 18446744073709551616)
    (hQ : Q = (d * q + R) / d) (hM : M = (d * q + R) % d) (w : World) :
    Calls Tryz.prog 284 #[.int .u64 X1, .int .u64 X0, .int .u64 y, .int .u64 m] w fun e w' => e = .returned (.tuple #[.int .u64 (Q : Nat), .int .u64 ((M / 2 ^ s : Nat) : Int)]) ∧ w = w' := by
  have HR0 := Lib.hid hr0
  have HR1 := Lib.hid hr1
  have HQ := Lib.hid hQ
  have HM := Lib.hid hM
  clear hr0 hr1 hQ hM
  by_cases hs0 : s = 0
  · obtain ⟨rfl, rfl, rfl⟩ := hz hs0
    have hsz : ((s : Int) != 0) = false := by simp; omega
    clear hz hU hW hD hsub hs0
    go_enter Tryz.func284, Tryz.ntmps284
    go_wp2_with fail
    refine (HN.out _).mono ?_
    rintro e w1 ⟨rfl, rfl⟩
    go_wp2_with fail
    refine (HC1.out _).mono ?_
    rintro e w2 ⟨rfl, rfl⟩
    go_wp2_with fail
    refine (HC2.out _).mono ?_
    rintro e w3 ⟨rfl, rfl⟩
    go_wp2_with fail
    refine (HC3.out _).mono ?_
    rintro e w4 ⟨rfl, rfl⟩
    go_wp2_with fail
    refine (HC4.out _).mono ?_
    rintro e w5 ⟨rfl, rfl⟩
    go_wp2_with fail
    refine (HC5.out _).mono ?_
    rintro e w6 ⟨rfl, rfl⟩
    go_wp2_with fail
    refine (HC6.out _).mono ?_
    rintro e w7 ⟨rfl, rfl⟩
    have hr0 := HR0.out
    have hr1 := HR1.out
    have hQ := HQ.out
    have hM := HM.out
    clear HR0 HR1 HQ HM
    by_cases hr : 18446744073709551616 ≤ R
    · have k1 : ((r1 : Int) != 0) = true := by simp; omega
      have k1' : ¬ (r1 : Int) = 0 := by omega
      obtain ⟨ra, hra⟩ : ∃ ra, ra = R - d := ⟨_, rfl⟩
      have hral : ra < 18446744073709551616 := by omega
      have k2 : IntKind.u64.wrap ((r0 : Int) - (d : Int)) = (ra : Int) := by rw [IntKind.wrap_u64]; omega
      by_cases hc : d ≤ ra
      · obtain ⟨f1, f2⟩ := fin2 (d := d) (q := q) (R := R) (by omega) (by omega)
        rw [← hQ] at f1
        rw [← hM] at f2
        have HF1 := Lib.hid f1
        have HF2 := Lib.hid f2
        have HRA := Lib.hid hra
        have k3 : (d : Int) ≤ (ra : Int) := by omega
        obtain ⟨qa, hqa⟩ : ∃ qa, qa = q + 1 := ⟨_, rfl⟩
        obtain ⟨qb, hqb⟩ : ∃ qb, qb = qa + 1 := ⟨_, rfl⟩
        have k4 : IntKind.u64.wrap ((q : Int) + 1) = (qa : Int) := by rw [IntKind.wrap_u64]; omega
        have k5 : IntKind.u64.wrap ((qa : Int) + 1) = (qb : Int) := by rw [IntKind.wrap_u64]; omega
        have HQB := Lib.hid (show qb = q + 2 from by omega)
        clear hqa hqb
        clear hra hr0 hr1 hQ hM f1 f2 hR hr
        go_wp2
        exact bodyPost_ret (v := .tuple #[.int .u64 (qb : Int), .int .u64 (((ra : Int) - (d : Int)) / 2 ^ s)]) (by simp [results, Tryz.results284, go_sem]) rfl ⟨by rw [HF1.out, HF2.out, ← HRA.out]; exact fin_tup (by rw [HQB.out]) (by omega), rfl⟩
      · obtain ⟨f1, f2⟩ := fin1 (d := d) (q := q) (R := R) (by omega) (by omega)
        rw [← hQ] at f1
        rw [← hM] at f2
        have HF1 := Lib.hid f1
        have HF2 := Lib.hid f2
        have HRA := Lib.hid hra
        have k3 : ¬ (d : Int) ≤ (ra : Int) := by omega
        obtain ⟨qb, hqb⟩ : ∃ qb, qb = q + 1 := ⟨_, rfl⟩
        have k4 : IntKind.u64.wrap ((q : Int) + 1) = (qb : Int) := by rw [IntKind.wrap_u64]; omega
        have HQB := Lib.hid hqb
        clear hqb
        clear hra hr0 hr1 hQ hM f1 f2 hR hr
        go_wp2
        exact bodyPost_ret (v := .tuple #[.int .u64 (qb : Int), .int .u64 ((ra : Int) / 2 ^ s)]) (by simp [results, Tryz.results284, go_sem]) rfl ⟨by rw [HF1.out, HF2.out, ← HRA.out]; exact fin_tup (by rw [HQB.out]) (by omega), rfl⟩
    · obtain rfl : r1 = 0 := by omega
      obtain rfl : r0 = R := by omega
      by_cases hc : d ≤ r0
      · obtain ⟨f1, f2⟩ := fin1 (d := d) (q := q) (R := r0) (by omega) (by omega)
        rw [← hQ] at f1
        rw [← hM] at f2
        have HF1 := Lib.hid f1
        have HF2 := Lib.hid f2
        have k3 : (d : Int) ≤ (r0 : Int) := by omega
        obtain ⟨qb, hqb⟩ : ∃ qb, qb = q + 1 := ⟨_, rfl⟩
        have k4 : IntKind.u64.wrap ((q : Int) + 1) = (qb : Int) := by rw [IntKind.wrap_u64]; omega
        have HQB := Lib.hid hqb
        clear hqb
        clear hr0 hr1 hQ hM f1 f2 hR
        go_wp2
        exact bodyPost_ret (v := .tuple #[.int .u64 (qb : Int), .int .u64 (((r0 : Int) - (d : Int)) / 2 ^ s)]) (by simp [results, Tryz.results284, go_sem]) rfl ⟨by rw [HF1.out, HF2.out]; exact fin_tup (by rw [HQB.out]) (by omega), rfl⟩
      · obtain ⟨f1, f2⟩ := fin0 (d := d) (q := q) (R := r0) (by omega)
        rw [← hQ] at f1
        rw [← hM] at f2
        have HF1 := Lib.hid f1
        have HF2 := Lib.hid f2
        have k3 : ¬ (d : Int) ≤ (r0 : Int) := by omega
        clear hr0 hr1 hQ hM f1 f2 hR
        go_wp2
        exact bodyPost_ret (v := .tuple #[.int .u64 (q : Int), .int .u64 ((r0 : Int) / 2 ^ s)]) (by simp [results, Tryz.results284, go_sem]) rfl ⟨by rw [HF1.out, HF2.out]; exact fin_tup rfl rfl, rfl⟩
  · have hsz : ((s : Int) != 0) = true := by simp; omega
    clear hz
    go_enter Tryz.func284, Tryz.ntmps284
    go_wp2_with fail
    refine (HN.out _).mono ?_
    rintro e w1 ⟨rfl, rfl⟩
    go_wp2_with fail
    refine (HC1.out _).mono ?_
    rintro e w2 ⟨rfl, rfl⟩
    go_wp2_with fail
    refine (HC2.out _).mono ?_
    rintro e w3 ⟨rfl, rfl⟩
    go_wp2_with fail
    refine (HC3.out _).mono ?_
    rintro e w4 ⟨rfl, rfl⟩
    go_wp2_with fail
    refine (HC4.out _).mono ?_
    rintro e w5 ⟨rfl, rfl⟩
    go_wp2_with fail
    refine (HC5.out _).mono ?_
    rintro e w6 ⟨rfl, rfl⟩
    go_wp2_with fail
    refine (HC6.out _).mono ?_
    rintro e w7 ⟨rfl, rfl⟩
    have hr0 := HR0.out
    have hr1 := HR1.out
    have hQ := HQ.out
    have hM := HM.out
    clear HR0 HR1 HQ HM
    by_cases hr : 18446744073709551616 ≤ R
    · have k1 : ((r1 : Int) != 0) = true := by simp; omega
      have k1' : ¬ (r1 : Int) = 0 := by omega
      obtain ⟨ra, hra⟩ : ∃ ra, ra = R - d := ⟨_, rfl⟩
      have hral : ra < 18446744073709551616 := by omega
      have k2 : IntKind.u64.wrap ((r0 : Int) - (d : Int)) = (ra : Int) := by rw [IntKind.wrap_u64]; omega
      by_cases hc : d ≤ ra
      · obtain ⟨f1, f2⟩ := fin2 (d := d) (q := q) (R := R) (by omega) (by omega)
        rw [← hQ] at f1
        rw [← hM] at f2
        have HF1 := Lib.hid f1
        have HF2 := Lib.hid f2
        have HRA := Lib.hid hra
        have k3 : (d : Int) ≤ (ra : Int) := by omega
        obtain ⟨qa, hqa⟩ : ∃ qa, qa = q + 1 := ⟨_, rfl⟩
        obtain ⟨qb, hqb⟩ : ∃ qb, qb = qa + 1 := ⟨_, rfl⟩
        have k4 : IntKind.u64.wrap ((q : Int) + 1) = (qa : Int) := by rw [IntKind.wrap_u64]; omega
        have k5 : IntKind.u64.wrap ((qa : Int) + 1) = (qb : Int) := by rw [IntKind.wrap_u64]; omega
        have HQB := Lib.hid (show qb = q + 2 from by omega)
        clear hqa hqb
        clear hra hr0 hr1 hQ hM f1 f2 hR hr
        go_wp2
        exact bodyPost_ret (v := .tuple #[.int .u64 (qb : Int), .int .u64 (((ra : Int) - (d : Int)) / 2 ^ s)]) (by simp [results, Tryz.results284, go_sem]) rfl ⟨by rw [HF1.out, HF2.out, ← HRA.out]; exact fin_tup (by rw [HQB.out]) (by omega), rfl⟩
      · obtain ⟨f1, f2⟩ := fin1 (d := d) (q := q) (R := R) (by omega) (by omega)
        rw [← hQ] at f1
        rw [← hM] at f2
        have HF1 := Lib.hid f1
        have HF2 := Lib.hid f2
        have HRA := Lib.hid hra
        have k3 : ¬ (d : Int) ≤ (ra : Int) := by omega
        obtain ⟨qb, hqb⟩ : ∃ qb, qb = q + 1 := ⟨_, rfl⟩
        have k4 : IntKind.u64.wrap ((q : Int) + 1) = (qb : Int) := by rw [IntKind.wrap_u64]; omega
        have HQB := Lib.hid hqb
        clear hqb
        clear hra hr0 hr1 hQ hM f1 f2 hR hr
        go_wp2
        exact bodyPost_ret (v := .tuple #[.int .u64 (qb : Int), .int .u64 ((ra : Int) / 2 ^ s)]) (by simp [results, Tryz.results284, go_sem]) rfl ⟨by rw [HF1.out, HF2.out, ← HRA.out]; exact fin_tup (by rw [HQB.out]) (by omega), rfl⟩
    · obtain rfl : r1 = 0 := by omega
      obtain rfl : r0 = R := by omega
      by_cases hc : d ≤ r0
      · obtain ⟨f1, f2⟩ := fin1 (d := d) (q := q) (R := r0) (by omega) (by omega)
        rw [← hQ] at f1
        rw [← hM] at f2
        have HF1 := Lib.hid f1
        have HF2 := Lib.hid f2
        have k3 : (d : Int) ≤ (r0 : Int) := by omega
        obtain ⟨qb, hqb⟩ : ∃ qb, qb = q + 1 := ⟨_, rfl⟩
        have k4 : IntKind.u64.wrap ((q : Int) + 1) = (qb : Int) := by rw [IntKind.wrap_u64]; omega
        have HQB := Lib.hid hqb
        clear hqb
        clear hr0 hr1 hQ hM f1 f2 hR
        go_wp2
        exact bodyPost_ret (v := .tuple #[.int .u64 (qb : Int), .int .u64 (((r0 : Int) - (d : Int)) / 2 ^ s)]) (by simp [results, Tryz.results284, go_sem]) rfl ⟨by rw [HF1.out, HF2.out]; exact fin_tup (by rw [HQB.out]) (by omega), rfl⟩
      · obtain ⟨f1, f2⟩ := fin0 (d := d) (q := q) (R := r0) (by omega)
        rw [← hQ] at f1
        rw [← hM] at f2
        have HF1 := Lib.hid f1
        have HF2 := Lib.hid f2
        have k3 : ¬ (d : Int) ≤ (r0 : Int) := by omega
        clear hr0 hr1 hQ hM f1 f2 hR
        go_wp2
        exact bodyPost_ret (v := .tuple #[.int .u64 (q : Int), .int .u64 ((r0 : Int) / 2 ^ s)]) (by simp [results, Tryz.results284, go_sem]) rfl ⟨by rw [HF1.out, HF2.out]; exact fin_tup rfl rfl, rfl⟩
theorem two_mul (x y : Nat) (hx : x < 18446744073709551616) (hy : y < 18446744073709551616) : Two 255 #[.int .u64 x, .int .u64 y] (x * y / 18446744073709551616) (x * y % 18446744073709551616) :=
  fun w => (Tryz.bits_Mul x y hx hy w).mono fun _ _ h => ⟨h.1, h.2.symm⟩
theorem divWW_any (X1 X0 y : Nat) (h1 : X1 < y) (h0 : X0 < 18446744073709551616) (hy : y < 18446744073709551616) (w : World) :
    Calls Tryz.prog 284 #[.int .u64 X1, .int .u64 X0, .int .u64 y, .int .u64 (recip y : Nat)] w fun e w' => e = .returned (.tuple #[.int .u64 (((X1 * W64 + X0) / y : Nat) : Int), .int .u64 (((X1 * W64 + X0) % y : Nat) : Int)]) ∧ w = w' := by
  have hy0 : 0 < y := by omega
  have hyW : y < W64 := hy
  obtain ⟨hs, hs2⟩ := lz_sum hy0 hyW
  obtain ⟨ht1, ht2⟩ := lz_top hy0 hyW
  obtain ⟨f1, f2, f3⟩ := recip_form ht2 ht1
  obtain ⟨t, hst⟩ : ∃ t, lz y + t = 64 := ⟨64 - lz y, by omega⟩
  have hN1 : X1 * W64 + X0 < y * W64 := by
    have : (X1 + 1) * W64 ≤ y * W64 := Nat.mul_le_mul_right _ h1
    unfold W64 at *; omega
  have hN2 : (X1 * W64 + X0) % W64 = X0 := by unfold W64; omega
  have hN3 : (X1 * W64 + X0) / W64 = X1 := by unfold W64; omega
  obtain ⟨d1, d2⟩ := div_norm (s := lz y) hst hN1 hN2 ht2
  have hh := half hst (X1 * W64 + X0)
  rw [hN2, hN3, Nat.mod_eq_of_lt (show X1 < W64 from by omega)] at hh
  have hU := bits_orS X1 X0 (lz y) t h0
  rw [← hh] at hU
  have hW := wrap_shl X0 (lz y)
  have hD := wrap_shl y (lz y)
  rw [Nat.mod_eq_of_lt (show y * 2 ^ lz y < W64 from ht2)] at hD
  have hz : lz y = 0 → (X1 * W64 + X0) / 2 ^ t % W64 = X1 ∧ X0 * 2 ^ lz y % W64 = X0 ∧ y * 2 ^ lz y = y := by
    intro e
    obtain rfl : t = 64 := by omega
    rw [e, Nat.pow_zero, Nat.mul_one, Nat.mul_one, show (2 : Nat) ^ 64 = W64 from rfl, hN3]
    exact ⟨Nat.mod_eq_of_lt (by omega), Nat.mod_eq_of_lt h0, rfl⟩
  have hx0 : X0 * 2 ^ lz y % W64 < 18446744073709551616 := Nat.mod_lt _ W64_pos
  have hQ2 : (X1 * W64 + X0) * 2 ^ lz y / (y * 2 ^ lz y) = (X1 * W64 + X0) / y := Nat.mul_div_mul_right _ _ (Nat.pow_pos (by decide))
  have hM2 : (X1 * W64 + X0) * 2 ^ lz y % (y * 2 ^ lz y) / 2 ^ lz y = (X1 * W64 + X0) % y := by
    rw [Nat.mul_mod_mul_right, Nat.mul_div_cancel _ (Nat.pow_pos (by decide))]
  have hQl : (X1 * W64 + X0) / y < 18446744073709551616 := (Nat.div_lt_iff_lt_mul hy0).2 (by rw [Nat.mul_comm _ y]; exact hN1)
  have HN := Lib.hid (nlz_any y hy0 hy)
  have HR := Lib.hid (show (W64 * W64 - 1) / (y * 2 ^ lz y) - W64 = recip y from by rw [recip])
  rw [HR.out] at f2 f3
  have hs64 : (64 : Int) - (lz y : Nat) = (t : Int) := by omega
  generalize recip y = m at *
  generalize (X1 * W64 + X0) / 2 ^ t % W64 = x1 at *
  generalize X0 * 2 ^ lz y % W64 = x0 at *
  generalize lz y = s at *
  obtain ⟨q, R, e1, e2, e3, e4⟩ := est_words ht1 ht2 d1 hx0 f3
  obtain ⟨g1, g2⟩ := rem_words (P := y * 2 ^ s * q) rfl ht2 e1 e2 (by omega) hx0
  rw [← hQ2] at hQl
  rw [← hQ2, ← hM2, ← d2, ← e1]
  rw [← d2, ← e1] at hQl
  have hc : (m * x1 % 18446744073709551616 + x0 + 0) / 18446744073709551616 ≤ 1 := by
    have : m * x1 % 18446744073709551616 < 18446744073709551616 := Nat.mod_lt _ (by decide)
    omega
  have hb : (if x0 < y * 2 ^ s * q % 18446744073709551616 + 0 then 1 else 0 : Nat) ≤ 1 := by split <;> omega
  have C3 : Two 234 #[.int .u64 ((m * x1 / 18446744073709551616 : Nat) : Int), .int .u64 x1, .int .u64 (((m * x1 % 18446744073709551616 + x0 + 0) / 18446744073709551616 : Nat) : Int)] q _ := fun w => by
    have := bitsAdd_any (m * x1 / 18446744073709551616) x1 ((m * x1 % 18446744073709551616 + x0 + 0) / 18446744073709551616) hc w
    rw [e4] at this
    exact this
  exact divWW_walk X1 X0 y m s t x1 x0 (y * 2 ^ s) _ _ _ _ q _ _ _ _ _ _ _ R _ _ HN hs2 hz hs64 hU hW hD
    (Lib.hid (two_mul m x1 f2 (by omega))) (Lib.hid (fun w => bitsAdd_any _ x0 0 (by omega) w)) (Lib.hid C3)
    (Lib.hid (two_mul _ q ht2 e3)) (Lib.hid (fun w => bitsSub_any x0 _ 0 (by omega) w)) (Lib.hid (fun w => bitsSub_any x1 _ _ hb w))
    e3 hQl ht1 ht2 e2 g1 g2 rfl rfl w
end Go.Proofs.YtececkbcinmmpaaGreatDoor
namespace Go.Bg
open Go.RowKit Dg
theorem dg_div {X y i : Nat} (hy : 0 < y) : dg W64 (X / y) i = ((X / W64 ^ (i + 1) % y) * W64 + dg W64 X i) / y ∧ X / W64 ^ i % y = ((X / W64 ^ (i + 1) % y) * W64 + dg W64 X i) % y := by
  have e1 : X / W64 ^ (i + 1) = X / W64 ^ i / W64 := by rw [Nat.pow_succ, Nat.div_div_eq_div_mul]
  have e2 : dg W64 (X / y) i = X / W64 ^ i / y % W64 := by unfold dg; rw [div_right]
  have e3 : dg W64 X i = X / W64 ^ i % W64 := rfl
  rw [e1, e2, e3]
  generalize X / W64 ^ i = A
  have hlt : (A / W64 % y * W64 + A % W64) / y < W64 := by
    rw [Nat.div_lt_iff_lt_mul hy]
    have h1 : A / W64 % y < y := Nat.mod_lt _ hy
    have h2 : A % W64 < W64 := Nat.mod_lt _ W64_pos
    have h3 : (A / W64 % y + 1) * W64 ≤ y * W64 := Nat.mul_le_mul_right _ h1
    rw [Nat.add_mul, Nat.one_mul] at h3
    rw [Nat.mul_comm W64]
    omega
  have e : A = y * (A / W64 / y * W64) + (A / W64 % y * W64 + A % W64) := by
    have h1 := Nat.div_add_mod A W64
    have h2 := Nat.div_add_mod (A / W64) y
    have h3 : W64 * (A / W64) = y * (A / W64 / y * W64) + A / W64 % y * W64 := by
      conv => lhs; rw [← h2]
      rw [Nat.mul_add, Nat.mul_comm W64 (A / W64 % y), Nat.mul_comm W64, Nat.mul_assoc]
    omega
  constructor
  · conv => lhs; rw [e]
    rw [Nat.mul_add_div hy, Nat.add_comm, Nat.add_mul_mod_self_right]
    exact Nat.mod_eq_of_lt hlt
  · conv => lhs; rw [e]
    exact Nat.mul_add_mod _ _ _
end Go.Bg
namespace Go.Proofs.YtececkbcinmmpaaGreatDoor
open Go.RowKit Go.Bg Dg
theorem divWVW_any (g o n c0 b1 o1 c1 : Nat) (cur : Array Value) (X y : Nat) (w : World) (hg : BlkAt w g cur 139) (hn : n ≤ 1000000) (hn0 : 0 < n) (hr : o + n ≤ cur.size) (h0 : n ≤ c0) (h0m : c0 ≤ maxLen)
    (h1 : WCells w b1 o1 n (dg W64 X)) (h1c : n ≤ c1) (h1m : c1 ≤ maxLen) (hn1 : b1 ≠ g ∨ o1 ≤ o) (hy0 : 0 < y) (hy : y < 18446744073709551616) (hX : X < W64 ^ n) :
    Calls Tryz.prog 250 #[.slice (some ⟨g, o, none⟩) n c0, .int .u64 0, .slice (some ⟨b1, o1, none⟩) n c1, .int .u64 y] w
      (VecIs g o n cur (dg W64 (X / y)) (X % y) w) := by
  unfold maxLen at h0m h1m
  have HG := Lib.hid hg
  have H1 := Lib.hid h1
  have HX := Lib.hid hX
  clear hg h1 hX
  by_cases hs1 : n = 1
  · subst hs1
    have e1 : w.cell? ⟨b1, o1, none⟩ = some (.int .u64 (dg W64 X 0 : Nat)) := by have := H1.out 0 hn0; rwa [Nat.add_zero] at this
    have hXl : X < 18446744073709551616 := by have := HX.out; rwa [Nat.pow_one] at this
    have hd0 : dg W64 X 0 = X := by unfold dg; rw [Nat.pow_zero, Nat.div_one]; exact Nat.mod_eq_of_lt hXl
    have hd1 : dg W64 (X / y) 0 = X / y := by unfold dg; rw [Nat.pow_zero, Nat.div_one]; exact Nat.mod_eq_of_lt (Nat.lt_of_le_of_lt (Nat.div_le_self _ _) hXl)
    rw [hd0] at e1
    have HD := Lib.hid (fun w => bitsDiv_any 0 X y hy0 hXl hy w)
    rw [Nat.zero_mul, Nat.zero_add] at HD
    have hq : X / y < 18446744073709551616 := Nat.lt_of_le_of_lt (Nat.div_le_self _ _) hXl
    have hm : X % y < 18446744073709551616 := Nat.lt_of_le_of_lt (Nat.mod_le _ _) hXl
    have HE := Lib.hid hd1.symm
    clear hd0 hd1
    have HRU := Lib.hid (RowUp.start HG.out o (dg W64 (X / y)))
    generalize X / y = q at *
    generalize X % y = r at *
    go_enter Tryz.func250, Tryz.ntmps250
    go_wp2_with fail
    refine (HD.out _).mono ?_
    rintro e w1 ⟨rfl, nq, rfl⟩
    have hroom := (HRU.out.drewN nq).room (j := o) (by omega)
    obtain ⟨⟨u0, p0⟩, f0⟩ := hroom
    go_wp2
    go_ret
    refine ⟨rfl, ?_⟩
    have := (HRU.out.drewN nq).step (x := q) (by omega) HE.out
    simpa using this
  · have hs1' : ((n : Int) == 1) = false := by simp; omega
    have HR := Lib.hid (recip_any y hy0 hy)
    have HW := Lib.hid (fun a b ha hb w => divWW_any a b y ha hb hy w)
    have hrl : recip y < 18446744073709551616 := by
      obtain ⟨t1, t2⟩ := lz_top hy0 (show y < W64 from hy)
      rw [recip]; exact (recip_form t2 t1).2.1
    generalize recip y = m at *
    clear hs1
    go_enter Tryz.func250, Tryz.ntmps250
    go_wp2_with fail
    refine (HR.out _).mono ?_
    rintro e w1 ⟨rfl, nq, rfl⟩
    go_wp2
    go_loopw [8, 12] (fun r i wr => ∃ k m' : Nat, k + m' = n ∧ i = .int .i64 ((k : Int) - 1) ∧ r = .int .u64 ((X / W64 ^ k % y : Nat) : Int) ∧ RowUp 139 w wr g (o + k) m' cur (fun j => dg W64 (X / y) (k + j)))
      (fun r i _ => (intOf i + 1).toNat)
    case atStart => exact ⟨n, 0, rfl, rfl, by rw [Nat.div_eq_of_lt HX.out]; simp, (RowUp.start HG.out _ _).drewN nq⟩
    case round =>
      obtain ⟨k, m', hkm, rfl, rfl, hR⟩ := hrel
      by_cases k0 : 0 < k
      · obtain ⟨p, rfl⟩ : ∃ p, k = p + 1 := ⟨k - 1, by omega⟩
        have e1 := hR.readOut HG.out (H1.out p (by omega)) (by rcases hn1 with h | h; exact .inl h; exact .inr (.inl (by omega)))
        have d1 : dg W64 X p < 18446744073709551616 := W64_lt (dg_lt W64_pos _ _)
        have hdd := dg_div (X := X) (y := y) (i := p) hy0
        have hrr : X / W64 ^ (p + 1) % y < y := Nat.mod_lt _ hy0
        have hqq : dg W64 (X / y) p < 18446744073709551616 := W64_lt (dg_lt W64_pos _ _)
        have hrr2 : X / W64 ^ p % y < y := Nat.mod_lt _ hy0
        have HC := Lib.hid (fun w => HW.out _ _ hrr d1 w)
        rw [← hdd.1, ← hdd.2] at HC
        have hroom := hR.room (j := o + p) (by omega)
        obtain ⟨⟨u0, p0⟩, f0⟩ := hroom
        have HRR := Lib.hid hR
        have HQ := Lib.hid (show dg W64 (X / y) p = dg W64 (X / y) p from rfl)
        have HDN := Lib.hid (hR.down (h := dg W64 (X / y)) (k := p) (by omega) rfl)
        clear hR hdd
        generalize dg W64 X p = x at *
        generalize X / W64 ^ (p + 1) % y = r1 at *
        obtain ⟨r0, hr0⟩ : ∃ r0, r0 = X / W64 ^ p % y := ⟨_, rfl⟩
        rw [← hr0] at HC hrr2
        have HR0 := Lib.hid hr0
        clear hr0
        generalize dg W64 (X / y) p = q at *
        have hp1 : ((p + 1 : Nat) : Int) - 1 = p := by omega
        have kl1 : (p : Int) < n := by omega
        go_wp2_with fail
        refine (HC.out _).mono ?_
        rintro e w2 ⟨rfl, rfl⟩
        go_wp2
        go_roundw
        case rel => exact ⟨p, m' + 1, by omega, rfl, congrArg (fun z : Nat => Value.int .u64 (z : Int)) HR0.out, HDN.out⟩
        case measure => simp [intOf]
      · obtain rfl : k = 0 := by omega
        have HRR := Lib.hid hR
        clear hR
        have hr2 : X / W64 ^ 0 % y = X % y := by rw [Nat.pow_zero, Nat.div_one]
        rw [hr2]
        clear hr2
        go_wp2
        go_ret
        refine ⟨rfl, ?_⟩
        have h := HRR.out
        rw [Nat.add_zero, show m' = n from by omega] at h
        simpa using h
theorem make_new (az : Option Addr) (nz cz n : Nat) (w : World) (hc : cz < n) (hn2 : 2 ≤ n) (hn : n ≤ 1000000) (hnz : nz ≤ cz) (hnil : az = none → cz = 0) :
    Calls Tryz.prog 204 #[.slice az nz cz, .int .i64 n] w (MadeIs 139 n w) := by
  have hz : ((n : Int) == 1) = false := by simp; omega
  have hmk : ∀ w : World, (Instr.makeSlice 153 (.int .i64 (n : Int)) (.int .i64 ((n : Int) + 4))).run Tryz.prog w = .ok (.slice (some ⟨w.heap.size, 0, none⟩) n (n + 4)) (w.alloc (.cells (Array.replicate (n + 4) (.int .u64 0)) 139)) :=
    run_make_nat 153 139 Tryz.underlying153 infoWord n (n + 4) (by omega) (by omega)
  have hle : ¬ ((n : Int) ≤ cz) := by omega
  go_enter Tryz.func204, Tryz.ntmps204
  go_wp2
  go_ret
  exact .inr ⟨n + 4, by omega, by omega, by omega, rfl, rfl⟩
end Go.Proofs.YtececkbcinmmpaaGreatDoor
