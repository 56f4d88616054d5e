/-
  Rat.Cmp of two fractions.
  Numbers compared: match, Compare; impl.Compare.
-/
import Derived.Test.YtdkipndepkblhaaGreatDoorRcmpA
import Derived.Test.YtdkipndepkblhaaGreatDoorBuM
import Derived.Test.YtdkipndepkblhaaGreatDoorBuG
set_option linter.unusedSimpArgs false
set_option linter.unusedVariables false
namespace Go.Proofs.YtdkipndepkblhaaGreatDoor
open Go.RowKit Go.Bg Dg

theorem NewInt.updU {w w1 : World} {b o d : Nat} (h : NewInt w b o) (hu : Upd (· = d) w w1) (hne : b ≠ d) : NewInt w1 b o := by
  obtain ⟨u, h0⟩ := h.c0
  exact ⟨h.blk.upd hu hne, ⟨u, by rw [hu.cell (p := ⟨b, o, none⟩) (block_lt h0) hne]; exact h0⟩, by rw [hu.cell (p := ⟨b, o + 1, none⟩) (block_lt h.c1) hne]; exact h.c1⟩

end Go.Proofs.YtdkipndepkblhaaGreatDoor

set_option linter.unusedSimpArgs false
set_option linter.unusedVariables false
namespace Go.Proofs.YtdkipndepkblhaaGreatDoor
open Go.RowKit Go.Bg Dg

/-- the order of two fractions -/
def cmpQ (r q : Rt) : Int := cmpZ (sg r.neg (r.num * q.den)) (sg q.neg (q.num * r.den))
theorem signOf_over (s : Bool) (N D : Nat) : Rt.signOf (Rt.over s N D) = cmpZ (sg s N) 0 := by
  unfold Rt.signOf Rt.over cmpZ sg
  by_cases hN : N = 0
  · subst hN; cases s <;> simp
  · have h0 : 0 < N := by omega
    have hq : N / Nat.gcd N D ≠ 0 := by
      have := Nat.div_pos (Nat.le_of_dvd h0 (Nat.gcd_dvd_left N D)) (Nat.gcd_pos_of_pos_left D h0)
      omega
    have h1 : ¬ ((N : Int) < 0) := by omega
    have h2 : (0 : Int) < N := by omega
    have h3 : -(N : Int) < 0 := by omega
    cases s
    · simp [hq, h1, h2, hN]
    · simp [hq, h0, h3]
theorem signOf_minus {x y : Rt} (hx : 0 < x.den) : Rt.signOf (Rt.minus x y) = cmpQ x y := by
  have hB : y.num = 0 → y.num * x.den = 0 := fun h => by rw [h, Nat.zero_mul]
  have hB2 : 0 < y.num → 0 < y.num * x.den := fun h => Nat.mul_pos h hx
  unfold Rt.minus Rt.plus Rt.negated cmpQ
  simp only
  generalize x.num * y.den = A at *
  generalize y.num * x.den = B at *
  generalize x.den * y.den = D
  by_cases hy : 0 < y.num
  · have hb := hB2 hy
    cases x.neg <;> cases y.neg <;> simp only [hy, decide_true, Bool.not_false, Bool.not_true, Bool.and_true, Bool.and_self, if_true, if_false, Bool.false_eq_true, Bool.true_eq_false]
    · split
      · rw [signOf_over]; unfold cmpZ sg; simp only [Bool.false_eq_true, if_false]; split <;> split <;> (try split) <;> (try split) <;> omega
      · rw [signOf_over]; unfold cmpZ sg; simp only [Bool.false_eq_true, if_false, if_true]; split <;> split <;> (try split) <;> (try split) <;> omega
    · rw [signOf_over]; unfold cmpZ sg; simp only [Bool.false_eq_true, if_false, if_true]; split <;> split <;> (try split) <;> (try split) <;> omega
    · rw [signOf_over]; unfold cmpZ sg; simp only [Bool.false_eq_true, if_false, if_true]; split <;> split <;> (try split) <;> (try split) <;> omega
    · split
      · rw [signOf_over]; unfold cmpZ sg; simp only [Bool.false_eq_true, if_false, if_true]; split <;> split <;> (try split) <;> (try split) <;> omega
      · rw [signOf_over]; unfold cmpZ sg; simp only [Bool.false_eq_true, if_false, if_true]; split <;> split <;> (try split) <;> (try split) <;> omega
  · have hb := hB (by omega)
    subst hb
    have hd : decide (0 < y.num) = false := decide_eq_false hy
    cases x.neg <;> cases y.neg <;> simp only [hd, Bool.and_false, if_true, if_false, Bool.false_eq_true, Bool.true_eq_false, Nat.zero_le, Nat.sub_zero, Nat.add_zero] <;> rw [signOf_over] <;> simp [cmpZ, sg]
theorem cmpQ_rz (x y : Int) : cmpQ (rz x) (rz y) = cmpZ x y := by
  show cmpZ (sg (decide (x < 0)) (x.natAbs * 1)) (sg (decide (y < 0)) (y.natAbs * 1)) = _
  rw [Nat.mul_one, Nat.mul_one, sg_natAbs, sg_natAbs]

set_option maxRecDepth 100000 in
set_option maxHeartbeats 1000000 in
theorem ordRat_any (v : Value) (r : Rt) (w : World) (h : CRat w v r) :
    Calls Tryz.prog 120 #[v] w fun e w' => e = .returned (.int .i64 4) ∧ w = w' := by
  obtain ⟨b, s, N, D, rfl, -, -⟩ := h
  obtain ⟨t1, t2, t3, t4, t5, t6, t7, t8, t9⟩ := ta_ratVal
  go_enter Tryz.func120, Tryz.ntmps120
  go_wp2
  go_ret
  exact ⟨rfl, rfl⟩

set_option maxRecDepth 100000 in
set_option maxHeartbeats 1000000 in
theorem match0IR_any (v1 v2 : Value) (z : Int) (r : Rt) (w : World) (h1 : CInt w v1 z) (h2 : CRat w v2 r) (L : Nat) (hL : L ≤ 63) (hz : z.natAbs < W64 ^ L) :
    Calls Tryz.prog 121 #[v1, v2] w fun e w' => ∃ u, e = .returned (.tuple #[u, v2]) ∧ CRat w' u (rz z) ∧ CRat w' v2 r ∧ Below w.heap.size w w' := by
  have H2 := Lib.hid h2
  obtain ⟨b', s', N', D', rfl, -, -⟩ := h2
  obtain ⟨q1, q2, q3, q4, q5, q6, q7, q8, q9⟩ := ta_ratVal
  rcases h1 with ⟨rfl, hf⟩ | ⟨b, o, s, N, rfl, hI, rfl⟩
  · obtain ⟨t1, t2, t3, t4, t5, t6, t7, t8, t9⟩ := ta_int64Val
    have HF := Lib.hid (fit64_bd hf)
    clear hf hz
    go_enter Tryz.func121, Tryz.ntmps121
    go_wp2_with fail
    refine (i64tor_any z HF.out _).mono ?_
    rintro e w1 ⟨b, rfl, hR, hB⟩
    have HR := Lib.hid hR
    have HB := Lib.hid hB
    clear hR hB
    go_wp2
    exact bodyPost_ret (v := .tuple #[.iface 97 (.agg #[.pointer (some ⟨b, 0, none⟩)]), .iface 97 (.agg #[.pointer (some ⟨b', 0, none⟩)])]) (by simp [results, Tryz.results121, go_sem]) rfl
      ⟨_, rfl, ⟨b, _, _, _, rfl, HR.out, rfl⟩, H2.out.keep HB.out, HB.out⟩
  · obtain ⟨t1, t2, t3, t4, t5, t6, t7, t8, t9⟩ := ta_intVal
    have HN := Lib.hid (show N < W64 ^ L from by rwa [sg_nat] at hz)
    obtain ⟨W0, hW0⟩ : ∃ W0, W0 = w.alloc (.cells #[.pointer (some ⟨b, o, none⟩)] 93) := ⟨_, rfl⟩
    have HW := Lib.hid hW0
    have hb0 : Below w.heap.size w W0 := by rw [hW0]; exact Below.alloc' (Below.refl _ _) _
    have hx : W0.cell? ⟨w.heap.size, 0, none⟩ = some (.pointer (some ⟨b, o, none⟩)) := by rw [hW0]; exact alloc_new _ _ _ rfl rfl
    have HH := Lib.hid (hI.keep hb0)
    have HZ := Lib.hid hI.zero
    clear hW0 hI hz
    go_enter Tryz.func121, Tryz.ntmps121
    go_wp2_with fail
    rw [← HW.out]
    refine (itor_any b o s N L _ HH.out (by omega) HN.out).mono ?_
    rintro e w1 ⟨b2, rfl, hR, hB⟩
    have HR := Lib.hid hR
    have HB := Lib.hid (Below.then hb0 (Nat.le_refl _) hB)
    clear hR hB hb0
    go_wp2
    exact bodyPost_ret (v := .tuple #[.iface 97 (.agg #[.pointer (some ⟨b2, 0, none⟩)]), .iface 97 (.agg #[.pointer (some ⟨b', 0, none⟩)])]) (by simp [results, Tryz.results121, go_sem]) rfl
      ⟨_, rfl, ⟨b2, _, _, _, rfl, HR.out, (rz_sg HZ.out).symm⟩, H2.out.keep HB.out, HB.out⟩

theorem ordOf_or {w : World} {v : Value} {z : Int} (h : CInt w v z) : ordOf v = 2 ∨ ordOf v = 3 := by
  rcases h with ⟨rfl, _⟩ | ⟨b, o, s, N, rfl, _, _⟩
  · exact .inl rfl
  · exact .inr rfl

/-- two numbers, matched as fractions -/
def MatR (r q : Rt) (w : World) (e : Ending) (w' : World) : Prop := ∃ u1 u2, e = .returned (.tuple #[u1, u2]) ∧ CRat w' u1 r ∧ CRat w' u2 q ∧ Below w.heap.size w w'

set_option maxRecDepth 100000 in
set_option maxHeartbeats 1000000 in
theorem matchRR_any (v1 v2 : Value) (r q : Rt) (w : World) (h1 : CRat w v1 r) (h2 : CRat w v2 q) : Calls Tryz.prog 59 #[v1, v2] w (MatR r q w) := by
  have H1 := Lib.hid h1
  have H2 := Lib.hid h2
  clear h1 h2
  go_enter Tryz.func59, Tryz.ntmps59
  go_wp2_with fail
  refine (ordRat_any _ r _ H1.out).mono ?_
  rintro e w1 ⟨rfl, rfl⟩
  go_wp2_with fail
  refine (ordRat_any _ q _ H2.out).mono ?_
  rintro e w1 ⟨rfl, rfl⟩
  go_wp2
  exact bodyPost_ret (v := .tuple #[v1, v2]) (by simp [results, Tryz.results59, go_sem]) rfl ⟨_, _, rfl, H1.out, H2.out, Below.refl _ _⟩

set_option maxRecDepth 100000 in
set_option maxHeartbeats 1000000 in
theorem matchIR_any (v1 v2 : Value) (z : Int) (q : Rt) (w : World) (h1 : CInt w v1 z) (h2 : CRat w v2 q) (L : Nat) (hL : L ≤ 63) (hz : z.natAbs < W64 ^ L) : Calls Tryz.prog 59 #[v1, v2] w (MatR (rz z) q w) := by
  have ho := ordOf_or h1
  have H1 := Lib.hid h1
  have H2 := Lib.hid h2
  have HZ := Lib.hid hz
  clear h1 h2 hz
  go_enter Tryz.func59, Tryz.ntmps59
  go_wp2_with fail
  refine (ordInt_any _ z _ H1.out).mono ?_
  rintro e w1 ⟨rfl, rfl⟩
  go_wp2_with fail
  refine (ordRat_any _ q _ H2.out).mono ?_
  rintro e w1 ⟨rfl, rfl⟩
  generalize ordOf v1 = k at *
  rcases ho with rfl | rfl
  all_goals
    go_wp2_with fail
    refine (match0IR_any v1 v2 z q _ H1.out H2.out L hL HZ.out).mono ?_
    rintro e w1 ⟨u, rfl, hu, hv, hB⟩
    have HU := Lib.hid hu
    have HV := Lib.hid hv
    have HB := Lib.hid hB
    clear hu hv hB
    go_wp2
    exact bodyPost_ret (v := .tuple #[u, v2]) (by simp [results, Tryz.results59, go_sem]) rfl ⟨_, _, rfl, HU.out, HV.out, HB.out⟩

set_option maxRecDepth 100000 in
set_option maxHeartbeats 1000000 in
theorem matchRI_any (v1 v2 : Value) (z : Int) (q : Rt) (w : World) (h1 : CInt w v1 z) (h2 : CRat w v2 q) (L : Nat) (hL : L ≤ 63) (hz : z.natAbs < W64 ^ L) : Calls Tryz.prog 59 #[v2, v1] w (MatR q (rz z) w) := by
  have ho := ordOf_or h1
  have H1 := Lib.hid h1
  have H2 := Lib.hid h2
  have HZ := Lib.hid hz
  clear h1 h2 hz
  go_enter Tryz.func59, Tryz.ntmps59
  go_wp2_with fail
  refine (ordRat_any _ q _ H2.out).mono ?_
  rintro e w1 ⟨rfl, rfl⟩
  go_wp2_with fail
  refine (ordInt_any _ z _ H1.out).mono ?_
  rintro e w1 ⟨rfl, rfl⟩
  generalize ordOf v1 = k at *
  rcases ho with rfl | rfl
  all_goals
    go_wp2_with fail
    refine (match0IR_any v1 v2 z q _ H1.out H2.out L hL HZ.out).mono ?_
    rintro e w1 ⟨u, rfl, hu, hv, hB⟩
    have HU := Lib.hid hu
    have HV := Lib.hid hv
    have HB := Lib.hid hB
    clear hu hv hB
    go_wp2
    exact bodyPost_ret (v := .tuple #[v2, u]) (by simp [results, Tryz.results59, go_sem]) rfl ⟨_, _, rfl, HV.out, HU.out, HB.out⟩

theorem field_ratVal (p : Value) (w : World) : (Instr.field 97 (.agg #[p]) 0).run Tryz.prog w = .ok p w := by kernel_rfl

end Go.Proofs.YtdkipndepkblhaaGreatDoor
