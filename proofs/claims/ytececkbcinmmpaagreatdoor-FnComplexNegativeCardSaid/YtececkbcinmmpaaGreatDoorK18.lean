/-
  Contracts and lemmas: CmpR StkA BitJ0 StkB.
-/
import Derived.Test.YtececkbcinmmpaaGreatDoorK17
import Derived.Test.YtececkbcinmmpaaGreatDoorK13
import Derived.Test.YtececkbcinmmpaaGreatDoorK09
import Derived.Lib.AppendZeros
import Derived.Lib.AppendZerosOnto
import Derived.Lib.SliceRun
import Derived.Laws.BitsAllLaws
import Derived.Test.YtececkbcinmmpaaGreatDoorK10
import Derived.Test.YtececkbcinmmpaaGreatDoorK16
set_option linter.unusedSimpArgs false
set_option linter.unusedVariables false
set_option maxRecDepth 100000
set_option maxHeartbeats 8000000
namespace Go.Proofs.YtececkbcinmmpaaGreatDoor
open Go.RowKit Go.Bg Dg
def cmpQ (r q : Rt) : Int := cmpZ (sg r.neg (r.num * q.den)) (sg q.neg (q.num * r.den))
theorem signOf_over (s : Bool) (N D : Nat) : Rt.signOf (Rt.over s N D) = cmpZ (sg s N) 0 := by
  unfold Rt.signOf Rt.over cmpZ sg
  by_cases hN : N = 0
  · subst hN; cases s <;> simp
  · have h0 : 0 < N := by omega
    have hq : N / Nat.gcd N D ≠ 0 := by
      have := Nat.div_pos (Nat.le_of_dvd h0 (Nat.gcd_dvd_left N D)) (Nat.gcd_pos_of_pos_left D h0)
      omega
    have h1 : ¬ ((N : Int) < 0) := by omega
    have h2 : (0 : Int) < N := by omega
    have h3 : -(N : Int) < 0 := by omega
    cases s
    · simp [hq, h1, h2, hN]
    · simp [hq, h0, h3]
theorem signOf_minus {x y : Rt} (hx : 0 < x.den) : Rt.signOf (Rt.minus x y) = cmpQ x y := by
  have hB : y.num = 0 → y.num * x.den = 0 := fun h => by rw [h, Nat.zero_mul]
  have hB2 : 0 < y.num → 0 < y.num * x.den := fun h => Nat.mul_pos h hx
  unfold Rt.minus Rt.plus Rt.negated cmpQ
  simp only
  generalize x.num * y.den = A at *
  generalize y.num * x.den = B at *
  generalize x.den * y.den = D
  by_cases hy : 0 < y.num
  · have hb := hB2 hy
    cases x.neg <;> cases y.neg <;> simp only [hy, decide_true, Bool.not_false, Bool.not_true, Bool.and_true, Bool.and_self, if_true, if_false, Bool.false_eq_true, Bool.true_eq_false]
    · split
      · rw [signOf_over]; unfold cmpZ sg; simp only [Bool.false_eq_true, if_false]; split <;> split <;> (try split) <;> (try split) <;> omega
      · rw [signOf_over]; unfold cmpZ sg; simp only [Bool.false_eq_true, if_false, if_true]; split <;> split <;> (try split) <;> (try split) <;> omega
    · rw [signOf_over]; unfold cmpZ sg; simp only [Bool.false_eq_true, if_false, if_true]; split <;> split <;> (try split) <;> (try split) <;> omega
    · rw [signOf_over]; unfold cmpZ sg; simp only [Bool.false_eq_true, if_false, if_true]; split <;> split <;> (try split) <;> (try split) <;> omega
    · split
      · rw [signOf_over]; unfold cmpZ sg; simp only [Bool.false_eq_true, if_false, if_true]; split <;> split <;> (try split) <;> (try split) <;> omega
      · rw [signOf_over]; unfold cmpZ sg; simp only [Bool.false_eq_true, if_false, if_true]; split <;> split <;> (try split) <;> (try split) <;> omega
  · have hb := hB (by omega)
    subst hb
    have hd : decide (0 < y.num) = false := decide_eq_false hy
    cases x.neg <;> cases y.neg <;> simp only [hd, Bool.and_false, if_true, if_false, Bool.false_eq_true, Bool.true_eq_false, Nat.zero_le, Nat.sub_zero, Nat.add_zero] <;> rw [signOf_over] <;> simp [cmpZ, sg]
theorem cmpQ_rz (x y : Int) : cmpQ (rz x) (rz y) = cmpZ x y := by
  show cmpZ (sg (decide (x < 0)) (x.natAbs * 1)) (sg (decide (y < 0)) (y.natAbs * 1)) = _
  rw [Nat.mul_one, Nat.mul_one, sg_natAbs, sg_natAbs]
theorem ordRat_any (v : Value) (r : Rt) (w : World) (h : CRat w v r) :
    Calls Tryz.prog 140 #[v] w fun e w' => e = .returned (.int .i64 4) ∧ w = w' := by
  obtain ⟨b, s, N, D, rfl, -, -⟩ := h
  obtain ⟨t1, t2, t3, t4, t5, t6, t7, t8, t9⟩ := ta_ratVal
  go_enter Tryz.func140, Tryz.ntmps140
  go_wp2
  go_ret
  exact ⟨rfl, rfl⟩
theorem match0IR_any (v1 v2 : Value) (z : Int) (r : Rt) (w : World) (h1 : CInt w v1 z) (h2 : CRat w v2 r) (L : Nat) (hL : L ≤ 63) (hz : z.natAbs < W64 ^ L) :
    Calls Tryz.prog 141 #[v1, v2] w fun e w' => ∃ u, e = .returned (.tuple #[u, v2]) ∧ CRat w' u (rz z) ∧ CRat w' v2 r ∧ Below w.heap.size w w' := by
  have H2 := Lib.hid h2
  obtain ⟨b', s', N', D', rfl, -, -⟩ := h2
  obtain ⟨q1, q2, q3, q4, q5, q6, q7, q8, q9⟩ := ta_ratVal
  rcases h1 with ⟨rfl, hf⟩ | ⟨b, o, s, N, rfl, hI, rfl⟩
  · obtain ⟨t1, t2, t3, t4, t5, t6, t7, t8, t9⟩ := ta_int64Val
    have HF := Lib.hid (fit64_bd hf)
    clear hf hz
    go_enter Tryz.func141, Tryz.ntmps141
    go_wp2_with fail
    refine (i64tor_any z HF.out _).mono ?_
    rintro e w1 ⟨b, rfl, hR, hB⟩
    have HR := Lib.hid hR
    have HB := Lib.hid hB
    clear hR hB
    go_wp2
    exact bodyPost_ret (v := .tuple #[.iface 106 (.agg #[.pointer (some ⟨b, 0, none⟩)]), .iface 106 (.agg #[.pointer (some ⟨b', 0, none⟩)])]) (by simp [results, Tryz.results141, go_sem]) rfl
      ⟨_, rfl, ⟨b, _, _, _, rfl, HR.out, rfl⟩, H2.out.keep HB.out, HB.out⟩
  · obtain ⟨t1, t2, t3, t4, t5, t6, t7, t8, t9⟩ := ta_intVal
    have HN := Lib.hid (show N < W64 ^ L from by rwa [sg_nat] at hz)
    obtain ⟨W0, hW0⟩ : ∃ W0, W0 = w.alloc (.cells #[.pointer (some ⟨b, o, none⟩)] 102) := ⟨_, rfl⟩
    have HW := Lib.hid hW0
    have hb0 : Below w.heap.size w W0 := by rw [hW0]; exact Below.alloc' (Below.refl _ _) _
    have hx : W0.cell? ⟨w.heap.size, 0, none⟩ = some (.pointer (some ⟨b, o, none⟩)) := by rw [hW0]; exact alloc_new _ _ _ rfl rfl
    have HH := Lib.hid (hI.keep hb0)
    have HZ := Lib.hid hI.zero
    clear hW0 hI hz
    go_enter Tryz.func141, Tryz.ntmps141
    go_wp2_with fail
    rw [← HW.out]
    refine (itor_any b o s N L _ HH.out (by omega) HN.out).mono ?_
    rintro e w1 ⟨b2, rfl, hR, hB⟩
    have HR := Lib.hid hR
    have HB := Lib.hid (Below.then hb0 (Nat.le_refl _) hB)
    clear hR hB hb0
    go_wp2
    exact bodyPost_ret (v := .tuple #[.iface 106 (.agg #[.pointer (some ⟨b2, 0, none⟩)]), .iface 106 (.agg #[.pointer (some ⟨b', 0, none⟩)])]) (by simp [results, Tryz.results141, go_sem]) rfl
      ⟨_, rfl, ⟨b2, _, _, _, rfl, HR.out, (rz_sg HZ.out).symm⟩, H2.out.keep HB.out, HB.out⟩
theorem ordOf_or {w : World} {v : Value} {z : Int} (h : CInt w v z) : ordOf v = 2 ∨ ordOf v = 3 := by
  rcases h with ⟨rfl, _⟩ | ⟨b, o, s, N, rfl, _, _⟩
  · exact .inl rfl
  · exact .inr rfl
def MatR (r q : Rt) (w : World) (e : Ending) (w' : World) : Prop := ∃ u1 u2, e = .returned (.tuple #[u1, u2]) ∧ CRat w' u1 r ∧ CRat w' u2 q ∧ Below w.heap.size w w'
theorem matchRR_any (v1 v2 : Value) (r q : Rt) (w : World) (h1 : CRat w v1 r) (h2 : CRat w v2 q) : Calls Tryz.prog 73 #[v1, v2] w (MatR r q w) := by
  have H1 := Lib.hid h1
  have H2 := Lib.hid h2
  clear h1 h2
  go_enter Tryz.func73, Tryz.ntmps73
  go_wp2_with fail
  refine (ordRat_any _ r _ H1.out).mono ?_
  rintro e w1 ⟨rfl, rfl⟩
  go_wp2_with fail
  refine (ordRat_any _ q _ H2.out).mono ?_
  rintro e w1 ⟨rfl, rfl⟩
  go_wp2
  exact bodyPost_ret (v := .tuple #[v1, v2]) (by simp [results, Tryz.results73, go_sem]) rfl ⟨_, _, rfl, H1.out, H2.out, Below.refl _ _⟩
theorem matchIR_any (v1 v2 : Value) (z : Int) (q : Rt) (w : World) (h1 : CInt w v1 z) (h2 : CRat w v2 q) (L : Nat) (hL : L ≤ 63) (hz : z.natAbs < W64 ^ L) : Calls Tryz.prog 73 #[v1, v2] w (MatR (rz z) q w) := by
  have ho := ordOf_or h1
  have H1 := Lib.hid h1
  have H2 := Lib.hid h2
  have HZ := Lib.hid hz
  clear h1 h2 hz
  go_enter Tryz.func73, Tryz.ntmps73
  go_wp2_with fail
  refine (ordInt_any _ z _ H1.out).mono ?_
  rintro e w1 ⟨rfl, rfl⟩
  go_wp2_with fail
  refine (ordRat_any _ q _ H2.out).mono ?_
  rintro e w1 ⟨rfl, rfl⟩
  generalize ordOf v1 = k at *
  rcases ho with rfl | rfl
  all_goals
    go_wp2_with fail
    refine (match0IR_any v1 v2 z q _ H1.out H2.out L hL HZ.out).mono ?_
    rintro e w1 ⟨u, rfl, hu, hv, hB⟩
    have HU := Lib.hid hu
    have HV := Lib.hid hv
    have HB := Lib.hid hB
    clear hu hv hB
    go_wp2
    exact bodyPost_ret (v := .tuple #[u, v2]) (by simp [results, Tryz.results73, go_sem]) rfl ⟨_, _, rfl, HU.out, HV.out, HB.out⟩
theorem matchRI_any (v1 v2 : Value) (z : Int) (q : Rt) (w : World) (h1 : CInt w v1 z) (h2 : CRat w v2 q) (L : Nat) (hL : L ≤ 63) (hz : z.natAbs < W64 ^ L) : Calls Tryz.prog 73 #[v2, v1] w (MatR q (rz z) w) := by
  have ho := ordOf_or h1
  have H1 := Lib.hid h1
  have H2 := Lib.hid h2
  have HZ := Lib.hid hz
  clear h1 h2 hz
  go_enter Tryz.func73, Tryz.ntmps73
  go_wp2_with fail
  refine (ordRat_any _ q _ H2.out).mono ?_
  rintro e w1 ⟨rfl, rfl⟩
  go_wp2_with fail
  refine (ordInt_any _ z _ H1.out).mono ?_
  rintro e w1 ⟨rfl, rfl⟩
  generalize ordOf v1 = k at *
  rcases ho with rfl | rfl
  all_goals
    go_wp2_with fail
    refine (match0IR_any v1 v2 z q _ H1.out H2.out L hL HZ.out).mono ?_
    rintro e w1 ⟨u, rfl, hu, hv, hB⟩
    have HU := Lib.hid hu
    have HV := Lib.hid hv
    have HB := Lib.hid hB
    clear hu hv hB
    go_wp2
    exact bodyPost_ret (v := .tuple #[v2, u]) (by simp [results, Tryz.results73, go_sem]) rfl ⟨_, _, rfl, HV.out, HU.out, HB.out⟩
theorem field_ratVal (p : Value) (w : World) : (Instr.field 106 (.agg #[p]) 0).run Tryz.prog w = .ok p w := by kernel_rfl
theorem compareMat_any (k : Nat) (hk : k < 6) (v1 v2 : Value) (r q : Rt) (w : World) (hK : Thr w) (hm : Calls Tryz.prog 73 #[v1, v2] w (MatR r q w)) (L : Nat) (hL : L < 40) (hr : r.num < W64 ^ L ∧ r.den < W64 ^ L) (hq : q.num < W64 ^ L ∧ q.den < W64 ^ L) :
    Calls Tryz.prog 67 #[v1, .int .i64 (cmpTok k), v2] w fun e w' => e = .returned (.bool (cmpB k (cmpQ r q))) ∧ Below w.heap.size w w' := by
  have HM := Lib.hid hm
  have HK := Lib.hid hK
  clear hm hK
  go_enter Tryz.func67, Tryz.ntmps67
  go_wp2_with fail
  refine HM.out.mono ?_
  rintro e w1 ⟨u1, u2, rfl, ⟨b1, s, N, D, rfl, hR, rfl⟩, ⟨b2, t, M, E, rfl, hQ, rfl⟩, hB⟩
  obtain ⟨t1, t2, t3, t4, t5, t6, t7, t8, t9⟩ := ta_ratVal
  have HR := Lib.hid hR
  have HQ := Lib.hid hQ
  have HB := Lib.hid hB
  have hfld := field_ratVal
  clear hR hQ hB
  obtain ⟨W2, hW2⟩ : ∃ W2, W2 = w1.alloc (.cells #[.pointer (some ⟨b1, 0, none⟩)] 106) := ⟨_, rfl⟩
  have hb2 : Below w1.heap.size w1 W2 := by rw [hW2]; exact Below.alloc' (Below.refl _ _) _
  have c0 : W2.cell? ⟨w1.heap.size, 0, none⟩ = some (.pointer (some ⟨b1, 0, none⟩)) := by rw [hW2]; exact alloc_new _ _ _ rfl rfl
  have HW2 := Lib.hid hW2
  clear hW2
  go_wp2_with fail
  rw [← HW2.out]
  have HB2 := Lib.hid (Below.then HB.out (Nat.le_refl _) hb2)
  have HR2 := Lib.hid (HR.out.keep hb2)
  have HQ2 := Lib.hid (HQ.out.keep hb2)
  have HK2 := Lib.hid (HK.out.keep HB2.out)
  have hd0 : Below W2.heap.size W2 W2.drew := (Below.refl _ _).drew
  clear HR HQ HK hb2 HW2
  go_region_held3 (fun w' => w'.cell? ⟨w1.heap.size, 0, none⟩ = some (.pointer (some ⟨b1, 0, none⟩)))
    (first | with_reducible exact c0 | exact cell_keep c0 (by assumption))
    (first | (go_at_call 129; (with_reducible refine (ratCmp_any b1 b2 s t N D M E _ ?_ ?_ ?_ L hL hr.1 hr.2 hq.1 hq.2).mono ?_); exact HK2.out.keep (by assumption); exact HR2.out.keep (by assumption); exact HQ2.out.keep (by assumption); rintro e w3 ⟨rfl, hB3⟩; have hb3 := Below.then hd0 (Nat.le_refl _) hB3) | (go_at_call 127; (with_reducible refine (cmpZero_any k hk _ _).mono ?_); rintro e w4 ⟨rfl, rfl⟩))
  go_wp2
  go_ret
  exact ⟨rfl, Below.then HB2.out (Nat.le_refl _) hb3⟩
theorem compareNum_any (k : Nat) (hk : k < 6) (v1 v2 : Value) (r q : Rt) (w : World) (hK : Thr w) (h1 : CNum w v1 r) (h2 : CNum w v2 q) (L : Nat) (hL0 : 1 ≤ L) (hL : L < 40) (hr : r.num < W64 ^ L ∧ r.den < W64 ^ L) (hq : q.num < W64 ^ L ∧ q.den < W64 ^ L) :
    Calls Tryz.prog 67 #[v1, .int .i64 (cmpTok k), v2] w fun e w' => e = .returned (.bool (cmpB k (cmpQ r q))) ∧ Below w.heap.size w w' := by
  rcases h1 with ⟨x, h1, rfl⟩ | h1
  · rcases h2 with ⟨y, h2, rfl⟩ | h2
    · rw [cmpQ_rz]
      exact compareInt_any k hk v1 v2 x y w h1 h2
    · exact compareMat_any k hk v1 v2 (rz x) q w hK (matchIR_any v1 v2 x q w h1 h2 L (by omega) hr.1) L hL hr hq
  · rcases h2 with ⟨y, h2, rfl⟩ | h2
    · exact compareMat_any k hk v1 v2 r (rz y) w hK (matchRI_any v2 v1 y r w h2 h1 L (by omega) hq.1) L hL hr hq
    · exact compareMat_any k hk v1 v2 r q w hK (matchRR_any v1 v2 r q w h1 h2) L hL hr hq
theorem implCompareNum_any (k : Nat) (hk : k < 6) (x y : Vl) (r q : Rt) (w : World) (hK : Thr w) (h1 : VlAt w x) (h2 : VlAt w y) (m1 : NumV x r) (m2 : NumV y q) (L : Nat) (hL0 : 1 ≤ L) (hL : L < 40) (hr : r.num < W64 ^ L ∧ r.den < W64 ^ L) (hq : q.num < W64 ^ L ∧ q.den < W64 ^ L) :
    Calls Tryz.prog 42 #[.int .i64 k, .agg #[.int .i64 x.kind, .bool x.truth, .string x.text, .bool x.neg, .slice x.wa x.wn x.wc, .slice x.da x.dn x.dc, .bool x.ineg, .slice x.ia x.inn x.ic, .slice x.ea x.en x.ec], .agg #[.int .i64 y.kind, .bool y.truth, .string y.text, .bool y.neg, .slice y.wa y.wn y.wc, .slice y.da y.dn y.dc, .bool y.ineg, .slice y.ia y.inn y.ic, .slice y.ea y.en y.ec]] w fun e w' => e = .returned (.bool (cmpB k (cmpQ r q))) ∧ Below w.heap.size w w' := by
  obtain ⟨W0, hW0⟩ : ∃ W0, W0 = (w.alloc (.cells #[.int .i64 x.kind, .bool x.truth, .string x.text, .bool x.neg, .slice x.wa x.wn x.wc, .slice x.da x.dn x.dc, .bool x.ineg, .slice x.ia x.inn x.ic, .slice x.ea x.en x.ec] 26)).alloc (.cells #[.int .i64 y.kind, .bool y.truth, .string y.text, .bool y.neg, .slice y.wa y.wn y.wc, .slice y.da y.dn y.dc, .bool y.ineg, .slice y.ia y.inn y.ic, .slice y.ea y.en y.ec] 26) := ⟨_, rfl⟩
  have HW := Lib.hid hW0
  have hb0 : Below w.heap.size w W0 := by rw [hW0]; exact Below.alloc' (Below.alloc' (Below.refl _ _) _) _
  have X : Box9 W0 w.heap.size x := by rw [hW0]; exact (Box9.new w x _ rfl).alloc _
  have Y : Box9 W0 (w.heap.size + 1) y := by rw [hW0]; exact Box9.new _ y _ (by simp)
  have HX := Lib.hid (h1.keep hb0)
  have HY := Lib.hid (h2.keep hb0)
  have HK := Lib.hid (hK.keep hb0)
  have M1 := Lib.hid m1
  have M2 := Lib.hid m2
  clear hW0 h1 h2 m1 m2 hK
  go_enter Tryz.func42, Tryz.ntmps42
  go_upto_region 1 with fail
  rw [← HW.out]
  go_wp2_with fail
  refine (comparison_any k hk _).mono ?_
  rintro e w1 ⟨rfl, hB1⟩
  have hb1 := Below.then hb0 (Nat.le_refl _) hB1
  have X1 := X.keep hB1
  have Y1 := Y.keep hB1
  have HX1 := Lib.hid (HX.out.keep hB1)
  have HY1 := Lib.hid (HY.out.keep hB1)
  have HK1 := Lib.hid (HK.out.keep hB1)
  go_wp2_with fail
  have hd0 : Below w1.heap.size w1 w1.drew := (Below.refl _ _).drew
  go_region_held3 (fun w' => (w'.cell? ⟨w.heap.size, 0, none⟩ = some (.int .i64 x.kind) ∧ w'.cell? ⟨w.heap.size, 1, none⟩ = some (.bool x.truth) ∧ w'.cell? ⟨w.heap.size, 2, none⟩ = some (.string x.text) ∧ w'.cell? ⟨w.heap.size, 3, none⟩ = some (.bool x.neg) ∧ w'.cell? ⟨w.heap.size, 4, none⟩ = some (.slice x.wa x.wn x.wc) ∧ w'.cell? ⟨w.heap.size, 5, none⟩ = some (.slice x.da x.dn x.dc) ∧ w'.cell? ⟨w.heap.size, 6, none⟩ = some (.bool x.ineg) ∧ w'.cell? ⟨w.heap.size, 7, none⟩ = some (.slice x.ia x.inn x.ic) ∧ w'.cell? ⟨w.heap.size, 8, none⟩ = some (.slice x.ea x.en x.ec)) ∧ (w'.cell? ⟨(w.heap.size + 1), 0, none⟩ = some (.int .i64 y.kind) ∧ w'.cell? ⟨(w.heap.size + 1), 1, none⟩ = some (.bool y.truth) ∧ w'.cell? ⟨(w.heap.size + 1), 2, none⟩ = some (.string y.text) ∧ w'.cell? ⟨(w.heap.size + 1), 3, none⟩ = some (.bool y.neg) ∧ w'.cell? ⟨(w.heap.size + 1), 4, none⟩ = some (.slice y.wa y.wn y.wc) ∧ w'.cell? ⟨(w.heap.size + 1), 5, none⟩ = some (.slice y.da y.dn y.dc) ∧ w'.cell? ⟨(w.heap.size + 1), 6, none⟩ = some (.bool y.ineg) ∧ w'.cell? ⟨(w.heap.size + 1), 7, none⟩ = some (.slice y.ia y.inn y.ic) ∧ w'.cell? ⟨(w.heap.size + 1), 8, none⟩ = some (.slice y.ea y.en y.ec)))
    (first | with_reducible exact ⟨X1.all, Y1.all⟩ | with_reducible exact ⟨(X1.keep (by assumption)).all, (Y1.keep (by assumption)).all⟩)
    (first | (go_at_call 49; (with_reducible refine (madeNum_any x r _ ?_ M1.out).mono ?_); exact HX1.out.keep (by assumption); rintro e w2 ⟨u1, rfl, hu1, hB2⟩; have hb2 := Below.then hd0 (Nat.le_refl _) hB2) | (go_at_call 49; (with_reducible refine (madeNum_any y q _ ?_ M2.out).mono ?_); exact HY1.out.keep (by assumption); rintro e w3 ⟨u2, rfl, hu2, hB3⟩; have hb3 := Below.then hb2 (Nat.le_refl _) hB3) | (go_at_call 67; (with_reducible refine (compareNum_any k hk u1 u2 r q _ ?_ ?_ ?_ L hL0 hL hr hq).mono ?_); exact HK1.out.keep hb3; exact hu1.keep hB3; exact hu2; rintro e w4 ⟨rfl, hB4⟩; have hb4 := Below.then hb3 (Nat.le_refl _) hB4))
  go_wp2
  go_ret
  exact ⟨rfl, Below.then hb1 (Nat.le_refl _) hb4⟩
def GrewIs (n : Nat) (w : World) (e : Ending) (w' : World) : Prop :=
  ∃ (c : Nat) (cur : Array Value), n ≤ c ∧ c ≤ maxLen ∧ cur.size = c ∧ e = .returned (.slice (some ⟨w.heap.size, 0, none⟩) 0 c) ∧ w' = w.drew.alloc (.cells cur 139)
theorem growN_nil (n : Nat) (h0 : 0 < n) (hn : n ≤ 1000000) (w : World) :
    Calls Tryz.prog 278 #[.slice none 0 0, .int .i64 n] w (GrewIs n w) := by
  obtain ⟨i0, hi, hz0, hz1, hz2⟩ := info_parts infoWord
  have happ := Lib.run_append_nil_zeros (P := Tryz.prog) w 153 3 153 139 i0 (.int .u64 0) .i64 .i64 Tryz.underlying153 Tryz.underlying3 hi hz0 n h0 (by omega) (by omega) (by rw [hz2]; omega)
  generalize hcap : grownCap w n 0 139 = c at happ
  have hcge : n ≤ c := by rw [← hcap]; exact grownCap_ge w _ 0 139
  have hcle : c ≤ maxLen := by rw [← hcap]; exact grownCap_le_maxLen w _ 0 139 (by unfold maxLen; omega)
  generalize hZ : (Builtin.zeroCells (Value.int .u64 0).cells n ++ Builtin.zeroCells (Value.int .u64 0).cells (c - n)) = Z at happ
  have hZs : Z.size = c := by rw [← hZ]; simp [size_zeroCells, Value.cells]; omega
  have HA := Lib.hid happ
  have HS := Lib.hid hZs
  have HC := Lib.hid hcle
  have hcm : c ≤ 9223372036854775807 := by unfold maxLen at hcle; omega
  clear hcap hZ happ hZs hi hz0 hz1 hz2 hcle
  go_enter Tryz.func278, Tryz.ntmps278
  go_wp2_with (at_builtin; refine Lib.wpList_append_run _ rfl _ _ _ _ rfl _ _ rfl rfl _ _ HA.out ?_)
  go_wp2
  go_ret
  exact ⟨c, Z, hcge, HC.out, HS.out, rfl, rfl⟩
theorem growW_nil (n : Nat) (h0 : 0 < n) (hn : n ≤ 1000000) (w : World) :
    Calls Tryz.prog 303 #[.slice none 0 0, .int .i64 n] w (GrewIs n w) := by
  obtain ⟨i0, hi, hz0, hz1, hz2⟩ := info_parts infoWord
  have happ := Lib.run_append_nil_zeros (P := Tryz.prog) w 138 3 138 139 i0 (.int .u64 0) .i64 .i64 Tryz.underlying138 Tryz.underlying3 hi hz0 n h0 (by omega) (by omega) (by rw [hz2]; omega)
  generalize hcap : grownCap w n 0 139 = c at happ
  have hcge : n ≤ c := by rw [← hcap]; exact grownCap_ge w _ 0 139
  have hcle : c ≤ maxLen := by rw [← hcap]; exact grownCap_le_maxLen w _ 0 139 (by unfold maxLen; omega)
  generalize hZ : (Builtin.zeroCells (Value.int .u64 0).cells n ++ Builtin.zeroCells (Value.int .u64 0).cells (c - n)) = Z at happ
  have hZs : Z.size = c := by rw [← hZ]; simp [size_zeroCells, Value.cells]; omega
  have HA := Lib.hid happ
  have HS := Lib.hid hZs
  have HC := Lib.hid hcle
  have hcm : c ≤ 9223372036854775807 := by unfold maxLen at hcle; omega
  clear hcap hZ happ hZs hi hz0 hz1 hz2 hcle
  go_enter Tryz.func303, Tryz.ntmps303
  go_wp2_with (at_builtin; refine Lib.wpList_append_run _ rfl _ _ _ _ rfl _ _ rfl rfl _ _ HA.out ?_)
  go_wp2
  go_ret
  exact ⟨c, Z, hcge, HC.out, HS.out, rfl, rfl⟩
theorem growW_room (a : Option Addr) (l c n : Nat) (w : World) (hlc : l ≤ c) (hc : c ≤ maxLen) (hr : l + n ≤ c) :
    Calls Tryz.prog 303 #[.slice a l c, .int .i64 n] w fun e w' => e = .returned (.slice a l c) ∧ w' = w := by
  unfold maxLen at hc
  have h1 : ¬ ((n : Int) < 0) := by omega
  have h4 : ¬ ((n : Int) - ((c : Int) - (l : Int)) > 0) := by omega
  go_enter Tryz.func303, Tryz.ntmps303
  go_wp2
  go_ret
  exact ⟨rfl, rfl⟩
def GrewOn (l n : Nat) (w : World) (e : Ending) (w' : World) : Prop :=
  ∃ (c : Nat) (cur : Array Value), l + n ≤ c ∧ c ≤ maxLen ∧ cur.size = c ∧ e = .returned (.slice (some ⟨w.heap.size, 0, none⟩) l c) ∧ w' = w.drew.alloc (.cells cur 139)
theorem growW_onto (g l c n : Nat) (cur : Array Value) (w : World) (hg : BlkAt w g cur 139) (hs : cur.size = c) (hlc : l ≤ c) (hr : c < l + n) (hb : l + n ≤ 1000000) :
    Calls Tryz.prog 303 #[.slice (some ⟨g, 0, none⟩) l c, .int .i64 n] w (GrewOn l n w) := by
  obtain ⟨i0, hi, hz0, hz1, hz2⟩ := info_parts infoWord
  have hcl : cur.toList.length = c * i0.size := by rw [hz1]; simp [hs]
  have hold := run_firstCells_some (P := Tryz.prog) (w := w.drew) i0.size c ⟨g, 0, none⟩ c c cur.toList hcl (fun j v hj => by
    rw [Addr.add_lit, Nat.zero_add]
    have h2 : BlkAt w.drew g cur 139 := hg
    rw [h2.cell]
    simpa using hj)
  have hck : c + (l + n - c) = l + n := by omega
  have happ := Lib.run_append_grow_zeros (P := Tryz.prog) w 138 3 138 139 i0 (.int .u64 0) .i64 .i64 Tryz.underlying138 Tryz.underlying3 hi hz0 (some ⟨g, 0, none⟩) c c cur.toList hold (l + n - c) (by omega) (by omega) (by omega) (by omega)
    (by rw [hz2]; omega) (by rw [hck]; exact growslice_fits hr (by rw [hz2]; omega))
  rw [hck] at happ
  have hk : ((l + n - c : Nat) : Int) = (n : Int) - ((c : Int) - (l : Int)) := by omega
  rw [hk] at happ
  generalize hcap : grownCap w (l + n) c 139 = C at happ
  have hcge : l + n ≤ C := by rw [← hcap]; exact grownCap_ge w _ _ 139
  have hcle : C ≤ maxLen := by rw [← hcap]; exact grownCap_le_maxLen w _ _ 139 (by unfold maxLen; omega)
  generalize hZ : (cur.toList.toArray ++ Builtin.zeroCells (Value.int .u64 0).cells (l + n - c) ++ Builtin.zeroCells (Value.int .u64 0).cells (C - (l + n))) = Z at happ
  have hZs : Z.size = C := by rw [← hZ]; simp [size_zeroCells, Value.cells]; omega
  have HA := Lib.hid happ
  have HS := Lib.hid hZs
  have HC := Lib.hid hcle
  have hcm : C ≤ 9223372036854775807 := by unfold maxLen at hcle; omega
  have h1 : ¬ ((n : Int) < 0) := by omega
  have h4 : (n : Int) - ((c : Int) - (l : Int)) > 0 := by omega
  clear hcap hZ happ hZs hi hz0 hz1 hz2 hcle hold hcl hck hk hs
  go_enter Tryz.func303, Tryz.ntmps303
  go_wp2_with (at_builtin; refine Lib.wpList_append_run _ rfl _ _ _ _ rfl _ _ rfl rfl _ _ HA.out ?_)
  go_wp2
  go_ret
  exact ⟨C, Z, hcge, HC.out, HS.out, rfl, rfl⟩
end Go.Proofs.YtececkbcinmmpaaGreatDoor
namespace Go.Bg
open Go.RowKit Dg
def andn (a b : Nat) : Nat := a ^^^ (a &&& b)
def bitsN (f : Nat → Bool) : Nat → Nat
  | 0 => 0
  | k + 1 => bitsN f k + (if f k then 2 ^ k else 0)
theorem bitsN_lt (f : Nat → Bool) (k : Nat) : bitsN f k < 2 ^ k := by
  induction k with
  | zero => simp [bitsN]
  | succ k ih =>
    have e : bitsN f (k + 1) = bitsN f k + (if f k then 2 ^ k else 0) := rfl
    rw [e, Nat.pow_succ]; split <;> omega
theorem bitsN_bit (f : Nat → Bool) (k i : Nat) : (bitsN f k).testBit i = (decide (i < k) && f i) := by
  induction k with
  | zero => simp [bitsN]
  | succ k ih =>
    have hl := bitsN_lt f k
    have e : bitsN f (k + 1) = bitsN f k + (if f k then 2 ^ k else 0) := rfl
    rw [e]
    cases hf : f k
    · simp only [Bool.false_eq_true, if_false, Nat.add_zero]
      rw [ih]
      by_cases h : i = k
      · subst h; simp [hf]
      · rw [decide_eq_decide.2 (show i < k ↔ i < k + 1 from by omega)]
    · simp only [if_true]
      rw [Nat.add_comm]
      rcases Nat.lt_trichotomy i k with h | h | h
      · rw [Nat.testBit_two_pow_add_gt h, ih, decide_eq_true h, decide_eq_true (show i < k + 1 from by omega)]
      · subst h
        rw [Nat.testBit_two_pow_add_eq, Nat.testBit_lt_two_pow hl]; simp [hf]
      · rw [Nat.testBit_lt_two_pow (Nat.lt_of_lt_of_le (show 2 ^ k + bitsN f k < 2 ^ (k + 1) from by rw [Nat.pow_succ]; omega) (Nat.pow_le_pow_right (by decide) (by omega))), decide_eq_false (show ¬ i < k + 1 from by omega)]; rfl
theorem bitsN_eq {f : Nat → Bool} {k X : Nat} (hX : X < 2 ^ k) (h : ∀ i, i < k → X.testBit i = f i) : bitsN f k = X := by
  apply Nat.eq_of_testBit_eq
  intro i
  rw [bitsN_bit]
  by_cases hi : i < k
  · rw [decide_eq_true hi, h i hi]; rfl
  · rw [decide_eq_false hi, Nat.testBit_lt_two_pow (Nat.lt_of_lt_of_le hX (Nat.pow_le_pow_right (by decide) (by omega)))]; rfl
def low (s : Bool) (N : Nat) : Nat := if s then N - 1 else N
def bitAt (s : Bool) (N i : Nat) : Bool := s != (low s N).testBit i
theorem low_le (s : Bool) (N : Nat) : low s N ≤ N := by unfold low; split <;> omega
theorem bitAt_high {s : Bool} {N i : Nat} (h : N < 2 ^ i) : bitAt s N i = s := by
  unfold bitAt
  rw [Nat.testBit_lt_two_pow (Nat.lt_of_le_of_lt (low_le s N) h)]
  cases s <;> rfl
theorem lt_bl (N : Nat) : N < 2 ^ bl N := by
  unfold bl
  split
  · subst N; decide
  · exact Nat.lt_log2_self
theorem lt_size {N k : Nat} (h : bl N ≤ k) : N < 2 ^ k := Nat.lt_of_lt_of_le (lt_bl N) (Nat.pow_le_pow_right (by decide) h)
def jlow (T : Bool → Bool → Bool) (s t : Bool) (N M : Nat) : Nat :=
  bitsN (fun i => T (bitAt s N i) (bitAt t M i) != T s t) (max (bl N) (bl M) + 1)
def jmag (T : Bool → Bool → Bool) (s t : Bool) (N M : Nat) : Nat := if T s t then jlow T s t N M + 1 else jlow T s t N M
def jz (T : Bool → Bool → Bool) (a b : Int) : Int := sg (T (decide (a < 0)) (decide (b < 0))) (jmag T (decide (a < 0)) (decide (b < 0)) a.natAbs b.natAbs)
theorem jlow_of {T : Bool → Bool → Bool} {s t : Bool} {N M X : Nat} (hX : ∀ i, X.testBit i = (T (bitAt s N i) (bitAt t M i) != T s t)) : jlow T s t N M = X := by
  refine bitsN_eq (Nat.lt_pow_two_of_testBit _ fun i hi => ?_) fun i _ => hX i
  rw [hX i, bitAt_high (lt_size (Nat.le_trans (Nat.le_max_left (bl N) (bl M)) (by omega))), bitAt_high (lt_size (Nat.le_trans (Nat.le_max_right (bl N) (bl M)) (by omega)))]
  cases T s t <;> rfl
theorem jlow_bit (T : Bool → Bool → Bool) (s t : Bool) (N M i : Nat) : (jlow T s t N M).testBit i = (T (bitAt s N i) (bitAt t M i) != T s t) := by
  unfold jlow
  rw [bitsN_bit]
  by_cases hi : i < max (bl N) (bl M) + 1
  · rw [decide_eq_true hi]; rfl
  · rw [decide_eq_false hi, bitAt_high (lt_size (Nat.le_trans (Nat.le_max_left (bl N) (bl M)) (by omega))), bitAt_high (lt_size (Nat.le_trans (Nat.le_max_right (bl N) (bl M)) (by omega)))]
    cases T s t <;> rfl
theorem jlow_lt {T : Bool → Bool → Bool} {s t : Bool} {N M k : Nat} (h1 : low s N < 2 ^ k) (h2 : low t M < 2 ^ k) : jlow T s t N M < 2 ^ k := by
  refine Nat.lt_pow_two_of_testBit _ fun i hi => ?_
  rw [jlow_bit]
  unfold bitAt
  rw [Nat.testBit_lt_two_pow (Nat.lt_of_lt_of_le h1 (Nat.pow_le_pow_right (by decide) hi)), Nat.testBit_lt_two_pow (Nat.lt_of_lt_of_le h2 (Nat.pow_le_pow_right (by decide) hi))]
  cases s <;> cases t <;> simp
theorem jmag_pos {T : Bool → Bool → Bool} {s t : Bool} (N M : Nat) (h : T s t = true) : 0 < jmag T s t N M := by
  unfold jmag; rw [if_pos h]; omega
def andnT (a b : Bool) : Bool := a && !b
theorem jmag_andn00 (N M : Nat) : jmag andnT false false N M = andn (N) (M) := by
  have e : jlow andnT false false N M = andn (N) (M) := jlow_of fun i => by
    show (andn (N) (M)).testBit i = (andnT (false != (N).testBit i) (false != (M).testBit i) != andnT false false)
    unfold andn; rw [Nat.testBit_xor, Nat.testBit_and]
    cases (N).testBit i <;> cases (M).testBit i <;> rfl
  show jlow andnT false false N M = _
  rw [e]
theorem ofInt_bit (z : Int) (i : Nat) (hi : i < 64) : (BitVec.ofInt 64 z).getLsbD i = bitAt (decide (z < 0)) z.natAbs i := by
  unfold bitAt low
  by_cases h : z < 0
  · obtain ⟨m, rfl⟩ : ∃ m : Nat, z = Int.negSucc m := ⟨z.natAbs - 1, by omega⟩
    rw [decide_eq_true h, if_pos rfl, BitVec.ofInt_negSucc_eq_not_ofNat, BitVec.getLsbD_not, BitVec.getLsbD_ofNat]
    simp [hi, Int.natAbs_negSucc]
  · obtain ⟨m, rfl⟩ : ∃ m : Nat, z = m := ⟨z.natAbs, by omega⟩
    rw [decide_eq_false h, BitVec.ofInt_natCast, BitVec.getLsbD_ofNat]
    simp [hi]
theorem jz_neg (T : Bool → Bool → Bool) (a b : Int) : decide (jz T a b < 0) = T (decide (a < 0)) (decide (b < 0)) := by
  unfold jz sg
  cases h : T (decide (a < 0)) (decide (b < 0))
  · simp
  · have := jmag_pos (T := T) (s := decide (a < 0)) (t := decide (b < 0)) a.natAbs b.natAbs h
    simp; omega
theorem jz_abs (T : Bool → Bool → Bool) (a b : Int) : (jz T a b).natAbs = jmag T (decide (a < 0)) (decide (b < 0)) a.natAbs b.natAbs := by
  unfold jz; rw [sg_nat]
theorem jz_low (T : Bool → Bool → Bool) (a b : Int) : low (T (decide (a < 0)) (decide (b < 0))) (jmag T (decide (a < 0)) (decide (b < 0)) a.natAbs b.natAbs) = jlow T (decide (a < 0)) (decide (b < 0)) a.natAbs b.natAbs := by
  unfold low jmag
  cases T (decide (a < 0)) (decide (b < 0)) <;> simp
theorem jz_bit (T : Bool → Bool → Bool) (a b : Int) (i : Nat) : bitAt (decide (jz T a b < 0)) (jz T a b).natAbs i = T (bitAt (decide (a < 0)) a.natAbs i) (bitAt (decide (b < 0)) b.natAbs i) := by
  rw [jz_neg, jz_abs]
  unfold bitAt
  rw [jz_low, jlow_bit]
  show (_ != (T (bitAt _ _ _) (bitAt _ _ _) != _)) = _
  unfold bitAt
  cases T (decide (a < 0)) (decide (b < 0)) <;> simp
theorem jz_vec (T : Bool → Bool → Bool) (a b : Int) (v : BitVec 64) (hv : ∀ i, i < 64 → v.getLsbD i = T ((BitVec.ofInt 64 a).getLsbD i) ((BitVec.ofInt 64 b).getLsbD i)) : v = BitVec.ofInt 64 (jz T a b) := by
  apply BitVec.eq_of_getLsbD_eq
  intro i hi
  rw [hv i hi, ofInt_bit _ _ hi, ofInt_bit _ _ hi, ofInt_bit _ _ hi, jz_bit]
end Go.Bg
namespace Go.Proofs.YtececkbcinmmpaaGreatDoor
open Go.RowKit Go.Bg Dg
theorem jz_fit {T : Bool → Bool → Bool} {a b : Int} (ha : fit64 a = true) (hb : fit64 b = true) : fit64 (jz T a b) = true := by
  have l1 : low (decide (a < 0)) a.natAbs < 2 ^ 63 := by
    have := fit64_bd ha
    unfold low; split <;> simp_all <;> omega
  have l2 : low (decide (b < 0)) b.natAbs < 2 ^ 63 := by
    have := fit64_bd hb
    unfold low; split <;> simp_all <;> omega
  have h := jlow_lt (T := T) l1 l2
  unfold jz jmag sg fit64
  cases T (decide (a < 0)) (decide (b < 0)) <;> simp <;> omega
theorem wrap_ofInt {z : Int} (h : fit64 z = true) : IntKind.i64.wrap ((BitVec.ofInt 64 z).toNat : Int) = z := by
  have := fit64_bd h
  rw [BitVec.toNat_ofInt, IntKind.wrap_i64]
  omega
theorem bits_andn_i64 {a b : Int} (ha : fit64 a = true) (hb : fit64 b = true) : bits .andNot .i64 a b = jz andnT a b := by
  show IntKind.i64.wrap ((BitVec.ofInt 64 a &&& ~~~ BitVec.ofInt 64 b).toNat : Int) = _
  rw [jz_vec andnT a b (BitVec.ofInt 64 a &&& ~~~ BitVec.ofInt 64 b) (fun i hi => by simp [andnT, hi]), wrap_ofInt (jz_fit ha hb)]
end Go.Proofs.YtececkbcinmmpaaGreatDoor
namespace Go.Bg
open Go.RowKit Dg
def nr4 (n : Nat) : Nat := 4 * ((n + 3) / 4)
theorem nr4_ge (n : Nat) : n ≤ nr4 n := by unfold nr4; omega
theorem nr4_le (n : Nat) : nr4 n ≤ n + 3 := by unfold nr4; omega
theorem andn_three (x : Nat) : andn x 3 = 4 * (x / 4) := by
  apply Nat.eq_of_testBit_eq
  intro i
  unfold andn
  rw [Nat.testBit_xor, Nat.testBit_and, show (3 : Nat) = 2 ^ 2 - 1 from rfl, Nat.testBit_two_pow_sub_one, show (4 : Nat) * (x / 4) = 2 ^ 2 * (x / 2 ^ 2) from rfl, Nat.testBit_two_pow_mul, Nat.testBit_div_two_pow]
  by_cases h : i < 2
  · rw [decide_eq_true h, decide_eq_false (show ¬ i ≥ 2 from by omega)]; simp
  · rw [decide_eq_false h, decide_eq_true (show i ≥ 2 from by omega), show i - 2 + 2 = i from by omega]; simp
end Go.Bg
namespace Go.Proofs.YtececkbcinmmpaaGreatDoor
open Go.RowKit Go.Bg Dg
theorem bits_round4 (n : Nat) (hn : n ≤ 1000000) : bits .andNot .i64 ((n : Int) + 3) 3 = ((nr4 n : Nat) : Int) := by
  have h := bits_andn_i64 (a := (n : Int) + 3) (b := 3) (by unfold fit64; simp; omega) (by decide)
  rw [h]
  have e : jz andnT ((n : Int) + 3) 3 = sg (andnT false false) (jmag andnT false false (n + 3) 3) := by
    unfold jz
    rw [decide_eq_false (show ¬ ((n : Int) + 3 < 0) from by omega), decide_eq_false (show ¬ ((3 : Int) < 0) from by omega), show ((n : Int) + 3).natAbs = n + 3 from by omega]
    rfl
  rw [e, jmag_andn00, andn_three]
  rfl
theorem innerSave_any (ib : Nat) (a : Option Addr) (l c : Nat) (w : World) (h : w.cell? ⟨ib, 0, none⟩ = some (.slice a l c)) :
    Calls Tryz.prog 277 #[.pointer (some ⟨ib, 0, none⟩)] w fun e w' => e = .returned (.int .i64 l) ∧ w = w' := by
  go_enter Tryz.func277, Tryz.ntmps277
  go_wp2
  go_ret
  exact ⟨rfl, rfl⟩
theorem save_none (sb : Nat) (w : World) (h : w.cell? ⟨sb, 0, none⟩ = some (.pointer none)) :
    Calls Tryz.prog 240 #[.pointer (some ⟨sb, 0, none⟩)] w fun e w' => e = .returned (.int .i64 0) ∧ w = w' := by
  go_enter Tryz.func240, Tryz.ntmps240
  go_wp2
  go_ret
  exact ⟨rfl, rfl⟩
theorem save_has (sb ib : Nat) (a : Option Addr) (l c : Nat) (w : World) (h : w.cell? ⟨sb, 0, none⟩ = some (.pointer (some ⟨ib, 0, none⟩))) (h2 : w.cell? ⟨ib, 0, none⟩ = some (.slice a l c)) :
    Calls Tryz.prog 240 #[.pointer (some ⟨sb, 0, none⟩)] w fun e w' => e = .returned (.int .i64 l) ∧ w = w' := by
  have HS := Lib.hid (innerSave_any ib a l c w h2)
  clear h2
  go_enter Tryz.func240, Tryz.ntmps240
  go_wp2_with fail
  refine HS.out.mono ?_
  rintro e w1 ⟨rfl, rfl⟩
  go_wp2
  go_ret
  exact ⟨rfl, rfl⟩
theorem innerRestore_any (ib n : Nat) (a : Option Addr) (l c : Nat) (w : World) (h : BlkAt w ib #[.slice a l c] 258) (hn : n ≤ c) (hc : c ≤ 9223372036854775807) :
    Calls Tryz.prog 276 #[.pointer (some ⟨ib, 0, none⟩), .int .i64 n] w fun e w' => e = .returned (.tuple #[]) ∧ w' = w.setCell ⟨ib, 0, none⟩ (.slice a n c) := by
  have h0 := h.cell 0
  simp only [List.getElem?_toArray, List.getElem?_cons_zero] at h0
  have f0 := h.frozen 0
  have hni : (n : Int) ≤ c := by omega
  clear h
  go_enter Tryz.func276, Tryz.ntmps276
  go_wp2
  go_end0
  exact ⟨rfl, rfl⟩
theorem restore_none_d (sb n : Nat) (u : FrameMode) (w : World) (h : w.cell? ⟨sb, 0, none⟩ = some (.pointer none)) :
    CallsD Tryz.prog 239 #[.pointer (some ⟨sb, 0, none⟩), .int .i64 n] u w fun e u' w' => u' = u ∧ (e = .returned (.tuple #[]) ∧ w' = w) := by
  go_enter_d Tryz.func239, Tryz.ntmps239
  go_wp2
  exact bodyPost_ret (results_none (by kernel_rfl) _ _ _) rfl ⟨rfl, rfl⟩
theorem restore_has_d (sb ib n : Nat) (a : Option Addr) (l c : Nat) (u : FrameMode) (w : World) (h : w.cell? ⟨sb, 0, none⟩ = some (.pointer (some ⟨ib, 0, none⟩))) (h2 : BlkAt w ib #[.slice a l c] 258) (hn : n ≤ c) (hc : c ≤ 9223372036854775807) :
    CallsD Tryz.prog 239 #[.pointer (some ⟨sb, 0, none⟩), .int .i64 n] u w fun e u' w' => u' = u ∧ (e = .returned (.tuple #[]) ∧ w' = w.setCell ⟨ib, 0, none⟩ (.slice a n c)) := by
  have HR := Lib.hid (innerRestore_any ib n a l c w h2 hn hc)
  clear h2
  go_enter_d Tryz.func239, Tryz.ntmps239
  go_wp2_with fail
  refine HR.out.mono ?_
  rintro e w1 ⟨rfl, rfl⟩
  go_wp2
  exact ⟨rfl, _, results_none (by kernel_rfl) _ _ _, rfl, rfl⟩
end Go.Proofs.YtececkbcinmmpaaGreatDoor
