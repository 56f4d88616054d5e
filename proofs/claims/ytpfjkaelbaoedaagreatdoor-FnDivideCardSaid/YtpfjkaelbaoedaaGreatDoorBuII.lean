/-
  Rat.Cmp.
  Rat.Cmp of two fractions.
  Numbers compared: match, Compare; impl.Compare.
-/
import Derived.Test.YtpfjkaelbaoedaaGreatDoorBuS
import Derived.Test.YtpfjkaelbaoedaaGreatDoorBuJ
import Derived.Test.YtpfjkaelbaoedaaGreatDoorBuG
import Derived.Defers
import Derived.Test.YtpfjkaelbaoedaaGreatDoorBuM
set_option linter.unusedSimpArgs false
set_option linter.unusedVariables false
namespace Go.Proofs.YtpfjkaelbaoedaaGreatDoor
open Go.RowKit Go.Bg Dg

set_option maxRecDepth 100000 in
theorem getStack_any (w : World) : Calls Tryz.prog 121 #[] w fun e w' => e = .returned (.pointer (some ⟨w.heap.size, 0, none⟩)) ∧ w' = w.alloc (.cells #[.pointer none] 212) := by
  go_enter Tryz.func121, Tryz.ntmps121
  go_wp2
  go_ret
  exact ⟨rfl, rfl⟩

set_option maxRecDepth 100000 in
theorem free_d (g : Nat) (u : FrameMode) (w : World) (h : w.cell? ⟨g, 0, none⟩ = some (.pointer none)) :
    CallsD Tryz.prog 122 #[.pointer (some ⟨g, 0, none⟩)] u w fun e u' w' => u' = u ∧ (e = .returned (.tuple #[]) ∧ w' = w) := by
  go_enter_d Tryz.func122, Tryz.ntmps122
  go_wp2
  go_end0
  exact ⟨rfl, rfl⟩

/-- the Int at d, p has been set -/
def SetTo (d p : Nat) (s : Bool) (R : Nat) (w : World) (e : Ending) (w' : World) : Prop := e = .returned (.tuple #[]) ∧ BigAt 181 w' d p s R ∧ UpdI 181 d p w w'

set_option maxRecDepth 100000 in
set_option maxHeartbeats 2000000 in
theorem scaleDenom_new (d p b o : Nat) (s : Bool) (N : Nat) (af : Option Addr) (nf cf F : Nat) (q : Value) (w : World) (hK : Thr w) (h : NewInt w d p) (h1 : BigAt 181 w b o s N) (h2 : BigN 181 w af nf cf F) (hF : 0 < F) (hne : b ≠ d) (L : Nat) (hL : L < 40) (hN : N < W64 ^ L) (hFL : F < W64 ^ L) :
    Calls Tryz.prog 123 #[.pointer (some ⟨d, p, none⟩), q, .pointer (some ⟨b, o, none⟩), .slice af nf cf] w (SetTo d p s (N * F) w) := by
  obtain ⟨a, n, c, p0, p1, hNN⟩ := h1.val
  have hn : n ≤ L := len_le W64_gt hNN.num.top hN
  have hnf : nf ≤ L := len_le W64_gt h2.num.top hFL
  have hnf0 : ((nf : Int) == 0) = false := by
    have hp := natAt_pos_len h2.num
    have : 0 < nf := by simpa [hF] using hp
    simp; omega
  have hcm := h2.num.cm
  have hnc := h2.num.nc
  have HZ := Lib.hid (show s = true → 0 < N * F from fun hs => Nat.mul_pos (h1.zero hs) hF)
  have HH := Lib.hid h
  have HN := Lib.hid hNN
  have H2 := Lib.hid h2
  have HK := Lib.hid hK
  have HP0 := Lib.hid p0
  have k1 := h.c1
  clear h h1 hNN hN p0 h2 hK
  go_enter Tryz.func123, Tryz.ntmps123
  go_upto_region 2 with fail
  have hd0 : ∀ q, Below w.heap.size w (w.drewN q) := fun q => below_drewN (Below.refl w.heap.size w) q
  go_region_with
    ((go_at_call 183; (with_reducible refine (natMul_nil a af n nf c cf N F _ ?_ ?_ ?_ (by omega) (by omega) (.inl (by omega)) q).mono ?_); exact HK.out.keep (hd0 _); exact HN.out.keep (hd0 _); exact H2.out.keep (hd0 _); rintro e w1 ⟨a2, n2, c2, rfl, hN2, hB⟩; have hB1 := Below.then (hd0 _) (Nat.le_refl _) hB; have HF := Lib.hid (HH.out.made hB1 (s := s) hN2 HZ.out); have h' := HH.out.keep hB1; obtain ⟨u0, k0⟩ := h'.c0; have k1' := h'.c1; have f0 := h'.blk.frozen p; have f1 := h'.blk.frozen (p + 1); have k0' : ∀ v, (w1.setCell ⟨d, p + 1, none⟩ v).cell? ⟨d, p, none⟩ = some u0 := (fun v => by rw [World.cell?_setCell_other _ _ _ _ (fun hh => by injection hh with _ hh _; omega)]; exact k0); have x0' : ∀ v, (w1.setCell ⟨d, p + 1, none⟩ v).cell? ⟨b, o, none⟩ = some (.bool s) := (fun v => by rw [World.cell?_setCell_other _ _ _ _ (fun hh => by injection hh with hh _ _; exact hne hh.symm)]; exact cell_keep HP0.out hB1); clear hN2 h'))
  all_goals
    clear p1 k1
    go_wp2
    go_end0
    exact ⟨rfl, HF.out.2⟩
end Go.Proofs.YtpfjkaelbaoedaaGreatDoor

set_option linter.unusedSimpArgs false
set_option linter.unusedVariables false
namespace Go.Proofs.YtpfjkaelbaoedaaGreatDoor
open Go.RowKit Go.Bg Dg

theorem NewInt.updU {w w1 : World} {b o d : Nat} (h : NewInt w b o) (hu : Upd (· = d) w w1) (hne : b ≠ d) : NewInt w1 b o := by
  obtain ⟨u, h0⟩ := h.c0
  exact ⟨h.blk.upd hu hne, ⟨u, by rw [hu.cell (p := ⟨b, o, none⟩) (block_lt h0) hne]; exact h0⟩, by rw [hu.cell (p := ⟨b, o + 1, none⟩) (block_lt h.c1) hne]; exact h.c1⟩

set_option maxRecDepth 100000 in
set_option maxHeartbeats 4000000 in
theorem ratCmp_any (b1 b2 : Nat) (s t : Bool) (N D M E : Nat) (w : World) (hK : Thr w) (h1 : RatAt 181 w b1 s N D) (h2 : RatAt 181 w b2 t M E) (L : Nat) (hL : L < 40) (hN : N < W64 ^ L) (hD : D < W64 ^ L) (hM : M < W64 ^ L) (hE : E < W64 ^ L) :
    Calls Tryz.prog 54 #[.pointer (some ⟨b1, 0, none⟩), .pointer (some ⟨b2, 0, none⟩)] w fun e w' => e = .returned (.int .i64 (cmpZ (sg s (N * E)) (sg t (M * D)))) ∧ Below w.heap.size w w' := by
  obtain ⟨W0, hW0⟩ : ∃ W0, W0 = (w.alloc (.cells #[.bool false, .slice none 0 0] 155)).alloc (.cells #[.bool false, .slice none 0 0] 155) := ⟨_, rfl⟩
  have HW := Lib.hid hW0
  have hb0 : Below w.heap.size w W0 := by rw [hW0]; exact Below.alloc' (Below.alloc' (Below.refl _ _) _) _
  have hs0 : W0.heap.size = w.heap.size + 1 + 1 := by rw [hW0]; simp
  have A0 : NewInt W0 w.heap.size 0 := by rw [hW0]; exact (newInt_is w).keep ((Below.refl _ _).alloc (Nat.le_refl _) _)
  have B0 : NewInt W0 (w.heap.size + 1) 0 := by rw [hW0]; simpa using newInt_is (w.alloc (.cells #[.bool false, .slice none 0 0] 155))
  have l1 : b1 < w.heap.size := h1.a.blk.lt
  have l2 : b2 < w.heap.size := h2.a.blk.lt
  have H1 := Lib.hid (h1.keep hb0)
  have H2 := Lib.hid (h2.keep hb0)
  have HK := Lib.hid (hK.keep hb0)
  have HKG := Lib.hid (show ¬ (2 : Nat) = w.heap.size from Nat.ne_of_lt (block_lt (show w.cell? ⟨2, 0, none⟩ = some (.int .i64 40) from hK)))
  have HDP := Lib.hid h1.pos
  have HEP := Lib.hid h2.pos
  have HN := Lib.hid hN
  have HD := Lib.hid hD
  have HM := Lib.hid hM
  have HE := Lib.hid hE
  clear hW0 h1 h2 hK hN hD hM hE
  go_enter_defers Tryz.func54, Tryz.ntmps54
  go_upto_region 2 with fail
  rw [← HW.out]
  go_wp2_with fail
  refine (getStack_any _).mono ?_
  rintro e w1 ⟨rfl, hw1⟩
  have hB1 : Below W0.heap.size W0 w1 := by rw [hw1]; exact Below.alloc' (Below.refl _ _) _
  have hst : BlkAt w1 W0.heap.size #[.pointer none] 212 := by rw [hw1]; exact BlkAt.new _ _ _
  have hs1 : w1.heap.size = W0.heap.size + 1 := by rw [hw1]; simp
  have A1 := A0.keep hB1
  have B1 := B0.keep hB1
  have hb1 := Below.then hb0 (Nat.le_refl _) hB1
  have H11 := Lib.hid (H1.out.keep hB1)
  have H21 := Lib.hid (H2.out.keep hB1)
  have HK1 := Lib.hid (HK.out.keep hB1)
  clear hw1 hB1 A0 B0 H1 H2 HK HW
  obtain ⟨aE, nE, cE, q0, q1, hNE⟩ := H21.out.d.val
  have q13 : w1.cell? ⟨b2, 3, none⟩ = some (.slice aE nE cE) := q1
  have HNE := Lib.hid hNE
  clear q0 q1 hNE
  have hd0 : Below w1.heap.size w1 w1.drew := (Below.refl _ _).drew
  go_upto_region 4 with fail
  go_region_held3 (fun w' => w'.cell? ⟨b2, 3, none⟩ = some (.slice aE nE cE))
    (first | with_reducible exact q13 | exact cell_keep q13 (by assumption) | with_reducible exact q23)
    ((go_at_call 123; (with_reducible refine (scaleDenom_new w.heap.size 0 b1 0 s N aE nE cE E _ _ ?_ ?_ ?_ ?_ HEP.out ?_ L hL HN.out HE.out).mono ?_); exact HK1.out.keep (by assumption); exact A1.keep (by assumption); exact H11.out.a.keep (by assumption); exact HNE.out.keep (by assumption); exact Nat.ne_of_lt l1; rintro e w2 ⟨rfl, hI, hU⟩; have q23 : w2.cell? ⟨b2, 3, none⟩ = some (.slice aE nE cE) := (by rw [hU.upd.cell (p := ⟨b2, 3, none⟩) (block_lt (cell_keep q13 hd0)) (Nat.ne_of_lt l2)]; exact cell_keep q13 hd0)))
  have hsz2 : w.heap.size ≤ w1.drew.heap.size := Nat.le_trans hb1.size hd0.size
  have hB2 := hU.upd.below (Below.then hb1 (Nat.le_refl _) hd0) hsz2 (fun k _ e => by subst e; exact Nat.le_refl _)
  have A2 := Lib.hid hI
  have hns : ∀ k, k < w1.drew.heap.size → k = w.heap.size → Strct 181 w1.drew k := fun k _ e => by subst e; exact (A1.keep hd0).blk
  have H12 := Lib.hid ((H11.out.keep hd0).upd hU.upd (Nat.ne_of_lt l1) hns)
  have H22 := Lib.hid ((H21.out.keep hd0).upd hU.upd (Nat.ne_of_lt l2) hns)
  have B2 := NewInt.updU (B1.keep hd0) hU.upd (Nat.succ_ne_self _)
  have S2 := hU.upd.blk (hst.keep hd0) (show ¬ W0.heap.size = w.heap.size from by omega)
  have HK2 := Lib.hid (show Thr w2 from by
    have h0 := HK1.out.keep hd0
    unfold Thr at h0 ⊢
    rw [hU.upd.cell (block_lt h0) HKG.out]
    exact h0)
  clear hI hU q13 q23 A1 B1 hb1 hst H11 H21 HK1 hd0 hns HNE hsz2
  obtain ⟨aD, nD, cD, q0, q1, hND⟩ := H12.out.d.val
  have q13 : w2.cell? ⟨b1, 3, none⟩ = some (.slice aD nD cD) := q1
  have HND := Lib.hid hND
  clear q0 q1 hND
  have hd0 : Below w2.heap.size w2 w2.drew := (Below.refl _ _).drew
  go_upto_region 5 with fail
  go_region_held3 (fun w' => w'.cell? ⟨b1, 3, none⟩ = some (.slice aD nD cD))
    (first | with_reducible exact q13 | exact cell_keep q13 (by assumption) | with_reducible exact q23)
    ((go_at_call 123; (with_reducible refine (scaleDenom_new (w.heap.size + 1) 0 b2 0 t M aD nD cD D _ _ ?_ ?_ ?_ ?_ HDP.out ?_ L hL HM.out HD.out).mono ?_); exact HK2.out.keep (by assumption); exact B2.keep (by assumption); exact H22.out.a.keep (by assumption); exact HND.out.keep (by assumption); exact Nat.ne_of_lt (Nat.lt_succ_of_lt l2); rintro e w3 ⟨rfl, hI, hU⟩; have q23 : w3.cell? ⟨b1, 3, none⟩ = some (.slice aD nD cD) := (by rw [hU.upd.cell (p := ⟨b1, 3, none⟩) (block_lt (cell_keep q13 hd0)) (Nat.ne_of_lt (Nat.lt_succ_of_lt l1))]; exact cell_keep q13 hd0)))
  have hsz3 : w.heap.size ≤ w2.drew.heap.size := Nat.le_trans hB2.size hd0.size
  have hB3 := hU.upd.below (Below.then hB2 (Nat.le_refl _) hd0) hsz3 (fun k _ e => by subst e; exact Nat.le_add_right _ 1)
  have hns : ∀ k, k < w2.drew.heap.size → k = w.heap.size + 1 → Strct 181 w2.drew k := fun k _ e => by subst e; exact (B2.keep hd0).blk
  have A3 := Lib.hid ((A2.out.keep hd0).upd hU.upd (Nat.ne_of_lt (Nat.lt_succ_self _)) hns)
  have B3 := Lib.hid hI
  have S3 := hU.upd.blk (S2.keep hd0) (show ¬ W0.heap.size = w.heap.size + 1 from by omega)
  have HB3 := Lib.hid hB3
  have HS3 := Lib.hid S3
  clear hI hU q13 q23 A2 B2 S2 hB2 H12 H22 HK2 hd0 hns HND hsz3 hB3 S3
  go_wp2_with fail
  refine (intCmp_any w.heap.size 0 (w.heap.size + 1) 0 s t (N * E) (M * D) _ A3.out B3.out).mono ?_
  rintro e w4 ⟨rfl, hd⟩
  have hb4 : Below w3.heap.size w3 w4 := below_of_drewN hd
  have hst4 := (HS3.out.keep hb4).cell 0
  simp only [List.getElem?_toArray, List.getElem?_cons_zero] at hst4
  rw [hs0] at hst4
  have HB4 := Lib.hid (Below.then HB3.out (Nat.le_refl _) hb4)
  clear hd hb4
  go_wp2
  refine leaves_cons (f := 122) (args := #[.pointer (some ⟨w.heap.size + 1 + 1, 0, none⟩)]) (by simp) (by simp [go_sem]) ?_
  refine (free_d _ .returning _ hst4).mono ?_
  rintro e u' w'' ⟨rfl, rfl, rfl⟩
  exact ⟨_, results_tmp rfl _ _ _, rfl, HB4.out⟩
end Go.Proofs.YtpfjkaelbaoedaaGreatDoor

set_option linter.unusedSimpArgs false
set_option linter.unusedVariables false
namespace Go.Proofs.YtpfjkaelbaoedaaGreatDoor
open Go.RowKit Go.Bg Dg

/-- the order of two fractions -/
def cmpQ (r q : Rt) : Int := cmpZ (sg r.neg (r.num * q.den)) (sg q.neg (q.num * r.den))
theorem signOf_over (s : Bool) (N D : Nat) : Rt.signOf (Rt.over s N D) = cmpZ (sg s N) 0 := by
  unfold Rt.signOf Rt.over cmpZ sg
  by_cases hN : N = 0
  · subst hN; cases s <;> simp
  · have h0 : 0 < N := by omega
    have hq : N / Nat.gcd N D ≠ 0 := by
      have := Nat.div_pos (Nat.le_of_dvd h0 (Nat.gcd_dvd_left N D)) (Nat.gcd_pos_of_pos_left D h0)
      omega
    have h1 : ¬ ((N : Int) < 0) := by omega
    have h2 : (0 : Int) < N := by omega
    have h3 : -(N : Int) < 0 := by omega
    cases s
    · simp [hq, h1, h2, hN]
    · simp [hq, h0, h3]
theorem signOf_minus {x y : Rt} (hx : 0 < x.den) : Rt.signOf (Rt.minus x y) = cmpQ x y := by
  have hB : y.num = 0 → y.num * x.den = 0 := fun h => by rw [h, Nat.zero_mul]
  have hB2 : 0 < y.num → 0 < y.num * x.den := fun h => Nat.mul_pos h hx
  unfold Rt.minus Rt.plus Rt.negated cmpQ
  simp only
  generalize x.num * y.den = A at *
  generalize y.num * x.den = B at *
  generalize x.den * y.den = D
  by_cases hy : 0 < y.num
  · have hb := hB2 hy
    cases x.neg <;> cases y.neg <;> simp only [hy, decide_true, Bool.not_false, Bool.not_true, Bool.and_true, Bool.and_self, if_true, if_false, Bool.false_eq_true, Bool.true_eq_false]
    · split
      · rw [signOf_over]; unfold cmpZ sg; simp only [Bool.false_eq_true, if_false]; split <;> split <;> (try split) <;> (try split) <;> omega
      · rw [signOf_over]; unfold cmpZ sg; simp only [Bool.false_eq_true, if_false, if_true]; split <;> split <;> (try split) <;> (try split) <;> omega
    · rw [signOf_over]; unfold cmpZ sg; simp only [Bool.false_eq_true, if_false, if_true]; split <;> split <;> (try split) <;> (try split) <;> omega
    · rw [signOf_over]; unfold cmpZ sg; simp only [Bool.false_eq_true, if_false, if_true]; split <;> split <;> (try split) <;> (try split) <;> omega
    · split
      · rw [signOf_over]; unfold cmpZ sg; simp only [Bool.false_eq_true, if_false, if_true]; split <;> split <;> (try split) <;> (try split) <;> omega
      · rw [signOf_over]; unfold cmpZ sg; simp only [Bool.false_eq_true, if_false, if_true]; split <;> split <;> (try split) <;> (try split) <;> omega
  · have hb := hB (by omega)
    subst hb
    have hd : decide (0 < y.num) = false := decide_eq_false hy
    cases x.neg <;> cases y.neg <;> simp only [hd, Bool.and_false, if_true, if_false, Bool.false_eq_true, Bool.true_eq_false, Nat.zero_le, Nat.sub_zero, Nat.add_zero] <;> rw [signOf_over] <;> simp [cmpZ, sg]
theorem cmpQ_rz (x y : Int) : cmpQ (rz x) (rz y) = cmpZ x y := by
  show cmpZ (sg (decide (x < 0)) (x.natAbs * 1)) (sg (decide (y < 0)) (y.natAbs * 1)) = _
  rw [Nat.mul_one, Nat.mul_one, sg_natAbs, sg_natAbs]

set_option maxRecDepth 100000 in
set_option maxHeartbeats 1000000 in
theorem ordRat_any (v : Value) (r : Rt) (w : World) (h : CRat w v r) :
    Calls Tryz.prog 118 #[v] w fun e w' => e = .returned (.int .i64 4) ∧ w = w' := by
  obtain ⟨b, s, N, D, rfl, -, -⟩ := h
  obtain ⟨t1, t2, t3, t4, t5, t6, t7, t8, t9⟩ := ta_ratVal
  go_enter Tryz.func118, Tryz.ntmps118
  go_wp2
  go_ret
  exact ⟨rfl, rfl⟩

set_option maxRecDepth 100000 in
set_option maxHeartbeats 1000000 in
theorem match0IR_any (v1 v2 : Value) (z : Int) (r : Rt) (w : World) (h1 : CInt w v1 z) (h2 : CRat w v2 r) (L : Nat) (hL : L ≤ 63) (hz : z.natAbs < W64 ^ L) :
    Calls Tryz.prog 119 #[v1, v2] w fun e w' => ∃ u, e = .returned (.tuple #[u, v2]) ∧ CRat w' u (rz z) ∧ CRat w' v2 r ∧ Below w.heap.size w w' := by
  have H2 := Lib.hid h2
  obtain ⟨b', s', N', D', rfl, -, -⟩ := h2
  obtain ⟨q1, q2, q3, q4, q5, q6, q7, q8, q9⟩ := ta_ratVal
  rcases h1 with ⟨rfl, hf⟩ | ⟨b, o, s, N, rfl, hI, rfl⟩
  · obtain ⟨t1, t2, t3, t4, t5, t6, t7, t8, t9⟩ := ta_int64Val
    have HF := Lib.hid (fit64_bd hf)
    clear hf hz
    go_enter Tryz.func119, Tryz.ntmps119
    go_wp2_with fail
    refine (i64tor_any z HF.out _).mono ?_
    rintro e w1 ⟨b, rfl, hR, hB⟩
    have HR := Lib.hid hR
    have HB := Lib.hid hB
    clear hR hB
    go_wp2
    exact bodyPost_ret (v := .tuple #[.iface 93 (.agg #[.pointer (some ⟨b, 0, none⟩)]), .iface 93 (.agg #[.pointer (some ⟨b', 0, none⟩)])]) (by simp [results, Tryz.results119, go_sem]) rfl
      ⟨_, rfl, ⟨b, _, _, _, rfl, HR.out, rfl⟩, H2.out.keep HB.out, HB.out⟩
  · obtain ⟨t1, t2, t3, t4, t5, t6, t7, t8, t9⟩ := ta_intVal
    have HN := Lib.hid (show N < W64 ^ L from by rwa [sg_nat] at hz)
    obtain ⟨W0, hW0⟩ : ∃ W0, W0 = w.alloc (.cells #[.pointer (some ⟨b, o, none⟩)] 88) := ⟨_, rfl⟩
    have HW := Lib.hid hW0
    have hb0 : Below w.heap.size w W0 := by rw [hW0]; exact Below.alloc' (Below.refl _ _) _
    have hx : W0.cell? ⟨w.heap.size, 0, none⟩ = some (.pointer (some ⟨b, o, none⟩)) := by rw [hW0]; exact alloc_new _ _ _ rfl rfl
    have HH := Lib.hid (hI.keep hb0)
    have HZ := Lib.hid hI.zero
    clear hW0 hI hz
    go_enter Tryz.func119, Tryz.ntmps119
    go_wp2_with fail
    rw [← HW.out]
    refine (itor_any b o s N L _ HH.out (by omega) HN.out).mono ?_
    rintro e w1 ⟨b2, rfl, hR, hB⟩
    have HR := Lib.hid hR
    have HB := Lib.hid (Below.then hb0 (Nat.le_refl _) hB)
    clear hR hB hb0
    go_wp2
    exact bodyPost_ret (v := .tuple #[.iface 93 (.agg #[.pointer (some ⟨b2, 0, none⟩)]), .iface 93 (.agg #[.pointer (some ⟨b', 0, none⟩)])]) (by simp [results, Tryz.results119, go_sem]) rfl
      ⟨_, rfl, ⟨b2, _, _, _, rfl, HR.out, (rz_sg HZ.out).symm⟩, H2.out.keep HB.out, HB.out⟩

theorem ordOf_or {w : World} {v : Value} {z : Int} (h : CInt w v z) : ordOf v = 2 ∨ ordOf v = 3 := by
  rcases h with ⟨rfl, _⟩ | ⟨b, o, s, N, rfl, _, _⟩
  · exact .inl rfl
  · exact .inr rfl

/-- two numbers, matched as fractions -/
def MatR (r q : Rt) (w : World) (e : Ending) (w' : World) : Prop := ∃ u1 u2, e = .returned (.tuple #[u1, u2]) ∧ CRat w' u1 r ∧ CRat w' u2 q ∧ Below w.heap.size w w'

set_option maxRecDepth 100000 in
set_option maxHeartbeats 1000000 in
theorem matchRR_any (v1 v2 : Value) (r q : Rt) (w : World) (h1 : CRat w v1 r) (h2 : CRat w v2 q) : Calls Tryz.prog 51 #[v1, v2] w (MatR r q w) := by
  have H1 := Lib.hid h1
  have H2 := Lib.hid h2
  clear h1 h2
  go_enter Tryz.func51, Tryz.ntmps51
  go_wp2_with fail
  refine (ordRat_any _ r _ H1.out).mono ?_
  rintro e w1 ⟨rfl, rfl⟩
  go_wp2_with fail
  refine (ordRat_any _ q _ H2.out).mono ?_
  rintro e w1 ⟨rfl, rfl⟩
  go_wp2
  exact bodyPost_ret (v := .tuple #[v1, v2]) (by simp [results, Tryz.results51, go_sem]) rfl ⟨_, _, rfl, H1.out, H2.out, Below.refl _ _⟩

set_option maxRecDepth 100000 in
set_option maxHeartbeats 1000000 in
theorem matchIR_any (v1 v2 : Value) (z : Int) (q : Rt) (w : World) (h1 : CInt w v1 z) (h2 : CRat w v2 q) (L : Nat) (hL : L ≤ 63) (hz : z.natAbs < W64 ^ L) : Calls Tryz.prog 51 #[v1, v2] w (MatR (rz z) q w) := by
  have ho := ordOf_or h1
  have H1 := Lib.hid h1
  have H2 := Lib.hid h2
  have HZ := Lib.hid hz
  clear h1 h2 hz
  go_enter Tryz.func51, Tryz.ntmps51
  go_wp2_with fail
  refine (ordInt_any _ z _ H1.out).mono ?_
  rintro e w1 ⟨rfl, rfl⟩
  go_wp2_with fail
  refine (ordRat_any _ q _ H2.out).mono ?_
  rintro e w1 ⟨rfl, rfl⟩
  generalize ordOf v1 = k at *
  rcases ho with rfl | rfl
  all_goals
    go_wp2_with fail
    refine (match0IR_any v1 v2 z q _ H1.out H2.out L hL HZ.out).mono ?_
    rintro e w1 ⟨u, rfl, hu, hv, hB⟩
    have HU := Lib.hid hu
    have HV := Lib.hid hv
    have HB := Lib.hid hB
    clear hu hv hB
    go_wp2
    exact bodyPost_ret (v := .tuple #[u, v2]) (by simp [results, Tryz.results51, go_sem]) rfl ⟨_, _, rfl, HU.out, HV.out, HB.out⟩

set_option maxRecDepth 100000 in
set_option maxHeartbeats 1000000 in
theorem matchRI_any (v1 v2 : Value) (z : Int) (q : Rt) (w : World) (h1 : CInt w v1 z) (h2 : CRat w v2 q) (L : Nat) (hL : L ≤ 63) (hz : z.natAbs < W64 ^ L) : Calls Tryz.prog 51 #[v2, v1] w (MatR q (rz z) w) := by
  have ho := ordOf_or h1
  have H1 := Lib.hid h1
  have H2 := Lib.hid h2
  have HZ := Lib.hid hz
  clear h1 h2 hz
  go_enter Tryz.func51, Tryz.ntmps51
  go_wp2_with fail
  refine (ordRat_any _ q _ H2.out).mono ?_
  rintro e w1 ⟨rfl, rfl⟩
  go_wp2_with fail
  refine (ordInt_any _ z _ H1.out).mono ?_
  rintro e w1 ⟨rfl, rfl⟩
  generalize ordOf v1 = k at *
  rcases ho with rfl | rfl
  all_goals
    go_wp2_with fail
    refine (match0IR_any v1 v2 z q _ H1.out H2.out L hL HZ.out).mono ?_
    rintro e w1 ⟨u, rfl, hu, hv, hB⟩
    have HU := Lib.hid hu
    have HV := Lib.hid hv
    have HB := Lib.hid hB
    clear hu hv hB
    go_wp2
    exact bodyPost_ret (v := .tuple #[v2, u]) (by simp [results, Tryz.results51, go_sem]) rfl ⟨_, _, rfl, HV.out, HU.out, HB.out⟩

theorem field_ratVal (p : Value) (w : World) : (Instr.field 93 (.agg #[p]) 0).run Tryz.prog w = .ok p w := by kernel_rfl

set_option maxRecDepth 100000 in
set_option maxHeartbeats 2000000 in
theorem compareMat_any (k : Nat) (hk : k < 6) (v1 v2 : Value) (r q : Rt) (w : World) (hK : Thr w) (hm : Calls Tryz.prog 51 #[v1, v2] w (MatR r q w)) (L : Nat) (hL : L < 40) (hr : r.num < W64 ^ L ∧ r.den < W64 ^ L) (hq : q.num < W64 ^ L ∧ q.den < W64 ^ L) :
    Calls Tryz.prog 33 #[v1, .int .i64 (cmpTok k), v2] w fun e w' => e = .returned (.bool (cmpB k (cmpQ r q))) ∧ Below w.heap.size w w' := by
  have HM := Lib.hid hm
  have HK := Lib.hid hK
  clear hm hK
  go_enter Tryz.func33, Tryz.ntmps33
  go_wp2_with fail
  refine HM.out.mono ?_
  rintro e w1 ⟨u1, u2, rfl, ⟨b1, s, N, D, rfl, hR, rfl⟩, ⟨b2, t, M, E, rfl, hQ, rfl⟩, hB⟩
  obtain ⟨t1, t2, t3, t4, t5, t6, t7, t8, t9⟩ := ta_ratVal
  have HR := Lib.hid hR
  have HQ := Lib.hid hQ
  have HB := Lib.hid hB
  have hfld := field_ratVal
  clear hR hQ hB
  obtain ⟨W2, hW2⟩ : ∃ W2, W2 = w1.alloc (.cells #[.pointer (some ⟨b1, 0, none⟩)] 93) := ⟨_, rfl⟩
  have hb2 : Below w1.heap.size w1 W2 := by rw [hW2]; exact Below.alloc' (Below.refl _ _) _
  have c0 : W2.cell? ⟨w1.heap.size, 0, none⟩ = some (.pointer (some ⟨b1, 0, none⟩)) := by rw [hW2]; exact alloc_new _ _ _ rfl rfl
  have HW2 := Lib.hid hW2
  clear hW2
  go_wp2_with fail
  rw [← HW2.out]
  have HB2 := Lib.hid (Below.then HB.out (Nat.le_refl _) hb2)
  have HR2 := Lib.hid (HR.out.keep hb2)
  have HQ2 := Lib.hid (HQ.out.keep hb2)
  have HK2 := Lib.hid (HK.out.keep HB2.out)
  have hd0 : Below W2.heap.size W2 W2.drew := (Below.refl _ _).drew
  clear HR HQ HK hb2 HW2
  go_region_held3 (fun w' => w'.cell? ⟨w1.heap.size, 0, none⟩ = some (.pointer (some ⟨b1, 0, none⟩)))
    (first | with_reducible exact c0 | exact cell_keep c0 (by assumption))
    (first | (go_at_call 54; (with_reducible refine (ratCmp_any b1 b2 s t N D M E _ ?_ ?_ ?_ L hL hr.1 hr.2 hq.1 hq.2).mono ?_); exact HK2.out.keep (by assumption); exact HR2.out.keep (by assumption); exact HQ2.out.keep (by assumption); rintro e w3 ⟨rfl, hB3⟩; have hb3 := Below.then hd0 (Nat.le_refl _) hB3) | (go_at_call 52; (with_reducible refine (cmpZero_any k hk _ _).mono ?_); rintro e w4 ⟨rfl, rfl⟩))
  go_wp2
  go_ret
  exact ⟨rfl, Below.then HB2.out (Nat.le_refl _) hb3⟩

/-- two numbers compared -/
theorem compareNum_any (k : Nat) (hk : k < 6) (v1 v2 : Value) (r q : Rt) (w : World) (hK : Thr w) (h1 : CNum w v1 r) (h2 : CNum w v2 q) (L : Nat) (hL0 : 1 ≤ L) (hL : L < 40) (hr : r.num < W64 ^ L ∧ r.den < W64 ^ L) (hq : q.num < W64 ^ L ∧ q.den < W64 ^ L) :
    Calls Tryz.prog 33 #[v1, .int .i64 (cmpTok k), v2] w fun e w' => e = .returned (.bool (cmpB k (cmpQ r q))) ∧ Below w.heap.size w w' := by
  rcases h1 with ⟨x, h1, rfl⟩ | h1
  · rcases h2 with ⟨y, h2, rfl⟩ | h2
    · rw [cmpQ_rz]
      exact compareInt_any k hk v1 v2 x y w h1 h2
    · exact compareMat_any k hk v1 v2 (rz x) q w hK (matchIR_any v1 v2 x q w h1 h2 L (by omega) hr.1) L hL hr hq
  · rcases h2 with ⟨y, h2, rfl⟩ | h2
    · exact compareMat_any k hk v1 v2 r (rz y) w hK (matchRI_any v2 v1 y r w h2 h1 L (by omega) hq.1) L hL hr hq
    · exact compareMat_any k hk v1 v2 r q w hK (matchRR_any v1 v2 r q w h1 h2) L hL hr hq

set_option maxRecDepth 100000 in
set_option maxHeartbeats 2000000 in
theorem implCompareNum_any (k : Nat) (hk : k < 6) (x y : Vl) (r q : Rt) (w : World) (hK : Thr w) (h1 : VlAt w x) (h2 : VlAt w y) (m1 : NumV x r) (m2 : NumV y q) (L : Nat) (hL0 : 1 ≤ L) (hL : L < 40) (hr : r.num < W64 ^ L ∧ r.den < W64 ^ L) (hq : q.num < W64 ^ L ∧ q.den < W64 ^ L) :
    Calls Tryz.prog 13 #[.int .i64 k, .agg #[.int .i64 x.kind, .bool x.truth, .string x.text, .bool x.neg, .slice x.wa x.wn x.wc, .slice x.da x.dn x.dc, .bool x.ineg, .slice x.ia x.inn x.ic, .slice x.ea x.en x.ec], .agg #[.int .i64 y.kind, .bool y.truth, .string y.text, .bool y.neg, .slice y.wa y.wn y.wc, .slice y.da y.dn y.dc, .bool y.ineg, .slice y.ia y.inn y.ic, .slice y.ea y.en y.ec]] w fun e w' => e = .returned (.bool (cmpB k (cmpQ r q))) ∧ Below w.heap.size w w' := by
  obtain ⟨W0, hW0⟩ : ∃ W0, W0 = (w.alloc (.cells #[.int .i64 x.kind, .bool x.truth, .string x.text, .bool x.neg, .slice x.wa x.wn x.wc, .slice x.da x.dn x.dc, .bool x.ineg, .slice x.ia x.inn x.ic, .slice x.ea x.en x.ec] 26)).alloc (.cells #[.int .i64 y.kind, .bool y.truth, .string y.text, .bool y.neg, .slice y.wa y.wn y.wc, .slice y.da y.dn y.dc, .bool y.ineg, .slice y.ia y.inn y.ic, .slice y.ea y.en y.ec] 26) := ⟨_, rfl⟩
  have HW := Lib.hid hW0
  have hb0 : Below w.heap.size w W0 := by rw [hW0]; exact Below.alloc' (Below.alloc' (Below.refl _ _) _) _
  have X : Box9 W0 w.heap.size x := by rw [hW0]; exact (Box9.new w x _ rfl).alloc _
  have Y : Box9 W0 (w.heap.size + 1) y := by rw [hW0]; exact Box9.new _ y _ (by simp)
  have HX := Lib.hid (h1.keep hb0)
  have HY := Lib.hid (h2.keep hb0)
  have HK := Lib.hid (hK.keep hb0)
  have M1 := Lib.hid m1
  have M2 := Lib.hid m2
  clear hW0 h1 h2 m1 m2 hK
  go_enter Tryz.func13, Tryz.ntmps13
  go_upto_region 1 with fail
  rw [← HW.out]
  go_wp2_with fail
  refine (comparison_any k hk _).mono ?_
  rintro e w1 ⟨rfl, hB1⟩
  have hb1 := Below.then hb0 (Nat.le_refl _) hB1
  have X1 := X.keep hB1
  have Y1 := Y.keep hB1
  have HX1 := Lib.hid (HX.out.keep hB1)
  have HY1 := Lib.hid (HY.out.keep hB1)
  have HK1 := Lib.hid (HK.out.keep hB1)
  go_wp2_with fail
  have hd0 : Below w1.heap.size w1 w1.drew := (Below.refl _ _).drew
  go_region_held3 (fun w' => (w'.cell? ⟨w.heap.size, 0, none⟩ = some (.int .i64 x.kind) ∧ w'.cell? ⟨w.heap.size, 1, none⟩ = some (.bool x.truth) ∧ w'.cell? ⟨w.heap.size, 2, none⟩ = some (.string x.text) ∧ w'.cell? ⟨w.heap.size, 3, none⟩ = some (.bool x.neg) ∧ w'.cell? ⟨w.heap.size, 4, none⟩ = some (.slice x.wa x.wn x.wc) ∧ w'.cell? ⟨w.heap.size, 5, none⟩ = some (.slice x.da x.dn x.dc) ∧ w'.cell? ⟨w.heap.size, 6, none⟩ = some (.bool x.ineg) ∧ w'.cell? ⟨w.heap.size, 7, none⟩ = some (.slice x.ia x.inn x.ic) ∧ w'.cell? ⟨w.heap.size, 8, none⟩ = some (.slice x.ea x.en x.ec)) ∧ (w'.cell? ⟨(w.heap.size + 1), 0, none⟩ = some (.int .i64 y.kind) ∧ w'.cell? ⟨(w.heap.size + 1), 1, none⟩ = some (.bool y.truth) ∧ w'.cell? ⟨(w.heap.size + 1), 2, none⟩ = some (.string y.text) ∧ w'.cell? ⟨(w.heap.size + 1), 3, none⟩ = some (.bool y.neg) ∧ w'.cell? ⟨(w.heap.size + 1), 4, none⟩ = some (.slice y.wa y.wn y.wc) ∧ w'.cell? ⟨(w.heap.size + 1), 5, none⟩ = some (.slice y.da y.dn y.dc) ∧ w'.cell? ⟨(w.heap.size + 1), 6, none⟩ = some (.bool y.ineg) ∧ w'.cell? ⟨(w.heap.size + 1), 7, none⟩ = some (.slice y.ia y.inn y.ic) ∧ w'.cell? ⟨(w.heap.size + 1), 8, none⟩ = some (.slice y.ea y.en y.ec)))
    (first | with_reducible exact ⟨X1.all, Y1.all⟩ | with_reducible exact ⟨(X1.keep (by assumption)).all, (Y1.keep (by assumption)).all⟩)
    (first | (go_at_call 34; (with_reducible refine (madeNum_any x r _ ?_ M1.out).mono ?_); exact HX1.out.keep (by assumption); rintro e w2 ⟨u1, rfl, hu1, hB2⟩; have hb2 := Below.then hd0 (Nat.le_refl _) hB2) | (go_at_call 34; (with_reducible refine (madeNum_any y q _ ?_ M2.out).mono ?_); exact HY1.out.keep (by assumption); rintro e w3 ⟨u2, rfl, hu2, hB3⟩; have hb3 := Below.then hb2 (Nat.le_refl _) hB3) | (go_at_call 33; (with_reducible refine (compareNum_any k hk u1 u2 r q _ ?_ ?_ ?_ L hL0 hL hr hq).mono ?_); exact HK1.out.keep hb3; exact hu1.keep hB3; exact hu2; rintro e w4 ⟨rfl, hB4⟩; have hb4 := Below.then hb3 (Nat.le_refl _) hB4))
  go_wp2
  go_ret
  exact ⟨rfl, Below.then hb1 (Nat.le_refl _) hb4⟩
end Go.Proofs.YtpfjkaelbaoedaaGreatDoor
