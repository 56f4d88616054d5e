/-
  The package's small operations on numbers: MakeImag, Real, Imag, ToComplex, ToFloat, Num, Denom.
  Fractions: Rat.SetInt64, Set, Neg; UnaryOp; ToFloat, Num, Denom.
  A complex number told; any number told.
-/
import Derived.Test.YtdkipndepkblhaaGreatDoorBuL
import Derived.Test.YtdkipndepkblhaaGreatDoorBuK
set_option linter.unusedSimpArgs false
set_option linter.unusedVariables false
namespace Go.Proofs.YtdkipndepkblhaaGreatDoor
open Go.RowKit Go.Bg Dg

/-- a complex number of the package -/
def CCpx (w : World) (v : Value) (r q : Rt) : Prop := ∃ v1 v2, v = .iface 106 (.agg #[v1, v2]) ∧ CNum w v1 r ∧ CNum w v2 q
theorem CCpx.keep {w w' : World} {v : Value} {r q : Rt} (h : CCpx w v r q) (hb : Below w.heap.size w w') : CCpx w' v r q := by
  obtain ⟨v1, v2, e, h1, h2⟩ := h; exact ⟨v1, v2, e, h1.keep hb, h2.keep hb⟩

/-- a number has one of three forms -/
theorem CNum.form {w : World} {v : Value} {r : Rt} (h : CNum w v r) : (∃ z, v = .iface 82 (.int .i64 z)) ∨ (∃ p, v = .iface 93 (.agg #[p])) ∨ (∃ p, v = .iface 97 (.agg #[p])) := by
  rcases h with ⟨z, ⟨rfl, _⟩ | ⟨b, o, s, N, rfl, _, _⟩, _⟩ | ⟨b, s, N, D, rfl, _, _⟩
  · exact .inl ⟨_, rfl⟩
  · exact .inr (.inl ⟨_, rfl⟩)
  · exact .inr (.inr ⟨_, rfl⟩)

theorem CNum.iface {w : World} {v : Value} {r : Rt} (h : CNum w v r) : ∃ t x, v = .iface t x := by
  rcases h.form with ⟨z, rfl⟩ | ⟨p, rfl⟩ | ⟨p, rfl⟩ <;> exact ⟨_, _, rfl⟩

/-- the forms of numbers -/
def NForm (v : Value) : Prop := (∃ z, v = .iface 82 (.int .i64 z)) ∨ (∃ p, v = .iface 93 (.agg #[p])) ∨ (∃ p, v = .iface 97 (.agg #[p]))

theorem cnum_zero (w : World) : CNum w (.iface 82 (.int .i64 0)) (rz 0) := .inl ⟨0, .inl ⟨rfl, by decide⟩, rfl⟩

set_option maxRecDepth 100000 in
set_option maxHeartbeats 4000000 in
theorem makeComplex_any (v1 v2 : Value) (w : World) (h1 : NForm v1) (h2 : NForm v2) :
    Calls Tryz.prog 92 #[v1, v2] w fun e w' => e = .returned (.iface 106 (.agg #[v1, v2])) ∧ Below w.heap.size w w' := by
  rcases h1 with ⟨z, rfl⟩ | ⟨p, rfl⟩ | ⟨p, rfl⟩
  · have m1 := methodKind64
    rcases h2 with ⟨y, rfl⟩ | ⟨q, rfl⟩ | ⟨q, rfl⟩
    · go_enter Tryz.func92, Tryz.ntmps92
      go_wp2_with fail
      refine (kind64_any _ _).mono ?_
      rintro e w1 ⟨rfl, hB1⟩
      go_wp2_with fail
      refine (kind64_any _ _).mono ?_
      rintro e w2 ⟨rfl, hB2⟩
      have hb := Below.then hB1 (Nat.le_refl _) hB2
      go_wp2
      go_ret
      exact ⟨rfl, hb⟩
    · have m2 := methodKindInt
      go_enter Tryz.func92, Tryz.ntmps92
      go_wp2_with fail
      refine (kind64_any _ _).mono ?_
      rintro e w1 ⟨rfl, hB1⟩
      go_wp2_with fail
      refine (kindInt_any _ _).mono ?_
      rintro e w2 ⟨rfl, hB2⟩
      have hb := Below.then hB1 (Nat.le_refl _) hB2
      go_wp2
      go_ret
      exact ⟨rfl, hb⟩
    · have m2 := methodKindRat
      go_enter Tryz.func92, Tryz.ntmps92
      go_wp2_with fail
      refine (kind64_any _ _).mono ?_
      rintro e w1 ⟨rfl, hB1⟩
      go_wp2_with fail
      refine (kindRat_any _ _).mono ?_
      rintro e w2 ⟨rfl, hB2⟩
      have hb := Below.then hB1 (Nat.le_refl _) hB2
      go_wp2
      go_ret
      exact ⟨rfl, hb⟩
  · have m1 := methodKindInt
    rcases h2 with ⟨y, rfl⟩ | ⟨q, rfl⟩ | ⟨q, rfl⟩
    · have m2 := methodKind64
      go_enter Tryz.func92, Tryz.ntmps92
      go_wp2_with fail
      refine (kindInt_any _ _).mono ?_
      rintro e w1 ⟨rfl, hB1⟩
      go_wp2_with fail
      refine (kind64_any _ _).mono ?_
      rintro e w2 ⟨rfl, hB2⟩
      have hb := Below.then hB1 (Nat.le_refl _) hB2
      go_wp2
      go_ret
      exact ⟨rfl, hb⟩
    · go_enter Tryz.func92, Tryz.ntmps92
      go_wp2_with fail
      refine (kindInt_any _ _).mono ?_
      rintro e w1 ⟨rfl, hB1⟩
      go_wp2_with fail
      refine (kindInt_any _ _).mono ?_
      rintro e w2 ⟨rfl, hB2⟩
      have hb := Below.then hB1 (Nat.le_refl _) hB2
      go_wp2
      go_ret
      exact ⟨rfl, hb⟩
    · have m2 := methodKindRat
      go_enter Tryz.func92, Tryz.ntmps92
      go_wp2_with fail
      refine (kindInt_any _ _).mono ?_
      rintro e w1 ⟨rfl, hB1⟩
      go_wp2_with fail
      refine (kindRat_any _ _).mono ?_
      rintro e w2 ⟨rfl, hB2⟩
      have hb := Below.then hB1 (Nat.le_refl _) hB2
      go_wp2
      go_ret
      exact ⟨rfl, hb⟩
  · have m1 := methodKindRat
    rcases h2 with ⟨y, rfl⟩ | ⟨q, rfl⟩ | ⟨q, rfl⟩
    · have m2 := methodKind64
      go_enter Tryz.func92, Tryz.ntmps92
      go_wp2_with fail
      refine (kindRat_any _ _).mono ?_
      rintro e w1 ⟨rfl, hB1⟩
      go_wp2_with fail
      refine (kind64_any _ _).mono ?_
      rintro e w2 ⟨rfl, hB2⟩
      have hb := Below.then hB1 (Nat.le_refl _) hB2
      go_wp2
      go_ret
      exact ⟨rfl, hb⟩
    · have m2 := methodKindInt
      go_enter Tryz.func92, Tryz.ntmps92
      go_wp2_with fail
      refine (kindRat_any _ _).mono ?_
      rintro e w1 ⟨rfl, hB1⟩
      go_wp2_with fail
      refine (kindInt_any _ _).mono ?_
      rintro e w2 ⟨rfl, hB2⟩
      have hb := Below.then hB1 (Nat.le_refl _) hB2
      go_wp2
      go_ret
      exact ⟨rfl, hb⟩
    · go_enter Tryz.func92, Tryz.ntmps92
      go_wp2_with fail
      refine (kindRat_any _ _).mono ?_
      rintro e w1 ⟨rfl, hB1⟩
      go_wp2_with fail
      refine (kindRat_any _ _).mono ?_
      rintro e w2 ⟨rfl, hB2⟩
      have hb := Below.then hB1 (Nat.le_refl _) hB2
      go_wp2
      go_ret
      exact ⟨rfl, hb⟩

theorem CNum.nform {w : World} {v : Value} {r : Rt} (h : CNum w v r) : NForm v := h.form

set_option maxRecDepth 100000 in
set_option maxHeartbeats 2000000 in
theorem makeImag_any (v : Value) (r : Rt) (w : World) (h : CNum w v r) :
    Calls Tryz.prog 98 #[v] w fun e w' => ∃ u, e = .returned u ∧ CCpx w' u (rz 0) r ∧ Below w.heap.size w w' := by
  have HH := Lib.hid h
  have hf := h.nform
  have HF := Lib.hid hf
  clear h
  rcases hf with ⟨z, rfl⟩ | ⟨p, rfl⟩ | ⟨p, rfl⟩
  · obtain ⟨t1, t2, t3, t4, t5, t6, t7, t8, t9⟩ := ta_int64Val
    go_enter Tryz.func98, Tryz.ntmps98
    go_wp2_with fail
    refine (makeComplex_any _ _ _ (.inl ⟨0, rfl⟩) HF.out).mono ?_
    rintro e w1 ⟨rfl, hB⟩
    go_wp2
    go_ret
    exact ⟨_, rfl, ⟨_, _, rfl, cnum_zero _, HH.out.keep hB⟩, hB⟩
  · obtain ⟨t1, t2, t3, t4, t5, t6, t7, t8, t9⟩ := ta_intVal
    go_enter Tryz.func98, Tryz.ntmps98
    go_wp2_with fail
    refine (makeComplex_any _ _ _ (.inl ⟨0, rfl⟩) HF.out).mono ?_
    rintro e w1 ⟨rfl, hB⟩
    go_wp2
    go_ret
    exact ⟨_, rfl, ⟨_, _, rfl, cnum_zero _, HH.out.keep hB⟩, hB⟩
  · obtain ⟨t1, t2, t3, t4, t5, t6, t7, t8, t9⟩ := ta_ratVal
    go_enter Tryz.func98, Tryz.ntmps98
    go_wp2_with fail
    refine (makeComplex_any _ _ _ (.inl ⟨0, rfl⟩) HF.out).mono ?_
    rintro e w1 ⟨rfl, hB⟩
    go_wp2
    go_ret
    exact ⟨_, rfl, ⟨_, _, rfl, cnum_zero _, HH.out.keep hB⟩, hB⟩

set_option maxRecDepth 100000 in
set_option maxHeartbeats 2000000 in
theorem realNum_any (v : Value) (w : World) (h : NForm v) :
    Calls Tryz.prog 57 #[v] w fun e w' => e = .returned v ∧ w = w' := by
  rcases h with ⟨z, rfl⟩ | ⟨p, rfl⟩ | ⟨p, rfl⟩
  · obtain ⟨t1, t2, t3, t4, t5, t6, t7, t8, t9⟩ := ta_int64Val
    go_enter Tryz.func57, Tryz.ntmps57
    go_wp2
    go_ret
    exact ⟨rfl, rfl⟩
  · obtain ⟨t1, t2, t3, t4, t5, t6, t7, t8, t9⟩ := ta_intVal
    go_enter Tryz.func57, Tryz.ntmps57
    go_wp2
    go_ret
    exact ⟨rfl, rfl⟩
  · obtain ⟨t1, t2, t3, t4, t5, t6, t7, t8, t9⟩ := ta_ratVal
    go_enter Tryz.func57, Tryz.ntmps57
    go_wp2
    go_ret
    exact ⟨rfl, rfl⟩

set_option maxRecDepth 100000 in
set_option maxHeartbeats 2000000 in
theorem realCpx_any (t1 t2 : TypeId) (x1 x2 : Value) (w : World) :
    Calls Tryz.prog 57 #[.iface 106 (.agg #[.iface t1 x1, .iface t2 x2])] w fun e w' => e = .returned (.iface t1 x1) ∧ Below w.heap.size w w' := by
  obtain ⟨h1, h2, h3, h4, h5, h6, h7, h8, h9⟩ := ta_complexVal
  have hb := Lib.hid (fun o => Below.alloc' (Below.refl w.heap.size w) o)
  go_enter Tryz.func57, Tryz.ntmps57
  go_wp2
  go_ret
  exact ⟨rfl, hb.out _⟩

set_option maxRecDepth 100000 in
set_option maxHeartbeats 2000000 in
theorem imagNum_any (v : Value) (w : World) (h : NForm v) :
    Calls Tryz.prog 58 #[v] w fun e w' => e = .returned (.iface 82 (.int .i64 0)) ∧ w = w' := by
  rcases h with ⟨z, rfl⟩ | ⟨p, rfl⟩ | ⟨p, rfl⟩
  · obtain ⟨t1, t2, t3, t4, t5, t6, t7, t8, t9⟩ := ta_int64Val
    go_enter Tryz.func58, Tryz.ntmps58
    go_wp2
    go_ret
    exact ⟨rfl, rfl⟩
  · obtain ⟨t1, t2, t3, t4, t5, t6, t7, t8, t9⟩ := ta_intVal
    go_enter Tryz.func58, Tryz.ntmps58
    go_wp2
    go_ret
    exact ⟨rfl, rfl⟩
  · obtain ⟨t1, t2, t3, t4, t5, t6, t7, t8, t9⟩ := ta_ratVal
    go_enter Tryz.func58, Tryz.ntmps58
    go_wp2
    go_ret
    exact ⟨rfl, rfl⟩

set_option maxRecDepth 100000 in
set_option maxHeartbeats 2000000 in
theorem imagCpx_any (t1 t2 : TypeId) (x1 x2 : Value) (w : World) :
    Calls Tryz.prog 58 #[.iface 106 (.agg #[.iface t1 x1, .iface t2 x2])] w fun e w' => e = .returned (.iface t2 x2) ∧ Below w.heap.size w w' := by
  obtain ⟨h1, h2, h3, h4, h5, h6, h7, h8, h9⟩ := ta_complexVal
  have hb := Lib.hid (fun o => Below.alloc' (Below.refl w.heap.size w) o)
  go_enter Tryz.func58, Tryz.ntmps58
  go_wp2
  go_ret
  exact ⟨rfl, hb.out _⟩

set_option maxRecDepth 100000 in
set_option maxHeartbeats 2000000 in
theorem vtoc_any (t : TypeId) (x : Value) (w : World) :
    Calls Tryz.prog 182 #[.iface t x] w fun e w' => e = .returned (.agg #[.iface t x, .iface 82 (.int .i64 0)]) ∧ Below w.heap.size w w' := by
  have hb := Lib.hid (fun o => Below.alloc' (Below.refl w.heap.size w) o)
  go_enter Tryz.func182, Tryz.ntmps182
  go_wp2
  exact bodyPost_ret (v := .agg #[.iface t x, .iface 82 (.int .i64 0)]) (by simp [results, Tryz.results182, go_sem]) rfl ⟨rfl, hb.out _⟩

end Go.Proofs.YtdkipndepkblhaaGreatDoor

set_option linter.unusedSimpArgs false
set_option linter.unusedVariables false
namespace Go.Bg
open Go.RowKit Dg
theorem RatAt.signed {T : TypeId} {w : World} {b : Nat} {s t : Bool} {N D : Nat} (h : RatAt T w b s N D) (hz : t = true → 0 < N) : RatAt T (w.setCell ⟨b, 0, none⟩ (.bool t)) b t N D :=
  ⟨h.a.signed hz, h.d.other h.a.blk (UpdI.set0 w b 0 (.bool t)) (.inr (.inr (by omega))), h.pos⟩
end Go.Bg

namespace Go.Proofs.YtdkipndepkblhaaGreatDoor
open Go.RowKit Go.Bg Dg

theorem infoBigRatSize : (Tryz.prog.info? 156).map (·.size) = some 4 := by kernel_rfl

set_option maxRecDepth 100000 in
set_option maxHeartbeats 1000000 in
theorem ratSetInt64_new (b : Nat) (x : Int) (hx : -9223372036854775808 ≤ x ∧ x < 9223372036854775808) (w : World) (h : NewRat w b) :
    Calls Tryz.prog 167 #[.pointer (some ⟨b, 0, none⟩), .int .i64 x] w (RatIs b (decide (x < 0)) x.natAbs 1 w) := by
  have HS := Lib.hid (setInt64_any b 0 x hx w h.a)
  have HQ := Lib.hid (BlkAt.cell h 3)
  have HQ2 := Lib.hid (BlkAt.cell h 2)
  clear h hx
  go_enter Tryz.func167, Tryz.ntmps167
  go_wp2_with fail
  refine HS.out.mono ?_
  rintro e w1 ⟨rfl, hI, hU⟩
  have q3 : w1.cell? ⟨b, 3, none⟩ = some (.slice none 0 0) := by rw [hU.rest 3 (by decide) (by decide), HQ.out]; rfl
  have q2 : w1.cell? ⟨b, 2, none⟩ = some (.bool false) := by rw [hU.rest 2 (by decide) (by decide), HQ2.out]; rfl
  have Q2 := Lib.hid q2
  have HI := Lib.hid hI
  have HU := Lib.hid hU
  clear q2 hI hU
  go_wp2_with fail
  refine (setWord_nil 1 (by omega) _).mono ?_
  rintro e w2 ⟨a, n, c, rfl, hN, hB⟩
  have HI2 := Lib.hid (HI.out.keep hB)
  have k3 := cell_keep q3 hB
  have HR := Lib.hid (ratAt_den HI2.out (cell_keep Q2.out hB) ⟨_, k3⟩ hN (by omega))
  have HF := Lib.hid ((HU.out.toB.trans (UpdB.of_below hB)).trans (UpdB.set w2 b 3 (.slice a n c)))
  have f3 := HI2.out.blk.frozen 3
  clear q3 hN hB
  go_wp2
  go_ret
  exact ⟨rfl, HR.out, HF.out⟩

set_option maxRecDepth 100000 in
set_option maxHeartbeats 2000000 in
theorem ratSet_new (b b1 : Nat) (s : Bool) (N D : Nat) (w : World) (h : NewRat w b) (h1 : RatAt 151 w b1 s N D) (hne : b ≠ b1) (L : Nat) (hL : L ≤ 1000000) (hN : N < W64 ^ L) (hD : D < W64 ^ L) :
    Calls Tryz.prog 161 #[.pointer (some ⟨b, 0, none⟩), .pointer (some ⟨b1, 0, none⟩)] w (RatIs b s N D w) := by
  obtain ⟨j, hj, hj2⟩ := Option.map_eq_some_iff.1 infoBigRatSize
  obtain ⟨cur2, e2, k2, _⟩ := h1.a.blk
  have hq := run_neq_ptr_other (P := Tryz.prog) (a := ⟨b, 0, none⟩) (b := ⟨b1, 0, none⟩) w Tryz.underlying90 hj (by rw [hj2]; decide) (by intro h; injection h with h h' _; omega) h k2
  have HH := Lib.hid h
  have HQ := Lib.hid (BlkAt.cell h 3)
  have HQ2 := Lib.hid (BlkAt.cell h 2)
  have H1 := Lib.hid h1
  have HN := Lib.hid hN
  have HD := Lib.hid hD
  clear h h1 hN hD k2 hj2
  go_enter Tryz.func161, Tryz.ntmps161
  go_upto_region 2 with fail
  have hd0 : Below w.heap.size w w.drew := (Below.refl _ _).drew
  go_region_held3 (fun _ => True) (exact trivial) ((go_at_call 160; (with_reducible refine (intSet_new b 0 b1 0 s N _ ?_ ?_ (.inl hne) L hL HN.out).mono ?_); exact (HH.out.keep hd0).a; exact (H1.out.keep hd0).a; rintro e w1 ⟨rfl, hI, hU⟩))
  have q3 : w1.cell? ⟨b, 3, none⟩ = some (.slice none 0 0) := by rw [hU.rest 3 (by decide) (by decide)]; exact cell_keep HQ.out hd0
  have q2 : w1.cell? ⟨b, 2, none⟩ = some (.bool false) := by rw [hU.rest 2 (by decide) (by decide)]; exact cell_keep HQ2.out hd0
  have HB1 := Lib.hid (hU.blk ((HH.out.keep hd0).blk))
  have HX1 := Lib.hid ((H1.out.keep hd0).other ((HH.out.keep hd0).blk) hU.toB (Ne.symm hne))
  have HN2 := Lib.hid (show NewInt w1 b 2 from ⟨HB1.out, ⟨_, q2⟩, q3⟩)
  have HI := Lib.hid hI
  have HU := Lib.hid ((UpdB.of_below hd0).trans hU.toB)
  clear q2 q3 hI hU
  go_upto_region 3 with fail
  have hd1 : Below w1.heap.size w1 w1.drew := (Below.refl _ _).drew
  go_region_held3 (fun _ => True) (exact trivial) ((go_at_call 160; (with_reducible refine (intSet_new b 2 b1 2 false D _ ?_ ?_ (.inl hne) L hL HD.out).mono ?_); exact HN2.out.keep hd1; exact (HX1.out.keep hd1).d; rintro e w2 ⟨rfl, hJ, hV⟩))
  have HA := Lib.hid ((HI.out.keep hd1).other (HN2.out.keep hd1).blk hV (.inr (.inl (by omega))))
  have HR := Lib.hid (show RatAt 151 w2 b s N D from ⟨HA.out, hJ, H1.out.pos⟩)
  have HF := Lib.hid ((HU.out.trans (UpdB.of_below hd1)).trans hV.toB)
  obtain ⟨aD, nD, cD, p2, p3, hDN⟩ := hJ.val
  have hp := natAt_pos_len hDN.num
  have hz : ((nD : Int) == 0) = false := by
    have h1 : 0 < D := H1.out.pos
    simp [h1] at hp
    simp; omega
  have hcm := hDN.num.cm
  have hnc := hDN.num.nc
  clear hp hJ hV hDN p2
  go_wp2
  go_ret
  exact ⟨rfl, HR.out, HF.out⟩

set_option maxRecDepth 100000 in
set_option maxHeartbeats 2000000 in
theorem ratNeg_new (b b1 : Nat) (s : Bool) (N D : Nat) (w : World) (h : NewRat w b) (h1 : RatAt 151 w b1 s N D) (hne : b ≠ b1) (L : Nat) (hL : L ≤ 1000000) (hN : N < W64 ^ L) (hD : D < W64 ^ L) :
    Calls Tryz.prog 104 #[.pointer (some ⟨b, 0, none⟩), .pointer (some ⟨b1, 0, none⟩)] w (RatIs b (!s && decide (0 < N)) N D w) := by
  have HS := Lib.hid (ratSet_new b b1 s N D w h h1 hne L hL hN hD)
  clear h h1 hN hD
  go_enter Tryz.func104, Tryz.ntmps104
  go_wp2_with fail
  refine HS.out.mono ?_
  rintro e w1 ⟨rfl, hI, hU⟩
  have HT := Lib.hid (fun t ht => hI.signed (t := t) ht)
  have HU := Lib.hid hU
  have f0 := hI.a.blk.frozen 0
  obtain ⟨a, n, c, h0, h1, hNN⟩ := hI.a.val
  have HP := Lib.hid (natAt_pos_len hNN.num)
  clear hNN hI hU
  by_cases hn : 0 < n
  · go_wp2
    go_ret
    have hp : 0 < N := by have := HP.out; simpa [hn] using this.symm
    exact ⟨rfl, by simpa [hp] using HT.out (!s) (fun _ => hp), HU.out.trans (UpdB.set _ _ _ _)⟩
  · go_wp2
    go_ret
    have hp : ¬ 0 < N := by have := HP.out; simpa [hn] using this
    exact ⟨rfl, by simpa [hp] using HT.out false (by simp), HU.out.trans (UpdB.set _ _ _ _)⟩

set_option maxRecDepth 100000 in
theorem newRat_any (w : World) : Calls Tryz.prog 70 #[] w fun e w' => e = .returned (.pointer (some ⟨w.heap.size, 0, none⟩)) ∧ w' = w.alloc (.cells #[.bool false, .slice none 0 0, .bool false, .slice none 0 0] 156) := by
  go_enter Tryz.func70, Tryz.ntmps70
  go_wp2
  go_ret
  exact ⟨rfl, rfl⟩
theorem newRat_is (w : World) : NewRat (w.alloc (.cells #[.bool false, .slice none 0 0, .bool false, .slice none 0 0] 156)) w.heap.size := BlkAt.new w _ _

set_option maxRecDepth 100000 in
set_option maxHeartbeats 2000000 in
theorem unarySubRat_any (v : Value) (r : Rt) (p : Int) (w : World) (h : CRat w v r) (L : Nat) (hL : L ≤ 63) (hN : r.num < W64 ^ L) (hD : r.den < W64 ^ L) :
    Calls Tryz.prog 45 #[.int .i64 13, v, .int .u64 p] w fun e w' => ∃ u, e = .returned u ∧ CRat w' u r.negated ∧ Below w.heap.size w w' := by
  obtain ⟨b, s, N, D, rfl, hI, rfl⟩ := h
  obtain ⟨W0, hW0⟩ : ∃ W0, W0 = w.alloc (.cells #[.pointer (some ⟨b, 0, none⟩)] 97) := ⟨_, rfl⟩
  have HW := Lib.hid hW0
  have hb0 : Below w.heap.size w W0 := by rw [hW0]; exact Below.alloc' (Below.refl _ _) _
  have hx : W0.cell? ⟨w.heap.size, 0, none⟩ = some (.pointer (some ⟨b, 0, none⟩)) := by rw [hW0]; exact alloc_new _ _ _ rfl rfl
  have HH := Lib.hid (hI.keep hb0)
  have HN := Lib.hid (show N < W64 ^ L from hN)
  have HD := Lib.hid (show D < W64 ^ L from hD)
  clear hW0 hI hN hD
  obtain ⟨t1, t2, t3, t4, t5, t6, t7, t8, t9⟩ := ta_ratVal
  go_enter Tryz.func45, Tryz.ntmps45
  go_wp2
  refine wp_scope_straight ?_
  go_upto_region 22 with fail
  rw [← HW.out]
  have hd0 : Below W0.heap.size W0 W0.drew := (Below.refl _ _).drew
  go_region_held3 (fun w' => w'.cell? ⟨w.heap.size, 0, none⟩ = some (.pointer (some ⟨b, 0, none⟩)))
    (first | exact hx | exact cell_keep hx (by assumption))
    (first | (go_at_call 70; (with_reducible refine (newRat_any _).mono ?_); rintro e w1 ⟨rfl, hw1⟩; have hn1 : NewRat w1 W0.heap.size := (by rw [hw1]; exact newRat_is W0.drew); have hB1 : Below W0.heap.size W0 w1 := (by rw [hw1]; exact Below.alloc' hd0 _); have HS1 := Lib.hid (show w1.heap.size = W0.heap.size + 1 from by rw [hw1]; simp); clear hw1) | (go_at_call 104; (with_reducible refine (ratNeg_new W0.heap.size b s N D _ ?_ ?_ ?_ L ?_ ?_ ?_).mono ?_); exact hn1; exact HH.out.keep hB1; exact Nat.ne_of_gt HH.out.a.blk.lt; omega; exact HN.out; exact HD.out; rintro e w3 ⟨rfl, hJ, hU⟩; have hbg : Below W0.heap.size W0 w3 := hU.below hB1 (by have := HS1.out; omega) (Nat.le_refl _)) | (go_at_call 68; (with_reducible refine (makeRat_any W0.heap.size (!s && decide (0 < N)) N D L _ hJ HN.out HD.out hL).mono ?_); rintro e w4 ⟨u, rfl, hu, rfl⟩))
  go_wp2
  try rw [Exit.noGoto_ret]
  go_ret
  exact ⟨_, rfl, hu, Below.then hb0 (Nat.le_refl _) hbg⟩

set_option maxRecDepth 100000 in
set_option maxHeartbeats 2000000 in
theorem i64tor_any (x : Int) (hx : -9223372036854775808 ≤ x ∧ x < 9223372036854775808) (w : World) :
    Calls Tryz.prog 177 #[.int .i64 x] w fun e w' => ∃ b, e = .returned (.agg #[.pointer (some ⟨b, 0, none⟩)]) ∧ RatAt 151 w' b (decide (x < 0)) x.natAbs 1 ∧ Below w.heap.size w w' := by
  have HX := Lib.hid hx
  clear hx
  go_enter Tryz.func177, Tryz.ntmps177
  go_wp2_with fail
  refine (newRat_any _).mono ?_
  rintro e w1 ⟨rfl, hw1⟩
  have hs1 : w1.heap.size = w.heap.size + 1 + 1 := by rw [hw1]; simp
  have hb1 : Below w.heap.size w w1 := by rw [hw1]; exact Below.alloc' (Below.alloc' (Below.refl _ _) _) _
  have hn1 : NewRat w1 (w.heap.size + 1) := by rw [hw1]; simpa using newRat_is (w.alloc (.cells #[.pointer none] 97))
  have hl : BlkAt w1 w.heap.size #[.pointer none] 97 := by rw [hw1]; exact (BlkAt.new _ _ _).keep ((Below.refl _ _).alloc (Nat.le_refl _) _)
  have HW1 := Lib.hid hw1
  clear hw1
  go_wp2_with fail
  refine (ratSetInt64_new (w.heap.size + 1) x HX.out _ hn1).mono ?_
  rintro e w2 ⟨rfl, hI, hU⟩
  have hl2 := hU.upd.blk hl (Nat.ne_of_lt (Nat.lt_succ_self _))
  have HI := Lib.hid (hI.upd (Upd.set1 w2 w.heap.size 0 (.pointer (some ⟨w.heap.size + 1, 0, none⟩))) (Nat.ne_of_gt (Nat.lt_succ_self _)) (fun k _ e => by subst e; exact ⟨_, _, hl2, by decide⟩))
  have HB := Lib.hid ((hU.below hb1 (by omega) (Nat.le_add_right _ 1)).setCell (p := ⟨w.heap.size, 0, none⟩) (Nat.le_refl _) (.pointer (some ⟨w.heap.size + 1, 0, none⟩)))
  have c0 := hl2.cell 0
  have f0 := hl2.frozen 0
  simp only [List.getElem?_toArray, List.getElem?_cons_zero] at c0
  clear hl hl2 hI hU hn1 hb1
  go_wp2
  exact bodyPost_ret (v := .agg #[.pointer (some ⟨w.heap.size + 1, 0, none⟩)]) (by simp [results, Tryz.results177, go_sem, c0]) rfl ⟨_, rfl, HI.out, HB.out⟩

set_option maxRecDepth 100000 in
set_option maxHeartbeats 2000000 in
theorem itor_any (b o : Nat) (s : Bool) (N L : Nat) (w : World) (h : BigAt 151 w b o s N) (hL : L ≤ 1000000) (hN : N < W64 ^ L) :
    Calls Tryz.prog 178 #[.agg #[.pointer (some ⟨b, o, none⟩)]] w fun e w' => ∃ b2, e = .returned (.agg #[.pointer (some ⟨b2, 0, none⟩)]) ∧ RatAt 151 w' b2 s N 1 ∧ Below w.heap.size w w' := by
  obtain ⟨W0, hW0⟩ : ∃ W0, W0 = (w.alloc (.cells #[.pointer (some ⟨b, o, none⟩)] 93)).alloc (.cells #[.pointer none] 97) := ⟨_, rfl⟩
  have HS0 := Lib.hid (show W0.heap.size = w.heap.size + 1 + 1 from by rw [hW0]; simp)
  have HW := Lib.hid hW0
  have hb0 : Below w.heap.size w W0 := by rw [hW0]; exact Below.alloc' (Below.alloc' (Below.refl _ _) _) _
  have hx : W0.cell? ⟨w.heap.size, 0, none⟩ = some (.pointer (some ⟨b, o, none⟩)) := by rw [hW0]; exact alloc_keep _ _ (alloc_new _ _ _ rfl rfl)
  have hl : BlkAt W0 (w.heap.size + 1) #[.pointer none] 97 := by
    rw [hW0]
    have := BlkAt.new (w.alloc (.cells #[.pointer (some ⟨b, o, none⟩)] 93)) #[.pointer none] 97
    simpa using this
  have HH := Lib.hid (h.keep hb0)
  have HN := Lib.hid hN
  clear hW0 h hN
  go_enter Tryz.func178, Tryz.ntmps178
  go_upto_region 1 with fail
  rw [← HW.out]
  have hd0 : Below W0.heap.size W0 W0.drew := (Below.refl _ _).drew
  go_region_held3 (fun w' => w'.cell? ⟨w.heap.size, 0, none⟩ = some (.pointer (some ⟨b, o, none⟩)))
    (first | exact hx | exact cell_keep hx (by assumption) | (rw [cell?_setCell_ne (by omega)]; exact cell_keep hx (by assumption)))
    (first | (go_at_call 70; (with_reducible refine (newRat_any _).mono ?_); rintro e w1 ⟨rfl, hw1⟩; have hn1 : NewRat w1 W0.heap.size := (by rw [hw1]; exact newRat_is W0.drew); have hB1 : Below W0.heap.size W0 w1 := (by rw [hw1]; exact Below.alloc' hd0 _); have HS1 := Lib.hid (show w1.heap.size = W0.heap.size + 1 from by rw [hw1]; simp); clear hw1) | (go_at_call 158; (with_reducible refine (ratSetInt_new W0.heap.size b o s N _ ?_ ?_ ?_ L ?_ ?_).mono ?_); exact hn1; exact HH.out.keep hB1; exact Nat.ne_of_gt HH.out.blk.lt; omega; exact HN.out; rintro e w3 ⟨rfl, hJ, hU⟩; have hbg : Below W0.heap.size W0 w3 := hU.below hB1 (by have := HS1.out; omega) (Nat.le_refl _); have hl3 := hl.keep hbg; have c0 := hl3.cell 0; have f0 := hl3.frozen 0; simp only [List.getElem?_toArray, List.getElem?_cons_zero] at c0))
  have HI := Lib.hid (hJ.upd (Upd.set1 w3 (w.heap.size + 1) 0 (.pointer (some ⟨W0.heap.size, 0, none⟩))) (by have := HS0.out; omega) (fun k _ e => by subst e; exact ⟨_, _, hl3, by decide⟩))
  have HB := Lib.hid ((Below.then hb0 (Nat.le_refl _) hbg).setCell (p := ⟨w.heap.size + 1, 0, none⟩) (Nat.le_add_right _ 1) (.pointer (some ⟨W0.heap.size, 0, none⟩)))
  go_wp2
  exact bodyPost_ret (v := .agg #[.pointer (some ⟨W0.heap.size, 0, none⟩)]) (by simp [results, Tryz.results178, go_sem, c0]) rfl ⟨_, rfl, HI.out, HB.out⟩

theorem rz_sg {s : Bool} {N : Nat} (h : s = true → 0 < N) : (⟨s, N, 1⟩ : Rt) = rz (sg s N) := by
  rw [← whole_rz]
  unfold Rt.whole
  cases s
  · rfl
  · simp [h rfl]

set_option maxRecDepth 100000 in
set_option maxHeartbeats 2000000 in
theorem num_any (v : Value) (r : Rt) (w : World) (h : CNum w v r) :
    Calls Tryz.prog 52 #[v] w fun e w' => ∃ u, e = .returned u ∧ CInt w' u (sg r.neg r.num) ∧ Below w.heap.size w w' := by
  rcases h with ⟨z, ⟨rfl, hf⟩ | ⟨b, o, s, N, rfl, hI, rfl⟩, rfl⟩ | ⟨b, s, N, D, rfl, hR, rfl⟩
  · obtain ⟨t1, t2, t3, t4, t5, t6, t7, t8, t9⟩ := ta_int64Val
    have HF := Lib.hid hf
    clear hf
    go_enter Tryz.func52, Tryz.ntmps52
    go_wp2
    go_ret
    exact ⟨_, rfl, .inl ⟨by show Value.iface 82 (.int .i64 z) = Value.iface 82 (.int .i64 (sg (decide (z < 0)) z.natAbs)); rw [sg_natAbs], by show fit64 (sg (decide (z < 0)) z.natAbs) = true; rw [sg_natAbs]; exact HF.out⟩, Below.refl _ _⟩
  · obtain ⟨t1, t2, t3, t4, t5, t6, t7, t8, t9⟩ := ta_intVal
    have HI := Lib.hid hI
    clear hI
    go_enter Tryz.func52, Tryz.ntmps52
    go_wp2
    go_ret
    exact ⟨_, rfl, .inr ⟨b, o, s, N, rfl, HI.out, by show _ = sg (decide (sg s N < 0)) (sg s N).natAbs; rw [sg_natAbs]⟩, Below.refl _ _⟩
  · obtain ⟨t1, t2, t3, t4, t5, t6, t7, t8, t9⟩ := ta_ratVal
    obtain ⟨W0, hW0⟩ : ∃ W0, W0 = w.alloc (.cells #[.pointer (some ⟨b, 0, none⟩)] 97) := ⟨_, rfl⟩
    have HW := Lib.hid hW0
    have hb0 : Below w.heap.size w W0 := by rw [hW0]; exact Below.alloc' (Below.refl _ _) _
    have HH := Lib.hid (hR.keep hb0)
    clear hW0 hR
    go_enter Tryz.func52, Tryz.ntmps52
    go_wp2_with fail
    rw [← HW.out]
    refine (ratNum_any b _).mono ?_
    rintro e w1 ⟨rfl, rfl⟩
    go_wp2_with fail
    refine (makeInt_any b 0 s N _ HH.out.a).mono ?_
    rintro e w2 ⟨u, rfl, hu, rfl⟩
    go_wp2
    go_ret
    exact ⟨_, rfl, hu, hb0⟩

set_option maxRecDepth 100000 in
set_option maxHeartbeats 2000000 in
theorem denom_any (v : Value) (r : Rt) (w : World) (h : CNum w v r) :
    Calls Tryz.prog 53 #[v] w fun e w' => ∃ u, e = .returned u ∧ CInt w' u (r.den : Int) ∧ Below w.heap.size w w' := by
  rcases h with ⟨z, ⟨rfl, hf⟩ | ⟨b, o, s, N, rfl, hI, rfl⟩, rfl⟩ | ⟨b, s, N, D, rfl, hR, rfl⟩
  · obtain ⟨t1, t2, t3, t4, t5, t6, t7, t8, t9⟩ := ta_int64Val
    clear hf
    go_enter Tryz.func53, Tryz.ntmps53
    go_wp2
    go_ret
    exact ⟨_, rfl, .inl ⟨rfl, by show fit64 1 = true; decide⟩, Below.refl _ _⟩
  · obtain ⟨t1, t2, t3, t4, t5, t6, t7, t8, t9⟩ := ta_intVal
    clear hI
    go_enter Tryz.func53, Tryz.ntmps53
    go_wp2
    go_ret
    exact ⟨_, rfl, .inl ⟨rfl, by show fit64 1 = true; decide⟩, Below.refl _ _⟩
  · obtain ⟨t1, t2, t3, t4, t5, t6, t7, t8, t9⟩ := ta_ratVal
    obtain ⟨W0, hW0⟩ : ∃ W0, W0 = w.alloc (.cells #[.pointer (some ⟨b, 0, none⟩)] 97) := ⟨_, rfl⟩
    have HW := Lib.hid hW0
    have hb0 : Below w.heap.size w W0 := by rw [hW0]; exact Below.alloc' (Below.refl _ _) _
    have HH := Lib.hid (hR.keep hb0)
    clear hW0 hR
    go_enter Tryz.func53, Tryz.ntmps53
    go_wp2_with fail
    rw [← HW.out]
    refine (ratDenom_any b false D _ HH.out.d HH.out.pos).mono ?_
    rintro e w1 ⟨rfl, rfl⟩
    go_wp2_with fail
    refine (makeInt_any b 2 false D _ HH.out.d).mono ?_
    rintro e w2 ⟨u, rfl, hu, rfl⟩
    go_wp2
    go_ret
    exact ⟨_, rfl, hu, hb0⟩
end Go.Proofs.YtdkipndepkblhaaGreatDoor

set_option linter.unusedSimpArgs false
set_option linter.unusedVariables false
namespace Go.Proofs.YtdkipndepkblhaaGreatDoor
open Go.RowKit Go.Bg Dg

/-- the value is the complex number with the parts r and q, told -/
def IsC (r q : Rt) (L : Nat) (x : Vl) : Prop := pairB x = true ∧ vrt x = r ∧ virt x = q ∧ x.wn ≤ L ∧ x.dn ≤ L ∧ x.inn ≤ L ∧ x.en ≤ L

theorem toldCpx_end {w w3 w4 : World} {r q : Rt} {L : Nat} {S : Nat → Prop} {a : Option Addr} {n c : Nat} {a' : Option Addr} {n' c' : Nat} {i : Option Addr} {m d : Nat} {i' : Option Addr} {m' d' : Nat} (hN : r.num < W64 ^ L) (hD : r.den < W64 ^ L) (hN2 : q.num < W64 ^ L) (hD2 : q.den < W64 ^ L) (hr : ROk r) (hq : ROk q)
    (hP : PlainAt w3 a n c r.num) (hQ : PlainAt w3 a' n' c' r.den) (hI : PlainAt w3 i m d q.num) (hJ : PlainAt w3 i' m' d' q.den) (hu : Upd S w3 w4) (hS : ∀ k, S k → NoU w3 k) (hb : Below w.heap.size w w4) :
    GivesV (IsC r q L) w (.returned (.agg #[.int .i64 5, .bool false, .string ⟨#[]⟩, .bool r.neg, .slice a n c, .slice a' n' c', .bool q.neg, .slice i m d, .slice i' m' d'])) w4 := by
  have hf := told_fracB hr hP hQ
  have hg := told_fracB hq hI hJ
  refine ⟨⟨5, false, ⟨#[]⟩, r.neg, a, n, c, dg W64 r.num, a', n', c', dg W64 r.den, q.neg, i, m, d, dg W64 q.num, i', m', d', dg W64 q.den⟩, rfl, ⟨hP.ws.updU hu hS, hQ.ws.updU hu hS, hI.ws.updU hu hS, hJ.ws.updU hu hS, Nat.zero_le _, by simp⟩, ⟨?_, hf.2, hg.2, plain_le hP hN, plain_le hQ hD, plain_le hI hN2, plain_le hJ hD2⟩, hb⟩
  unfold pairB
  rw [hf.1, hg.1]
  simp

set_option maxRecDepth 100000 in
set_option maxHeartbeats 4000000 in
theorem toldCpx_any (v : Value) (r q : Rt) (w : World) (h : CCpx w v r q) (hr : ROk r) (hq : ROk q) (L : Nat) (hL1 : 1 ≤ L) (hL : L ≤ 100000) (hN : r.num < W64 ^ L) (hD : r.den < W64 ^ L) (hN2 : q.num < W64 ^ L) (hD2 : q.den < W64 ^ L) :
    Calls Tryz.prog 37 #[v] w (GivesV (IsC r q L) w) := by
  have HN := Lib.hid hN
  have HD := Lib.hid hD
  have HN2 := Lib.hid hN2
  have HD2 := Lib.hid hD2
  have HR := Lib.hid hr
  have HQR := Lib.hid hq
  clear hN hD hN2 hD2 hr hq
  obtain ⟨v1, v2, rfl, hv1, hv2⟩ := h
  obtain ⟨t1, x1, rfl⟩ := hv1.iface
  obtain ⟨t2, x2, rfl⟩ := hv2.iface
  have H1 := Lib.hid hv1
  have H2 := Lib.hid hv2
  clear hv1 hv2
  have hm := methodKindCpx
  have hb0 : Below w.heap.size w (w.alloc (.cells #[.int .i64 0, .bool false, .string ⟨#[]⟩, .bool false, .slice none 0 0, .slice none 0 0, .bool false, .slice none 0 0, .slice none 0 0] 26)) := Below.alloc' (Below.refl _ _) _
  have hR0 := BlkAt.new w #[.int .i64 0, .bool false, .string ⟨#[]⟩, .bool false, .slice none 0 0, .slice none 0 0, .bool false, .slice none 0 0, .slice none 0 0] 26
  go_enter Tryz.func37, Tryz.ntmps37
  go_wp2_with fail
  refine (kindCpx_any _ _ _).mono ?_
  rintro e w1 ⟨rfl, hB1⟩
  have hR1 := (hR0.keep hB1).keep ((Below.refl _ _).alloc (Nat.le_refl _) (.cells #[.int .i64 5, .bool false, .string ⟨#[]⟩, .bool false, .slice none 0 0, .slice none 0 0, .bool false, .slice none 0 0, .slice none 0 0] 26))
  have hO1 := BlkAt.new w1 #[.int .i64 5, .bool false, .string ⟨#[]⟩, .bool false, .slice none 0 0, .slice none 0 0, .bool false, .slice none 0 0, .slice none 0 0] 26
  have hb1 := Below.alloc' (Below.then hb0 (Nat.le_refl _) hB1) (.cells #[.int .i64 5, .bool false, .string ⟨#[]⟩, .bool false, .slice none 0 0, .slice none 0 0, .bool false, .slice none 0 0, .slice none 0 0] 26)
  have hlt1 := (hR0.keep hB1).lt
  clear hR0 hb0 hB1
  go_wp2_with fail
  refine (kindCpx_any _ _ _).mono ?_
  rintro e w2 ⟨rfl, hB2⟩
  have hR2 := hR1.keep hB2
  have hO2 := hO1.keep hB2
  have hb2 := Below.then hb1 (Nat.le_refl _) hB2
  clear hR1 hO1 hb1 hB2
  go_wp2_with fail
  refine (realCpx_any t1 t2 x1 x2 _).mono ?_
  rintro e w3 ⟨rfl, hB3⟩
  have hR3 := hR2.keep hB3
  have hO3 := hO2.keep hB3
  have hb3 := Below.then hb2 (Nat.le_refl _) hB3
  clear hR2 hO2 hb2 hB3
  go_wp2_with fail
  refine (partsNum_any (.iface t1 x1) r _ (H1.out.keep hb3) L hL1 hL HN.out HD.out).mono ?_
  rintro e w4 ⟨a, n, c, a', n', c', rfl, hP, hQ, hB4⟩
  have hR4 := hR3.keep hB4
  have hO4 := hO3.keep hB4
  have hb4 := Below.then hb3 (Nat.le_refl _) hB4
  clear hR3 hO3 hb3 hB4
  have hO5 := ((hO4.set 3 (.bool r.neg)).set 4 (.slice a n c)).set 5 (.slice a' n' c')
  have hne : w.heap.size ≠ w1.heap.size := Nat.ne_of_lt hlt1
  have hU5 : Upd (· = w1.heap.size) w4 (((w4.setCell ⟨w1.heap.size, 3, none⟩ (.bool r.neg)).setCell ⟨w1.heap.size, 4, none⟩ (.slice a n c)).setCell ⟨w1.heap.size, 5, none⟩ (.slice a' n' c')) := by
    iterate 3 refine Upd.setCell ?_ (by exact rfl) _
    exact Upd.refl _ _
  have hR5 := hU5.blk hR4 hne
  have hNO4 := noU_of_blk hO4 (noU_vals _)
  have hS5 : ∀ k, k = w1.heap.size → NoU w4 k := fun k e => by subst e; exact hNO4
  have HP5 := Lib.hid (hP.updU hU5 hS5)
  have HQ5 := Lib.hid (hQ.updU hU5 hS5)
  have hb5 := hU5.below hb4 hb4.size (fun k _ e => by subst e; exact Nat.le_of_lt hlt1)
  have oc0 := (hO4).cell 0; have oc1 := (hO4).cell 1; have oc2 := (hO4).cell 2; have oc3 := (hO4).cell 3; have oc4 := (hO4).cell 4; have oc5 := (hO4).cell 5; have oc6 := (hO4).cell 6; have oc7 := (hO4).cell 7; have oc8 := (hO4).cell 8; simp only [List.getElem?_toArray, List.getElem?_cons_zero, List.getElem?_cons_succ] at oc0 oc1 oc2 oc3 oc4 oc5 oc6 oc7 oc8
  have of0 := (hO4).frozen 0; have of1 := (hO4).frozen 1; have of2 := (hO4).frozen 2; have of3 := (hO4).frozen 3; have of4 := (hO4).frozen 4; have of5 := (hO4).frozen 5; have of6 := (hO4).frozen 6; have of7 := (hO4).frozen 7; have of8 := (hO4).frozen 8
  obtain ⟨W5, hW5⟩ : ∃ W5, W5 = (((w4.setCell ⟨w1.heap.size, 3, none⟩ (.bool r.neg)).setCell ⟨w1.heap.size, 4, none⟩ (.slice a n c)).setCell ⟨w1.heap.size, 5, none⟩ (.slice a' n' c')) := ⟨_, rfl⟩
  rw [← hW5] at hO5 hR5 HP5 HQ5 hb5
  have HW5 := Lib.hid hW5
  clear hW5 hO4 hR4 hb4 hU5 hNO4 hS5 hP hQ
  go_upto_region 13 with fail
  rw [← HW5.out]
  clear oc0 oc1 oc2 oc3 oc4 oc5 oc6 oc7 oc8 of0 of1 of2 of3 of4 of5 of6 of7 of8
  go_wp2_with fail
  refine (imagCpx_any t1 t2 x1 x2 _).mono ?_
  rintro e w6 ⟨rfl, hB6⟩
  have hR6 := hR5.keep hB6
  have hO6 := hO5.keep hB6
  have hb6 := Below.then hb5 (Nat.le_refl _) hB6
  have HP6 := Lib.hid (HP5.out.keep hB6)
  have HQ6 := Lib.hid (HQ5.out.keep hB6)
  clear hR5 hO5 hb5 hB6
  go_wp2_with fail
  refine (partsNum_any (.iface t2 x2) q _ (H2.out.keep hb6) L hL1 hL HN2.out HD2.out).mono ?_
  rintro e w7 ⟨i, m, d, i', m', d', rfl, hI, hJ, hB7⟩
  have hR7 := hR6.keep hB7
  have hO7 := hO6.keep hB7
  have hb7 := Below.then hb6 (Nat.le_refl _) hB7
  have HP7 := Lib.hid (HP6.out.keep hB7)
  have HQ7 := Lib.hid (HQ6.out.keep hB7)
  clear hR6 hO6 hb6 hB7
  simp only [List.setIfInBounds_toArray, List.set_cons_zero, List.set_cons_succ] at hO7
  have oc0 := (hO7).cell 0; have oc1 := (hO7).cell 1; have oc2 := (hO7).cell 2; have oc3 := (hO7).cell 3; have oc4 := (hO7).cell 4; have oc5 := (hO7).cell 5; have oc6 := (hO7).cell 6; have oc7 := (hO7).cell 7; have oc8 := (hO7).cell 8; simp only [List.getElem?_toArray, List.getElem?_cons_zero, List.getElem?_cons_succ] at oc0 oc1 oc2 oc3 oc4 oc5 oc6 oc7 oc8
  have of0 := (hO7).frozen 0; have of1 := (hO7).frozen 1; have of2 := (hO7).frozen 2; have of3 := (hO7).frozen 3; have of4 := (hO7).frozen 4; have of5 := (hO7).frozen 5; have of6 := (hO7).frozen 6; have of7 := (hO7).frozen 7; have of8 := (hO7).frozen 8
  have rc0 := (hR7).cell 0; have rc1 := (hR7).cell 1; have rc2 := (hR7).cell 2; have rc3 := (hR7).cell 3; have rc4 := (hR7).cell 4; have rc5 := (hR7).cell 5; have rc6 := (hR7).cell 6; have rc7 := (hR7).cell 7; have rc8 := (hR7).cell 8; simp only [List.getElem?_toArray, List.getElem?_cons_zero, List.getElem?_cons_succ] at rc0 rc1 rc2 rc3 rc4 rc5 rc6 rc7 rc8
  have rf0 := (hR7).frozen 0; have rf1 := (hR7).frozen 1; have rf2 := (hR7).frozen 2; have rf3 := (hR7).frozen 3; have rf4 := (hR7).frozen 4; have rf5 := (hR7).frozen 5; have rf6 := (hR7).frozen 6; have rf7 := (hR7).frozen 7; have rf8 := (hR7).frozen 8
  have HNO := Lib.hid (noU_of_blk hO7 (noU_vals3 5 r.neg false a a' none none n n' 0 0 c c' 0 0))
  have HNR := Lib.hid (noU_of_blk hR7 (noU_vals _))
  have HI := Lib.hid hI
  have HJ := Lib.hid hJ
  have HB7 := Lib.hid hb7
  clear hm hI hJ hb7 hO7 hR7
  go_wp2
  refine bodyPost_ret (v := .agg #[.int .i64 5, .bool false, .string ⟨#[]⟩, .bool r.neg, .slice a n c, .slice a' n' c', .bool q.neg, .slice i m d, .slice i' m' d']) (by simp [results, Tryz.results37, go_sem, rc0, rc1, rc2, rc3, rc4, rc5, rc6, rc7, rc8]) rfl ?_
  refine toldCpx_end HN.out HD.out HN2.out HD2.out HR.out HQR.out HP7.out HQ7.out HI.out HJ.out (S := fun k => k = w1.heap.size ∨ k = w.heap.size) ?_ ?_ ?_
  · iterate 12 refine Upd.setCell ?_ (by first | exact Or.inl rfl | exact Or.inr rfl) _
    exact Upd.refl _ _
  · rintro k (rfl | rfl)
    · exact HNO.out
    · exact HNR.out
  · iterate 12 refine Below.setCell ?_ (by first | exact Nat.le_refl _ | exact Nat.le_of_lt hlt1) _
    exact HB7.out

/-- the value is the number r, an integer or a fraction, told -/
def IsN (r : Rt) (L : Nat) (x : Vl) : Prop := (∃ z, r = rz z ∧ IsZ z L x) ∨ IsQ r L x

theorem toldNum_any (v : Value) (r : Rt) (w : World) (h : CNum w v r) (hr : ROk r) (L : Nat) (hL : L ≤ 100000) (hN : r.num < W64 ^ L) (hD : r.den < W64 ^ L) :
    Calls Tryz.prog 37 #[v] w (GivesV (IsN r L) w) := by
  rcases h with ⟨z, h, rfl⟩ | h
  · refine (toldZ_any v z w h L hL hN).mono ?_
    intro e w1 hg
    exact hg.mono (fun x hx => .inl ⟨z, rfl, hx⟩)
  · refine (toldRat_any v r w h hr L hL hN hD).mono ?_
    intro e w1 hg
    exact hg.mono (fun x hx => .inr hx)

theorem rok_rz (z : Int) : ROk (rz z) := ⟨by simp [rz], by simp [rz]; omega, by simp [rz]⟩

/-- what is made of the value is the number r -/
structure NumV (x : Vl) (r : Rt) : Prop where
  form : (x.kind = 3 ∧ r = rz (sg x.neg (val W64 x.wf x.wn))) ∨ (x.kind = 4 ∧ 0 < val W64 x.df x.dn ∧ r = mrt x)
  wn : x.wn ≤ 63
  dn : x.dn ≤ 63
  ok : ROk r

theorem NumV.lt {w : World} {x : Vl} {r : Rt} (h : NumV x r) (hx : VlAt w x) : r.num < W64 ^ 63 ∧ r.den < W64 ^ 63 := by
  have h1 : val W64 x.wf x.wn < W64 ^ 63 := Nat.lt_of_lt_of_le (val_lt hx.ws.lt) (Nat.pow_le_pow_right W64_pos h.wn)
  have h2 : val W64 x.df x.dn < W64 ^ 63 := Nat.lt_of_lt_of_le (val_lt hx.ds.lt) (Nat.pow_le_pow_right W64_pos h.dn)
  rcases h.form with ⟨_, rfl⟩ | ⟨_, _, rfl⟩
  · refine ⟨?_, ?_⟩
    · show (sg x.neg (val W64 x.wf x.wn)).natAbs < _
      rw [sg_nat]; exact h1
    · show 1 < _
      exact Nat.lt_of_lt_of_le W64_gt (by rw [show (63 : Nat) = 62 + 1 from rfl, Nat.pow_succ]; exact Nat.le_mul_of_pos_left _ (Nat.pow_pos W64_pos))
  · exact ⟨h1, h2⟩

theorem madeNum_any (x : Vl) (r : Rt) (w : World) (h : VlAt w x) (hm : NumV x r) :
    Calls Tryz.prog 39 #[.agg #[.int .i64 x.kind, .bool x.truth, .string x.text, .bool x.neg, .slice x.wa x.wn x.wc, .slice x.da x.dn x.dc, .bool x.ineg, .slice x.ia x.inn x.ic, .slice x.ea x.en x.ec]] w fun e w' => ∃ u, e = .returned u ∧ CNum w' u r ∧ Below w.heap.size w w' := by
  have hwn := hm.wn
  have hdn := hm.dn
  rcases hm.form with ⟨hk, rfl⟩ | ⟨hk, hd, rfl⟩
  · refine (madeInt_any x w h hk (by omega)).mono ?_
    rintro e w1 ⟨u, rfl, hu, hB⟩
    exact ⟨u, rfl, .inl ⟨_, hu, rfl⟩, hB⟩
  · refine (madeRat_any x w h hk hwn hdn hd).mono ?_
    rintro e w1 ⟨u, rfl, hu, hB⟩
    exact ⟨u, rfl, .inr hu, hB⟩
end Go.Proofs.YtdkipndepkblhaaGreatDoor
