/-
  Compare of two integers; the thin package's Compare.
-/
import Derived.Test.YtdepmbpickonoaaGreatDoorBigJ
set_option linter.unusedSimpArgs false
set_option linter.unusedVariables false
namespace Go.Proofs.YtdepmbpickonoaaGreatDoor
open Go.RowKit Go.Bg Dg

theorem cmpB_cmpZ (k : Nat) (x y : Int) : cmpB k (cmpZ x y) = if k = 0 then decide (x = y) else if k = 1 then decide (x ≠ y) else if k = 2 then decide (x < y) else if k = 3 then decide (x ≤ y) else if k = 4 then decide (y < x) else decide (y ≤ x) := by
  unfold cmpB cmpZ
  rcases Int.lt_trichotomy x y with h | h | h
  · have h1 : ¬ x = y := by omega
    have h2 : ¬ y < x := by omega
    have h3 : x ≤ y := by omega
    have h4 : ¬ y ≤ x := by omega
    simp [h, h1, h2, h3, h4]
  · subst h; simp
  · have h1 : ¬ x = y := by omega
    have h2 : ¬ x < y := by omega
    have h3 : y ≤ x := by omega
    have h4 : ¬ x ≤ y := by omega
    simp [h, h1, h2, h3, h4]

theorem field_intVal (p : Value) (w : World) : (Instr.field 60 (.agg #[p]) 0).run Tryz.prog w = .ok p w := by kernel_rfl

set_option maxRecDepth 100000 in
set_option maxHeartbeats 2000000 in
theorem compareInt_any (k : Nat) (hk : k < 6) (v1 v2 : Value) (z1 z2 : Int) (w : World) (h1 : CInt w v1 z1) (h2 : CInt w v2 z2) :
    Calls Tryz.prog 13 #[v1, .int .i64 (cmpTok k), v2] w fun e w' => e = .returned (.bool (cmpB k (cmpZ z1 z2))) ∧ Below w.heap.size w w' := by
  have H1 := Lib.hid h1
  have H2 := Lib.hid h2
  have HC := Lib.hid (cmpB_cmpZ k z1 z2)
  clear h1 h2
  go_enter Tryz.func13, Tryz.ntmps13
  go_wp2_with fail
  refine (matchInt_any v1 v2 z1 z2 _ H1.out H2.out).mono ?_
  rintro e w1 ⟨u1, u2, rfl, hS, hB⟩
  have HB := Lib.hid hB
  clear hB
  rcases hS with ⟨rfl, _, rfl, _⟩ | ⟨⟨b1, o1, s, N, rfl, hI, e1⟩, ⟨b2, o2, t, M, rfl, hJ, e2⟩⟩
  · obtain ⟨t1, t2, t3, _, _, _, _, _, t9⟩ := ta_int64Val
    rcases (by omega : k = 0 ∨ k = 1 ∨ k = 2 ∨ k = 3 ∨ k = 4 ∨ k = 5) with rfl | rfl | rfl | rfl | rfl | rfl
    all_goals
      simp only [cmpTok]
      go_wp2
      go_ret
      exact ⟨ret_bool (by rw [HC.out]; simp; try rfl), HB.out⟩
  · obtain ⟨t1, t2, t3, t4, _, _, _, _, t9⟩ := ta_intVal
    have HI := Lib.hid hI
    have HJ := Lib.hid hJ
    have HE := Lib.hid (show cmpZ (sg s N) (sg t M) = cmpZ z1 z2 from by rw [e1, e2])
    clear hI hJ e1 e2
    have hfld := field_intVal
    go_wp2_with fail
    go_quiet (first | (go_at_call 20; refine Calls.quiet_of (intCmp_any b1 o1 b2 o2 s t N M _ ((HI.out.keep (Below.alloc' (Below.refl _ _) _)).keep (below_of_drewN ⟨_, rfl⟩)) ((HJ.out.keep (Below.alloc' (Below.refl _ _) _)).keep (below_of_drewN ⟨_, rfl⟩)))) | (go_at_call 19; refine Calls.quiet_of_same ((cmpZero_any k hk _ _).mono (fun _ _ h => ⟨h.1, h.2.symm⟩))))
    go_wp2
    go_ret
    exact ⟨ret_bool (by rw [HE.out]), (Below.alloc' HB.out _).trans (below_of_drewN ⟨_, rfl⟩)⟩

set_option maxRecDepth 100000 in
set_option maxHeartbeats 2000000 in
theorem implCompareInt_any (k : Nat) (hk : k < 6) (x y : Vl) (w : World) (h1 : VlAt w x) (h2 : VlAt w y) (k1 : x.kind = 3) (k2 : y.kind = 3) (n1 : x.wn ≤ 1000000) (n2 : y.wn ≤ 1000000) :
    Calls Tryz.prog 6 #[.int .i64 k, .agg #[.int .i64 x.kind, .bool x.truth, .string x.text, .bool x.neg, .slice x.wa x.wn x.wc, .slice x.da x.dn x.dc, .bool x.ineg, .slice x.ia x.inn x.ic, .slice x.ea x.en x.ec], .agg #[.int .i64 y.kind, .bool y.truth, .string y.text, .bool y.neg, .slice y.wa y.wn y.wc, .slice y.da y.dn y.dc, .bool y.ineg, .slice y.ia y.inn y.ic, .slice y.ea y.en y.ec]] w fun e w' => e = .returned (.bool (cmpB k (cmpZ (sg x.neg (val W64 x.wf x.wn)) (sg y.neg (val W64 y.wf y.wn))))) ∧ Below w.heap.size w w' := by
  obtain ⟨W0, hW0⟩ : ∃ W0, W0 = (w.alloc (.cells #[.int .i64 x.kind, .bool x.truth, .string x.text, .bool x.neg, .slice x.wa x.wn x.wc, .slice x.da x.dn x.dc, .bool x.ineg, .slice x.ia x.inn x.ic, .slice x.ea x.en x.ec] 26)).alloc (.cells #[.int .i64 y.kind, .bool y.truth, .string y.text, .bool y.neg, .slice y.wa y.wn y.wc, .slice y.da y.dn y.dc, .bool y.ineg, .slice y.ia y.inn y.ic, .slice y.ea y.en y.ec] 26) := ⟨_, rfl⟩
  have HW := Lib.hid hW0
  have hb0 : Below w.heap.size w W0 := by rw [hW0]; exact Below.alloc' (Below.alloc' (Below.refl _ _) _) _
  have X : Box9 W0 w.heap.size x := by rw [hW0]; exact (Box9.new w x _ rfl).alloc _
  have Y : Box9 W0 (w.heap.size + 1) y := by rw [hW0]; exact Box9.new _ y _ (by simp)
  have HX := Lib.hid (h1.keep hb0)
  have HY := Lib.hid (h2.keep hb0)
  have K1 := Lib.hid k1
  have K2 := Lib.hid k2
  clear hW0 h1 h2 k1 k2
  go_enter Tryz.func6, Tryz.ntmps6
  go_upto_region 1 with fail
  rw [← HW.out]
  go_wp2_with fail
  refine (comparison_any k hk _).mono ?_
  rintro e w1 ⟨rfl, hB1⟩
  have hb1 := Below.then hb0 (Nat.le_refl _) hB1
  have X1 := X.keep hB1
  have Y1 := Y.keep hB1
  have HX1 := Lib.hid (HX.out.keep hB1)
  have HY1 := Lib.hid (HY.out.keep hB1)
  go_wp2_with fail
  have hd0 : Below w1.heap.size w1 w1.drew := (Below.refl _ _).drew
  go_region_held3 (fun w' => (w'.cell? ⟨w.heap.size, 0, none⟩ = some (.int .i64 x.kind) ∧ w'.cell? ⟨w.heap.size, 1, none⟩ = some (.bool x.truth) ∧ w'.cell? ⟨w.heap.size, 2, none⟩ = some (.string x.text) ∧ w'.cell? ⟨w.heap.size, 3, none⟩ = some (.bool x.neg) ∧ w'.cell? ⟨w.heap.size, 4, none⟩ = some (.slice x.wa x.wn x.wc) ∧ w'.cell? ⟨w.heap.size, 5, none⟩ = some (.slice x.da x.dn x.dc) ∧ w'.cell? ⟨w.heap.size, 6, none⟩ = some (.bool x.ineg) ∧ w'.cell? ⟨w.heap.size, 7, none⟩ = some (.slice x.ia x.inn x.ic) ∧ w'.cell? ⟨w.heap.size, 8, none⟩ = some (.slice x.ea x.en x.ec)) ∧ (w'.cell? ⟨(w.heap.size + 1), 0, none⟩ = some (.int .i64 y.kind) ∧ w'.cell? ⟨(w.heap.size + 1), 1, none⟩ = some (.bool y.truth) ∧ w'.cell? ⟨(w.heap.size + 1), 2, none⟩ = some (.string y.text) ∧ w'.cell? ⟨(w.heap.size + 1), 3, none⟩ = some (.bool y.neg) ∧ w'.cell? ⟨(w.heap.size + 1), 4, none⟩ = some (.slice y.wa y.wn y.wc) ∧ w'.cell? ⟨(w.heap.size + 1), 5, none⟩ = some (.slice y.da y.dn y.dc) ∧ w'.cell? ⟨(w.heap.size + 1), 6, none⟩ = some (.bool y.ineg) ∧ w'.cell? ⟨(w.heap.size + 1), 7, none⟩ = some (.slice y.ia y.inn y.ic) ∧ w'.cell? ⟨(w.heap.size + 1), 8, none⟩ = some (.slice y.ea y.en y.ec)))
    (first | exact ⟨X1.all, Y1.all⟩ | exact ⟨(X1.keep (by assumption)).all, (Y1.keep (by assumption)).all⟩)
    (first | (go_at_call 14; (with_reducible refine (madeInt_any x _ ?_ ?_ ?_).mono ?_); exact HX1.out.keep (by assumption); exact K1.out; omega; rintro e w2 ⟨u1, rfl, hu1, hB2⟩; have hb2 := Below.then hd0 (Nat.le_refl _) hB2) | (go_at_call 14; (with_reducible refine (madeInt_any y _ ?_ ?_ ?_).mono ?_); exact HY1.out.keep (by assumption); exact K2.out; omega; rintro e w3 ⟨u2, rfl, hu2, hB3⟩; have hb3 := Below.then hb2 (Nat.le_refl _) hB3) | (go_at_call 13; (with_reducible refine (compareInt_any k hk u1 u2 (sg x.neg (val W64 x.wf x.wn)) (sg y.neg (val W64 y.wf y.wn)) _ ?_ ?_).mono ?_); exact hu1.keep hB3; exact hu2; rintro e w4 ⟨rfl, hB4⟩; have hb4 := Below.then hb3 (Nat.le_refl _) hB4))
  go_wp2
  go_ret
  exact ⟨rfl, Below.then hb1 (Nat.le_refl _) hb4⟩
end Go.Proofs.YtdepmbpickonoaaGreatDoor
