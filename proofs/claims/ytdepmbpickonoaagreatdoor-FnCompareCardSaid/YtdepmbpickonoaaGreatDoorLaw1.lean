/-
  The laws' own readers: zzFits1, whole, wholes.
-/
import Derived.Test.YtdepmbpickonoaaGreatDoorSpec13
set_option linter.unusedSimpArgs false
set_option linter.unusedVariables false
namespace Go.Proofs.YtdepmbpickonoaaGreatDoor
open Go.RowKit Go.Bg Dg

/-- nothing longer than the bound of the statements -/
def fitsB (v : Vl) : Bool := decide (v.text.size ≤ 2147483647) && decide (v.wn ≤ 2147483647) && decide (v.dn ≤ 2147483647) && decide (v.inn ≤ 2147483647) && decide (v.en ≤ 2147483647)

set_option maxRecDepth 100000 in
set_option maxHeartbeats 1000000 in
theorem fits2_any (b : Bool) (a : Option Addr) (n c : Nat) (w : World) :
    Calls Tryz.prog 10 #[.agg #[.bool b, .slice a n c]] w fun e w' => e = .returned (.bool (decide (n ≤ 2147483647))) ∧ Below w.heap.size w w' := by
  have HB := Lib.hid (fun cs => (Below.refl w.heap.size w).alloc (Nat.le_refl _) (.cells cs 24))
  by_cases h : n ≤ 2147483647
  · go_enter Tryz.func10, Tryz.ntmps10
    go_wp2
    go_ret
    exact ⟨ret_bool (by simp [h]), HB.out _⟩
  · go_enter Tryz.func10, Tryz.ntmps10
    go_wp2
    go_ret
    exact ⟨ret_bool (by simp; omega), HB.out _⟩

set_option maxRecDepth 100000 in
set_option maxHeartbeats 1000000 in
theorem fits1_any (v : Vl) (w : World) :
    Calls Tryz.prog 4 #[.agg #[.int .i64 v.kind, .bool v.truth, .string v.text, .bool v.neg, .slice v.wa v.wn v.wc, .slice v.da v.dn v.dc, .bool v.ineg, .slice v.ia v.inn v.ic, .slice v.ea v.en v.ec]] w fun e w' => e = .returned (.bool (fitsB v)) ∧ Below w.heap.size w w' := by
  have HB := Lib.hid (show ∀ cs, Below w.heap.size w (w.alloc (.cells cs 26)) from fun cs => (Below.refl _ _).alloc (Nat.le_refl _) _)
  go_enter Tryz.func4, Tryz.ntmps4
  go_wp2
  all_goals go_ret
  all_goals refine ⟨ret_bool ?_, ?_⟩
  all_goals first
    | exact HB.out _
    | exact Below.alloc' (HB.out _) _
    | exact Below.alloc' (Below.alloc' (HB.out _) _) _
    | (unfold fitsB; simp_all; done)
    | (unfold fitsB; simp_all; omega)
  go_goals

/-- an Int of at most so many words -/
def wholeB (v : Vl) (k : Nat) : Bool := decide (v.wn ≤ k) && intB v

set_option maxRecDepth 100000 in
set_option maxHeartbeats 1000000 in
theorem lawWhole_any (v : Vl) (k : Nat) (w : World) (h : VlAt w v) (hk : k ≤ 1000) :
    Calls Tryz.prog 11 #[.agg #[.int .i64 v.kind, .bool v.truth, .string v.text, .bool v.neg, .slice v.wa v.wn v.wc, .slice v.da v.dn v.dc, .bool v.ineg, .slice v.ia v.inn v.ic, .slice v.ea v.en v.ec], .int .i64 k] w (Reads1 (wholeB v k) (Rt.whole v.neg (val W64 v.wf v.wn)) (4 * v.wn + 1) w) := by
  by_cases hn : v.wn ≤ k
  · obtain ⟨W0, hW0⟩ : ∃ W0, W0 = (w.alloc (.cells #[.int .i64 v.kind, .bool v.truth, .string v.text, .bool v.neg, .slice v.wa v.wn v.wc, .slice v.da v.dn v.dc, .bool v.ineg, .slice v.ia v.inn v.ic, .slice v.ea v.en v.ec] 26)).alloc (.cells #[.bool false, .slice none 0 0, .slice none 0 0] 31) := ⟨_, rfl⟩
    have I := integerW w v 26 31
    rw [← hW0] at I
    have HW := Lib.hid hW0
    have HI := Lib.hid (show wholeB v k = intB v from by unfold wholeB; simp [hn])
    have HV := Lib.hid (h.keep I.below)
    clear hW0 h
    go_enter Tryz.func11, Tryz.ntmps11
    go_upto_region 3 with fail
    rw [← HW.out]
    obtain ⟨c0, c1, c2, c3, c4, c5, c6, c7, c8⟩ := I.all
    go_wp2_with fail
    refine (integer_any v _ HV.out (by omega)).mono ?_
    rintro e w1 ⟨sV, aV, nV, cV, aE, nE, cE, rfl, hR, hB1⟩
    have RR := I.res.below I.res.lt hB1
    obtain ⟨⟨u0, r0⟩, ⟨u1, r1⟩, ⟨u2, r2⟩⟩ := (RR).cells; have f0 := (RR).frozen 0; have f1 := (RR).frozen 1; have f2 := (RR).frozen 2
    have hbf := Below.then I.below (Nat.le_refl _) hB1
    clear c0 c1 c2 c3 c4 c5 c6 c7 c8
    go_wp2
    exact bodyPost_ret (v := .tuple #[.agg #[.bool sV, .slice aV nV cV, .slice aE nE cE], .bool (intB v)]) (by simp [results, Tryz.results11, go_sem, r0, r1, r2]) rfl
      ⟨_, _, _, _, _, _, _, by rw [HI.out], fun hb => stored3 RR (hR (by rw [← HI.out]; exact hb)), ((hbf.setCell (Nat.le_add_right _ 1) _).setCell (Nat.le_add_right _ 1) _).setCell (Nat.le_add_right _ 1) _⟩
  · have HI := Lib.hid (show wholeB v k = false from by unfold wholeB; simp [hn])
    have hb := ((Below.refl w.heap.size w).alloc (Nat.le_refl _) (.cells #[.int .i64 v.kind, .bool v.truth, .string v.text, .bool v.neg, .slice v.wa v.wn v.wc, .slice v.da v.dn v.dc, .bool v.ineg, .slice v.ia v.inn v.ic, .slice v.ea v.en v.ec] 26)).alloc (by simp) (.cells #[.bool false, .slice none 0 0, .slice none 0 0] 31)
    have HB := Lib.hid hb
    clear hb
    go_enter Tryz.func11, Tryz.ntmps11
    go_wp2
    exact bodyPost_ret (v := .tuple #[.agg #[.bool false, .slice none 0 0, .slice none 0 0], .bool false]) (by simp [results, Tryz.results11, go_sem]) rfl
      ⟨_, _, _, _, _, _, _, by rw [HI.out], fun h => (by rw [HI.out] at h; cases h), HB.out⟩
end Go.Proofs.YtdepmbpickonoaaGreatDoor
