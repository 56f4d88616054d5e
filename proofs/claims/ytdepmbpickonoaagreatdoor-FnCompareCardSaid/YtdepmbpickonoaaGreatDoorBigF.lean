/-
  made of an Int; the operators that compare; ord, cmpZero.
-/
import Derived.Test.YtdepmbpickonoaaGreatDoorBigE
import Derived.Test.YtdepmbpickonoaaGreatDoorRtB
set_option linter.unusedSimpArgs false
set_option linter.unusedVariables false
namespace Go.Proofs.YtdepmbpickonoaaGreatDoor
open Go.RowKit Go.Bg Dg

theorem sg_and (s : Bool) (N : Nat) : sg (s && decide (0 < N)) N = sg s N := by
  cases s
  · rfl
  · by_cases h : 0 < N
    · simp [h]
    · have : N = 0 := by omega
      subst this; rfl

set_option maxRecDepth 100000 in
set_option maxHeartbeats 1000000 in
theorem madeInt_any (v : Vl) (w : World) (h : VlAt w v) (hk : v.kind = 3) (hn : v.wn ≤ 1000000) :
    Calls Tryz.prog 14 #[.agg #[.int .i64 v.kind, .bool v.truth, .string v.text, .bool v.neg, .slice v.wa v.wn v.wc, .slice v.da v.dn v.dc, .bool v.ineg, .slice v.ia v.inn v.ic, .slice v.ea v.en v.ec]] w fun e w' => ∃ u, e = .returned u ∧ CInt w' u (sg v.neg (val W64 v.wf v.wn)) ∧ Below w.heap.size w w' := by
  obtain ⟨W0, hW0⟩ : ∃ W0, W0 = w.alloc (.cells #[.int .i64 v.kind, .bool v.truth, .string v.text, .bool v.neg, .slice v.wa v.wn v.wc, .slice v.da v.dn v.dc, .bool v.ineg, .slice v.ia v.inn v.ic, .slice v.ea v.en v.ec] 26) := ⟨_, rfl⟩
  have HW := Lib.hid hW0
  have hb0 : Below w.heap.size w W0 := by rw [hW0]; exact Below.alloc' (Below.refl _ _) _
  have X : Box9 W0 w.heap.size v := by rw [hW0]; exact Box9.new w v _ rfl
  have HX := Lib.hid (h.keep hb0)
  clear hW0 h
  obtain ⟨xc0, xc1, xc2, xc3, xc4, xc5, xc6, xc7, xc8⟩ := (X).all
  rw [hk] at xc0
  clear hk
  go_enter Tryz.func14, Tryz.ntmps14
  go_upto_region 1 with fail
  rw [← HW.out]
  go_wp2_with fail
  refine (of_any' v.neg v.wa v.wn v.wc v.wf _ HX.out.ws hn).mono ?_
  rintro e w1 ⟨b, rfl, hb, hI, hB1⟩
  go_wp2_with fail
  refine (makeOfInt_any b 0 _ _ _ hI).mono ?_
  rintro e w2 ⟨u, rfl, hu, rfl⟩
  rw [sg_and] at hu
  have hbf := Below.then hb0 (Nat.le_refl _) hB1
  go_wp2
  go_ret
  exact ⟨_, rfl, hu, hbf⟩

/-- the token of an operator that compares -/
def cmpTok (k : Nat) : Int := if k = 0 then 39 else if k = 1 then 44 else if k = 2 then 40 else if k = 3 then 45 else if k = 4 then 41 else 46

set_option maxRecDepth 100000 in
set_option maxHeartbeats 1000000 in
theorem comparison_any (k : Nat) (hk : k < 6) (w : World) :
    Calls Tryz.prog 12 #[.int .i64 k] w fun e w' => e = .returned (.tuple #[.int .i64 (cmpTok k), .bool true]) ∧ Below w.heap.size w w' := by
  have HB := Lib.hid (fun (o : Obj) => (Below.alloc' (Below.refl w.heap.size w) o))
  obtain ⟨T, hT⟩ : ∃ T, T = cmpTok k := ⟨_, rfl⟩
  rcases (by omega : k = 0 ∨ k = 1 ∨ k = 2 ∨ k = 3 ∨ k = 4 ∨ k = 5) with rfl | rfl | rfl | rfl | rfl | rfl
  all_goals
    go_enter Tryz.func12, Tryz.ntmps12
    go_wp2
    refine bodyPost_ret (v := .tuple #[.int .i64 T, .bool true]) (by rw [hT]; simp [results, Tryz.results12, go_sem, cmpTok]) rfl ⟨by rw [hT], HB.out _⟩

/-- what an operator that compares says of an order -/
def cmpB (k : Nat) (c : Int) : Bool := if k = 0 then decide (c = 0) else if k = 1 then decide (c ≠ 0) else if k = 2 then decide (c < 0) else if k = 3 then decide (c ≤ 0) else if k = 4 then decide (0 < c) else decide (0 ≤ c)

set_option maxRecDepth 100000 in
set_option maxHeartbeats 1000000 in
theorem cmpZero_any (k : Nat) (hk : k < 6) (c : Int) (w : World) :
    Calls Tryz.prog 19 #[.int .i64 c, .int .i64 (cmpTok k)] w fun e w' => e = .returned (.bool (cmpB k c)) ∧ w = w' := by
  rcases (by omega : k = 0 ∨ k = 1 ∨ k = 2 ∨ k = 3 ∨ k = 4 ∨ k = 5) with rfl | rfl | rfl | rfl | rfl | rfl
  all_goals
    simp only [cmpTok, cmpB]
    go_enter Tryz.func19, Tryz.ntmps19
    go_wp2
    go_ret
    exact ⟨ret_bool (by first | rfl | (simp; done) | (simp; rfl)), rfl⟩

/-- the place of an integer's form among the forms -/
def ordOf (v : Value) : Int := match v with | .iface t _ => if t = 57 then 2 else 3 | _ => 0

set_option maxRecDepth 100000 in
set_option maxHeartbeats 1000000 in
theorem ordInt_any (v : Value) (z : Int) (w : World) (h : CInt w v z) :
    Calls Tryz.prog 41 #[v] w fun e w' => e = .returned (.int .i64 (ordOf v)) ∧ w = w' := by
  rcases h with ⟨rfl, _⟩ | ⟨b, o, s, N, rfl, _, _⟩
  · obtain ⟨t1, t2, t3, t4, t5, t6, t7, t8, t9⟩ := ta_int64Val
    go_enter Tryz.func41, Tryz.ntmps41
    go_wp2
    go_ret
    exact ⟨ret_int rfl, rfl⟩
  · obtain ⟨t1, t2, t3, t4, t5, t6, t7, t8, t9⟩ := ta_intVal
    go_enter Tryz.func41, Tryz.ntmps41
    go_wp2
    go_ret
    exact ⟨ret_int rfl, rfl⟩
end Go.Proofs.YtdepmbpickonoaaGreatDoor
