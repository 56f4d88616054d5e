/-
  The reference's fractions: Minus, Order.
-/
import Derived.Test.YtdepmbpickonoaaGreatDoorSpec10
set_option linter.unusedSimpArgs false
set_option linter.unusedVariables false
namespace Go.Proofs.YtdepmbpickonoaaGreatDoor
open Go.RowKit Go.Bg Dg

theorem rt_negated_den (y : Rt) : y.negated.den = y.den := rfl

set_option maxRecDepth 100000 in
set_option maxHeartbeats 2000000 in
theorem minus_any (s1 s2 : Bool) (a1 : Option Addr) (n1 c1 : Nat) (a1' : Option Addr) (n1' c1' : Nat) (a2 : Option Addr) (n2 c2 : Nat) (a2' : Option Addr) (n2' c2' : Nat) (x y : Rt) (L : Nat) (w : World)
    (hx : RtAt w s1 a1 n1 c1 a1' n1' c1' x L) (hy : RtAt w s2 a2 n2 c2 a2' n2' c2' y L) (hxd : 0 < x.den) (hyd : 0 < y.den) (hL2 : L ≤ 20000) :
    Calls Tryz.prog 9 #[.agg #[.bool s1, .slice a1 n1 c1, .slice a1' n1' c1'], .agg #[.bool s2, .slice a2 n2 c2, .slice a2' n2' c2']] w (GivesR (x.minus y) (2 * L + 1) w) := by
  obtain ⟨W0, hW0⟩ : ∃ W0, W0 = ((w.alloc (.cells #[.bool s1, .slice a1 n1 c1, .slice a1' n1' c1'] 31)).alloc (.cells #[.bool s2, .slice a2 n2 c2, .slice a2' n2' c2'] 31)).alloc (.cells #[.bool false, .slice none 0 0, .slice none 0 0] 31) := ⟨_, rfl⟩
  have P := plusW w s1 s2 (.slice a1 n1 c1) (.slice a1' n1' c1') (.slice a2 n2 c2) (.slice a2' n2' c2') 31
  rw [← hW0] at P
  have HW := Lib.hid hW0
  clear hW0
  have HX := Lib.hid (show ∀ W', Below W0.heap.size W0 W' → RtAt W' s1 a1 n1 c1 a1' n1' c1' x L from fun W' hb => (hx.keep P.below).keep hb)
  have HY := Lib.hid (show ∀ W', Below W0.heap.size W0 W' → RtAt W' s2 a2 n2 c2 a2' n2' c2' y L from fun W' hb => (hy.keep P.below).keep hb)
  have hyd' : 0 < y.negated.den := hyd
  clear hx hy
  go_enter Tryz.func9, Tryz.ntmps9
  go_wp2_with fail
  rw [← HW.out]
  have hb0 : Below W0.heap.size W0 W0.drew := (Below.refl _ _).drew
  go_region_held3 (fun w' => w'.cell? ⟨w.heap.size, 0, none⟩ = some (.bool s1) ∧ w'.cell? ⟨w.heap.size, 1, none⟩ = some (.slice a1 n1 c1) ∧ w'.cell? ⟨w.heap.size, 2, none⟩ = some (.slice a1' n1' c1') ∧
      w'.cell? ⟨w.heap.size + 1, 0, none⟩ = some (.bool s2) ∧ w'.cell? ⟨w.heap.size + 1, 1, none⟩ = some (.slice a2 n2 c2) ∧ w'.cell? ⟨w.heap.size + 1, 2, none⟩ = some (.slice a2' n2' c2'))
    (first | exact ⟨P.x0, P.x1, P.x2, P.y0, P.y1, P.y2⟩ | exact ⟨cell_keep P.x0 (by assumption), cell_keep P.x1 (by assumption), cell_keep P.x2 (by assumption), cell_keep P.y0 (by assumption), cell_keep P.y1 (by assumption), cell_keep P.y2 (by assumption)⟩ | (refine ⟨?_, ?_, ?_, ?_, ?_, ?_⟩ <;> (rw [cell?_setCell_ne (by omega), cell?_setCell_ne (by omega), cell?_setCell_ne (by omega)]) <;> first | exact cell_keep P.x0 (by assumption) | exact cell_keep P.x1 (by assumption) | exact cell_keep P.x2 (by assumption) | exact cell_keep P.y0 (by assumption) | exact cell_keep P.y1 (by assumption) | exact cell_keep P.y2 (by assumption)))
    (first | (go_at_call 16; (with_reducible refine (negated_any s2 a2 n2 c2 a2' n2' c2' L y _ (HY.out _ (by assumption)) (by omega)).mono ?_); rintro e w1 ⟨sN, aN, nN, cN, aE, nE, cE, rfl, hN, hB1⟩; have hb1 := Below.then hb0 (Nat.le_refl _) hB1) | (go_at_call 15; (with_reducible refine (plus_any s1 sN a1 n1 c1 a1' n1' c1' aN nN cN aE nE cE x y.negated L _ (HX.out _ (by assumption)) hN hxd hyd' hL2).mono ?_); rintro e w2 ⟨sR, aR, nR, cR, aF, nF, cF, rfl, hR, hB2⟩; have hb2 := Below.then hb1 (Nat.le_refl _) hB2; have R2 := P.res.below P.res.lt hb2; obtain ⟨⟨u0, r0⟩, ⟨u1, r1⟩, ⟨u2, r2⟩⟩ := (R2).cells; have f0 := (R2).frozen 0; have f1 := (R2).frozen 1; have f2 := (R2).frozen 2))
  have hbf := Below.then P.below (Nat.le_refl _) hb2
  go_wp2
  exact bodyPost_ret (v := .agg #[.bool sR, .slice aR nR cR, .slice aF nF cF]) (by simp [results, Tryz.results9, go_sem, r0, r1, r2]) rfl (givesR_end R2 (by omega) hbf hR)

/-- does a comparison hold of -1, 0 or 1 -/
def ordB (op : Nat) (c : Int) : Bool :=
  if op = 0 then decide (c = 0) else if op = 1 then decide (c ≠ 0) else if op = 2 then decide (c < 0) else if op = 3 then decide (c ≤ 0) else if op = 4 then decide (0 < c) else decide (0 ≤ c)

set_option maxHeartbeats 1000000 in
theorem order_any (op : Nat) (c : Int) (w : World) (hop : op < 6) (h1 : -1 ≤ c) (h2 : c ≤ 1) :
    Calls Tryz.prog 7 #[.int .i64 op, .int .i64 c] w fun e w' => e = .returned (.bool (ordB op c)) ∧ w = w' := by
  have hc : c = -1 ∨ c = 0 ∨ c = 1 := by omega
  match op, hop with
  | 0, _ => rcases hc with rfl | rfl | rfl <;> (go_enter Tryz.func7, Tryz.ntmps7; go_wp2; go_ret; exact ⟨rfl, rfl⟩)
  | 1, _ => rcases hc with rfl | rfl | rfl <;> (go_enter Tryz.func7, Tryz.ntmps7; go_wp2; go_ret; exact ⟨rfl, rfl⟩)
  | 2, _ => rcases hc with rfl | rfl | rfl <;> (go_enter Tryz.func7, Tryz.ntmps7; go_wp2; go_ret; exact ⟨rfl, rfl⟩)
  | 3, _ => rcases hc with rfl | rfl | rfl <;> (go_enter Tryz.func7, Tryz.ntmps7; go_wp2; go_ret; exact ⟨rfl, rfl⟩)
  | 4, _ => rcases hc with rfl | rfl | rfl <;> (go_enter Tryz.func7, Tryz.ntmps7; go_wp2; go_ret; exact ⟨rfl, rfl⟩)
  | 5, _ => rcases hc with rfl | rfl | rfl <;> (go_enter Tryz.func7, Tryz.ntmps7; go_wp2; go_ret; exact ⟨rfl, rfl⟩)
end Go.Proofs.YtdepmbpickonoaaGreatDoor
