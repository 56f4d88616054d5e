/-
  The unknown value told.
  A fraction that is whole: Rat.IsInt, constant.ToInt; impl.ToInt.
-/
import Derived.Test.YtdkipndepkblhaaGreatDoorBuL
import Derived.Test.YtdkipndepkblhaaGreatDoorBuM
import Derived.Test.YtdkipndepkblhaaGreatDoorBuG
set_option linter.unusedSimpArgs false
set_option linter.unusedVariables false
namespace Go.Proofs.YtdkipndepkblhaaGreatDoor
open Go.RowKit Go.Bg Dg

/-- the value is the unknown one, told -/
def IsU (x : Vl) : Prop := x.kind = 0

theorem methodKindUnk (x : Value) (w : World) : (method 400 80 x "Kind").run Tryz.prog w = .ok (312, x) w := by kernel_rfl

set_option maxRecDepth 100000 in
theorem kindUnk_any (w : World) : Calls Tryz.prog 312 #[.agg #[]] w fun e w' => e = .returned (.int .i64 0) ∧ Below w.heap.size w w' := by
  have HB := Lib.hid (fun o => (Below.refl w.heap.size w).alloc (Nat.le_refl _) o)
  go_enter Tryz.func312, Tryz.ntmps312
  go_wp2
  go_ret
  first
    | exact ⟨rfl, HB.out _⟩
    | exact ⟨rfl, Below.refl _ _⟩

set_option maxRecDepth 100000 in
set_option maxHeartbeats 1000000 in
theorem toldUnk_any (w : World) : Calls Tryz.prog 37 #[.iface 80 (.agg #[])] w (GivesV IsU w) := by
  have hm := methodKindUnk
  have hb0 : Below w.heap.size w (w.alloc (.cells #[.int .i64 0, .bool false, .string ⟨#[]⟩, .bool false, .slice none 0 0, .slice none 0 0, .bool false, .slice none 0 0, .slice none 0 0] 26)) := Below.alloc' (Below.refl _ _) _
  have hR0 := BlkAt.new w #[.int .i64 0, .bool false, .string ⟨#[]⟩, .bool false, .slice none 0 0, .slice none 0 0, .bool false, .slice none 0 0, .slice none 0 0] 26
  go_enter Tryz.func37, Tryz.ntmps37
  go_wp2_with fail
  refine (kindUnk_any _).mono ?_
  rintro e w1 ⟨rfl, hB1⟩
  have hR1 := (hR0.keep hB1).keep ((Below.refl _ _).alloc (Nat.le_refl _) (.cells #[.int .i64 0, .bool false, .string ⟨#[]⟩, .bool false, .slice none 0 0, .slice none 0 0, .bool false, .slice none 0 0, .slice none 0 0] 26))
  have hO1 := BlkAt.new w1 #[.int .i64 0, .bool false, .string ⟨#[]⟩, .bool false, .slice none 0 0, .slice none 0 0, .bool false, .slice none 0 0, .slice none 0 0] 26
  have hb1 := Below.alloc' (Below.then hb0 (Nat.le_refl _) hB1) (.cells #[.int .i64 0, .bool false, .string ⟨#[]⟩, .bool false, .slice none 0 0, .slice none 0 0, .bool false, .slice none 0 0, .slice none 0 0] 26)
  have hlt1 := (hR0.keep hB1).lt
  clear hR0 hb0 hB1
  go_wp2_with fail
  refine (kindUnk_any _).mono ?_
  rintro e w2 ⟨rfl, hB2⟩
  have hR2 := hR1.keep hB2
  have hO2 := hO1.keep hB2
  have HB2 := Lib.hid (Below.then hb1 (Nat.le_refl _) hB2)
  have hne : w.heap.size ≠ w1.heap.size := Nat.ne_of_lt hlt1
  clear hR1 hO1 hb1 hB2
  have oc0 := (hO2).cell 0; have oc1 := (hO2).cell 1; have oc2 := (hO2).cell 2; have oc3 := (hO2).cell 3; have oc4 := (hO2).cell 4; have oc5 := (hO2).cell 5; have oc6 := (hO2).cell 6; have oc7 := (hO2).cell 7; have oc8 := (hO2).cell 8; simp only [List.getElem?_toArray, List.getElem?_cons_zero, List.getElem?_cons_succ] at oc0 oc1 oc2 oc3 oc4 oc5 oc6 oc7 oc8
  have of0 := (hO2).frozen 0; have of1 := (hO2).frozen 1; have of2 := (hO2).frozen 2; have of3 := (hO2).frozen 3; have of4 := (hO2).frozen 4; have of5 := (hO2).frozen 5; have of6 := (hO2).frozen 6; have of7 := (hO2).frozen 7; have of8 := (hO2).frozen 8
  have rc0 := (hR2).cell 0; have rc1 := (hR2).cell 1; have rc2 := (hR2).cell 2; have rc3 := (hR2).cell 3; have rc4 := (hR2).cell 4; have rc5 := (hR2).cell 5; have rc6 := (hR2).cell 6; have rc7 := (hR2).cell 7; have rc8 := (hR2).cell 8; simp only [List.getElem?_toArray, List.getElem?_cons_zero, List.getElem?_cons_succ] at rc0 rc1 rc2 rc3 rc4 rc5 rc6 rc7 rc8
  have rf0 := (hR2).frozen 0; have rf1 := (hR2).frozen 1; have rf2 := (hR2).frozen 2; have rf3 := (hR2).frozen 3; have rf4 := (hR2).frozen 4; have rf5 := (hR2).frozen 5; have rf6 := (hR2).frozen 6; have rf7 := (hR2).frozen 7; have rf8 := (hR2).frozen 8
  clear hm hO2 hR2
  go_wp2
  refine bodyPost_ret (v := .agg #[.int .i64 0, .bool false, .string ⟨#[]⟩, .bool false, .slice none 0 0, .slice none 0 0, .bool false, .slice none 0 0, .slice none 0 0]) (by simp [results, Tryz.results37, go_sem, rc0, rc1, rc2, rc3, rc4, rc5, rc6, rc7, rc8]) rfl ⟨⟨0, false, ⟨#[]⟩, false, none, 0, 0, fun _ => 0, none, 0, 0, fun _ => 0, false, none, 0, 0, fun _ => 0, none, 0, 0, fun _ => 0⟩, rfl, ⟨nilWords _, nilWords _, nilWords _, nilWords _, Nat.zero_le _, by simp⟩, rfl, ?_⟩
  iterate 9 refine Below.setCell ?_ (by exact Nat.le_refl _) _
  exact HB2.out
end Go.Proofs.YtdkipndepkblhaaGreatDoor

set_option linter.unusedSimpArgs false
set_option linter.unusedVariables false
namespace Go.Proofs.YtdkipndepkblhaaGreatDoor
open Go.RowKit Go.Bg Dg

set_option maxRecDepth 100000 in
set_option maxHeartbeats 1000000 in
theorem natOne_any (w : World) : Calls Tryz.prog 135 #[] w fun e w' => e = .returned (.slice (some ⟨w.heap.size, 0, none⟩) 1 1) ∧ w' = w.alloc (.cells #[.int .u64 1] 151) := by
  go_enter Tryz.func135, Tryz.ntmps135
  go_wp2
  go_ret
  exact ⟨rfl, rfl⟩

theorem natOne_is (w : World) : BigN 151 (w.alloc (.cells #[.int .u64 1] 151)) (some ⟨w.heap.size, 0, none⟩) 1 1 1 := by
  have h := BlkAt.new w #[.int .u64 1] 151
  refine ⟨⟨by rw [Nat.pow_one]; exact W64_gt, .inr (by simp), Nat.le_refl _, by simp [maxLen], fun _ => ⟨w.heap.size, 0, rfl, fun i hi => ?_⟩⟩, .inr ⟨_, _, rfl, h, rfl⟩⟩
  obtain rfl : i = 0 := by omega
  have e : dg W64 1 0 = 1 := by unfold dg; rw [Nat.pow_zero, Nat.div_one, Nat.mod_eq_of_lt W64_gt]
  show (w.alloc (.cells #[.int .u64 1] 151)).cell? ⟨w.heap.size, 0, none⟩ = some (.int .u64 ((dg W64 1 0 : Nat) : Int))
  rw [h.cell, e]
  rfl

set_option maxRecDepth 100000 in
set_option maxHeartbeats 1000000 in
theorem ratIsInt_any (b : Nat) (s : Bool) (N D : Nat) (w : World) (h : RatAt 151 w b s N D) :
    Calls Tryz.prog 192 #[.pointer (some ⟨b, 0, none⟩)] w fun e w' => e = .returned (.bool (decide (D = 1))) ∧ Below w.heap.size w w' := by
  obtain ⟨a, n, c, h0, h1, hN⟩ := h.d.val
  have hp := natAt_pos_len hN.num
  have hpos := h.pos
  have hn : 0 < n := by simpa [hpos] using hp
  have hz : ((n : Int) == 0) = false := by simp; omega
  have hcm := hN.num.cm
  have hnc := hN.num.nc
  have HN := Lib.hid hN
  have HD := Lib.hid (show decide (cmpI D 1 = 0) = decide (D = 1) from by
    unfold cmpI
    by_cases h1 : D < 1
    · omega
    · by_cases h2 : D = 1
      · subst h2; rfl
      · have : ¬ D < 1 := h1
        simp [h2]; omega)
  clear hp h hN hpos hn
  go_enter Tryz.func192, Tryz.ntmps192
  have h13 : w.cell? ⟨b, 3, none⟩ = some (.slice a n c) := h1
  have HH := Lib.hid h13
  clear h1 h0
  go_wp2_with fail
  have hd0 : Below w.heap.size w w.drew := (Below.refl _ _).drew
  go_region_held3 (fun w' => w'.cell? ⟨b, 3, none⟩ = some (.slice a n c))
    (first | with_reducible exact h13 | exact cell_keep h13 (by assumption))
    (first | (go_at_call 135; (with_reducible refine (natOne_any _).mono ?_); rintro e w1 ⟨rfl, hw1⟩; have hb1 : Below w.heap.size w w1 := (by rw [hw1]; exact Below.alloc' hd0 _); have hone : BigN 151 w1 (some ⟨w.heap.size, 0, none⟩) 1 1 1 := (by rw [hw1]; exact natOne_is w.drew); clear hw1) | (go_at_call 125; (with_reducible refine (natCmp_any _ _ _ _ _ _ D 1 _ ?_ ?_).mono ?_); exact HN.out.num.keep hb1; exact hone.num; rintro e w2 ⟨rfl, hd⟩; have hb2 : Below w.heap.size w w2 := Below.then hb1 (Nat.le_refl _) (below_of_drewN hd); clear hd))
  go_wp2
  go_ret
  exact ⟨ret_bool (by rw [← HD.out]; first | rfl | (simp; done) | (simp; rfl)), hb2⟩

end Go.Proofs.YtdkipndepkblhaaGreatDoor
