/-
  The reference's readers of values: rest, IsNumber, Integer.
-/
import Derived.Test.YtdepmbpickonoaaGreatDoorSpec11
import Derived.Test.YtdepmbpickonoaaGreatDoorVl
set_option linter.unusedSimpArgs false
set_option linter.unusedVariables false
namespace Go.Proofs.YtdepmbpickonoaaGreatDoor
open Go.RowKit Go.Bg Dg

set_option maxRecDepth 100000 in
set_option maxHeartbeats 2000000 in
theorem rest_any (v : Vl) (w : World) :
    Calls Tryz.prog 40 #[.agg #[.int .i64 v.kind, .bool v.truth, .string v.text, .bool v.neg, .slice v.wa v.wn v.wc, .slice v.da v.dn v.dc, .bool v.ineg, .slice v.ia v.inn v.ic, .slice v.ea v.en v.ec]] w fun e w' => e = .returned (.bool v.restB) ∧ Below w.heap.size w w' := by
  have hb := fun cs => (Below.refl w.heap.size w).alloc (Nat.le_refl _) (.cells cs 26)
  have HB := Lib.hid hb
  clear hb
  go_enter Tryz.func40, Tryz.ntmps40
  go_wp2
  all_goals go_ret
  all_goals exact ⟨ret_bool (by first | (simp_all [Vl.restB]; done) | (simp_all [Vl.restB]; rw [Bool.eq_iff_iff]; simp)), HB.out _⟩

/-- a Number is what is told of an integer -/
def isNumB (xneg : Bool) (f : Nat → Nat) (n : Nat) (neg : Bool) (N : Nat) : Bool := (xneg == (neg && decide (0 < N))) && hasW f n N

set_option maxRecDepth 100000 in
set_option maxHeartbeats 2000000 in
theorem isNumber_any (xneg : Bool) (a1 : Option Addr) (n1 c1 : Nat) (f : Nat → Nat) (neg : Bool) (a2 : Option Addr) (n2 c2 N : Nat) (w : World) (hw : WordsAt w a1 n1 c1 f) (hb1 : n1 ≤ 100000)
    (h2 : NatAt w a2 n2 c2 N) (hb2 : n2 ≤ 400000) :
    Calls Tryz.prog 39 #[.agg #[.bool xneg, .slice a1 n1 c1], .bool neg, .slice a2 n2 c2] w fun e w' => e = .returned (.bool (isNumB xneg f n1 neg N)) ∧ Below w.heap.size w w' := by
  have hb := (Below.refl w.heap.size w).alloc (Nat.le_refl _) (.cells #[.bool xneg, .slice a1 n1 c1] 24)
  have hpl := natAt_pos_len h2
  have HP := Lib.hid hpl
  have HW := Lib.hid hw
  have H2 := Lib.hid h2
  have HB := Lib.hid hb
  clear hpl hw h2 hb
  unfold isNumB
  rw [← HP.out]
  cases neg
  · cases xneg
    · go_enter Tryz.func39, Tryz.ntmps39
      go_wp2_with (go_at_call 96; refine (hasWords_any a1 a2 n1 c1 n2 c2 N f _ (HW.out.keep HB.out).cells HW.out.lt hb1 (H2.out.keep HB.out) hb2).mono ?_; rintro e w1 ⟨rfl, hB1⟩)
      go_ret
      exact ⟨by simp, Below.then HB.out (Nat.le_refl _) hB1⟩
    · go_enter Tryz.func39, Tryz.ntmps39
      go_wp2
      go_ret
      exact ⟨by simp, HB.out⟩
  · by_cases h0 : 0 < n2
    · have hd : decide (0 < n2) = true := by simpa using h0
      rw [hd]
      cases xneg
      · go_enter Tryz.func39, Tryz.ntmps39
        go_wp2
        go_ret
        exact ⟨by simp, HB.out⟩
      · go_enter Tryz.func39, Tryz.ntmps39
        go_wp2_with (go_at_call 96; refine (hasWords_any a1 a2 n1 c1 n2 c2 N f _ (HW.out.keep HB.out).cells HW.out.lt hb1 (H2.out.keep HB.out) hb2).mono ?_; rintro e w1 ⟨rfl, hB1⟩)
        go_ret
        exact ⟨by simp, Below.then HB.out (Nat.le_refl _) hB1⟩
    · obtain rfl : n2 = 0 := by omega
      cases xneg
      · go_enter Tryz.func39, Tryz.ntmps39
        go_wp2_with (go_at_call 96; refine (hasWords_any a1 a2 n1 c1 0 c2 N f _ (HW.out.keep HB.out).cells HW.out.lt hb1 (H2.out.keep HB.out) hb2).mono ?_; rintro e w1 ⟨rfl, hB1⟩)
        go_ret
        exact ⟨by simp, Below.then HB.out (Nat.le_refl _) hB1⟩
      · go_enter Tryz.func39, Tryz.ntmps39
        go_wp2
        go_ret
        exact ⟨by simp, HB.out⟩
end Go.Proofs.YtdepmbpickonoaaGreatDoor
