/-
  Contracts and lemmas: CpxC.
-/
import Derived.Test.YtececkbcinmmpaaGreatDoorN2
import Derived.Test.YtececkbcinmmpaaGreatDoorK18
set_option linter.unusedSimpArgs false
set_option linter.unusedVariables false
set_option maxRecDepth 100000
set_option maxHeartbeats 8000000
namespace Go.Proofs.YtececkbcinmmpaaGreatDoor
open Go.RowKit Go.Bg Dg
def cmpC (k : Nat) (r1 q1 r2 q2 : Rt) : Bool := if k = 0 then cmpB 0 (cmpQ r1 r2) && cmpB 0 (cmpQ q1 q2) else !(cmpB 0 (cmpQ r1 r2) && cmpB 0 (cmpQ q1 q2))
theorem compareEq_any (b1 b2 : Nat) (r q : Rt) (L : Nat) (hL0 : 1 ≤ L) (hL : L < 40) (w : World) (hK : Thr w) (h1 : RatAt 139 w b1 r.neg r.num r.den) (h2 : RatAt 139 w b2 q.neg q.num q.den) (hr : r.num < W64 ^ L ∧ r.den < W64 ^ L) (hq : q.num < W64 ^ L ∧ q.den < W64 ^ L) :
    Calls Tryz.prog 67 #[.iface 106 (.agg #[.pointer (some ⟨b1, 0, none⟩)]), .int .i64 39, .iface 106 (.agg #[.pointer (some ⟨b2, 0, none⟩)])] w fun e w' => e = .returned (.bool (cmpB 0 (cmpQ r q))) ∧ Below w.heap.size w w' :=
  compareNum_any 0 (by omega) _ _ r q w hK (.inr (crat_of h1)) (.inr (crat_of h2)) L hL0 hL hr hq
theorem compareC_any (k : Nat) (hk : k < 2) (b1 b2 b3 b4 : Nat) (r1 q1 r2 q2 : Rt) (L : Nat) (hL : L < 40) (w : World) (hK : Thr w) (h1 : RatAt 139 w b1 r1.neg r1.num r1.den) (h2 : RatAt 139 w b2 q1.neg q1.num q1.den) (h3 : RatAt 139 w b3 r2.neg r2.num r2.den) (h4 : RatAt 139 w b4 q2.neg q2.num q2.den) (p1 : PLt r1 q1 L) (p2 : PLt r2 q2 L) :
    Calls Tryz.prog 67 #[.iface 115 (.agg #[.iface 106 (.agg #[.pointer (some ⟨b1, 0, none⟩)]), .iface 106 (.agg #[.pointer (some ⟨b2, 0, none⟩)])]), .int .i64 (cmpTok k), .iface 115 (.agg #[.iface 106 (.agg #[.pointer (some ⟨b3, 0, none⟩)]), .iface 106 (.agg #[.pointer (some ⟨b4, 0, none⟩)])])] w fun e w' => e = .returned (.bool (cmpC k r1 q1 r2 q2)) ∧ Below w.heap.size w w' := by
  have HM := Lib.hid (matchCC_any (.iface 106 (.agg #[.pointer (some ⟨b1, 0, none⟩)])) (.iface 106 (.agg #[.pointer (some ⟨b2, 0, none⟩)])) (.iface 106 (.agg #[.pointer (some ⟨b3, 0, none⟩)])) (.iface 106 (.agg #[.pointer (some ⟨b4, 0, none⟩)])) w)
  have HK := Lib.hid hK
  have P1 := Lib.hid h1
  have P2 := Lib.hid h2
  have P3 := Lib.hid h3
  have P4 := Lib.hid h4
  have X1 := Lib.hid p1
  have X2 := Lib.hid p2
  clear hK h1 h2 h3 h4 p1 p2
  rcases (by omega : k = 0 ∨ k = 1) with rfl | rfl
  all_goals
    first | rw [show cmpTok 0 = 39 from rfl] | rw [show cmpTok 1 = 44 from rfl]
    go_enter Tryz.func67, Tryz.ntmps67
    go_wp2_with fail
    refine HM.out.mono ?_
    rintro e w1 ⟨rfl, hw1⟩
    have HB := Lib.hid (show Below w.heap.size w w1 from by rw [hw1]; exact Below.refl _ _)
    clear hw1
    obtain ⟨u1, u2, u3, u4, u5, u6, u7, u8, u9⟩ := ta_complexVal
    obtain ⟨W2, hW2⟩ : ∃ W2, W2 = (w1.alloc (.cells #[.iface 106 (.agg #[.pointer (some ⟨b1, 0, none⟩)]), .iface 106 (.agg #[.pointer (some ⟨b2, 0, none⟩)])] 115)).alloc (.cells #[.iface 106 (.agg #[.pointer (some ⟨b3, 0, none⟩)]), .iface 106 (.agg #[.pointer (some ⟨b4, 0, none⟩)])] 115) := ⟨_, rfl⟩
    have hb2 : Below w1.heap.size w1 W2 := by rw [hW2]; exact Below.alloc' (Below.alloc' (Below.refl _ _) _) _
    have c0 : W2.cell? ⟨w1.heap.size, 0, none⟩ = some (.iface 106 (.agg #[.pointer (some ⟨b1, 0, none⟩)])) := by rw [hW2]; exact alloc_keep _ _ (alloc_new _ _ _ rfl rfl)
    have c1 : W2.cell? ⟨w1.heap.size, 1, none⟩ = some (.iface 106 (.agg #[.pointer (some ⟨b2, 0, none⟩)])) := by rw [hW2]; exact alloc_keep _ _ (alloc_new _ _ _ rfl rfl)
    have c2 : W2.cell? ⟨w1.heap.size + 1, 0, none⟩ = some (.iface 106 (.agg #[.pointer (some ⟨b3, 0, none⟩)])) := by rw [hW2]; exact alloc_new _ _ _ (by simp) rfl
    have c3 : W2.cell? ⟨w1.heap.size + 1, 1, none⟩ = some (.iface 106 (.agg #[.pointer (some ⟨b4, 0, none⟩)])) := by rw [hW2]; exact alloc_new _ _ _ (by simp) rfl
    have HW2 := Lib.hid hW2
    have HB2 := Lib.hid (Below.then HB.out (Nat.le_refl _) hb2)
    clear hW2 hb2
    go_upto_region 42 with fail
    rw [← HW2.out]
    go_wp2_with fail
    refine (compareEq_any b1 b3 r1 r2 L X1.out.l1 hL _ (HK.out.keep HB2.out) (P1.out.keep HB2.out) (P3.out.keep HB2.out) ⟨X1.out.n1, X1.out.d1⟩ ⟨X2.out.n1, X2.out.d1⟩).mono ?_
    rintro e w3 ⟨rfl, hB3⟩
    have c1' := cell_keep c1 hB3
    have c3' := cell_keep c3 hB3
    have hb3 := Below.then HB2.out (Nat.le_refl _) hB3
    have HC := Lib.hid (show ∀ k, cmpC k r1 q1 r2 q2 = if k = 0 then cmpB 0 (cmpQ r1 r2) && cmpB 0 (cmpQ q1 q2) else !(cmpB 0 (cmpQ r1 r2) && cmpB 0 (cmpQ q1 q2)) from fun _ => rfl)
    clear c0 c1 c2 c3 hB3
    go_wp2_with fail
    refine (compareEq_any b2 b4 q1 q2 L X1.out.l1 hL _ (HK.out.keep hb3) (P2.out.keep hb3) (P4.out.keep hb3) ⟨X1.out.n2, X1.out.d2⟩ ⟨X2.out.n2, X2.out.d2⟩).mono ?_
    rintro e w4 ⟨rfl, hB4⟩
    have HB4 := Lib.hid (Below.then hb3 (Nat.le_refl _) hB4)
    clear c1' c3' hB4 hb3
    have HC0 := HC.out
    clear HC
    generalize cmpB 0 (cmpQ r1 r2) = A at HC0 ⊢
    generalize cmpB 0 (cmpQ q1 q2) = B at HC0 ⊢
    have HC := Lib.hid HC0
    clear HC0
    cases A <;> cases B
    all_goals
      go_wp2
      go_ret
      exact ⟨by rw [HC.out]; rfl, HB4.out⟩
theorem implCompareC_any (k : Nat) (hk2 : k < 2) (x y : Vl) (r1 q1 r2 q2 : Rt) (L : Nat) (hL : L < 40) (w : World) (hK : Thr w) (hT : ThrD w) (h1 : VlAt w x) (h2 : VlAt w y) (m1 : MadeC x r1 q1) (m2 : MadeC y r2 q2) (p1 : PLt r1 q1 L) (p2 : PLt r2 q2 L) :
    Calls Tryz.prog 42 #[.int .i64 k, .agg #[.int .i64 x.kind, .bool x.truth, .string x.text, .bool x.neg, .slice x.wa x.wn x.wc, .slice x.da x.dn x.dc, .bool x.ineg, .slice x.ia x.inn x.ic, .slice x.ea x.en x.ec], .agg #[.int .i64 y.kind, .bool y.truth, .string y.text, .bool y.neg, .slice y.wa y.wn y.wc, .slice y.da y.dn y.dc, .bool y.ineg, .slice y.ia y.inn y.ic, .slice y.ea y.en y.ec]] w fun e w' => e = .returned (.bool (cmpC k r1 q1 r2 q2)) ∧ Below w.heap.size w w' := by
  obtain ⟨W0, hW0⟩ : ∃ W0, W0 = (w.alloc (.cells #[.int .i64 x.kind, .bool x.truth, .string x.text, .bool x.neg, .slice x.wa x.wn x.wc, .slice x.da x.dn x.dc, .bool x.ineg, .slice x.ia x.inn x.ic, .slice x.ea x.en x.ec] 26)).alloc (.cells #[.int .i64 y.kind, .bool y.truth, .string y.text, .bool y.neg, .slice y.wa y.wn y.wc, .slice y.da y.dn y.dc, .bool y.ineg, .slice y.ia y.inn y.ic, .slice y.ea y.en y.ec] 26) := ⟨_, rfl⟩
  have HW := Lib.hid hW0
  have hb0 : Below w.heap.size w W0 := by rw [hW0]; exact Below.alloc' (Below.alloc' (Below.refl _ _) _) _
  have X : Box9 W0 w.heap.size x := by rw [hW0]; exact (Box9.new w x _ rfl).alloc _
  have Y : Box9 W0 (w.heap.size + 1) y := by rw [hW0]; exact Box9.new _ y _ (by simp)
  have HX := Lib.hid (h1.keep hb0)
  have HY := Lib.hid (h2.keep hb0)
  have hk : k < 6 := by omega
  have HK := Lib.hid (hK.keep hb0)
  have HT := Lib.hid (hT.keep hb0)
  have PP := Lib.hid (⟨p1, p2⟩ : PLt r1 q1 L ∧ PLt r2 q2 L)
  have M1 := Lib.hid m1
  have M2 := Lib.hid m2
  clear hW0 h1 h2 m1 m2 hK hT p1 p2
  go_enter Tryz.func42, Tryz.ntmps42
  go_upto_region 1 with fail
  rw [← HW.out]
  go_wp2_with fail
  refine (comparison_any k hk _).mono ?_
  rintro e w1 ⟨rfl, hB1⟩
  have hb1 := Below.then hb0 (Nat.le_refl _) hB1
  have X1 := X.keep hB1
  have Y1 := Y.keep hB1
  have HX1 := Lib.hid (HX.out.keep hB1)
  have HY1 := Lib.hid (HY.out.keep hB1)
  have HK1 := Lib.hid (HK.out.keep hB1)
  have HT1 := Lib.hid (HT.out.keep hB1)
  go_wp2_with fail
  have hd0 : Below w1.heap.size w1 w1.drew := (Below.refl _ _).drew
  go_region_held3 (fun w' => (w'.cell? ⟨w.heap.size, 0, none⟩ = some (.int .i64 x.kind) ∧ w'.cell? ⟨w.heap.size, 1, none⟩ = some (.bool x.truth) ∧ w'.cell? ⟨w.heap.size, 2, none⟩ = some (.string x.text) ∧ w'.cell? ⟨w.heap.size, 3, none⟩ = some (.bool x.neg) ∧ w'.cell? ⟨w.heap.size, 4, none⟩ = some (.slice x.wa x.wn x.wc) ∧ w'.cell? ⟨w.heap.size, 5, none⟩ = some (.slice x.da x.dn x.dc) ∧ w'.cell? ⟨w.heap.size, 6, none⟩ = some (.bool x.ineg) ∧ w'.cell? ⟨w.heap.size, 7, none⟩ = some (.slice x.ia x.inn x.ic) ∧ w'.cell? ⟨w.heap.size, 8, none⟩ = some (.slice x.ea x.en x.ec)) ∧ (w'.cell? ⟨(w.heap.size + 1), 0, none⟩ = some (.int .i64 y.kind) ∧ w'.cell? ⟨(w.heap.size + 1), 1, none⟩ = some (.bool y.truth) ∧ w'.cell? ⟨(w.heap.size + 1), 2, none⟩ = some (.string y.text) ∧ w'.cell? ⟨(w.heap.size + 1), 3, none⟩ = some (.bool y.neg) ∧ w'.cell? ⟨(w.heap.size + 1), 4, none⟩ = some (.slice y.wa y.wn y.wc) ∧ w'.cell? ⟨(w.heap.size + 1), 5, none⟩ = some (.slice y.da y.dn y.dc) ∧ w'.cell? ⟨(w.heap.size + 1), 6, none⟩ = some (.bool y.ineg) ∧ w'.cell? ⟨(w.heap.size + 1), 7, none⟩ = some (.slice y.ia y.inn y.ic) ∧ w'.cell? ⟨(w.heap.size + 1), 8, none⟩ = some (.slice y.ea y.en y.ec)))
    (first | with_reducible exact ⟨X1.all, Y1.all⟩ | with_reducible exact ⟨(X1.keep (by assumption)).all, (Y1.keep (by assumption)).all⟩)
    (first | (go_at_call 49; (with_reducible refine (M1.out _ ?_ ?_ ?_).mono ?_); exact HK1.out.keep (by assumption); exact HT1.out.keep (by assumption); exact HX1.out.keep (by assumption); rintro e w2 ⟨u1, rfl, ⟨b1, b2, rfl, a1, a2, -, -⟩, hB2⟩; have hb2 := Below.then hd0 (Nat.le_refl _) hB2) | (go_at_call 49; (with_reducible refine (M2.out _ ?_ ?_ ?_).mono ?_); exact HK1.out.keep (by assumption); exact HT1.out.keep (by assumption); exact HY1.out.keep (by assumption); rintro e w3 ⟨u2, rfl, ⟨b3, b4, rfl, a3, a4, -, -⟩, hB3⟩; have hb3 := Below.then hb2 (Nat.le_refl _) hB3) | (go_at_call 67; (with_reducible refine (compareC_any k hk2 b1 b2 b3 b4 r1 q1 r2 q2 L hL _ ?_ ?_ ?_ ?_ ?_ PP.out.1 PP.out.2).mono ?_); exact HK1.out.keep hb3; exact a1.keep hB3; exact a2.keep hB3; exact a3; exact a4; rintro e w4 ⟨rfl, hB4⟩; have hb4 := Below.then hb3 (Nat.le_refl _) hB4))
  go_wp2
  go_ret
  exact ⟨rfl, Below.then hb1 (Nat.le_refl _) hb4⟩
end Go.Proofs.YtececkbcinmmpaaGreatDoor
