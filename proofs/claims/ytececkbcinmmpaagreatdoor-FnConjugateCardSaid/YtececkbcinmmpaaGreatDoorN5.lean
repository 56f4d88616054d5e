/-
  Contracts and lemmas: CpxN.
-/
import Derived.Test.YtececkbcinmmpaaGreatDoorN3
import Derived.Test.YtececkbcinmmpaaGreatDoorKM
set_option linter.unusedSimpArgs false
set_option linter.unusedVariables false
set_option maxRecDepth 100000
set_option maxHeartbeats 8000000
namespace Go.Proofs.YtececkbcinmmpaaGreatDoor
open Go.RowKit Go.Bg Dg
theorem mulP_any (b1 b3 : Nat) (r q : Rt) (L : Nat) (w : World) (hK : Thr w) (hT : ThrD w) (h1 : RatAt 139 w b1 r.neg r.num r.den) (h2 : RatAt 139 w b3 q.neg q.num q.den) (hne : b1 ≠ b3) (hL : L + L ≤ 38) (hr : r.num < W64 ^ L ∧ r.den < W64 ^ L) (hq : q.num < W64 ^ L ∧ q.den < W64 ^ L) :
    Calls Tryz.prog 104 #[.iface 106 (.agg #[.pointer (some ⟨b1, 0, none⟩)]), .iface 106 (.agg #[.pointer (some ⟨b3, 0, none⟩)])] w fun e w' => ∃ u, e = .returned u ∧ RSing w.heap.size w' u (Rt.times r q) ∧ Below w.heap.size w w' :=
  mul_of _ _ w (fun w' u => RSing w.heap.size w' u (Rt.times r q) ∧ Below w.heap.size w w') ((binRMul_any b1 b3 r.neg q.neg r.num r.den q.num q.den w hK hT h1 h2 hne L L hL hr hq).mono fun e w' ⟨u, he, hu, _, _, _, hB, hn⟩ => ⟨u, he, newQ_rat hu hn, hB⟩)
theorem plt_mul {r1 q1 r2 q2 : Rt} {L : Nat} (h1 : PLt r1 q1 L) (h2 : PLt r2 q2 L) (hL : L + L + (L + L) + 1 ≤ 63) : PLt (Rt.minus (Rt.times r1 r2) (Rt.times q1 q2)) (Rt.plus (Rt.times q1 r2) (Rt.times r1 q2)) (L + L + (L + L) + 1) := by
  obtain ⟨a1, a2, a3⟩ := bndMul r1 r2 L ⟨h1.n1, h1.d1⟩ ⟨h2.n1, h2.d1⟩ h1.ok1.den h2.ok1.den
  obtain ⟨b1, b2, b3⟩ := bndMul q1 q2 L ⟨h1.n2, h1.d2⟩ ⟨h2.n2, h2.d2⟩ h1.ok2.den h2.ok2.den
  obtain ⟨c1, c2, c3⟩ := bndMul q1 r2 L ⟨h1.n2, h1.d2⟩ ⟨h2.n1, h2.d1⟩ h1.ok2.den h2.ok1.den
  obtain ⟨d1, d2, d3⟩ := bndMul r1 q2 L ⟨h1.n1, h1.d1⟩ ⟨h2.n2, h2.d2⟩ h1.ok1.den h2.ok2.den
  obtain ⟨e1, e2, e3⟩ := bndSub (Rt.times r1 r2) (Rt.times q1 q2) (L + L) ⟨a1, a2⟩ ⟨b1, b2⟩ a3.den b3.den
  obtain ⟨f1, f2, f3⟩ := bndAdd (Rt.times q1 r2) (Rt.times r1 q2) (L + L) ⟨c1, c2⟩ ⟨d1, d2⟩ c3.den d3.den
  exact ⟨by omega, hL, e1, e2, f1, f2, e3, f3⟩
theorem binCMul_any (b1 b2 b3 b4 : Nat) (r1 q1 r2 q2 : Rt) (L : Nat) (w : World) (hK : Thr w) (hT : ThrD w) (h1 : RatAt 139 w b1 r1.neg r1.num r1.den) (h2 : RatAt 139 w b2 q1.neg q1.num q1.den) (h3 : RatAt 139 w b3 r2.neg r2.num r2.den) (h4 : RatAt 139 w b4 q2.neg q2.num q2.den)
    (n13 : b1 ≠ b3) (n24 : b2 ≠ b4) (n23 : b2 ≠ b3) (n14 : b1 ≠ b4) (p1 : PLt r1 q1 L) (p2 : PLt r2 q2 L) (hL : L + L + (L + L) ≤ 38) :
    Calls Tryz.prog 48 #[.iface 115 (.agg #[.iface 106 (.agg #[.pointer (some ⟨b1, 0, none⟩)]), .iface 106 (.agg #[.pointer (some ⟨b2, 0, none⟩)])]), .int .i64 14, .iface 115 (.agg #[.iface 106 (.agg #[.pointer (some ⟨b3, 0, none⟩)]), .iface 106 (.agg #[.pointer (some ⟨b4, 0, none⟩)])])] w fun e w' => ∃ u, e = .returned u ∧ CPair w.heap.size w' u (Rt.minus (Rt.times r1 r2) (Rt.times q1 q2)) (Rt.plus (Rt.times q1 r2) (Rt.times r1 q2)) ∧ Below w.heap.size w w' := by
  have HM := Lib.hid (matchCC_any (.iface 106 (.agg #[.pointer (some ⟨b1, 0, none⟩)])) (.iface 106 (.agg #[.pointer (some ⟨b2, 0, none⟩)])) (.iface 106 (.agg #[.pointer (some ⟨b3, 0, none⟩)])) (.iface 106 (.agg #[.pointer (some ⟨b4, 0, none⟩)])) w)
  have HK := Lib.hid hK
  have HT := Lib.hid hT
  have P1 := Lib.hid h1
  have P2 := Lib.hid h2
  have P3 := Lib.hid h3
  have P4 := Lib.hid h4
  have HN := Lib.hid (⟨n13, n24, n23, n14⟩ : b1 ≠ b3 ∧ b2 ≠ b4 ∧ b2 ≠ b3 ∧ b1 ≠ b4)
  have X1 := Lib.hid p1
  have X2 := Lib.hid p2
  have M1 := Lib.hid (bndMul r1 r2 L ⟨p1.n1, p1.d1⟩ ⟨p2.n1, p2.d1⟩ p1.ok1.den p2.ok1.den)
  have M2 := Lib.hid (bndMul q1 q2 L ⟨p1.n2, p1.d2⟩ ⟨p2.n2, p2.d2⟩ p1.ok2.den p2.ok2.den)
  have M3 := Lib.hid (bndMul q1 r2 L ⟨p1.n2, p1.d2⟩ ⟨p2.n1, p2.d1⟩ p1.ok2.den p2.ok1.den)
  have M4 := Lib.hid (bndMul r1 q2 L ⟨p1.n1, p1.d1⟩ ⟨p2.n2, p2.d2⟩ p1.ok1.den p2.ok2.den)
  clear hK hT h1 h2 h3 h4 n13 n24 n23 n14 p1 p2
  go_enter Tryz.func48, Tryz.ntmps48
  go_wp2
  refine wp_scope_straight ?_
  go_wp2_with fail
  refine HM.out.mono ?_
  rintro e w1 ⟨rfl, hw1⟩
  have HB := Lib.hid (show Below w.heap.size w w1 from by rw [hw1]; exact Below.refl _ _)
  clear hw1
  obtain ⟨u1, u2, u3, u4, u5, u6, u7, u8, u9⟩ := ta_complexVal
  obtain ⟨W2, hW2⟩ : ∃ W2, W2 = (w1.alloc (.cells #[.iface 106 (.agg #[.pointer (some ⟨b1, 0, none⟩)]), .iface 106 (.agg #[.pointer (some ⟨b2, 0, none⟩)])] 115)).alloc (.cells #[.iface 106 (.agg #[.pointer (some ⟨b3, 0, none⟩)]), .iface 106 (.agg #[.pointer (some ⟨b4, 0, none⟩)])] 115) := ⟨_, rfl⟩
  have hb2 : Below w1.heap.size w1 W2 := by rw [hW2]; exact Below.alloc' (Below.alloc' (Below.refl _ _) _) _
  have c0 : W2.cell? ⟨w1.heap.size, 0, none⟩ = some (.iface 106 (.agg #[.pointer (some ⟨b1, 0, none⟩)])) := by rw [hW2]; exact alloc_keep _ _ (alloc_new _ _ _ rfl rfl)
  have c1 : W2.cell? ⟨w1.heap.size, 1, none⟩ = some (.iface 106 (.agg #[.pointer (some ⟨b2, 0, none⟩)])) := by rw [hW2]; exact alloc_keep _ _ (alloc_new _ _ _ rfl rfl)
  have c2 : W2.cell? ⟨w1.heap.size + 1, 0, none⟩ = some (.iface 106 (.agg #[.pointer (some ⟨b3, 0, none⟩)])) := by rw [hW2]; exact alloc_new _ _ _ (by simp) rfl
  have c3 : W2.cell? ⟨w1.heap.size + 1, 1, none⟩ = some (.iface 106 (.agg #[.pointer (some ⟨b4, 0, none⟩)])) := by rw [hW2]; exact alloc_new _ _ _ (by simp) rfl
  have HW2 := Lib.hid hW2
  have HBQ := Lib.hid (fun q => (Below.then (Below.then HB.out (Nat.le_refl _) hb2) (Nat.le_refl _) (below_of_drewN ⟨q, rfl⟩) : Below w.heap.size w (W2.drewN q)))
  clear hW2 hb2
  go_upto_region 107 with fail
  rw [← HW2.out]
  go_quiet (fail)
  go_upto_region 108 with fail
  go_quiet (fail)
  clear c0 c1 c2 c3
  go_wp2_with fail
  refine (mulP_any b1 b3 r1 r2 L _ (HK.out.keep (HBQ.out _)) (HT.out.keep (HBQ.out _)) (P1.out.keep (HBQ.out _)) (P3.out.keep (HBQ.out _)) HN.out.1 (by omega) ⟨X1.out.n1, X1.out.d1⟩ ⟨X2.out.n1, X2.out.d1⟩).mono ?_
  rintro e w3 ⟨_, rfl, ⟨c1, rfl, hR, -⟩, hB⟩
  have hb3 := Below.then (HBQ.out _) (Nat.le_refl _) hB
  have Rc1 := Lib.hid hR
  clear hR hB
  go_wp2_with fail
  refine (mulP_any b2 b4 q1 q2 L _ (HK.out.keep hb3) (HT.out.keep hb3) (P2.out.keep hb3) (P4.out.keep hb3) HN.out.2.1 (by omega) ⟨X1.out.n2, X1.out.d2⟩ ⟨X2.out.n2, X2.out.d2⟩).mono ?_
  rintro e w4 ⟨_, rfl, ⟨c2, rfl, hR, -⟩, hB⟩
  have hb4 := Below.then hb3 (Nat.le_refl _) hB
  have Rc1' := Lib.hid (Rc1.out.keep hB)
  have Rc2 := Lib.hid hR
  clear hR hB hb3
  go_wp2_with fail
  refine (mulP_any b2 b3 q1 r2 L _ (HK.out.keep hb4) (HT.out.keep hb4) (P2.out.keep hb4) (P3.out.keep hb4) HN.out.2.2.1 (by omega) ⟨X1.out.n2, X1.out.d2⟩ ⟨X2.out.n1, X2.out.d1⟩).mono ?_
  rintro e w5 ⟨_, rfl, ⟨c3, rfl, hR, -⟩, hB⟩
  have hb5 := Below.then hb4 (Nat.le_refl _) hB
  have Rc1'' := Lib.hid (Rc1'.out.keep hB)
  have Rc2' := Lib.hid (Rc2.out.keep hB)
  have Rc3 := Lib.hid hR
  clear hR hB hb4
  go_wp2_with fail
  refine (mulP_any b1 b4 r1 q2 L _ (HK.out.keep hb5) (HT.out.keep hb5) (P1.out.keep hb5) (P4.out.keep hb5) HN.out.2.2.2 (by omega) ⟨X1.out.n1, X1.out.d1⟩ ⟨X2.out.n2, X2.out.d2⟩).mono ?_
  rintro e w6 ⟨_, rfl, ⟨c4, rfl, hR, -⟩, hB⟩
  have hb6 := Below.then hb5 (Nat.le_refl _) hB
  have Rc1''' := Lib.hid (Rc1''.out.keep hB)
  have Rc2'' := Lib.hid (Rc2'.out.keep hB)
  have Rc3' := Lib.hid (Rc3.out.keep hB)
  have Rc4 := Lib.hid hR
  clear hR hB hb5
  go_wp2_with fail
  refine (subP_any _ _ (Rt.times r1 r2) (Rt.times q1 q2) _ (HK.out.keep hb6) (HT.out.keep hb6) (.inl (crat_of Rc1'''.out)) (.inl (crat_of Rc2''.out)) (.inl (crat_of Rc1'''.out)) (L + L) (L + L) hL ⟨M1.out.1, M1.out.2.1⟩ ⟨M2.out.1, M2.out.2.1⟩).mono ?_
  rintro e w7 ⟨_, rfl, ⟨d1, rfl, hR, hle⟩, hB⟩
  have hb7 := Below.then hb6 (Nat.le_refl _) hB
  have S1 := Lib.hid hR
  have S1l := Lib.hid (Nat.le_trans hb6.size hle)
  have R3 := Lib.hid (Rc3'.out.keep hB)
  have R4 := Lib.hid (Rc4.out.keep hB)
  clear hR hB hb6 hle
  go_wp2_with fail
  refine (addP_any _ _ (Rt.times q1 r2) (Rt.times r1 q2) _ (HK.out.keep hb7) (HT.out.keep hb7) (.inl (crat_of R3.out)) (.inl (crat_of R4.out)) (.inl (crat_of R3.out)) (L + L) (L + L) hL ⟨M3.out.1, M3.out.2.1⟩ ⟨M4.out.1, M4.out.2.1⟩).mono ?_
  rintro e w8 ⟨_, rfl, ⟨d2, rfl, hR, hle⟩, hB⟩
  have hb8 := Below.then hb7 (Nat.le_refl _) hB
  have S2 := Lib.hid hR
  have S2l := Lib.hid (Nat.le_trans hb7.size hle)
  have S1' := Lib.hid (S1.out.keep hB)
  clear hR hB hb7 hle
  go_wp2_with fail
  refine (makeComplex_any _ _ _ (.inr (.inr ⟨_, rfl⟩)) (.inr (.inr ⟨_, rfl⟩))).mono ?_
  rintro e w9 ⟨rfl, hB⟩
  have hb9 := Below.then hb8 (Nat.le_refl _) hB
  go_wp2
  try rw [Exit.noGoto_ret]
  go_ret
  exact ⟨_, rfl, ⟨_, _, rfl, S1'.out.keep hB, S2.out.keep hB, S1l.out, S2l.out⟩, hb9⟩
theorem implBinMulC_any (x y : Vl) (r1 q1 r2 q2 : Rt) (L : Nat) (w : World) (hK : Thr w) (hT : ThrD w) (h1 : VlAt w x) (h2 : VlAt w y) (k1 : MadeC x r1 q1) (k2 : MadeC y r2 q2) (p1 : PLt r1 q1 L) (p2 : PLt r2 q2 L) (hL : L + L + (L + L) ≤ 38) :
    Calls Tryz.prog 20 #[.int .i64 2, .agg #[.int .i64 x.kind, .bool x.truth, .string x.text, .bool x.neg, .slice x.wa x.wn x.wc, .slice x.da x.dn x.dc, .bool x.ineg, .slice x.ia x.inn x.ic, .slice x.ea x.en x.ec], .agg #[.int .i64 y.kind, .bool y.truth, .string y.text, .bool y.neg, .slice y.wa y.wn y.wc, .slice y.da y.dn y.dc, .bool y.ineg, .slice y.ia y.inn y.ic, .slice y.ea y.en y.ec]] w (GivesV (IsC (Rt.minus (Rt.times r1 r2) (Rt.times q1 q2)) (Rt.plus (Rt.times q1 r2) (Rt.times r1 q2)) (L + L + (L + L) + 1)) w) :=
  implBinaryC_any 2 (by omega) x y (fun lo w v => CPair lo w v r1 q1) (fun lo w v => CPair lo w v r2 q2) _ _ (L + L + (L + L) + 1) w hK hT h1 h2 k1 k2 (plt_mul p1 p2 (by omega))
    (fun lo1 lo2 v1 v2 w1 w' hb c1 hle hb1 c2 => by
      obtain ⟨b1, b2, rfl, a1, a2, -, -⟩ := c1
      obtain ⟨b3, b4, rfl, a3, a4, l3, l4⟩ := c2
      have l1 := a1.a.blk.lt
      have l2 := a2.a.blk.lt
      exact (binCMul_any b1 b2 b3 b4 r1 q1 r2 q2 L w' (hK.keep hb) (hT.keep hb) (a1.keep hb1) (a2.keep hb1) a3 a4 (by omega) (by omega) (by omega) (by omega) p1 p2 hL).mono fun e w'' ⟨u, he, hu, hB⟩ => ⟨u, he, hu.cpx, hB⟩)
end Go.Proofs.YtececkbcinmmpaaGreatDoor
