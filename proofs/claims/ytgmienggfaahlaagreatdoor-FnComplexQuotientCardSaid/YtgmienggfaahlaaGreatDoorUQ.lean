/-
  Contracts and lemmas: CpxJ CpxV CpxN SqrA SqrB CpxQ Prod.
-/
import Derived.Test.YtgmienggfaahlaaGreatDoorK35
import Derived.Test.YtgmienggfaahlaaGreatDoorK31
import Derived.Test.YtgmienggfaahlaaGreatDoorK34
import Derived.Test.YtgmienggfaahlaaGreatDoorK30
import Derived.Test.YtgmienggfaahlaaGreatDoorK15
import Derived.Test.YtgmienggfaahlaaGreatDoorK32
import Derived.Test.YtgmienggfaahlaaGreatDoorK09
import Derived.Test.YtgmienggfaahlaaGreatDoorK02
set_option linter.unusedSimpArgs false
set_option linter.unusedVariables false
set_option maxRecDepth 100000
set_option maxHeartbeats 8000000
namespace Go.Proofs.YtgmienggfaahlaaGreatDoor
open Go.RowKit Go.Bg Dg
theorem implBinaryC_any (k : Nat) (hk : k < 10) (x y : Vl) (P1 P2 : Nat → World → Value → Prop) (r q : Rt) (L : Nat) (w : World) (hK : Thr w) (hT : ThrD w) (h1 : VlAt w x) (h2 : VlAt w y) (k1 : MadeLo x P1) (k2 : MadeLo y P2) (hz : PLt r q L)
    (H : ∀ (lo1 lo2 : Nat) (v1 v2 : Value) (w1 w' : World), Below w.heap.size w w' → P1 lo1 w1 v1 → w1.heap.size ≤ lo2 → Below w1.heap.size w1 w' → P2 lo2 w' v2 →
      Calls Tryz.prog 37 #[v1, .int .i64 (opTok k), v2] w' fun e w'' => ∃ u, e = .returned u ∧ CCpx w'' u r q ∧ Below w'.heap.size w' w'') :
    Calls Tryz.prog 15 #[.int .i64 k, .agg #[.int .i64 x.kind, .bool x.truth, .string x.text, .bool x.neg, .slice x.wa x.wn x.wc, .slice x.da x.dn x.dc, .bool x.ineg, .slice x.ia x.inn x.ic, .slice x.ea x.en x.ec], .agg #[.int .i64 y.kind, .bool y.truth, .string y.text, .bool y.neg, .slice y.wa y.wn y.wc, .slice y.da y.dn y.dc, .bool y.ineg, .slice y.ia y.inn y.ic, .slice y.ea y.en y.ec]] w (GivesV (IsC r q L) w) := by
  obtain ⟨W0, hW0⟩ : ∃ W0, W0 = ((w.alloc (.cells #[.int .i64 x.kind, .bool x.truth, .string x.text, .bool x.neg, .slice x.wa x.wn x.wc, .slice x.da x.dn x.dc, .bool x.ineg, .slice x.ia x.inn x.ic, .slice x.ea x.en x.ec] 26)).alloc (.cells #[.int .i64 y.kind, .bool y.truth, .string y.text, .bool y.neg, .slice y.wa y.wn y.wc, .slice y.da y.dn y.dc, .bool y.ineg, .slice y.ia y.inn y.ic, .slice y.ea y.en y.ec] 26)).alloc (.cells #[.int .i64 0, .bool false, .string ⟨#[]⟩, .bool false, .slice none 0 0, .slice none 0 0, .bool false, .slice none 0 0, .slice none 0 0] 26) := ⟨_, rfl⟩
  have HW := Lib.hid hW0
  have hb0 : Below w.heap.size w W0 := by rw [hW0]; exact Below.alloc' (Below.alloc' (Below.alloc' (Below.refl _ _) _) _) _
  have X : Box9 W0 w.heap.size x := by rw [hW0]; exact ((Box9.new w x _ rfl).alloc _).alloc _
  have Y : Box9 W0 (w.heap.size + 1) y := by rw [hW0]; exact (Box9.new _ y _ (by simp)).alloc _
  have hR : BlkAt W0 (w.heap.size + 1 + 1) #[.int .i64 0, .bool false, .string ⟨#[]⟩, .bool false, .slice none 0 0, .slice none 0 0, .bool false, .slice none 0 0, .slice none 0 0] 26 := by
    rw [hW0]
    have := BlkAt.new ((w.alloc (.cells #[.int .i64 x.kind, .bool x.truth, .string x.text, .bool x.neg, .slice x.wa x.wn x.wc, .slice x.da x.dn x.dc, .bool x.ineg, .slice x.ia x.inn x.ic, .slice x.ea x.en x.ec] 26)).alloc (.cells #[.int .i64 y.kind, .bool y.truth, .string y.text, .bool y.neg, .slice y.wa y.wn y.wc, .slice y.da y.dn y.dc, .bool y.ineg, .slice y.ia y.inn y.ic, .slice y.ea y.en y.ec] 26)) #[.int .i64 0, .bool false, .string ⟨#[]⟩, .bool false, .slice none 0 0, .slice none 0 0, .bool false, .slice none 0 0, .slice none 0 0] 26
    simpa using this
  have HX := Lib.hid (h1.keep hb0)
  have HY := Lib.hid (h2.keep hb0)
  have HK := Lib.hid (hK.keep hb0)
  have HT := Lib.hid (hT.keep hb0)
  have K1 := Lib.hid k1
  have K2 := Lib.hid k2
  have HZ := Lib.hid hz
  have HH := Lib.hid H
  clear hW0 h1 h2 k1 k2 hz H hK hT
  go_enter Tryz.func15, Tryz.ntmps15
  go_upto_region 1 with fail
  rw [← HW.out]
  go_wp2_with fail
  refine (operator_any k hk _).mono ?_
  rintro e w1 ⟨rfl, hB1⟩
  have hb1 := Below.then hb0 (Nat.le_refl _) hB1
  have hR1 := hR.keep hB1
  have X1 := X.keep hB1
  have Y1 := Y.keep hB1
  have HX1 := Lib.hid (HX.out.keep hB1)
  have HY1 := Lib.hid (HY.out.keep hB1)
  have HK1 := Lib.hid (HK.out.keep hB1)
  have HT1 := Lib.hid (HT.out.keep hB1)
  go_wp2_with fail
  have hd0 : Below w1.heap.size w1 w1.drew := (Below.refl _ _).drew
  go_region_held3 (fun w' => (w'.cell? ⟨w.heap.size, 0, none⟩ = some (.int .i64 x.kind) ∧ w'.cell? ⟨w.heap.size, 1, none⟩ = some (.bool x.truth) ∧ w'.cell? ⟨w.heap.size, 2, none⟩ = some (.string x.text) ∧ w'.cell? ⟨w.heap.size, 3, none⟩ = some (.bool x.neg) ∧ w'.cell? ⟨w.heap.size, 4, none⟩ = some (.slice x.wa x.wn x.wc) ∧ w'.cell? ⟨w.heap.size, 5, none⟩ = some (.slice x.da x.dn x.dc) ∧ w'.cell? ⟨w.heap.size, 6, none⟩ = some (.bool x.ineg) ∧ w'.cell? ⟨w.heap.size, 7, none⟩ = some (.slice x.ia x.inn x.ic) ∧ w'.cell? ⟨w.heap.size, 8, none⟩ = some (.slice x.ea x.en x.ec)) ∧ (w'.cell? ⟨(w.heap.size + 1), 0, none⟩ = some (.int .i64 y.kind) ∧ w'.cell? ⟨(w.heap.size + 1), 1, none⟩ = some (.bool y.truth) ∧ w'.cell? ⟨(w.heap.size + 1), 2, none⟩ = some (.string y.text) ∧ w'.cell? ⟨(w.heap.size + 1), 3, none⟩ = some (.bool y.neg) ∧ w'.cell? ⟨(w.heap.size + 1), 4, none⟩ = some (.slice y.wa y.wn y.wc) ∧ w'.cell? ⟨(w.heap.size + 1), 5, none⟩ = some (.slice y.da y.dn y.dc) ∧ w'.cell? ⟨(w.heap.size + 1), 6, none⟩ = some (.bool y.ineg) ∧ w'.cell? ⟨(w.heap.size + 1), 7, none⟩ = some (.slice y.ia y.inn y.ic) ∧ w'.cell? ⟨(w.heap.size + 1), 8, none⟩ = some (.slice y.ea y.en y.ec)))
    (first | with_reducible exact ⟨X1.all, Y1.all⟩ | with_reducible exact ⟨(X1.keep (by assumption)).all, (Y1.keep (by assumption)).all⟩ | with_reducible exact ⟨((X1.keep (by assumption)).set9 (by omega) _ _ _ _ _ _ _ _ _).all, ((Y1.keep (by assumption)).set9 (by omega) _ _ _ _ _ _ _ _ _).all⟩)
    (first | (go_at_call 38; (with_reducible refine (K1.out _ ?_ ?_ ?_).mono ?_); exact HK1.out.keep (by assumption); exact HT1.out.keep (by assumption); exact HX1.out.keep (by assumption); rintro e w2 ⟨u1, rfl, hu1, hB2⟩; have hb2 := Below.then hd0 (Nat.le_refl _) hB2) | (go_at_call 38; (with_reducible refine (K2.out _ ?_ ?_ ?_).mono ?_); exact HK1.out.keep (by assumption); exact HT1.out.keep (by assumption); exact HY1.out.keep (by assumption); rintro e w3 ⟨u2, rfl, hu2, hB3⟩; have hb3 := Below.then hb2 (Nat.le_refl _) hB3) | (go_at_call 37; have q1 := Below.then hb1 (Nat.le_refl _) hb3; (with_reducible refine (HH.out _ _ u1 u2 _ _ q1 hu1 (Nat.le_refl _) hB3 hu2).mono ?_); clear q1; rintro e w4 ⟨u, rfl, hu, hB4⟩; have hb4 := Below.then hb3 (Nat.le_refl _) hB4) | (go_at_call 36; (with_reducible refine (toldCpx_any u r q _ ?_ HZ.out.ok1 HZ.out.ok2 L HZ.out.l1 (by have := HZ.out.l2; omega) HZ.out.n1 HZ.out.d1 HZ.out.n2 HZ.out.d2).mono ?_); exact hu; rintro e w5 ⟨o, rfl, hy, hP, hB5⟩; have hb5 := Below.then hb4 (Nat.le_refl _) hB5; have hR5 := hR1.keep hb5; have HE := Lib.hid (givesV_end hR5 (by omega) (Below.then hb1 (Nat.le_refl _) hb5) hy hP); have oc0 := (hR5).cell 0; have oc1 := (hR5).cell 1; have oc2 := (hR5).cell 2; have oc3 := (hR5).cell 3; have oc4 := (hR5).cell 4; have oc5 := (hR5).cell 5; have oc6 := (hR5).cell 6; have oc7 := (hR5).cell 7; have oc8 := (hR5).cell 8; simp only [List.getElem?_toArray, List.getElem?_cons_zero, List.getElem?_cons_succ] at oc0 oc1 oc2 oc3 oc4 oc5 oc6 oc7 oc8; have of0 := (hR5).frozen 0; have of1 := (hR5).frozen 1; have of2 := (hR5).frozen 2; have of3 := (hR5).frozen 3; have of4 := (hR5).frozen 4; have of5 := (hR5).frozen 5; have of6 := (hR5).frozen 6; have of7 := (hR5).frozen 7; have of8 := (hR5).frozen 8))
  go_wp2
  exact bodyPost_ret (v := .agg #[.int .i64 o.kind, .bool o.truth, .string o.text, .bool o.neg, .slice o.wa o.wn o.wc, .slice o.da o.dn o.dc, .bool o.ineg, .slice o.ia o.inn o.ic, .slice o.ea o.en o.ec]) (by simp [results, Tryz.results15, go_sem, oc0, oc1, oc2, oc3, oc4, oc5, oc6, oc7, oc8]) rfl HE.out
theorem mulP_any (b1 b3 : Nat) (r q : Rt) (L : Nat) (w : World) (hK : Thr w) (hT : ThrD w) (h1 : RatAt 155 w b1 r.neg r.num r.den) (h2 : RatAt 155 w b3 q.neg q.num q.den) (hne : b1 ≠ b3) (hL : L + L ≤ 38) (hr : r.num < W64 ^ L ∧ r.den < W64 ^ L) (hq : q.num < W64 ^ L ∧ q.den < W64 ^ L) :
    Calls Tryz.prog 88 #[.iface 102 (.agg #[.pointer (some ⟨b1, 0, none⟩)]), .iface 102 (.agg #[.pointer (some ⟨b3, 0, none⟩)])] w fun e w' => ∃ u, e = .returned u ∧ RSing w.heap.size w' u (Rt.times r q) ∧ Below w.heap.size w w' :=
  mul_of _ _ w (fun w' u => RSing w.heap.size w' u (Rt.times r q) ∧ Below w.heap.size w w') ((binRMul_any b1 b3 r.neg q.neg r.num r.den q.num q.den w hK hT h1 h2 hne L L hL hr hq).mono fun e w' ⟨u, he, hu, _, _, _, hB, hn⟩ => ⟨u, he, newQ_rat hu hn, hB⟩)
structure ThrS (w : World) : Prop where
  lo : w.cell? ⟨0, 0, none⟩ = some (.int .i64 12)
  hi : w.cell? ⟨1, 0, none⟩ = some (.int .i64 80)
theorem ThrS.keep {w w' : World} (h : ThrS w) (hb : Below w.heap.size w w') : ThrS w' := ⟨cell_keep h.lo hb, cell_keep h.hi hb⟩
theorem dg_two (X : Nat) (hX : X < W64 ^ 2) : dg W64 X 1 = X / W64 ∧ dg W64 X 0 = X % W64 := by
  refine ⟨?_, ?_⟩
  · unfold dg
    rw [Nat.pow_one]
    refine Nat.mod_eq_of_lt ((Nat.div_lt_iff_lt_mul W64_pos).2 ?_)
    rw [← Nat.pow_two]; exact hX
  · unfold dg
    rw [Nat.pow_zero, Nat.div_one]
theorem make_two (n : Nat) (hn : n + n ≤ 1000000) (w : World) : Calls Tryz.prog 194 #[.slice none 0 0, .int .i64 (2 * (n : Int))] w (MadeIs 155 (n + n) w) := by
  have h := make_nil (n + n) hn w
  rw [show ((n + n : Nat) : Int) = 2 * (n : Int) from by omega] at h
  exact h
theorem natSqrF (a1 : Option Addr) (n1 c1 N1 : Nat) (w : World) (hK : ThrS w) (h1 : BigN 155 w a1 n1 c1 N1) (hb : n1 < 12) (p : Value) :
    Calls Tryz.prog 155 #[.slice none 0 0, p, .slice a1 n1 c1] w (GivesF 155 (N1 * N1) w) := by
  have hm1 := h1.num.cm
  have hc1 := h1.num.nc
  unfold maxLen at hm1
  have HK := Lib.hid hK
  clear hK
  by_cases z1 : n1 = 0
  · subst z1
    have e1 : N1 = 0 := by have := h1.num.lt; simpa using this
    subst e1
    clear h1
    go_enter Tryz.func155, Tryz.ntmps155
    go_wp2
    go_ret
    exact ⟨_, _, _, rfl, BigN.nil _ _, Below.refl _ _, fun k h => (inB_none h).elim⟩
  have hz1 : ((n1 : Int) == 0) = false := by simpa using z1
  obtain ⟨b1, o1, rfl, hl1⟩ := h1.num.form (by omega)
  have HB1 := Lib.hid h1
  by_cases z2 : n1 = 1
  · subst z2
    have e2 := h1.num.cell (i := 0) (by omega)
    rw [Nat.add_zero] at e2
    have hlt := h1.num.lt
    rw [Nat.pow_one] at hlt
    have hd : dg W64 N1 0 = N1 := by unfold dg; rw [Nat.pow_zero, Nat.div_one, Nat.mod_eq_of_lt hlt]
    rw [hd] at e2
    have hL : N1 < 18446744073709551616 := hlt
    have HL := Lib.hid hL
    have HLT := Lib.hid (show N1 * N1 < W64 ^ 2 from by rw [Nat.pow_two]; exact Nat.mul_lt_mul'' hlt hlt)
    clear h1 hlt hd hz1 z1
    go_enter Tryz.func155, Tryz.ntmps155
    go_wp2_with fail
    refine (make_nil 2 (by omega) _).mono ?_
    rintro e w1 (⟨h, _⟩ | ⟨c, hc0, hcn1, hcn2, rfl, hw⟩)
    case inl => omega
    have hbk : BlkAt w1 w.heap.size (Array.replicate c (.int .u64 0)) 155 := by rw [hw]; exact BlkAt.new _ _ _
    have hB1 : Below w.heap.size w w1 := by rw [hw]; exact (Below.refl _ _).alloc (Nat.le_refl _) _
    have HBK := Lib.hid hbk
    have HBD := Lib.hid hB1
    have HC := Lib.hid (⟨hcn1, hcn2⟩ : 2 ≤ c ∧ _)
    clear hw e2 hL hB1
    go_wp2_with fail
    refine (mulWW_any N1 N1 HL.out HL.out _).mono ?_
    rintro e w2 ⟨rfl, rfl⟩
    obtain ⟨hi, hhi⟩ : ∃ hi, hi = N1 * N1 / 18446744073709551616 := ⟨_, rfl⟩
    obtain ⟨lo, hlo⟩ : ∃ lo, lo = N1 * N1 % 18446744073709551616 := ⟨_, rfl⟩
    rw [← hhi, ← hlo]
    have hrow := HBK.out
    have k0 : w1.cell? ⟨w.heap.size, 0, none⟩ = some (.int .u64 0) := by rw [hbk.cell, Array.getElem?_replicate, if_pos (by have := HC.out.1; omega)]
    have k1 : w1.cell? ⟨w.heap.size, 1, none⟩ = some (.int .u64 0) := by rw [hbk.cell, Array.getElem?_replicate, if_pos (by have := HC.out.1; omega)]
    have f0 := hbk.frozen 0
    have f1 := hbk.frozen 1
    obtain ⟨W3, hW3⟩ : ∃ W3, W3 = (w1.setCell ⟨w.heap.size, 1, none⟩ (.int .u64 hi)).setCell ⟨w.heap.size, 0, none⟩ (.int .u64 lo) := ⟨_, rfl⟩
    have hb3 : BlkAt W3 w.heap.size (((Array.replicate c (.int .u64 0)).setIfInBounds 1 (.int .u64 hi)).setIfInBounds 0 (.int .u64 lo)) 155 := by rw [hW3]; exact (hbk.set 1 _).set 0 _
    have hd := dg_two (N1 * N1) HLT.out
    obtain ⟨hcl, hbn⟩ := bigN_row (c := c) (m := 2) (N := N1 * N1) hb3 (by simp) (fun i hi => by
      rcases (by omega : i = 0 ∨ i = 1) with rfl | rfl
      · rw [Array.getElem?_setIfInBounds_self_of_lt (by simp; have := HC.out.1; omega), hd.2, hlo]; rfl
      · rw [Array.getElem?_setIfInBounds_ne (by decide), Array.getElem?_setIfInBounds_self_of_lt (by simp; have := HC.out.1; omega), hd.1, hhi]; rfl) HC.out.1 (by unfold maxLen; omega) HLT.out
    have HCL := Lib.hid hcl
    have HBN := Lib.hid hbn
    have HW3 := Lib.hid hW3
    have HBF := Lib.hid (show Below w.heap.size w W3 from by rw [hW3]; exact (HBD.out.setCell (p := ⟨w.heap.size, 1, none⟩) (Nat.le_refl _) _).setCell (p := ⟨w.heap.size, 0, none⟩) (Nat.le_refl _) _)
    clear hW3 hb3 hd hcl hbn hbk hrow hhi hlo
    go_wp2_with fail
    rw [← HW3.out]
    refine (norm_any (some ⟨w.heap.size, 0, none⟩) 2 c (dg W64 (N1 * N1)) _ (by omega) HC.out.1 (by unfold maxLen; omega) (by simp) HCL.out).mono ?_
    rintro e w4 ⟨rfl, rfl⟩
    go_wp2
    go_ret
    exact ⟨_, _, _, rfl, HBN.out, HBF.out, fun k hk => by rw [← inB_some hk]; exact Nat.le_refl _⟩
  · have hz2 : ((n1 : Int) == 1) = false := by simp; omega
    clear h1
    go_enter Tryz.func155, Tryz.ntmps155
    go_wp2_with fail
    refine (alias_nil _ n1 c1 _).mono ?_
    rintro e w1 ⟨rfl, q1, rfl⟩
    obtain ⟨W2, hW2⟩ : ∃ W2, W2 = w.drewN q1 := ⟨_, rfl⟩
    have hbq : Below w.heap.size w W2 := by rw [hW2]; exact below_drewN (Below.refl _ _) _
    go_wp2_with fail
    rw [← hW2]
    with_reducible refine (make_two n1 (by omega) _).mono ?_
    rintro e w3 (⟨h, _⟩ | ⟨c, hc0, hcn1, hcn2, rfl, hw⟩)
    case inl => omega
    have hbk : BlkAt w3 W2.heap.size (Array.replicate c (.int .u64 0)) 155 := by rw [hw]; exact BlkAt.new _ _ _
    have hB3 : Below W2.heap.size W2 w3 := by rw [hw]; exact (Below.refl _ _).alloc (Nat.le_refl _) _
    have hbd := Below.then hbq (Nat.le_refl _) hB3
    clear hw hW2
    have HD1 := Lib.hid (HB1.out.num.keep hbd)
    have hk1 := (HK.out.keep hbd).lo
    have hk2 := (HK.out.keep hbd).hi
    have hsz : (Array.replicate c (Value.int .u64 0)).size = c := by simp
    have HBK := Lib.hid hbk
    have HBD := Lib.hid hbd
    have HLT := Lib.hid (show N1 * N1 < W64 ^ (n1 + n1) from by
      rw [Nat.pow_add]
      exact Nat.mul_lt_mul'' HB1.out.num.lt HB1.out.num.lt)
    have HG1 := Lib.hid (show b1 ≠ W2.heap.size from Nat.ne_of_lt (Nat.lt_of_lt_of_le hl1 hbq.size))
    have HWS := Lib.hid hbq.size
    have hl12 : decide ((n1 : Int) < 12) = true := decide_eq_true (by omega)
    have hl80 : decide ((n1 : Int) < 80) = true := decide_eq_true (by omega)
    clear hbk hbd hbq hB3
    go_wp2_with fail
    refine (basicMul_any W2.heap.size (n1 + n1) c b1 o1 n1 c1 b1 o1 n1 c1 _ N1 N1 _ HBK.out hsz hcn1 (Nat.le_refl _) (by unfold maxLen; omega) (by omega) (by omega) (by omega) (by omega) (HD1.out.wcells0 (Nat.le_refl _)) (by omega) (by unfold maxLen; omega) (HD1.out.wcells0 (Nat.le_refl _)) (by omega) (by unfold maxLen; omega) HG1.out HG1.out HB1.out.num.lt HB1.out.num.lt).mono ?_
    rintro e w4 ⟨rfl, hR⟩
    have HRB := Lib.hid (hR.toB (B := w.heap.size) HWS.out HBD.out.size)
    obtain ⟨cur3, hk1', hk2', hk3, hk4⟩ := hR.blk
    obtain ⟨hcl, hbn⟩ := bigN_row (c := c) (m := n1 + n1) hk1' (by rw [hk2', hsz]) (fun i hi => by have := hk3 i hi; simpa using this) hcn1 (by unfold maxLen; omega) HLT.out
    have HCL := Lib.hid hcl
    have HBN := Lib.hid hbn
    clear hk1' hk2' hk3 hk4 hcl hbn hR hsz hk1 hk2
    go_wp2_with fail
    refine (norm_any (some ⟨W2.heap.size, 0, none⟩) (n1 + n1) c (dg W64 (N1 * N1)) _ (by omega) (by omega) (by unfold maxLen; omega) (by simp) HCL.out).mono ?_
    rintro e w5 ⟨rfl, rfl⟩
    go_wp2
    go_ret
    exact ⟨_, _, _, rfl, HBN.out, HBD.out.trans HRB.out.below, fun k hk => by rw [← inB_some hk]; first | exact Nat.le_refl _ | exact HWS.out⟩
theorem RatRaw.ratAt {w : World} {zb : Nat} {s : Bool} {a1 a2 : Option Addr} {n1 c1 N n2 c2 D : Nat} (h : RatRaw w zb s a1 n1 c1 N a2 n2 c2 D) (hs : s = true → 0 < N) (hD : 0 < D) : RatAt 155 w zb s N D :=
  ⟨⟨h.blk, ⟨a1, n1, c1, h.k0, h.k1, h.na⟩, hs⟩, ⟨h.blk, ⟨a2, n2, c2, h.k2, h.k3, h.nd⟩, by simp⟩, hD⟩
theorem thrS_upd {w w' : World} {zb : Nat} (h : ThrS w) (hU : Upd (· = zb) w w') (h1 : zb ≠ 0) (h2 : zb ≠ 1) : ThrS w' :=
  ⟨by rw [hU.cell (block_lt h.lo) (fun e => h1 e.symm)]; exact h.lo, by rw [hU.cell (block_lt h.hi) (fun e => h2 e.symm)]; exact h.hi⟩
theorem ratSqr_new (zb b1 : Nat) (s : Bool) (N D : Nat) (w : World) (hK : ThrS w) (h : NewRat w zb) (h1 : RatAt 155 w b1 s N D) (ne1 : b1 ≠ zb) (hv1 : zb ≠ 0) (hv2 : zb ≠ 1) (L : Nat) (hL : L < 12) (hN : N < W64 ^ L) (hD : D < W64 ^ L) :
    Calls Tryz.prog 78 #[.pointer (some ⟨zb, 0, none⟩), .pointer (some ⟨b1, 0, none⟩), .pointer (some ⟨b1, 0, none⟩)] w fun e w' => e = .returned (.pointer (some ⟨zb, 0, none⟩)) ∧ RatAt 155 w' zb false (N * N) (D * D) ∧ Upd (· = zb) w w' := by
  have lz : zb < w.heap.size := h.blk.lt
  have l1 : b1 < w.heap.size := h1.a.blk.lt
  obtain ⟨aN, nN, cN, _, pN, hNN⟩ := h1.a.val
  obtain ⟨aD, nD, cD, _, qD, hND⟩ := h1.d.val
  have pN' : w.cell? ⟨b1, 1, none⟩ = some (.slice aN nN cN) := pN
  have qD' : w.cell? ⟨b1, 3, none⟩ = some (.slice aD nD cD) := qD
  have hnN : nN < 12 := Nat.lt_of_le_of_lt (len_le W64_gt hNN.num.top hN) hL
  have hnD : nD < 12 := Nat.lt_of_le_of_lt (len_le W64_gt hND.num.top hD) hL
  have HQ := Lib.hid (⟨pN', qD', hNN, hND⟩ : w.cell? ⟨b1, 1, none⟩ = some (.slice aN nN cN) ∧ w.cell? ⟨b1, 3, none⟩ = some (.slice aD nD cD) ∧ BigN 155 w aN nN cN N ∧ BigN 155 w aD nD cD D)
  have hnd0 : ((nD : Int) == 0) = false := by
    have hp := natAt_pos_len hND.num
    have h0 := h1.pos
    have : 0 < nD := by simpa [h0] using hp
    simp; omega
  obtain ⟨j, hj, hj2⟩ := Option.map_eq_some_iff.1 infoBigRatSize
  obtain ⟨W1, hW1⟩ : ∃ W1, W1 = w.alloc (.cells #[.pointer none] 225) := ⟨_, rfl⟩
  have hb1 : Below w.heap.size w W1 := by rw [hW1]; exact Below.alloc' (Below.refl _ _) _
  have hq := run_eql_ptr_same (P := Tryz.prog) W1 ⟨b1, 0, none⟩ Tryz.underlying95 hj
  have S1 := Lib.hid (show BlkAt W1 w.heap.size #[.pointer none] 225 from by rw [hW1]; exact BlkAt.new _ _ _)
  have hs1 : W1.heap.size = w.heap.size + 1 := by rw [hW1]; simp
  have HW1 := Lib.hid hW1
  have HB1 := Lib.hid hb1
  have HP := Lib.hid h1.pos
  have HZ := Lib.hid (show NewRat W1 zb from h.keep hb1)
  have HK := Lib.hid (hK.keep hb1)
  have HNE := Lib.hid (⟨ne1, hv1, hv2⟩ : b1 ≠ zb ∧ zb ≠ 0 ∧ zb ≠ 1)
  have HA1 := Lib.hid (hNN.keep hb1)
  have HD1 := Lib.hid (hND.keep hb1)
  have z0 : W1.cell? ⟨zb, 0, none⟩ = some (.bool false) := by rw [BlkAt.cell HZ.out 0]; rfl
  have g0 := HZ.out.blk.frozen 0
  clear hW1 hb1 pN qD pN' qD' hNN hND h1 h hK ne1 hv1 hv2 hN hD hj2
  go_enter_defers Tryz.func78, Tryz.ntmps78
  go_wp2_with fail
  refine (getStack_any _).mono ?_
  rintro e wx ⟨rfl, hw1⟩
  rw [← HW1.out] at hw1
  rw [hw1]
  clear hw1
  obtain ⟨w6, hw6⟩ : ∃ w6, w6 = W1.setCell ⟨zb, 0, none⟩ (.bool false) := ⟨_, rfl⟩
  have HF6 := Lib.hid (show FracUp W1 zb false 0 0 w6 none 0 0 none 0 0 from by rw [hw6]; exact (FracUp.start HZ.out).neg false)
  have HW6 := Lib.hid hw6
  clear hw6
  go_upto_region 5 with fail
  rw [← HW6.out]
  clear hq z0 g0 HW6
  have HU6 := Lib.hid HF6.out.upd
  have hd6 : Below w6.heap.size w6 w6.drew := (Below.refl _ _).drew
  have z6 := HF6.out.raw.k1
  have d6 : w6.cell? ⟨b1, 1, none⟩ = some (.slice aN nN cN) := by rw [HU6.out.cell (p := ⟨b1, 1, none⟩) (Nat.lt_of_lt_of_le l1 HB1.out.size) (fun e => HNE.out.1 e)]; exact cell_keep HQ.out.1 HB1.out
  have HSA := Lib.hid (fun p => natSqrF aN nN cN N w6.drew ((thrS_upd HK.out HU6.out HNE.out.2.1 HNE.out.2.2).keep hd6) ((HA1.out.apart HU6.out (fun k hk e => by subst e; exact HZ.out.blk.notIn HA1.out hk)).keep hd6) hnN p)
  go_cut [] from 17 to 32 (fun wx => ∃ a n c, FracUp W1 zb false (N * N) 0 wx a n c none 0 0)
  case first =>
    refine wp_region_noPanic ?_
    go_region_with
      ((go_at_call 155; (with_reducible refine (HSA.out _).mono ?_); rintro e w7 ⟨a2, n2, c2, rfl, hQ, hB, hf⟩; have HF7 := Lib.hid (HF6.out.setA hd6 (Upd.of_below hB) hQ (fun k hk => .inr (hf k hk))); have z7 : w7.cell? ⟨zb, 1, none⟩ = some (.slice none 0 0) := cell_keep (cell_keep z6 hd6) hB; have g7 := ((HF6.out.raw.blk.keep hd6).keep hB).frozen 1; clear hQ hB hf))
    all_goals
      refine NoPanic.normal ?_
      go_wp2_with fail
      go_meet
      exact ⟨_, _, _, HF7.out⟩
  case rest =>
  obtain ⟨a, n, c, hF8⟩ := hcut
  have HF8 := Lib.hid hF8
  clear hF8 HF6 HU6 HSA hd6 z6 d6
  have HU8 := Lib.hid HF8.out.upd
  have HS8 := Lib.hid HF8.out.upd.size
  have hd8 : ∀ q, Below wc.heap.size wc (wc.drewN q) := fun q => below_of_drewN ⟨q, rfl⟩
  have z8 := HF8.out.raw.k3
  have d8 : wc.cell? ⟨b1, 3, none⟩ = some (.slice aD nD cD) := by rw [HU8.out.cell (p := ⟨b1, 3, none⟩) (Nat.lt_of_lt_of_le l1 HB1.out.size) (fun e => HNE.out.1 e)]; exact cell_keep HQ.out.2.1 HB1.out
  have hcm := HQ.out.2.2.2.num.cm
  have hnc := HQ.out.2.2.2.num.nc
  have hdw : Below wc.heap.size wc wc.drew := (Below.refl _ _).drew
  have HSD := Lib.hid (fun p => natSqrF aD nD cD D wc.drew ((thrS_upd HK.out HU8.out HNE.out.2.1 HNE.out.2.2).keep hdw) ((HD1.out.apart HU8.out (fun k hk e => by subst e; exact HZ.out.blk.notIn HD1.out hk)).keep hdw) hnD p)
  go_upto_region 8 with fail
  go_cut [] from 50 to 65 (fun wx => ∃ a n c a' n' c', FracUp W1 zb false (N * N) (D * D) wx a n c a' n' c')
  case first =>
    refine wp_region_noPanic ?_
    go_region_with
      ((go_at_call 155; (with_reducible refine (HSD.out _).mono ?_); rintro e w9 ⟨a2, n2, c2, rfl, hQ, hB, hf⟩; have HF9 := Lib.hid (HF8.out.setD hdw (Upd.of_below hB) hQ (fun k hk => .inr (hf k hk))); have z9 : w9.cell? ⟨zb, 3, none⟩ = some (.slice none 0 0) := cell_keep (cell_keep z8 hdw) hB; have g9 := ((HF8.out.raw.blk.keep hdw).keep hB).frozen 3; clear hQ hB hf))
    all_goals
      refine NoPanic.normal ?_
      go_wp2_with fail
      go_meet
      exact ⟨_, _, _, _, _, _, HF9.out⟩
  case rest =>
  obtain ⟨a2, n2, c2, a', n', c', hF9⟩ := hcut
  have HF9 := Lib.hid hF9
  have HR9 := Lib.hid (hF9.raw.ratAt (fun h => by cases h) (Nat.mul_pos HP.out HP.out))
  clear hF9 HF8 HU8 HS8 HSD hd8 hdw z8 d8 hcm hnc
  go_wp2
  refine leaves_cons (f := 152) (args := #[.pointer (some ⟨w.heap.size, 0, none⟩)]) (by simp) (by simp [go_sem]) ?_
  refine (stkFree_any w.heap.size 0 none .returning _ ⟨rfl, HF9.out.upd.blk S1.out (by omega)⟩).mono ?_
  rintro e u' w10 ⟨rfl, rfl, hU⟩
  have hU' : Below _ _ w10 := hU.toBelow (fun k _ ⟨_, _, h, _⟩ => by cases h)
  exact ⟨_, results_tmp rfl _ _ _, rfl, HR9.out.keep hU', ((Upd.of_below HB1.out).trans HF9.out.upd).then hU'⟩
theorem sqr_over {r : Rt} (h : ROk r) : Rt.times r r = ⟨false, r.num * r.num, r.den * r.den⟩ := by
  have hg : Nat.gcd (r.num * r.num) (r.den * r.den) = 1 := by
    have h1 : Nat.Coprime r.num r.den := h.gcd
    exact Nat.Coprime.mul_left (Nat.Coprime.mul_right h1 h1) (Nat.Coprime.mul_right h1 h1)
  unfold Rt.times Rt.over
  rw [hg, Nat.div_one, Nat.div_one]
  cases r.neg <;> rfl
theorem binRSqr_any (b1 : Nat) (r : Rt) (w : World) (hK : ThrS w) (h1 : RatAt 155 w b1 r.neg r.num r.den) (hr : ROk r) (L : Nat) (hL : L < 12) (hN : r.num < W64 ^ L) (hD : r.den < W64 ^ L) :
    Calls Tryz.prog 37 #[.iface 102 (.agg #[.pointer (some ⟨b1, 0, none⟩)]), .int .i64 14, .iface 102 (.agg #[.pointer (some ⟨b1, 0, none⟩)])] w fun e w' => ∃ u, e = .returned u ∧ RSing w.heap.size w' u (Rt.times r r) ∧ Below w.heap.size w w' := by
  have HM := Lib.hid (matchRR_same b1 b1 r.neg r.neg r.num r.den r.num r.den w h1 h1)
  have HK := Lib.hid hK
  have H1 := Lib.hid h1
  have HO := Lib.hid hr
  have HS := Lib.hid (⟨hN, hD⟩ : r.num < W64 ^ L ∧ r.den < W64 ^ L)
  clear hK h1 hr hN hD
  go_enter Tryz.func37, Tryz.ntmps37
  go_wp2
  refine wp_scope_straight ?_
  go_wp2_with fail
  refine HM.out.mono ?_
  rintro e w1 ⟨rfl, hw1⟩
  have hB : Below w.heap.size w w1 := by rw [hw1]; exact Below.refl _ _
  have HR := Lib.hid (H1.out.keep hB)
  have HB := Lib.hid hB
  clear hw1 hB
  obtain ⟨t1, t2, t3, t4, t5, t6, t7, t8, t9⟩ := ta_ratVal
  have hfld := field_ratVal
  obtain ⟨W2, hW2⟩ : ∃ W2, W2 = w1.alloc (.cells #[.pointer (some ⟨b1, 0, none⟩)] 102) := ⟨_, rfl⟩
  have hb2 : Below w1.heap.size w1 W2 := by rw [hW2]; exact Below.alloc' (Below.refl _ _) _
  have c0 : W2.cell? ⟨w1.heap.size, 0, none⟩ = some (.pointer (some ⟨b1, 0, none⟩)) := by rw [hW2]; exact alloc_new _ _ _ rfl rfl
  have HW2 := Lib.hid hW2
  clear hW2
  go_upto_region 76 with fail
  rw [← HW2.out]
  have HB2 := Lib.hid (Below.then HB.out (Nat.le_refl _) hb2)
  have HR2 := Lib.hid (HR.out.keep hb2)
  have HK2 := Lib.hid (HK.out.keep HB2.out)
  clear HR HK hb2 HW2
  go_wp2_with fail
  refine (newRat_any _).mono ?_
  rintro e w3 ⟨rfl, hw3⟩
  have hb3 : Below W2.heap.size W2 w3 := by rw [hw3]; exact Below.alloc' (Below.refl _ _) _
  have HN3 := Lib.hid (show NewRat w3 W2.heap.size from by rw [hw3]; exact newRat_is W2)
  have HB3 := Lib.hid hb3
  have HS3 := Lib.hid (show w3.heap.size = W2.heap.size + 1 from by rw [hw3]; simp)
  have HG := Lib.hid (ratSqr_new W2.heap.size b1 r.neg r.num r.den w3 (HK2.out.keep hb3) HN3.out (HR2.out.keep hb3) (Nat.ne_of_lt HR2.out.a.blk.lt) (Nat.ne_of_gt (block_lt HK2.out.lo)) (Nat.ne_of_gt (block_lt HK2.out.hi)) L hL HS.out.1 HS.out.2)
  clear hw3 hb3 c0
  go_wp2_with fail
  refine HG.out.mono ?_
  rintro e w4 ⟨rfl, hR4, hU4⟩
  have HR4 := Lib.hid hR4
  have HB4 := Lib.hid (hU4.below HB3.out (by have := HS3.out; omega) (fun k _ e => by subst e; exact Nat.le_refl _))
  clear hR4 hU4 HG
  go_wp2_with fail
  refine (makeRatF_any _ _ _ _ (L + L) _ HR4.out (by rw [Nat.pow_add]; exact Nat.mul_lt_mul'' HS.out.1 HS.out.1) (by rw [Nat.pow_add]; exact Nat.mul_lt_mul'' HS.out.2 HS.out.2) (by omega)).mono ?_
  rintro e w5 ⟨rfl, rfl⟩
  go_wp2
  try rw [Exit.noGoto_ret]
  go_ret
  refine ⟨_, rfl, ⟨_, rfl, ?_, HB2.out.size⟩, Below.then HB2.out (Nat.le_refl _) HB4.out⟩
  rw [sqr_over HO.out]
  exact HR4.out
theorem sqrP_any (b1 : Nat) (r : Rt) (L : Nat) (w : World) (hK : ThrS w) (h1 : RatAt 155 w b1 r.neg r.num r.den) (ho : ROk r) (hL : L < 12) (hr : r.num < W64 ^ L ∧ r.den < W64 ^ L) :
    Calls Tryz.prog 88 #[.iface 102 (.agg #[.pointer (some ⟨b1, 0, none⟩)]), .iface 102 (.agg #[.pointer (some ⟨b1, 0, none⟩)])] w fun e w' => ∃ u, e = .returned u ∧ RSing w.heap.size w' u (Rt.times r r) ∧ Below w.heap.size w w' :=
  mul_of _ _ w (fun w' u => RSing w.heap.size w' u (Rt.times r r) ∧ Below w.heap.size w w') (binRSqr_any b1 r w hK h1 ho L hL hr.1 hr.2)
theorem quoP_any (b1 b2 : Nat) (r q : Rt) (w : World) (hK : Thr w) (hT : ThrD w) (h1 : RatAt 155 w b1 r.neg r.num r.den) (h2 : RatAt 155 w b2 q.neg q.num q.den) (h0 : 0 < q.num) (L K : Nat) (hL : L + K ≤ 38) (hr : r.num < W64 ^ L ∧ r.den < W64 ^ L) (hq : q.num < W64 ^ K ∧ q.den < W64 ^ K) :
    Calls Tryz.prog 89 #[.iface 102 (.agg #[.pointer (some ⟨b1, 0, none⟩)]), .iface 102 (.agg #[.pointer (some ⟨b2, 0, none⟩)])] w fun e w' => ∃ u, e = .returned u ∧ RSing w.heap.size w' u (Rt.times r q.upside) ∧ Below w.heap.size w w' :=
  quo_of _ _ w (fun w' u => RSing w.heap.size w' u (Rt.times r q.upside) ∧ Below w.heap.size w w') ((binRQuo_any _ _ r q w hK hT (matchRR_any _ _ r q w (crat_of h1) (crat_of h2)) h0 L K hL hr hq).mono fun e w' ⟨u, he, hu, _, _, _, hB, hn⟩ => ⟨u, he, newQ_rat hu hn, hB⟩)
def sqS (c d : Rt) : Rt := Rt.plus (Rt.times c c) (Rt.times d d)
theorem sqS_pos {c d : Rt} (hc : ROk c) (hd : ROk d) (h : 0 < c.num ∨ 0 < d.num) : 0 < (sqS c d).num := by
  unfold sqS
  rw [sqr_over hc, sqr_over hd]
  unfold Rt.plus Rt.over
  dsimp only
  rw [if_pos rfl]
  have hD : 0 < c.den * c.den * (d.den * d.den) := Nat.mul_pos (Nat.mul_pos hc.den hc.den) (Nat.mul_pos hd.den hd.den)
  have hX : 0 < c.num * c.num * (d.den * d.den) + d.num * d.num * (c.den * c.den) := by
    rcases h with h | h
    · exact Nat.add_pos_left (Nat.mul_pos (Nat.mul_pos h h) (Nat.mul_pos hd.den hd.den)) _
    · exact Nat.add_pos_right _ (Nat.mul_pos (Nat.mul_pos h h) (Nat.mul_pos hc.den hc.den))
  exact Nat.div_pos (Nat.le_of_dvd hX (Nat.gcd_dvd_left _ _)) (Nat.gcd_pos_of_pos_right _ hD)
structure QLt (r1 q1 r2 q2 : Rt) (L : Nat) : Prop where
  s : (sqS r2 q2).num < W64 ^ (L + L + (L + L) + 1) ∧ (sqS r2 q2).den < W64 ^ (L + L + (L + L) + 1) ∧ ROk (sqS r2 q2)
  re : (Rt.plus (Rt.times r1 r2) (Rt.times q1 q2)).num < W64 ^ (L + L + (L + L) + 1) ∧ (Rt.plus (Rt.times r1 r2) (Rt.times q1 q2)).den < W64 ^ (L + L + (L + L) + 1) ∧ ROk (Rt.plus (Rt.times r1 r2) (Rt.times q1 q2))
  im : (Rt.minus (Rt.times q1 r2) (Rt.times r1 q2)).num < W64 ^ (L + L + (L + L) + 1) ∧ (Rt.minus (Rt.times q1 r2) (Rt.times r1 q2)).den < W64 ^ (L + L + (L + L) + 1) ∧ ROk (Rt.minus (Rt.times q1 r2) (Rt.times r1 q2))
theorem qlt_of {r1 q1 r2 q2 : Rt} {L : Nat} (h1 : PLt r1 q1 L) (h2 : PLt r2 q2 L) : QLt r1 q1 r2 q2 L := by
  obtain ⟨a1, a2, a3⟩ := bndMul r1 r2 L ⟨h1.n1, h1.d1⟩ ⟨h2.n1, h2.d1⟩ h1.ok1.den h2.ok1.den
  obtain ⟨b1, b2, b3⟩ := bndMul q1 q2 L ⟨h1.n2, h1.d2⟩ ⟨h2.n2, h2.d2⟩ h1.ok2.den h2.ok2.den
  obtain ⟨c1, c2, c3⟩ := bndMul q1 r2 L ⟨h1.n2, h1.d2⟩ ⟨h2.n1, h2.d1⟩ h1.ok2.den h2.ok1.den
  obtain ⟨d1, d2, d3⟩ := bndMul r1 q2 L ⟨h1.n1, h1.d1⟩ ⟨h2.n2, h2.d2⟩ h1.ok1.den h2.ok2.den
  obtain ⟨e1, e2, e3⟩ := bndMul r2 r2 L ⟨h2.n1, h2.d1⟩ ⟨h2.n1, h2.d1⟩ h2.ok1.den h2.ok1.den
  obtain ⟨f1, f2, f3⟩ := bndMul q2 q2 L ⟨h2.n2, h2.d2⟩ ⟨h2.n2, h2.d2⟩ h2.ok2.den h2.ok2.den
  exact ⟨bndAdd _ _ (L + L) ⟨e1, e2⟩ ⟨f1, f2⟩ e3.den f3.den, bndAdd _ _ (L + L) ⟨a1, a2⟩ ⟨b1, b2⟩ a3.den b3.den, bndSub _ _ (L + L) ⟨c1, c2⟩ ⟨d1, d2⟩ c3.den d3.den⟩
theorem binCQuo_any (b1 b2 b3 b4 : Nat) (r1 q1 r2 q2 : Rt) (L : Nat) (w : World) (hK : Thr w) (hT : ThrD w) (hS : ThrS w) (h1 : RatAt 155 w b1 r1.neg r1.num r1.den) (h2 : RatAt 155 w b2 q1.neg q1.num q1.den) (h3 : RatAt 155 w b3 r2.neg r2.num r2.den) (h4 : RatAt 155 w b4 q2.neg q2.num q2.den)
    (n13 : b1 ≠ b3) (n24 : b2 ≠ b4) (n23 : b2 ≠ b3) (n14 : b1 ≠ b4) (p1 : PLt r1 q1 L) (p2 : PLt r2 q2 L) (h0 : 0 < r2.num ∨ 0 < q2.num) (hL : L + L + (L + L) ≤ 18) :
    Calls Tryz.prog 37 #[.iface 111 (.agg #[.iface 102 (.agg #[.pointer (some ⟨b1, 0, none⟩)]), .iface 102 (.agg #[.pointer (some ⟨b2, 0, none⟩)])]), .int .i64 15, .iface 111 (.agg #[.iface 102 (.agg #[.pointer (some ⟨b3, 0, none⟩)]), .iface 102 (.agg #[.pointer (some ⟨b4, 0, none⟩)])])] w fun e w' => ∃ u, e = .returned u ∧ CPair w.heap.size w' u (Rt.times (Rt.plus (Rt.times r1 r2) (Rt.times q1 q2)) (sqS r2 q2).upside) (Rt.times (Rt.minus (Rt.times q1 r2) (Rt.times r1 q2)) (sqS r2 q2).upside) ∧ Below w.heap.size w w' := by
  have HM := Lib.hid (matchCC_any (.iface 102 (.agg #[.pointer (some ⟨b1, 0, none⟩)])) (.iface 102 (.agg #[.pointer (some ⟨b2, 0, none⟩)])) (.iface 102 (.agg #[.pointer (some ⟨b3, 0, none⟩)])) (.iface 102 (.agg #[.pointer (some ⟨b4, 0, none⟩)])) w)
  have HK := Lib.hid hK
  have HT := Lib.hid hT
  have HS := Lib.hid hS
  have P1 := Lib.hid h1
  have P2 := Lib.hid h2
  have P3 := Lib.hid h3
  have P4 := Lib.hid h4
  have HN := Lib.hid (⟨n13, n24, n23, n14⟩ : b1 ≠ b3 ∧ b2 ≠ b4 ∧ b2 ≠ b3 ∧ b1 ≠ b4)
  have X1 := Lib.hid p1
  have X2 := Lib.hid p2
  have QL := Lib.hid (qlt_of p1 p2)
  have SP := Lib.hid (sqS_pos p2.ok1 p2.ok2 h0)
  have M1 := Lib.hid (bndMul r1 r2 L ⟨p1.n1, p1.d1⟩ ⟨p2.n1, p2.d1⟩ p1.ok1.den p2.ok1.den)
  have M2 := Lib.hid (bndMul q1 q2 L ⟨p1.n2, p1.d2⟩ ⟨p2.n2, p2.d2⟩ p1.ok2.den p2.ok2.den)
  have M3 := Lib.hid (bndMul q1 r2 L ⟨p1.n2, p1.d2⟩ ⟨p2.n1, p2.d1⟩ p1.ok2.den p2.ok1.den)
  have M4 := Lib.hid (bndMul r1 q2 L ⟨p1.n1, p1.d1⟩ ⟨p2.n2, p2.d2⟩ p1.ok1.den p2.ok2.den)
  have M5 := Lib.hid (bndMul r2 r2 L ⟨p2.n1, p2.d1⟩ ⟨p2.n1, p2.d1⟩ p2.ok1.den p2.ok1.den)
  have M6 := Lib.hid (bndMul q2 q2 L ⟨p2.n2, p2.d2⟩ ⟨p2.n2, p2.d2⟩ p2.ok2.den p2.ok2.den)
  clear hK hT hS h1 h2 h3 h4 n13 n24 n23 n14 p1 p2 h0
  go_enter Tryz.func37, Tryz.ntmps37
  go_wp2
  refine wp_scope_straight ?_
  go_wp2_with fail
  refine HM.out.mono ?_
  rintro e w1 ⟨rfl, hw1⟩
  have HB := Lib.hid (show Below w.heap.size w w1 from by rw [hw1]; exact Below.refl _ _)
  clear hw1
  obtain ⟨u1, u2, u3, u4, u5, u6, u7, u8, u9⟩ := ta_complexVal
  obtain ⟨W2, hW2⟩ : ∃ W2, W2 = (w1.alloc (.cells #[.iface 102 (.agg #[.pointer (some ⟨b1, 0, none⟩)]), .iface 102 (.agg #[.pointer (some ⟨b2, 0, none⟩)])] 111)).alloc (.cells #[.iface 102 (.agg #[.pointer (some ⟨b3, 0, none⟩)]), .iface 102 (.agg #[.pointer (some ⟨b4, 0, none⟩)])] 111) := ⟨_, rfl⟩
  have hb2 : Below w1.heap.size w1 W2 := by rw [hW2]; exact Below.alloc' (Below.alloc' (Below.refl _ _) _) _
  have c0 : W2.cell? ⟨w1.heap.size, 0, none⟩ = some (.iface 102 (.agg #[.pointer (some ⟨b1, 0, none⟩)])) := by rw [hW2]; exact alloc_keep _ _ (alloc_new _ _ _ rfl rfl)
  have c1 : W2.cell? ⟨w1.heap.size, 1, none⟩ = some (.iface 102 (.agg #[.pointer (some ⟨b2, 0, none⟩)])) := by rw [hW2]; exact alloc_keep _ _ (alloc_new _ _ _ rfl rfl)
  have c2 : W2.cell? ⟨w1.heap.size + 1, 0, none⟩ = some (.iface 102 (.agg #[.pointer (some ⟨b3, 0, none⟩)])) := by rw [hW2]; exact alloc_new _ _ _ (by simp) rfl
  have c3 : W2.cell? ⟨w1.heap.size + 1, 1, none⟩ = some (.iface 102 (.agg #[.pointer (some ⟨b4, 0, none⟩)])) := by rw [hW2]; exact alloc_new _ _ _ (by simp) rfl
  have HW2 := Lib.hid hW2
  have HBQ := Lib.hid (fun q => (Below.then (Below.then HB.out (Nat.le_refl _) hb2) (Nat.le_refl _) (below_of_drewN ⟨q, rfl⟩) : Below w.heap.size w (W2.drewN q)))
  clear hW2 hb2
  go_upto_region 107 with fail
  rw [← HW2.out]
  go_quiet (fail)
  go_upto_region 108 with fail
  go_quiet (fail)
  clear c0 c1 c2 c3
  go_wp2_with fail
  refine (mulP_any b1 b3 r1 r2 L _ (HK.out.keep (HBQ.out _)) (HT.out.keep (HBQ.out _)) (P1.out.keep (HBQ.out _)) (P3.out.keep (HBQ.out _)) HN.out.1 (by omega) ⟨X1.out.n1, X1.out.d1⟩ ⟨X2.out.n1, X2.out.d1⟩).mono ?_
  rintro e w3 ⟨_, rfl, ⟨c1, rfl, hR, -⟩, hB⟩
  have hb3 := Below.then (HBQ.out _) (Nat.le_refl _) hB
  have Rc1 := Lib.hid hR
  clear hR hB
  go_wp2_with fail
  refine (mulP_any b2 b4 q1 q2 L _ (HK.out.keep hb3) (HT.out.keep hb3) (P2.out.keep hb3) (P4.out.keep hb3) HN.out.2.1 (by omega) ⟨X1.out.n2, X1.out.d2⟩ ⟨X2.out.n2, X2.out.d2⟩).mono ?_
  rintro e w4 ⟨_, rfl, ⟨c2, rfl, hR, -⟩, hB⟩
  have hb4 := Below.then hb3 (Nat.le_refl _) hB
  have Rc1' := Lib.hid (Rc1.out.keep hB)
  have Rc2 := Lib.hid hR
  clear hR hB hb3
  go_wp2_with fail
  refine (mulP_any b2 b3 q1 r2 L _ (HK.out.keep hb4) (HT.out.keep hb4) (P2.out.keep hb4) (P3.out.keep hb4) HN.out.2.2.1 (by omega) ⟨X1.out.n2, X1.out.d2⟩ ⟨X2.out.n1, X2.out.d1⟩).mono ?_
  rintro e w5 ⟨_, rfl, ⟨c3, rfl, hR, -⟩, hB⟩
  have hb5 := Below.then hb4 (Nat.le_refl _) hB
  have Rc1'' := Lib.hid (Rc1'.out.keep hB)
  have Rc2' := Lib.hid (Rc2.out.keep hB)
  have Rc3 := Lib.hid hR
  clear hR hB hb4
  go_wp2_with fail
  refine (mulP_any b1 b4 r1 q2 L _ (HK.out.keep hb5) (HT.out.keep hb5) (P1.out.keep hb5) (P4.out.keep hb5) HN.out.2.2.2 (by omega) ⟨X1.out.n1, X1.out.d1⟩ ⟨X2.out.n2, X2.out.d2⟩).mono ?_
  rintro e w6 ⟨_, rfl, ⟨c4, rfl, hR, -⟩, hB⟩
  have hb6 := Below.then hb5 (Nat.le_refl _) hB
  have Rc1''' := Lib.hid (Rc1''.out.keep hB)
  have Rc2'' := Lib.hid (Rc2'.out.keep hB)
  have Rc3' := Lib.hid (Rc3.out.keep hB)
  have Rc4 := Lib.hid hR
  clear hR hB hb5
  go_wp2_with fail
  refine (sqrP_any b3 r2 L _ (HS.out.keep hb6) (P3.out.keep hb6) X2.out.ok1 (by omega) ⟨X2.out.n1, X2.out.d1⟩).mono ?_
  rintro e w7 ⟨_, rfl, ⟨c5, rfl, hR, hle⟩, hB⟩
  have hb7 := Below.then hb6 (Nat.le_refl _) hB
  have A1 := Lib.hid (Rc1'''.out.keep hB)
  have A2 := Lib.hid (Rc2''.out.keep hB)
  have A3 := Lib.hid (Rc3'.out.keep hB)
  have A4 := Lib.hid (Rc4.out.keep hB)
  have Rc5 := Lib.hid hR
  have Ec5 := Lib.hid (Nat.le_trans hb6.size hle)
  clear hR hB hle hb6
  go_wp2_with fail
  refine (sqrP_any b4 q2 L _ (HS.out.keep hb7) (P4.out.keep hb7) X2.out.ok2 (by omega) ⟨X2.out.n2, X2.out.d2⟩).mono ?_
  rintro e w8 ⟨_, rfl, ⟨c6, rfl, hR, hle⟩, hB⟩
  have hb8 := Below.then hb7 (Nat.le_refl _) hB
  have B1 := Lib.hid (A1.out.keep hB)
  have B2 := Lib.hid (A2.out.keep hB)
  have B3 := Lib.hid (A3.out.keep hB)
  have B4 := Lib.hid (A4.out.keep hB)
  have B5 := Lib.hid (Rc5.out.keep hB)
  have Rc6 := Lib.hid hR
  have Ec6 := Lib.hid (Nat.le_trans hb7.size hle)
  clear hR hB hle hb7
  go_wp2_with fail
  refine (addP_any _ _ (Rt.times r2 r2) (Rt.times q2 q2) _ (HK.out.keep hb8) (HT.out.keep hb8) (.inl (crat_of B5.out)) (.inl (crat_of Rc6.out)) (.inl (crat_of B5.out)) (L + L) (L + L) (by omega) ⟨M5.out.1, M5.out.2.1⟩ ⟨M6.out.1, M6.out.2.1⟩).mono ?_
  rintro e w9 ⟨_, rfl, ⟨c7, rfl, hR, hle⟩, hB⟩
  have hb9 := Below.then hb8 (Nat.le_refl _) hB
  have D1 := Lib.hid (B1.out.keep hB)
  have D2 := Lib.hid (B2.out.keep hB)
  have D3 := Lib.hid (B3.out.keep hB)
  have D4 := Lib.hid (B4.out.keep hB)
  have Rc7 := Lib.hid hR
  have Ec7 := Lib.hid (Nat.le_trans hb8.size hle)
  clear hR hB hle hb8
  go_wp2_with fail
  refine (addP_any _ _ (Rt.times r1 r2) (Rt.times q1 q2) _ (HK.out.keep hb9) (HT.out.keep hb9) (.inl (crat_of D1.out)) (.inl (crat_of D2.out)) (.inl (crat_of D1.out)) (L + L) (L + L) (by omega) ⟨M1.out.1, M1.out.2.1⟩ ⟨M2.out.1, M2.out.2.1⟩).mono ?_
  rintro e w10 ⟨_, rfl, ⟨c8, rfl, hR, hle⟩, hB⟩
  have hb10 := Below.then hb9 (Nat.le_refl _) hB
  have F3 := Lib.hid (D3.out.keep hB)
  have F4 := Lib.hid (D4.out.keep hB)
  have F7 := Lib.hid (Rc7.out.keep hB)
  have Rc8 := Lib.hid hR
  have Ec8 := Lib.hid (Nat.le_trans hb9.size hle)
  clear hR hB hle hb9
  go_wp2_with fail
  refine (quoP_any c8 c7 (Rt.plus (Rt.times r1 r2) (Rt.times q1 q2)) (sqS r2 q2) _ (HK.out.keep hb10) (HT.out.keep hb10) Rc8.out F7.out SP.out (L + L + (L + L) + 1) (L + L + (L + L) + 1) (by omega) ⟨QL.out.re.1, QL.out.re.2.1⟩ ⟨QL.out.s.1, QL.out.s.2.1⟩).mono ?_
  rintro e w11 ⟨_, rfl, ⟨c9, rfl, hR, hle⟩, hB⟩
  have hb11 := Below.then hb10 (Nat.le_refl _) hB
  have G3 := Lib.hid (F3.out.keep hB)
  have G4 := Lib.hid (F4.out.keep hB)
  have G7 := Lib.hid (F7.out.keep hB)
  have Rc9 := Lib.hid hR
  have Ec9 := Lib.hid (Nat.le_trans hb10.size hle)
  clear hR hB hle hb10
  go_wp2_with fail
  refine (subP_any _ _ (Rt.times q1 r2) (Rt.times r1 q2) _ (HK.out.keep hb11) (HT.out.keep hb11) (.inl (crat_of G3.out)) (.inl (crat_of G4.out)) (.inl (crat_of G3.out)) (L + L) (L + L) (by omega) ⟨M3.out.1, M3.out.2.1⟩ ⟨M4.out.1, M4.out.2.1⟩).mono ?_
  rintro e w12 ⟨_, rfl, ⟨c10, rfl, hR, hle⟩, hB⟩
  have hb12 := Below.then hb11 (Nat.le_refl _) hB
  have H7 := Lib.hid (G7.out.keep hB)
  have H9 := Lib.hid (Rc9.out.keep hB)
  have Rc10 := Lib.hid hR
  have Ec10 := Lib.hid (Nat.le_trans hb11.size hle)
  clear hR hB hle hb11
  go_wp2_with fail
  refine (quoP_any c10 c7 (Rt.minus (Rt.times q1 r2) (Rt.times r1 q2)) (sqS r2 q2) _ (HK.out.keep hb12) (HT.out.keep hb12) Rc10.out H7.out SP.out (L + L + (L + L) + 1) (L + L + (L + L) + 1) (by omega) ⟨QL.out.im.1, QL.out.im.2.1⟩ ⟨QL.out.s.1, QL.out.s.2.1⟩).mono ?_
  rintro e w13 ⟨_, rfl, ⟨c11, rfl, hR, hle⟩, hB⟩
  have hb13 := Below.then hb12 (Nat.le_refl _) hB
  have J9 := Lib.hid (H9.out.keep hB)
  have Rc11 := Lib.hid hR
  have Ec11 := Lib.hid (Nat.le_trans hb12.size hle)
  clear hR hB hle hb12
  go_wp2_with fail
  refine (makeComplex_any _ _ _ (.inr (.inr ⟨_, rfl⟩)) (.inr (.inr ⟨_, rfl⟩))).mono ?_
  rintro e w14 ⟨rfl, hB⟩
  have hb14 := Below.then hb13 (Nat.le_refl _) hB
  go_wp2
  try rw [Exit.noGoto_ret]
  go_ret
  exact ⟨_, rfl, ⟨_, _, rfl, J9.out.keep hB, Rc11.out.keep hB, Ec9.out, Ec11.out⟩, hb14⟩
theorem implBinQuoC_any (x y : Vl) (r1 q1 r2 q2 : Rt) (L : Nat) (w : World) (hK : Thr w) (hT : ThrD w) (hS : ThrS w) (h1 : VlAt w x) (h2 : VlAt w y) (k1 : MadeC x r1 q1) (k2 : MadeC y r2 q2) (p1 : PLt r1 q1 L) (p2 : PLt r2 q2 L) (h0 : 0 < r2.num ∨ 0 < q2.num) (hL : L + L + (L + L) ≤ 18) :
    Calls Tryz.prog 15 #[.int .i64 3, .agg #[.int .i64 x.kind, .bool x.truth, .string x.text, .bool x.neg, .slice x.wa x.wn x.wc, .slice x.da x.dn x.dc, .bool x.ineg, .slice x.ia x.inn x.ic, .slice x.ea x.en x.ec], .agg #[.int .i64 y.kind, .bool y.truth, .string y.text, .bool y.neg, .slice y.wa y.wn y.wc, .slice y.da y.dn y.dc, .bool y.ineg, .slice y.ia y.inn y.ic, .slice y.ea y.en y.ec]] w (GivesV (IsC (Rt.times (Rt.plus (Rt.times r1 r2) (Rt.times q1 q2)) (sqS r2 q2).upside) (Rt.times (Rt.minus (Rt.times q1 r2) (Rt.times r1 q2)) (sqS r2 q2).upside) (L + L + (L + L) + 1 + (L + L + (L + L) + 1) + 1)) w) := by
  have ql := qlt_of p1 p2
  have sp := sqS_pos p2.ok1 p2.ok2 h0
  obtain ⟨a1, a2, a3⟩ := bndQuo _ (sqS r2 q2) _ ⟨ql.re.1, ql.re.2.1⟩ ⟨ql.s.1, ql.s.2.1⟩ ql.re.2.2.den ql.s.2.2.den sp
  obtain ⟨c1, c2, c3⟩ := bndQuo _ (sqS r2 q2) _ ⟨ql.im.1, ql.im.2.1⟩ ⟨ql.s.1, ql.s.2.1⟩ ql.im.2.2.den ql.s.2.2.den sp
  exact implBinaryC_any 3 (by omega) x y (fun lo w v => CPair lo w v r1 q1) (fun lo w v => CPair lo w v r2 q2) _ _ _ w hK hT h1 h2 k1 k2 ⟨by omega, by omega, a1, a2, c1, c2, a3, c3⟩
    (fun lo1 lo2 v1 v2 w1 w' hb d1 hle hb1 d2 => by
      obtain ⟨b1, b2, rfl, e1, e2, -, -⟩ := d1
      obtain ⟨b3, b4, rfl, e3, e4, l3, l4⟩ := d2
      have l1 := e1.a.blk.lt
      have l2 := e2.a.blk.lt
      exact (binCQuo_any b1 b2 b3 b4 r1 q1 r2 q2 L w' (hK.keep hb) (hT.keep hb) (hS.keep hb) (e1.keep hb1) (e2.keep hb1) e3 e4 (by omega) (by omega) (by omega) (by omega) p1 p2 h0 hL).mono fun e w'' ⟨u, he, hu, hB⟩ => ⟨u, he, hu.cpx, hB⟩)
theorem rtBlk_set3 {W : World} {b s : Nat} {t : Bool} {a : Option Addr} {n c : Nat} {a' : Option Addr} {n' c' : Nat} (h : RtBlk W b t a n c a' n' c') (hne : b ≠ s) (v0 v1 v2 : Value) :
    RtBlk (((W.setCell ⟨s, 0, none⟩ v0).setCell ⟨s, 1, none⟩ v1).setCell ⟨s, 2, none⟩ v2) b t a n c a' n' c' := by
  have e : ∀ (W : World) i j (v : Value), (W.setCell ⟨s, i, none⟩ v).cell? ⟨b, j, none⟩ = W.cell? ⟨b, j, none⟩ := fun W i j v => World.cell?_setCell_other _ _ _ _ (fun hh => by injection hh with hh _ _; exact hne hh.symm)
  exact ⟨by rw [e, e, e]; exact h.c0, by rw [e, e, e]; exact h.c1, by rw [e, e, e]; exact h.c2⟩
theorem product_any (sA : Bool) (aA : Option Addr) (nA cA : Nat) (aB : Option Addr) (nB cB : Nat) (sC : Bool) (aC : Option Addr) (nC cC : Nat) (aD : Option Addr) (nD cD : Nat) (sE : Bool) (aE : Option Addr) (nE cE : Nat) (aF : Option Addr) (nF cF : Nat) (sG : Bool) (aG : Option Addr) (nG cG : Nat) (aH : Option Addr) (nH cH : Nat) (r1 q1 r2 q2 : Rt) (L : Nat) (w : World) (hA : RtAt w sA aA nA cA aB nB cB r1 L) (hC : RtAt w sC aC nC cC aD nD cD q1 L) (hE : RtAt w sE aE nE cE aF nF cF r2 L) (hG : RtAt w sG aG nG cG aH nH cH q2 L) (d1 : 0 < r1.den) (d2 : 0 < q1.den) (d3 : 0 < r2.den) (d4 : 0 < q2.den) (hL : L ≤ 1000) :
    Calls Tryz.prog 12 #[.agg #[.bool sA, .slice aA nA cA, .slice aB nB cB], .agg #[.bool sC, .slice aC nC cC, .slice aD nD cD], .agg #[.bool sE, .slice aE nE cE, .slice aF nF cF], .agg #[.bool sG, .slice aG nG cG, .slice aH nH cH]] w fun e w' => ∃ sM aM nM cM aN nN cN sP aP nP cP aQ nQ cQ, e = .returned (.tuple #[.agg #[.bool sM, .slice aM nM cM, .slice aN nN cN], .agg #[.bool sP, .slice aP nP cP, .slice aQ nQ cQ]]) ∧ RtAt w' sM aM nM cM aN nN cN (Rt.minus (Rt.times r1 r2) (Rt.times q1 q2)) (2 * (2 * L) + 1) ∧ RtAt w' sP aP nP cP aQ nQ cQ (Rt.plus (Rt.times r1 q2) (Rt.times q1 r2)) (2 * (2 * L) + 1) ∧ Below w.heap.size w w' := by
  obtain ⟨W0, hW0⟩ : ∃ W0, W0 = (((((w.alloc (.cells #[.bool sA, .slice aA nA cA, .slice aB nB cB] 31)).alloc (.cells #[.bool sC, .slice aC nC cC, .slice aD nD cD] 31)).alloc (.cells #[.bool sE, .slice aE nE cE, .slice aF nF cF] 31)).alloc (.cells #[.bool sG, .slice aG nG cG, .slice aH nH cH] 31)).alloc (.cells #[.bool false, .slice none 0 0, .slice none 0 0] 31)).alloc (.cells #[.bool false, .slice none 0 0, .slice none 0 0] 31) := ⟨_, rfl⟩
  have HW := Lib.hid hW0
  have hb0 : Below w.heap.size w W0 := by rw [hW0]; exact Below.alloc' (Below.alloc' (Below.alloc' (Below.alloc' (Below.alloc' (Below.alloc' (Below.refl _ _) _) _) _) _) _) _
  have A0 : RtBlk W0 (w.heap.size) sA aA nA cA aB nB cB := by rw [hW0]; exact (RtBlk.new _ _ (by simp) _ _ _ _ _ _ _).keep (Below.alloc' (Below.alloc' (Below.alloc' (Below.alloc' (Below.alloc' (Below.refl _ _) _) _) _) _) _)
  have C0 : RtBlk W0 (w.heap.size + 1) sC aC nC cC aD nD cD := by rw [hW0]; exact (RtBlk.new _ _ (by simp) _ _ _ _ _ _ _).keep (Below.alloc' (Below.alloc' (Below.alloc' (Below.alloc' (Below.refl _ _) _) _) _) _)
  have E0 : RtBlk W0 (w.heap.size + 1 + 1) sE aE nE cE aF nF cF := by rw [hW0]; exact (RtBlk.new _ _ (by simp) _ _ _ _ _ _ _).keep (Below.alloc' (Below.alloc' (Below.alloc' (Below.refl _ _) _) _) _)
  have G0 : RtBlk W0 (w.heap.size + 1 + 1 + 1) sG aG nG cG aH nH cH := by rw [hW0]; exact (RtBlk.new _ _ (by simp) _ _ _ _ _ _ _).keep (Below.alloc' (Below.alloc' (Below.refl _ _) _) _)
  have R1 : ResBlk W0 (w.heap.size + 1 + 1 + 1 + 1) := by rw [hW0]; exact (ResBlk.new _ _ (by simp)).alloc1 _
  have R2 : ResBlk W0 (w.heap.size + 1 + 1 + 1 + 1 + 1) := by rw [hW0]; exact ResBlk.new _ _ (by simp)
  have HA := Lib.hid (hA.keep hb0)
  have HC := Lib.hid (hC.keep hb0)
  have HE := Lib.hid (hE.keep hb0)
  have HG := Lib.hid (hG.keep hb0)
  have HD := Lib.hid (⟨d1, d2, d3, d4⟩ : 0 < r1.den ∧ 0 < q1.den ∧ 0 < r2.den ∧ 0 < q2.den)
  have HO := Lib.hid (fun (r q : Rt) (h1 : 0 < r.den) (h2 : 0 < q.den) => (rok_over (r.neg != q.neg) (r.num * q.num) (r.den * q.den) (Nat.mul_pos h1 h2)).den)
  clear hW0 hA hC hE hG d1 d2 d3 d4
  go_enter Tryz.func12, Tryz.ntmps12
  go_upto_region 1 with fail
  rw [← HW.out]
  have hd0 : Below W0.heap.size W0 W0.drew := (Below.refl _ _).drew
  go_region_held3 (fun w' => (w'.cell? ⟨(w.heap.size), 0, none⟩ = some (.bool sA) ∧ w'.cell? ⟨(w.heap.size), 1, none⟩ = some (.slice aA nA cA) ∧ w'.cell? ⟨(w.heap.size), 2, none⟩ = some (.slice aB nB cB)) ∧ (w'.cell? ⟨(w.heap.size + 1), 0, none⟩ = some (.bool sC) ∧ w'.cell? ⟨(w.heap.size + 1), 1, none⟩ = some (.slice aC nC cC) ∧ w'.cell? ⟨(w.heap.size + 1), 2, none⟩ = some (.slice aD nD cD)) ∧ (w'.cell? ⟨(w.heap.size + 1 + 1), 0, none⟩ = some (.bool sE) ∧ w'.cell? ⟨(w.heap.size + 1 + 1), 1, none⟩ = some (.slice aE nE cE) ∧ w'.cell? ⟨(w.heap.size + 1 + 1), 2, none⟩ = some (.slice aF nF cF)) ∧ (w'.cell? ⟨(w.heap.size + 1 + 1 + 1), 0, none⟩ = some (.bool sG) ∧ w'.cell? ⟨(w.heap.size + 1 + 1 + 1), 1, none⟩ = some (.slice aG nG cG) ∧ w'.cell? ⟨(w.heap.size + 1 + 1 + 1), 2, none⟩ = some (.slice aH nH cH)))
    (first | with_reducible exact ⟨A0.all, C0.all, E0.all, G0.all⟩ | with_reducible exact ⟨(A0.keep (by assumption)).all, (C0.keep (by assumption)).all, (E0.keep (by assumption)).all, (G0.keep (by assumption)).all⟩ | with_reducible exact ⟨(rtBlk_set3 (A0.keep (by assumption)) (by omega) _ _ _).all, (rtBlk_set3 (C0.keep (by assumption)) (by omega) _ _ _).all, (rtBlk_set3 (E0.keep (by assumption)) (by omega) _ _ _).all, (rtBlk_set3 (G0.keep (by assumption)) (by omega) _ _ _).all⟩ | with_reducible exact ⟨(rtBlk_set3 (rtBlk_set3 (A0.keep (by assumption)) (by omega) _ _ _) (by omega) _ _ _).all, (rtBlk_set3 (rtBlk_set3 (C0.keep (by assumption)) (by omega) _ _ _) (by omega) _ _ _).all, (rtBlk_set3 (rtBlk_set3 (E0.keep (by assumption)) (by omega) _ _ _) (by omega) _ _ _).all, (rtBlk_set3 (rtBlk_set3 (G0.keep (by assumption)) (by omega) _ _ _) (by omega) _ _ _).all⟩)
    (first | (go_at_call 11; (with_reducible refine (times_any sA sE aA nA cA aB nB cB aE nE cE aF nF cF r1 r2 L _ ?_ ?_ HD.out.1 HD.out.2.2.1 ?_).mono ?_); exact HA.out.keep (by assumption); exact HE.out.keep (by assumption); omega; rintro e w1 ⟨sI, aI, nI, cI, aIy, nIy, cIy, rfl, hI, hB1⟩; have hb1 := Below.then hd0 (Nat.le_refl _) hB1) | (go_at_call 11; (with_reducible refine (times_any sC sG aC nC cC aD nD cD aG nG cG aH nH cH q1 q2 L _ ?_ ?_ HD.out.2.1 HD.out.2.2.2 ?_).mono ?_); exact HC.out.keep (by assumption); exact HG.out.keep (by assumption); omega; rintro e w2 ⟨sJ, aJ, nJ, cJ, aJy, nJy, cJy, rfl, hJ, hB2⟩; have hb2 := Below.then hb1 (Nat.le_refl _) hB2) | (go_at_call 33; (with_reducible refine (minus_any sI sJ aI nI cI aIy nIy cIy aJ nJ cJ aJy nJy cJy (Rt.times r1 r2) (Rt.times q1 q2) (2 * L) _ ?_ ?_ ?_ ?_ ?_).mono ?_); exact hI.keep hB2; exact hJ; exact HO.out r1 r2 HD.out.1 HD.out.2.2.1; exact HO.out q1 q2 HD.out.2.1 HD.out.2.2.2; omega; rintro e w3 ⟨sM, aM, nM, cM, aN, nN, cN, rfl, hM, hB3⟩; have hb3 := Below.then hb2 (Nat.le_refl _) hB3) | (go_at_call 11; (with_reducible refine (times_any sA sG aA nA cA aB nB cB aG nG cG aH nH cH r1 q2 L _ ?_ ?_ HD.out.1 HD.out.2.2.2 ?_).mono ?_); exact HA.out.keep (by assumption); exact HG.out.keep (by assumption); omega; rintro e w4 ⟨sK, aK, nK, cK, aKy, nKy, cKy, rfl, hK, hB4⟩; have hb4 := Below.then hb3 (Nat.le_refl _) hB4) | (go_at_call 11; (with_reducible refine (times_any sC sE aC nC cC aD nD cD aE nE cE aF nF cF q1 r2 L _ ?_ ?_ HD.out.2.1 HD.out.2.2.1 ?_).mono ?_); exact HC.out.keep (by assumption); exact HE.out.keep (by assumption); omega; rintro e w5 ⟨sO, aO, nO, cO, aOy, nOy, cOy, rfl, hO, hB5⟩; have hb5 := Below.then hb4 (Nat.le_refl _) hB5) | (go_at_call 10; (with_reducible refine (plus_any sK sO aK nK cK aKy nKy cKy aO nO cO aOy nOy cOy (Rt.times r1 q2) (Rt.times q1 r2) (2 * L) _ ?_ ?_ ?_ ?_ ?_).mono ?_); exact hK.keep hB5; exact hO; exact HO.out r1 q2 HD.out.1 HD.out.2.2.2; exact HO.out q1 r2 HD.out.2.1 HD.out.2.2.1; omega; rintro e w6 ⟨sP, aP, nP, cP, aQ, nQ, cQ, rfl, hP, hB6⟩; have hb6 := Below.then hb5 (Nat.le_refl _) hB6; have Q1 := R1.below R1.lt hb6; have Q2 := R2.below R2.lt hb6; obtain ⟨⟨u0, k0⟩, ⟨u1, k1⟩, ⟨u2, k2⟩⟩ := Q1.cells; have f0 := Q1.frozen 0; have f1 := Q1.frozen 1; have f2 := Q1.frozen 2; obtain ⟨⟨z0, l0⟩, ⟨z1, l1⟩, ⟨z2, l2⟩⟩ := Q2.cells; have g0 := Q2.frozen 0; have g1 := Q2.frozen 1; have g2 := Q2.frozen 2))
  have HM := Lib.hid (((hM.keep hB4).keep hB5).keep hB6)
  have HP := Lib.hid hP
  have hbf := Below.then hb0 (Nat.le_refl _) hb6
  go_wp2
  exact bodyPost_ret (v := .tuple #[.agg #[.bool sM, .slice aM nM cM, .slice aN nN cN], .agg #[.bool sP, .slice aP nP cP, .slice aQ nQ cQ]]) (by simp [results, Tryz.results12, go_sem, k0, k1, k2, l0, l1, l2]) rfl
    ⟨_, _, _, _, _, _, _, _, _, _, _, _, _, _, rfl, stored33 Q1.noInt Q2.noInt HM.out, stored33 Q1.noInt Q2.noInt HP.out, (((((hbf.setCell (Nat.le_add_right _ 4) _).setCell (Nat.le_add_right _ 4) _).setCell (Nat.le_add_right _ 4) _).setCell (Nat.le_add_right _ 5) _).setCell (Nat.le_add_right _ 5) _).setCell (Nat.le_add_right _ 5) _⟩
end Go.Proofs.YtgmienggfaahlaaGreatDoor
