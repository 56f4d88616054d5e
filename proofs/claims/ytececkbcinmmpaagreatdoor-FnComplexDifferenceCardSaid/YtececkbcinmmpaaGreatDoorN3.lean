/-
  Contracts and lemmas: CpxJ CpxV.
-/
import Derived.Test.YtececkbcinmmpaaGreatDoorN2
import Derived.Test.YtececkbcinmmpaaGreatDoorK37
import Derived.Test.YtececkbcinmmpaaGreatDoorKA
import Derived.Test.YtececkbcinmmpaaGreatDoorKS
set_option linter.unusedSimpArgs false
set_option linter.unusedVariables false
set_option maxRecDepth 100000
set_option maxHeartbeats 8000000
namespace Go.Proofs.YtececkbcinmmpaaGreatDoor
open Go.RowKit Go.Bg Dg
theorem implBinaryC_any (k : Nat) (hk : k < 10) (x y : Vl) (P1 P2 : Nat → World → Value → Prop) (r q : Rt) (L : Nat) (w : World) (hK : Thr w) (hT : ThrD w) (h1 : VlAt w x) (h2 : VlAt w y) (k1 : MadeLo x P1) (k2 : MadeLo y P2) (hz : PLt r q L)
    (H : ∀ (lo1 lo2 : Nat) (v1 v2 : Value) (w1 w' : World), Below w.heap.size w w' → P1 lo1 w1 v1 → w1.heap.size ≤ lo2 → Below w1.heap.size w1 w' → P2 lo2 w' v2 →
      Calls Tryz.prog 48 #[v1, .int .i64 (opTok k), v2] w' fun e w'' => ∃ u, e = .returned u ∧ CCpx w'' u r q ∧ Below w'.heap.size w' w'') :
    Calls Tryz.prog 20 #[.int .i64 k, .agg #[.int .i64 x.kind, .bool x.truth, .string x.text, .bool x.neg, .slice x.wa x.wn x.wc, .slice x.da x.dn x.dc, .bool x.ineg, .slice x.ia x.inn x.ic, .slice x.ea x.en x.ec], .agg #[.int .i64 y.kind, .bool y.truth, .string y.text, .bool y.neg, .slice y.wa y.wn y.wc, .slice y.da y.dn y.dc, .bool y.ineg, .slice y.ia y.inn y.ic, .slice y.ea y.en y.ec]] w (GivesV (IsC r q L) w) := by
  obtain ⟨W0, hW0⟩ : ∃ W0, W0 = ((w.alloc (.cells #[.int .i64 x.kind, .bool x.truth, .string x.text, .bool x.neg, .slice x.wa x.wn x.wc, .slice x.da x.dn x.dc, .bool x.ineg, .slice x.ia x.inn x.ic, .slice x.ea x.en x.ec] 26)).alloc (.cells #[.int .i64 y.kind, .bool y.truth, .string y.text, .bool y.neg, .slice y.wa y.wn y.wc, .slice y.da y.dn y.dc, .bool y.ineg, .slice y.ia y.inn y.ic, .slice y.ea y.en y.ec] 26)).alloc (.cells #[.int .i64 0, .bool false, .string ⟨#[]⟩, .bool false, .slice none 0 0, .slice none 0 0, .bool false, .slice none 0 0, .slice none 0 0] 26) := ⟨_, rfl⟩
  have HW := Lib.hid hW0
  have hb0 : Below w.heap.size w W0 := by rw [hW0]; exact Below.alloc' (Below.alloc' (Below.alloc' (Below.refl _ _) _) _) _
  have X : Box9 W0 w.heap.size x := by rw [hW0]; exact ((Box9.new w x _ rfl).alloc _).alloc _
  have Y : Box9 W0 (w.heap.size + 1) y := by rw [hW0]; exact (Box9.new _ y _ (by simp)).alloc _
  have hR : BlkAt W0 (w.heap.size + 1 + 1) #[.int .i64 0, .bool false, .string ⟨#[]⟩, .bool false, .slice none 0 0, .slice none 0 0, .bool false, .slice none 0 0, .slice none 0 0] 26 := by
    rw [hW0]
    have := BlkAt.new ((w.alloc (.cells #[.int .i64 x.kind, .bool x.truth, .string x.text, .bool x.neg, .slice x.wa x.wn x.wc, .slice x.da x.dn x.dc, .bool x.ineg, .slice x.ia x.inn x.ic, .slice x.ea x.en x.ec] 26)).alloc (.cells #[.int .i64 y.kind, .bool y.truth, .string y.text, .bool y.neg, .slice y.wa y.wn y.wc, .slice y.da y.dn y.dc, .bool y.ineg, .slice y.ia y.inn y.ic, .slice y.ea y.en y.ec] 26)) #[.int .i64 0, .bool false, .string ⟨#[]⟩, .bool false, .slice none 0 0, .slice none 0 0, .bool false, .slice none 0 0, .slice none 0 0] 26
    simpa using this
  have HX := Lib.hid (h1.keep hb0)
  have HY := Lib.hid (h2.keep hb0)
  have HK := Lib.hid (hK.keep hb0)
  have HT := Lib.hid (hT.keep hb0)
  have K1 := Lib.hid k1
  have K2 := Lib.hid k2
  have HZ := Lib.hid hz
  have HH := Lib.hid H
  clear hW0 h1 h2 k1 k2 hz H hK hT
  go_enter Tryz.func20, Tryz.ntmps20
  go_upto_region 1 with fail
  rw [← HW.out]
  go_wp2_with fail
  refine (operator_any k hk _).mono ?_
  rintro e w1 ⟨rfl, hB1⟩
  have hb1 := Below.then hb0 (Nat.le_refl _) hB1
  have hR1 := hR.keep hB1
  have X1 := X.keep hB1
  have Y1 := Y.keep hB1
  have HX1 := Lib.hid (HX.out.keep hB1)
  have HY1 := Lib.hid (HY.out.keep hB1)
  have HK1 := Lib.hid (HK.out.keep hB1)
  have HT1 := Lib.hid (HT.out.keep hB1)
  go_wp2_with fail
  have hd0 : Below w1.heap.size w1 w1.drew := (Below.refl _ _).drew
  go_region_held3 (fun w' => (w'.cell? ⟨w.heap.size, 0, none⟩ = some (.int .i64 x.kind) ∧ w'.cell? ⟨w.heap.size, 1, none⟩ = some (.bool x.truth) ∧ w'.cell? ⟨w.heap.size, 2, none⟩ = some (.string x.text) ∧ w'.cell? ⟨w.heap.size, 3, none⟩ = some (.bool x.neg) ∧ w'.cell? ⟨w.heap.size, 4, none⟩ = some (.slice x.wa x.wn x.wc) ∧ w'.cell? ⟨w.heap.size, 5, none⟩ = some (.slice x.da x.dn x.dc) ∧ w'.cell? ⟨w.heap.size, 6, none⟩ = some (.bool x.ineg) ∧ w'.cell? ⟨w.heap.size, 7, none⟩ = some (.slice x.ia x.inn x.ic) ∧ w'.cell? ⟨w.heap.size, 8, none⟩ = some (.slice x.ea x.en x.ec)) ∧ (w'.cell? ⟨(w.heap.size + 1), 0, none⟩ = some (.int .i64 y.kind) ∧ w'.cell? ⟨(w.heap.size + 1), 1, none⟩ = some (.bool y.truth) ∧ w'.cell? ⟨(w.heap.size + 1), 2, none⟩ = some (.string y.text) ∧ w'.cell? ⟨(w.heap.size + 1), 3, none⟩ = some (.bool y.neg) ∧ w'.cell? ⟨(w.heap.size + 1), 4, none⟩ = some (.slice y.wa y.wn y.wc) ∧ w'.cell? ⟨(w.heap.size + 1), 5, none⟩ = some (.slice y.da y.dn y.dc) ∧ w'.cell? ⟨(w.heap.size + 1), 6, none⟩ = some (.bool y.ineg) ∧ w'.cell? ⟨(w.heap.size + 1), 7, none⟩ = some (.slice y.ia y.inn y.ic) ∧ w'.cell? ⟨(w.heap.size + 1), 8, none⟩ = some (.slice y.ea y.en y.ec)))
    (first | with_reducible exact ⟨X1.all, Y1.all⟩ | with_reducible exact ⟨(X1.keep (by assumption)).all, (Y1.keep (by assumption)).all⟩ | with_reducible exact ⟨((X1.keep (by assumption)).set9 (by omega) _ _ _ _ _ _ _ _ _).all, ((Y1.keep (by assumption)).set9 (by omega) _ _ _ _ _ _ _ _ _).all⟩)
    (first | (go_at_call 49; (with_reducible refine (K1.out _ ?_ ?_ ?_).mono ?_); exact HK1.out.keep (by assumption); exact HT1.out.keep (by assumption); exact HX1.out.keep (by assumption); rintro e w2 ⟨u1, rfl, hu1, hB2⟩; have hb2 := Below.then hd0 (Nat.le_refl _) hB2) | (go_at_call 49; (with_reducible refine (K2.out _ ?_ ?_ ?_).mono ?_); exact HK1.out.keep (by assumption); exact HT1.out.keep (by assumption); exact HY1.out.keep (by assumption); rintro e w3 ⟨u2, rfl, hu2, hB3⟩; have hb3 := Below.then hb2 (Nat.le_refl _) hB3) | (go_at_call 48; have q1 := Below.then hb1 (Nat.le_refl _) hb3; (with_reducible refine (HH.out _ _ u1 u2 _ _ q1 hu1 (Nat.le_refl _) hB3 hu2).mono ?_); clear q1; rintro e w4 ⟨u, rfl, hu, hB4⟩; have hb4 := Below.then hb3 (Nat.le_refl _) hB4) | (go_at_call 47; (with_reducible refine (toldCpx_any u r q _ ?_ HZ.out.ok1 HZ.out.ok2 L HZ.out.l1 (by have := HZ.out.l2; omega) HZ.out.n1 HZ.out.d1 HZ.out.n2 HZ.out.d2).mono ?_); exact hu; rintro e w5 ⟨o, rfl, hy, hP, hB5⟩; have hb5 := Below.then hb4 (Nat.le_refl _) hB5; have hR5 := hR1.keep hb5; have HE := Lib.hid (givesV_end hR5 (by omega) (Below.then hb1 (Nat.le_refl _) hb5) hy hP); have oc0 := (hR5).cell 0; have oc1 := (hR5).cell 1; have oc2 := (hR5).cell 2; have oc3 := (hR5).cell 3; have oc4 := (hR5).cell 4; have oc5 := (hR5).cell 5; have oc6 := (hR5).cell 6; have oc7 := (hR5).cell 7; have oc8 := (hR5).cell 8; simp only [List.getElem?_toArray, List.getElem?_cons_zero, List.getElem?_cons_succ] at oc0 oc1 oc2 oc3 oc4 oc5 oc6 oc7 oc8; have of0 := (hR5).frozen 0; have of1 := (hR5).frozen 1; have of2 := (hR5).frozen 2; have of3 := (hR5).frozen 3; have of4 := (hR5).frozen 4; have of5 := (hR5).frozen 5; have of6 := (hR5).frozen 6; have of7 := (hR5).frozen 7; have of8 := (hR5).frozen 8))
  go_wp2
  exact bodyPost_ret (v := .agg #[.int .i64 o.kind, .bool o.truth, .string o.text, .bool o.neg, .slice o.wa o.wn o.wc, .slice o.da o.dn o.dc, .bool o.ineg, .slice o.ia o.inn o.ic, .slice o.ea o.en o.ec]) (by simp [results, Tryz.results20, go_sem, oc0, oc1, oc2, oc3, oc4, oc5, oc6, oc7, oc8]) rfl HE.out
theorem plt_plus {r1 q1 r2 q2 : Rt} {L : Nat} (h1 : PLt r1 q1 L) (h2 : PLt r2 q2 L) (hL : L + L + 1 ≤ 63) : PLt (Rt.plus r1 r2) (Rt.plus q1 q2) (L + L + 1) := by
  obtain ⟨a1, a2, a3⟩ := bndAdd r1 r2 L ⟨h1.n1, h1.d1⟩ ⟨h2.n1, h2.d1⟩ h1.ok1.den h2.ok1.den
  obtain ⟨b1, b2, b3⟩ := bndAdd q1 q2 L ⟨h1.n2, h1.d2⟩ ⟨h2.n2, h2.d2⟩ h1.ok2.den h2.ok2.den
  exact ⟨by omega, hL, a1, a2, b1, b2, a3, b3⟩
theorem implBinAddC_any (x y : Vl) (r1 q1 r2 q2 : Rt) (L : Nat) (w : World) (hK : Thr w) (hT : ThrD w) (h1 : VlAt w x) (h2 : VlAt w y) (k1 : MadeC x r1 q1) (k2 : MadeC y r2 q2) (p1 : PLt r1 q1 L) (p2 : PLt r2 q2 L) (hL : L + L ≤ 38) :
    Calls Tryz.prog 20 #[.int .i64 0, .agg #[.int .i64 x.kind, .bool x.truth, .string x.text, .bool x.neg, .slice x.wa x.wn x.wc, .slice x.da x.dn x.dc, .bool x.ineg, .slice x.ia x.inn x.ic, .slice x.ea x.en x.ec], .agg #[.int .i64 y.kind, .bool y.truth, .string y.text, .bool y.neg, .slice y.wa y.wn y.wc, .slice y.da y.dn y.dc, .bool y.ineg, .slice y.ia y.inn y.ic, .slice y.ea y.en y.ec]] w (GivesV (IsC (Rt.plus r1 r2) (Rt.plus q1 q2) (L + L + 1)) w) :=
  implBinaryC_any 0 (by omega) x y (fun lo w v => CPair lo w v r1 q1) (fun lo w v => CPair lo w v r2 q2) _ _ (L + L + 1) w hK hT h1 h2 k1 k2 (plt_plus p1 p2 (by omega))
    (fun lo1 lo2 v1 v2 w1 w' hb c1 hle hb1 c2 => (binCAdd_pair v1 v2 r1 q1 r2 q2 lo1 lo2 L w' (hK.keep hb) (hT.keep hb) (c1.keep hb1) c2 p1 p2 hL).mono fun e w'' ⟨u, he, hu, hB⟩ => ⟨u, he, hu.cpx, hB⟩)
theorem plt_minus {r1 q1 r2 q2 : Rt} {L : Nat} (h1 : PLt r1 q1 L) (h2 : PLt r2 q2 L) (hL : L + L + 1 ≤ 63) : PLt (Rt.minus r1 r2) (Rt.minus q1 q2) (L + L + 1) := by
  obtain ⟨a1, a2, a3⟩ := bndSub r1 r2 L ⟨h1.n1, h1.d1⟩ ⟨h2.n1, h2.d1⟩ h1.ok1.den h2.ok1.den
  obtain ⟨b1, b2, b3⟩ := bndSub q1 q2 L ⟨h1.n2, h1.d2⟩ ⟨h2.n2, h2.d2⟩ h1.ok2.den h2.ok2.den
  exact ⟨by omega, hL, a1, a2, b1, b2, a3, b3⟩
theorem implBinSubC_any (x y : Vl) (r1 q1 r2 q2 : Rt) (L : Nat) (w : World) (hK : Thr w) (hT : ThrD w) (h1 : VlAt w x) (h2 : VlAt w y) (k1 : MadeC x r1 q1) (k2 : MadeC y r2 q2) (p1 : PLt r1 q1 L) (p2 : PLt r2 q2 L) (hL : L + L ≤ 38) :
    Calls Tryz.prog 20 #[.int .i64 1, .agg #[.int .i64 x.kind, .bool x.truth, .string x.text, .bool x.neg, .slice x.wa x.wn x.wc, .slice x.da x.dn x.dc, .bool x.ineg, .slice x.ia x.inn x.ic, .slice x.ea x.en x.ec], .agg #[.int .i64 y.kind, .bool y.truth, .string y.text, .bool y.neg, .slice y.wa y.wn y.wc, .slice y.da y.dn y.dc, .bool y.ineg, .slice y.ia y.inn y.ic, .slice y.ea y.en y.ec]] w (GivesV (IsC (Rt.minus r1 r2) (Rt.minus q1 q2) (L + L + 1)) w) :=
  implBinaryC_any 1 (by omega) x y (fun lo w v => CPair lo w v r1 q1) (fun lo w v => CPair lo w v r2 q2) _ _ (L + L + 1) w hK hT h1 h2 k1 k2 (plt_minus p1 p2 (by omega))
    (fun lo1 lo2 v1 v2 w1 w' hb c1 hle hb1 c2 => (binCSub_pair v1 v2 r1 q1 r2 q2 lo1 lo2 L w' (hK.keep hb) (hT.keep hb) (c1.keep hb1) c2 p1 p2 hL).mono fun e w'' ⟨u, he, hu, hB⟩ => ⟨u, he, hu.cpx, hB⟩)
theorem implRejoin_any (x y : Vl) (r q : Rt) (L : Nat) (w : World) (hK : Thr w) (hT : ThrD w) (h1 : VlAt w x) (h2 : VlAt w y) (k1 : IsQ r L x) (k2 : IsC (rz 0) q 63 y) (p : PLt r q L) (hL : L ≤ 37) :
    Calls Tryz.prog 20 #[.int .i64 0, .agg #[.int .i64 x.kind, .bool x.truth, .string x.text, .bool x.neg, .slice x.wa x.wn x.wc, .slice x.da x.dn x.dc, .bool x.ineg, .slice x.ia x.inn x.ic, .slice x.ea x.en x.ec], .agg #[.int .i64 y.kind, .bool y.truth, .string y.text, .bool y.neg, .slice y.wa y.wn y.wc, .slice y.da y.dn y.dc, .bool y.ineg, .slice y.ia y.inn y.ic, .slice y.ea y.en y.ec]] w (GivesV (IsC r q L) w) := by
  have p2 := plt_zero p.l1 p.l2 p.n2 p.d2 p.ok2
  refine implBinaryC_any 0 (by omega) x y (fun lo w v => RSing lo w v r) (fun lo w v => CPair lo w v (rz 0) q) r q L w hK hT h1 h2 (madeS_isQ k1 p.l2) (madeC_isC k2 p2 hL) p
    (fun lo1 lo2 v1 v2 w1 w' hb c1 hle hb1 c2 => ?_)
  refine (binCAdd_rat v1 v2 r q lo1 lo2 L w' (hK.keep hb) (hT.keep hb) (c1.keep hb1) c2 p hL).mono fun e w'' ⟨u, he, hu, hB⟩ => ⟨u, he, ?_, hB⟩
  have hc := hu.cpx
  rw [plus_zero p.ok1, zero_plus p.ok2] at hc
  exact hc
theorem implConj_any (x y : Vl) (r q : Rt) (L : Nat) (w : World) (hK : Thr w) (hT : ThrD w) (h1 : VlAt w x) (h2 : VlAt w y) (k1 : IsQ r L x) (k2 : IsC (rz 0) q 63 y) (p : PLt r q L) (hL : L ≤ 37) :
    Calls Tryz.prog 20 #[.int .i64 1, .agg #[.int .i64 x.kind, .bool x.truth, .string x.text, .bool x.neg, .slice x.wa x.wn x.wc, .slice x.da x.dn x.dc, .bool x.ineg, .slice x.ia x.inn x.ic, .slice x.ea x.en x.ec], .agg #[.int .i64 y.kind, .bool y.truth, .string y.text, .bool y.neg, .slice y.wa y.wn y.wc, .slice y.da y.dn y.dc, .bool y.ineg, .slice y.ia y.inn y.ic, .slice y.ea y.en y.ec]] w (GivesV (IsC r q.negated L) w) := by
  have p2 := plt_zero p.l1 p.l2 p.n2 p.d2 p.ok2
  refine implBinaryC_any 1 (by omega) x y (fun lo w v => RSing lo w v r) (fun lo w v => CPair lo w v (rz 0) q) r q.negated L w hK hT h1 h2 (madeS_isQ k1 p.l2) (madeC_isC k2 p2 hL) ⟨p.l1, p.l2, p.n1, p.d1, p.n2, p.d2, p.ok1, rok_negated p.ok2⟩
    (fun lo1 lo2 v1 v2 w1 w' hb c1 hle hb1 c2 => ?_)
  refine (binCSub_rat v1 v2 r q lo1 lo2 L w' (hK.keep hb) (hT.keep hb) (c1.keep hb1) c2 p hL).mono fun e w'' ⟨u, he, hu, hB⟩ => ⟨u, he, ?_, hB⟩
  have hc := hu.cpx
  rw [minus_zero p.ok1, zero_minus p.ok2] at hc
  exact hc
end Go.Proofs.YtececkbcinmmpaaGreatDoor
