/-
  Contracts and lemmas: CpxA CpxB.
-/
import Derived.Test.YtececkbcinmmpaaGreatDoorK37
import Derived.Test.YtececkbcinmmpaaGreatDoorN0
import Derived.Test.YtececkbcinmmpaaGreatDoorKA
import Derived.Test.YtececkbcinmmpaaGreatDoorKS
set_option linter.unusedSimpArgs false
set_option linter.unusedVariables false
set_option maxRecDepth 100000
set_option maxHeartbeats 8000000
namespace Go.Proofs.YtececkbcinmmpaaGreatDoor
open Go.RowKit Go.Bg Dg
theorem ordCpx_any (p q : Value) (w : World) :
    Calls Tryz.prog 140 #[.iface 115 (.agg #[p, q])] w fun e w' => e = .returned (.int .i64 6) ∧ w = w' := by
  obtain ⟨t1, t2, t3, t4, t5, t6, t7, t8, t9⟩ := ta_complexVal
  go_enter Tryz.func140, Tryz.ntmps140
  go_wp2
  go_ret
  exact ⟨rfl, rfl⟩
theorem matchCC_any (p q p2 q2 : Value) (w : World) :
    Calls Tryz.prog 73 #[.iface 115 (.agg #[p, q]), .iface 115 (.agg #[p2, q2])] w fun e w' => e = .returned (.tuple #[.iface 115 (.agg #[p, q]), .iface 115 (.agg #[p2, q2])]) ∧ w' = w := by
  go_enter Tryz.func73, Tryz.ntmps73
  go_wp2_with fail
  refine (ordCpx_any _ _ _).mono ?_
  rintro e w1 ⟨rfl, rfl⟩
  go_wp2_with fail
  refine (ordCpx_any _ _ _).mono ?_
  rintro e w1 ⟨rfl, rfl⟩
  go_wp2
  exact bodyPost_ret (v := .tuple #[.iface 115 (.agg #[p, q]), .iface 115 (.agg #[p2, q2])]) (by simp [results, Tryz.results73, go_sem]) rfl ⟨rfl, rfl⟩
theorem match0RC_any (b : Nat) (p q : Value) (w : World) :
    Calls Tryz.prog 141 #[.iface 106 (.agg #[.pointer (some ⟨b, 0, none⟩)]), .iface 115 (.agg #[p, q])] w fun e w' => e = .returned (.tuple #[.iface 115 (.agg #[.iface 106 (.agg #[.pointer (some ⟨b, 0, none⟩)]), .iface 91 (.int .i64 0)]), .iface 115 (.agg #[p, q])]) ∧ Below w.heap.size w w' := by
  obtain ⟨t1, t2, t3, t4, t5, t6, t7, t8, t9⟩ := ta_ratVal
  obtain ⟨q1, q2, q3, q4, q5, q6, q7, q8, q9⟩ := ta_complexVal
  go_enter Tryz.func141, Tryz.ntmps141
  go_wp2_with fail
  refine (vtoc_any 106 (.agg #[.pointer (some ⟨b, 0, none⟩)]) _).mono ?_
  rintro e w1 ⟨rfl, hB⟩
  have HB := Lib.hid hB
  clear hB
  go_wp2
  exact bodyPost_ret (v := .tuple #[.iface 115 (.agg #[.iface 106 (.agg #[.pointer (some ⟨b, 0, none⟩)]), .iface 91 (.int .i64 0)]), .iface 115 (.agg #[p, q])]) (by simp [results, Tryz.results141, go_sem]) rfl ⟨rfl, HB.out⟩
theorem matchRC_any (b : Nat) (r : Rt) (p q : Value) (w : World) (h : CRat w (.iface 106 (.agg #[.pointer (some ⟨b, 0, none⟩)])) r) :
    Calls Tryz.prog 73 #[.iface 106 (.agg #[.pointer (some ⟨b, 0, none⟩)]), .iface 115 (.agg #[p, q])] w fun e w' => e = .returned (.tuple #[.iface 115 (.agg #[.iface 106 (.agg #[.pointer (some ⟨b, 0, none⟩)]), .iface 91 (.int .i64 0)]), .iface 115 (.agg #[p, q])]) ∧ Below w.heap.size w w' := by
  have H := Lib.hid h
  clear h
  go_enter Tryz.func73, Tryz.ntmps73
  go_wp2_with fail
  refine (ordRat_any _ r _ H.out).mono ?_
  rintro e w1 ⟨rfl, rfl⟩
  go_wp2_with fail
  refine (ordCpx_any _ _ _).mono ?_
  rintro e w1 ⟨rfl, rfl⟩
  go_wp2_with fail
  refine (match0RC_any b p q _).mono ?_
  rintro e w1 ⟨rfl, hB⟩
  have HB := Lib.hid hB
  clear hB
  go_wp2
  exact bodyPost_ret (v := .tuple #[.iface 115 (.agg #[.iface 106 (.agg #[.pointer (some ⟨b, 0, none⟩)]), .iface 91 (.int .i64 0)]), .iface 115 (.agg #[p, q])]) (by simp [results, Tryz.results73, go_sem]) rfl ⟨rfl, HB.out⟩
theorem makeImagR_any (b : Nat) (w : World) :
    Calls Tryz.prog 59 #[.iface 106 (.agg #[.pointer (some ⟨b, 0, none⟩)])] w fun e w' => e = .returned (.iface 115 (.agg #[.iface 91 (.int .i64 0), .iface 106 (.agg #[.pointer (some ⟨b, 0, none⟩)])])) ∧ Below w.heap.size w w' := by
  obtain ⟨t1, t2, t3, t4, t5, t6, t7, t8, t9⟩ := ta_ratVal
  go_enter Tryz.func59, Tryz.ntmps59
  go_wp2_with fail
  refine (makeComplex_any _ _ _ (.inl ⟨0, rfl⟩) (.inr (.inr ⟨_, rfl⟩))).mono ?_
  rintro e w1 ⟨rfl, hB⟩
  go_wp2
  go_ret
  exact ⟨rfl, hB⟩
theorem add_of (v1 v2 : Value) (w : World) (P : World → Value → Prop) (h : Calls Tryz.prog 48 #[v1, .int .i64 12, v2] w fun e w' => ∃ u, e = .returned u ∧ P w' u) :
    Calls Tryz.prog 102 #[v1, v2] w fun e w' => ∃ u, e = .returned u ∧ P w' u := by
  have H := Lib.hid h
  clear h
  go_enter Tryz.func102, Tryz.ntmps102
  go_wp2_with fail
  refine H.out.mono ?_
  rintro e w1 ⟨u, rfl, hu⟩
  have HU := Lib.hid hu
  clear hu
  go_wp2
  go_ret
  exact ⟨_, rfl, HU.out⟩
theorem sub_of (v1 v2 : Value) (w : World) (P : World → Value → Prop) (h : Calls Tryz.prog 48 #[v1, .int .i64 13, v2] w fun e w' => ∃ u, e = .returned u ∧ P w' u) :
    Calls Tryz.prog 103 #[v1, v2] w fun e w' => ∃ u, e = .returned u ∧ P w' u := by
  have H := Lib.hid h
  clear h
  go_enter Tryz.func103, Tryz.ntmps103
  go_wp2_with fail
  refine H.out.mono ?_
  rintro e w1 ⟨u, rfl, hu⟩
  have HU := Lib.hid hu
  clear hu
  go_wp2
  go_ret
  exact ⟨_, rfl, HU.out⟩
theorem mul_of (v1 v2 : Value) (w : World) (P : World → Value → Prop) (h : Calls Tryz.prog 48 #[v1, .int .i64 14, v2] w fun e w' => ∃ u, e = .returned u ∧ P w' u) :
    Calls Tryz.prog 104 #[v1, v2] w fun e w' => ∃ u, e = .returned u ∧ P w' u := by
  have H := Lib.hid h
  clear h
  go_enter Tryz.func104, Tryz.ntmps104
  go_wp2_with fail
  refine H.out.mono ?_
  rintro e w1 ⟨u, rfl, hu⟩
  have HU := Lib.hid hu
  clear hu
  go_wp2
  go_ret
  exact ⟨_, rfl, HU.out⟩
theorem quo_of (v1 v2 : Value) (w : World) (P : World → Value → Prop) (h : Calls Tryz.prog 48 #[v1, .int .i64 15, v2] w fun e w' => ∃ u, e = .returned u ∧ P w' u) :
    Calls Tryz.prog 105 #[v1, v2] w fun e w' => ∃ u, e = .returned u ∧ P w' u := by
  have H := Lib.hid h
  clear h
  go_enter Tryz.func105, Tryz.ntmps105
  go_wp2_with fail
  refine H.out.mono ?_
  rintro e w1 ⟨u, rfl, hu⟩
  have HU := Lib.hid hu
  clear hu
  go_wp2
  go_ret
  exact ⟨_, rfl, HU.out⟩
def CPair (lo : Nat) (w : World) (v : Value) (r q : Rt) : Prop := ∃ b1 b2, v = .iface 115 (.agg #[.iface 106 (.agg #[.pointer (some ⟨b1, 0, none⟩)]), .iface 106 (.agg #[.pointer (some ⟨b2, 0, none⟩)])]) ∧ RatAt 139 w b1 r.neg r.num r.den ∧ RatAt 139 w b2 q.neg q.num q.den ∧ lo ≤ b1 ∧ lo ≤ b2
def RSing (lo : Nat) (w : World) (v : Value) (r : Rt) : Prop := ∃ b, v = .iface 106 (.agg #[.pointer (some ⟨b, 0, none⟩)]) ∧ RatAt 139 w b r.neg r.num r.den ∧ lo ≤ b
theorem CPair.keep {lo : Nat} {w w' : World} {v : Value} {r q : Rt} (h : CPair lo w v r q) (hb : Below w.heap.size w w') : CPair lo w' v r q := by
  obtain ⟨b1, b2, e, h1, h2, h3, h4⟩ := h; exact ⟨b1, b2, e, h1.keep hb, h2.keep hb, h3, h4⟩
theorem CPair.le {lo lo' : Nat} {w : World} {v : Value} {r q : Rt} (h : CPair lo w v r q) (hl : lo' ≤ lo) : CPair lo' w v r q := by
  obtain ⟨b1, b2, e, h1, h2, h3, h4⟩ := h; exact ⟨b1, b2, e, h1, h2, Nat.le_trans hl h3, Nat.le_trans hl h4⟩
theorem RSing.keep {lo : Nat} {w w' : World} {v : Value} {r : Rt} (h : RSing lo w v r) (hb : Below w.heap.size w w') : RSing lo w' v r := by
  obtain ⟨b1, e, h1, h3⟩ := h; exact ⟨b1, e, h1.keep hb, h3⟩
theorem crat_of {w : World} {b : Nat} {r : Rt} (h : RatAt 139 w b r.neg r.num r.den) : CRat w (.iface 106 (.agg #[.pointer (some ⟨b, 0, none⟩)])) r := ⟨b, _, _, _, rfl, h, rfl⟩
theorem RSing.rat {lo : Nat} {w : World} {v : Value} {r : Rt} (h : RSing lo w v r) : CRat w v r := by
  obtain ⟨b, rfl, h1, _⟩ := h; exact crat_of h1
theorem CPair.cpx {lo : Nat} {w : World} {v : Value} {r q : Rt} (h : CPair lo w v r q) : CCpx w v r q := by
  obtain ⟨b1, b2, rfl, h1, h2, _⟩ := h; exact ⟨_, _, rfl, .inr (crat_of h1), .inr (crat_of h2)⟩
theorem newQ_rat {lo : Nat} {w : World} {u : Value} {r : Rt} (h : CRat w u r) (hn : NewQ lo u) : RSing lo w u r := by
  obtain ⟨b, s, N, D, rfl, hR, rfl⟩ := h
  obtain ⟨b', e, hle⟩ := hn
  injection e with _ e
  injection e with e
  injection e with e
  injection e with e _
  injection e with e
  injection e with e
  injection e with e _ _
  subst e
  exact ⟨b, rfl, hR, hle⟩
abbrev MadeLo (x : Vl) (P : Nat → World → Value → Prop) : Prop := ∀ w, Thr w → ThrD w → VlAt w x → Calls Tryz.prog 49 #[.agg #[.int .i64 x.kind, .bool x.truth, .string x.text, .bool x.neg, .slice x.wa x.wn x.wc, .slice x.da x.dn x.dc, .bool x.ineg, .slice x.ia x.inn x.ic, .slice x.ea x.en x.ec]] w fun e w' => ∃ u, e = .returned u ∧ P w.heap.size w' u ∧ Below w.heap.size w w'
structure PLt (r q : Rt) (L : Nat) : Prop where
  l1 : 1 ≤ L
  l2 : L ≤ 63
  n1 : r.num < W64 ^ L
  d1 : r.den < W64 ^ L
  n2 : q.num < W64 ^ L
  d2 : q.den < W64 ^ L
  ok1 : ROk r
  ok2 : ROk q
def Part (w : World) (v : Value) (r : Rt) : Prop := CRat w v r ∨ (v = .iface 91 (.int .i64 0) ∧ r = rz 0)
theorem Part.keep {w w' : World} {v : Value} {r : Rt} (h : Part w v r) (hb : Below w.heap.size w w') : Part w' v r := by
  rcases h with h | h
  · exact .inl (h.keep hb)
  · exact .inr h
theorem cint_zero (w : World) : CInt w (.iface 91 (.int .i64 0)) 0 := .inl ⟨rfl, by decide⟩
theorem orKeep {w w' : World} {v1 v2 : Value} {r q : Rt} (h : CRat w v1 r ∨ CRat w v2 q) (hb : Below w.heap.size w w') : CRat w' v1 r ∨ CRat w' v2 q := h.imp (fun h => h.keep hb) (fun h => h.keep hb)
theorem matchP_any {w : World} {v1 v2 : Value} {r q : Rt} (h1 : Part w v1 r) (h2 : Part w v2 q) (hx : CRat w v1 r ∨ CRat w v2 q) : Calls Tryz.prog 73 #[v1, v2] w (MatR r q w) := by
  rcases hx with hx | hx
  · rcases h2 with h2 | ⟨rfl, rfl⟩
    · exact matchRR_any v1 v2 r q w hx h2
    · exact matchRI_any _ v1 0 r w (cint_zero w) hx 0 (by omega) (by decide)
  · rcases h1 with h1 | ⟨rfl, rfl⟩
    · exact matchRR_any v1 v2 r q w h1 hx
    · exact matchIR_any _ v2 0 q w (cint_zero w) hx 0 (by omega) (by decide)
theorem Part.iface {w : World} {v : Value} {r : Rt} (h : Part w v r) : ∃ t x, v = .iface t x := by
  rcases h with ⟨b, s, N, D, rfl, _⟩ | ⟨rfl, _⟩
  · exact ⟨_, _, rfl⟩
  · exact ⟨_, _, rfl⟩
theorem rz0_lt : (rz 0).num < W64 ^ 1 ∧ (rz 0).den < W64 ^ 1 := ⟨Nat.pow_pos W64_pos, Nat.one_lt_pow (by decide) W64_gt⟩
theorem addP_any (v1 v2 : Value) (r q : Rt) (w : World) (hK : Thr w) (hT : ThrD w) (h1 : Part w v1 r) (h2 : Part w v2 q) (hx : CRat w v1 r ∨ CRat w v2 q) (L K : Nat) (hL : L + K ≤ 38) (hr : r.num < W64 ^ L ∧ r.den < W64 ^ L) (hq : q.num < W64 ^ K ∧ q.den < W64 ^ K) :
    Calls Tryz.prog 102 #[v1, v2] w fun e w' => ∃ u, e = .returned u ∧ RSing w.heap.size w' u (Rt.plus r q) ∧ Below w.heap.size w w' :=
  add_of v1 v2 w (fun w' u => RSing w.heap.size w' u (Rt.plus r q) ∧ Below w.heap.size w w') ((binRAdd_any v1 v2 r q w hK hT (matchP_any h1 h2 hx) L K hL hr hq).mono fun e w' ⟨u, he, hu, _, _, _, hB, hn⟩ => ⟨u, he, newQ_rat hu hn, hB⟩)
theorem subP_any (v1 v2 : Value) (r q : Rt) (w : World) (hK : Thr w) (hT : ThrD w) (h1 : Part w v1 r) (h2 : Part w v2 q) (hx : CRat w v1 r ∨ CRat w v2 q) (L K : Nat) (hL : L + K ≤ 38) (hr : r.num < W64 ^ L ∧ r.den < W64 ^ L) (hq : q.num < W64 ^ K ∧ q.den < W64 ^ K) :
    Calls Tryz.prog 103 #[v1, v2] w fun e w' => ∃ u, e = .returned u ∧ RSing w.heap.size w' u (Rt.minus r q) ∧ Below w.heap.size w w' :=
  sub_of v1 v2 w (fun w' u => RSing w.heap.size w' u (Rt.minus r q) ∧ Below w.heap.size w w') ((binRSub_any v1 v2 r q w hK hT (matchP_any h1 h2 hx) L K hL hr hq).mono fun e w' ⟨u, he, hu, _, _, _, hB, hn⟩ => ⟨u, he, newQ_rat hu hn, hB⟩)
theorem binCAdd_core (v1 v2 : Value) (t1 t2 t3 t4 : TypeId) (x1 x2 x3 x4 : Value) (r1 q1 r2 q2 : Rt) (L1 K1 L2 K2 : Nat) (w : World) (hK : Thr w) (hT : ThrD w)
    (hm : Calls Tryz.prog 73 #[v1, v2] w fun e w' => e = .returned (.tuple #[.iface 115 (.agg #[.iface t1 x1, .iface t2 x2]), .iface 115 (.agg #[.iface t3 x3, .iface t4 x4])]) ∧ Below w.heap.size w w')
    (h1 : Part w (.iface t1 x1) r1) (h2 : Part w (.iface t2 x2) q1) (h3 : Part w (.iface t3 x3) r2) (h4 : Part w (.iface t4 x4) q2) (hx : CRat w (.iface t1 x1) r1 ∨ CRat w (.iface t3 x3) r2) (hy : CRat w (.iface t2 x2) q1 ∨ CRat w (.iface t4 x4) q2)
    (hL1 : L1 + K1 ≤ 38) (hL2 : L2 + K2 ≤ 38) (s1 : r1.num < W64 ^ L1 ∧ r1.den < W64 ^ L1) (s2 : r2.num < W64 ^ K1 ∧ r2.den < W64 ^ K1) (s3 : q1.num < W64 ^ L2 ∧ q1.den < W64 ^ L2) (s4 : q2.num < W64 ^ K2 ∧ q2.den < W64 ^ K2) :
    Calls Tryz.prog 48 #[v1, .int .i64 12, v2] w fun e w' => ∃ u, e = .returned u ∧ CPair w.heap.size w' u (Rt.plus r1 r2) (Rt.plus q1 q2) ∧ Below w.heap.size w w' := by
  have HM := Lib.hid hm
  have HK := Lib.hid hK
  have HT := Lib.hid hT
  have HP := Lib.hid (⟨h1, h2, h3, h4⟩ : Part w (.iface t1 x1) r1 ∧ Part w (.iface t2 x2) q1 ∧ Part w (.iface t3 x3) r2 ∧ Part w (.iface t4 x4) q2)
  have HX := Lib.hid (⟨hx, hy⟩ : (CRat w (.iface t1 x1) r1 ∨ CRat w (.iface t3 x3) r2) ∧ (CRat w (.iface t2 x2) q1 ∨ CRat w (.iface t4 x4) q2))
  have HS := Lib.hid (⟨s1, s2, s3, s4⟩ : (r1.num < W64 ^ L1 ∧ r1.den < W64 ^ L1) ∧ (r2.num < W64 ^ K1 ∧ r2.den < W64 ^ K1) ∧ (q1.num < W64 ^ L2 ∧ q1.den < W64 ^ L2) ∧ (q2.num < W64 ^ K2 ∧ q2.den < W64 ^ K2))
  clear hm hK hT h1 h2 h3 h4 hx hy s1 s2 s3 s4
  go_enter Tryz.func48, Tryz.ntmps48
  go_wp2
  refine wp_scope_straight ?_
  go_wp2_with fail
  refine HM.out.mono ?_
  rintro e w1 ⟨rfl, hB⟩
  have HB := Lib.hid hB
  clear hB
  obtain ⟨u1, u2, u3, u4, u5, u6, u7, u8, u9⟩ := ta_complexVal
  obtain ⟨W2, hW2⟩ : ∃ W2, W2 = (w1.alloc (.cells #[.iface t1 x1, .iface t2 x2] 115)).alloc (.cells #[.iface t3 x3, .iface t4 x4] 115) := ⟨_, rfl⟩
  have hb2 : Below w1.heap.size w1 W2 := by rw [hW2]; exact Below.alloc' (Below.alloc' (Below.refl _ _) _) _
  have c0 : W2.cell? ⟨w1.heap.size, 0, none⟩ = some (.iface t1 x1) := by rw [hW2]; exact alloc_keep _ _ (alloc_new _ _ _ rfl rfl)
  have c1 : W2.cell? ⟨w1.heap.size, 1, none⟩ = some (.iface t2 x2) := by rw [hW2]; exact alloc_keep _ _ (alloc_new _ _ _ rfl rfl)
  have c2 : W2.cell? ⟨w1.heap.size + 1, 0, none⟩ = some (.iface t3 x3) := by rw [hW2]; exact alloc_new _ _ _ (by simp) rfl
  have c3 : W2.cell? ⟨w1.heap.size + 1, 1, none⟩ = some (.iface t4 x4) := by rw [hW2]; exact alloc_new _ _ _ (by simp) rfl
  have HW2 := Lib.hid hW2
  have HBQ := Lib.hid (fun q => (Below.then (Below.then HB.out (Nat.le_refl _) hb2) (Nat.le_refl _) (below_of_drewN ⟨q, rfl⟩) : Below w.heap.size w (W2.drewN q)))
  clear hW2 hb2
  go_upto_region 107 with fail
  rw [← HW2.out]
  go_quiet (fail)
  go_upto_region 108 with fail
  go_quiet (fail)
  clear c0 c1 c2 c3
  go_wp2_with fail
  refine (addP_any _ _ r1 r2 _ (HK.out.keep (HBQ.out _)) (HT.out.keep (HBQ.out _)) (HP.out.1.keep (HBQ.out _)) (HP.out.2.2.1.keep (HBQ.out _)) (orKeep HX.out.1 (HBQ.out _)) L1 K1 hL1 HS.out.1 HS.out.2.1).mono ?_
  rintro e w3 ⟨_, rfl, ⟨b1, rfl, hR1, hle1⟩, hB3⟩
  have hb3 := Below.then (HBQ.out _) (Nat.le_refl _) hB3
  have HR1 := Lib.hid hR1
  have HE1 := Lib.hid (Nat.le_trans (HBQ.out _).size hle1)
  clear hR1 hle1 hB3
  go_wp2_with fail
  refine (addP_any _ _ q1 q2 _ (HK.out.keep hb3) (HT.out.keep hb3) (HP.out.2.1.keep hb3) (HP.out.2.2.2.keep hb3) (orKeep HX.out.2 hb3) L2 K2 hL2 HS.out.2.2.1 HS.out.2.2.2).mono ?_
  rintro e w4 ⟨_, rfl, ⟨b2, rfl, hR2, hle2⟩, hB4⟩
  have HR1' := Lib.hid (HR1.out.keep hB4)
  have HR2 := Lib.hid hR2
  have HE2 := Lib.hid (Nat.le_trans hb3.size hle2)
  have hb4 := Below.then hb3 (Nat.le_refl _) hB4
  clear hR2 hle2 hB4 hb3
  go_wp2_with fail
  refine (makeComplex_any _ _ _ (.inr (.inr ⟨_, rfl⟩)) (.inr (.inr ⟨_, rfl⟩))).mono ?_
  rintro e w5 ⟨rfl, hB5⟩
  have hb5 := Below.then hb4 (Nat.le_refl _) hB5
  go_wp2
  try rw [Exit.noGoto_ret]
  go_ret
  exact ⟨_, rfl, ⟨_, _, rfl, HR1'.out.keep hB5, HR2.out.keep hB5, HE1.out, HE2.out⟩, hb5⟩
theorem binCAdd_pair (v1 v2 : Value) (r1 q1 r2 q2 : Rt) (lo1 lo2 L : Nat) (w : World) (hK : Thr w) (hT : ThrD w) (c1 : CPair lo1 w v1 r1 q1) (c2 : CPair lo2 w v2 r2 q2) (p1 : PLt r1 q1 L) (p2 : PLt r2 q2 L) (hL : L + L ≤ 38) :
    Calls Tryz.prog 48 #[v1, .int .i64 12, v2] w fun e w' => ∃ u, e = .returned u ∧ CPair w.heap.size w' u (Rt.plus r1 r2) (Rt.plus q1 q2) ∧ Below w.heap.size w w' := by
  obtain ⟨b1, b2, rfl, a1, a2, -, -⟩ := c1
  obtain ⟨b3, b4, rfl, a3, a4, -, -⟩ := c2
  exact binCAdd_core _ _ _ _ _ _ _ _ _ _ r1 q1 r2 q2 L L L L w hK hT ((matchCC_any _ _ _ _ w).mono fun e w' ⟨he, hw⟩ => ⟨he, by rw [hw]; exact Below.refl _ _⟩) (.inl (crat_of a1)) (.inl (crat_of a2)) (.inl (crat_of a3)) (.inl (crat_of a4)) (.inl (crat_of a1)) (.inl (crat_of a2)) hL hL ⟨p1.n1, p1.d1⟩ ⟨p2.n1, p2.d1⟩ ⟨p1.n2, p1.d2⟩ ⟨p2.n2, p2.d2⟩
theorem binCAdd_rat (v1 v2 : Value) (r q : Rt) (lo1 lo2 L : Nat) (w : World) (hK : Thr w) (hT : ThrD w) (c1 : RSing lo1 w v1 r) (c2 : CPair lo2 w v2 (rz 0) q) (p : PLt r q L) (hL : L ≤ 37) :
    Calls Tryz.prog 48 #[v1, .int .i64 12, v2] w fun e w' => ∃ u, e = .returned u ∧ CPair w.heap.size w' u (Rt.plus r (rz 0)) (Rt.plus (rz 0) q) ∧ Below w.heap.size w w' := by
  obtain ⟨b1, rfl, a1, -⟩ := c1
  obtain ⟨b3, b4, rfl, a3, a4, -, -⟩ := c2
  exact binCAdd_core _ _ _ _ _ _ _ _ _ _ r (rz 0) (rz 0) q L 1 1 L w hK hT (matchRC_any b1 r _ _ w (crat_of a1)) (.inl (crat_of a1)) (.inr ⟨rfl, rfl⟩) (.inl (crat_of a3)) (.inl (crat_of a4)) (.inl (crat_of a1)) (.inr (crat_of a4)) (by omega) (by omega) ⟨p.n1, p.d1⟩ rz0_lt rz0_lt ⟨p.n2, p.d2⟩
theorem binCSub_core (v1 v2 : Value) (t1 t2 t3 t4 : TypeId) (x1 x2 x3 x4 : Value) (r1 q1 r2 q2 : Rt) (L1 K1 L2 K2 : Nat) (w : World) (hK : Thr w) (hT : ThrD w)
    (hm : Calls Tryz.prog 73 #[v1, v2] w fun e w' => e = .returned (.tuple #[.iface 115 (.agg #[.iface t1 x1, .iface t2 x2]), .iface 115 (.agg #[.iface t3 x3, .iface t4 x4])]) ∧ Below w.heap.size w w')
    (h1 : Part w (.iface t1 x1) r1) (h2 : Part w (.iface t2 x2) q1) (h3 : Part w (.iface t3 x3) r2) (h4 : Part w (.iface t4 x4) q2) (hx : CRat w (.iface t1 x1) r1 ∨ CRat w (.iface t3 x3) r2) (hy : CRat w (.iface t2 x2) q1 ∨ CRat w (.iface t4 x4) q2)
    (hL1 : L1 + K1 ≤ 38) (hL2 : L2 + K2 ≤ 38) (s1 : r1.num < W64 ^ L1 ∧ r1.den < W64 ^ L1) (s2 : r2.num < W64 ^ K1 ∧ r2.den < W64 ^ K1) (s3 : q1.num < W64 ^ L2 ∧ q1.den < W64 ^ L2) (s4 : q2.num < W64 ^ K2 ∧ q2.den < W64 ^ K2) :
    Calls Tryz.prog 48 #[v1, .int .i64 13, v2] w fun e w' => ∃ u, e = .returned u ∧ CPair w.heap.size w' u (Rt.minus r1 r2) (Rt.minus q1 q2) ∧ Below w.heap.size w w' := by
  have HM := Lib.hid hm
  have HK := Lib.hid hK
  have HT := Lib.hid hT
  have HP := Lib.hid (⟨h1, h2, h3, h4⟩ : Part w (.iface t1 x1) r1 ∧ Part w (.iface t2 x2) q1 ∧ Part w (.iface t3 x3) r2 ∧ Part w (.iface t4 x4) q2)
  have HX := Lib.hid (⟨hx, hy⟩ : (CRat w (.iface t1 x1) r1 ∨ CRat w (.iface t3 x3) r2) ∧ (CRat w (.iface t2 x2) q1 ∨ CRat w (.iface t4 x4) q2))
  have HS := Lib.hid (⟨s1, s2, s3, s4⟩ : (r1.num < W64 ^ L1 ∧ r1.den < W64 ^ L1) ∧ (r2.num < W64 ^ K1 ∧ r2.den < W64 ^ K1) ∧ (q1.num < W64 ^ L2 ∧ q1.den < W64 ^ L2) ∧ (q2.num < W64 ^ K2 ∧ q2.den < W64 ^ K2))
  clear hm hK hT h1 h2 h3 h4 hx hy s1 s2 s3 s4
  go_enter Tryz.func48, Tryz.ntmps48
  go_wp2
  refine wp_scope_straight ?_
  go_wp2_with fail
  refine HM.out.mono ?_
  rintro e w1 ⟨rfl, hB⟩
  have HB := Lib.hid hB
  clear hB
  obtain ⟨u1, u2, u3, u4, u5, u6, u7, u8, u9⟩ := ta_complexVal
  obtain ⟨W2, hW2⟩ : ∃ W2, W2 = (w1.alloc (.cells #[.iface t1 x1, .iface t2 x2] 115)).alloc (.cells #[.iface t3 x3, .iface t4 x4] 115) := ⟨_, rfl⟩
  have hb2 : Below w1.heap.size w1 W2 := by rw [hW2]; exact Below.alloc' (Below.alloc' (Below.refl _ _) _) _
  have c0 : W2.cell? ⟨w1.heap.size, 0, none⟩ = some (.iface t1 x1) := by rw [hW2]; exact alloc_keep _ _ (alloc_new _ _ _ rfl rfl)
  have c1 : W2.cell? ⟨w1.heap.size, 1, none⟩ = some (.iface t2 x2) := by rw [hW2]; exact alloc_keep _ _ (alloc_new _ _ _ rfl rfl)
  have c2 : W2.cell? ⟨w1.heap.size + 1, 0, none⟩ = some (.iface t3 x3) := by rw [hW2]; exact alloc_new _ _ _ (by simp) rfl
  have c3 : W2.cell? ⟨w1.heap.size + 1, 1, none⟩ = some (.iface t4 x4) := by rw [hW2]; exact alloc_new _ _ _ (by simp) rfl
  have HW2 := Lib.hid hW2
  have HBQ := Lib.hid (fun q => (Below.then (Below.then HB.out (Nat.le_refl _) hb2) (Nat.le_refl _) (below_of_drewN ⟨q, rfl⟩) : Below w.heap.size w (W2.drewN q)))
  clear hW2 hb2
  go_upto_region 107 with fail
  rw [← HW2.out]
  go_quiet (fail)
  go_upto_region 108 with fail
  go_quiet (fail)
  clear c0 c1 c2 c3
  go_wp2_with fail
  refine (subP_any _ _ r1 r2 _ (HK.out.keep (HBQ.out _)) (HT.out.keep (HBQ.out _)) (HP.out.1.keep (HBQ.out _)) (HP.out.2.2.1.keep (HBQ.out _)) (orKeep HX.out.1 (HBQ.out _)) L1 K1 hL1 HS.out.1 HS.out.2.1).mono ?_
  rintro e w3 ⟨_, rfl, ⟨b1, rfl, hR1, hle1⟩, hB3⟩
  have hb3 := Below.then (HBQ.out _) (Nat.le_refl _) hB3
  have HR1 := Lib.hid hR1
  have HE1 := Lib.hid (Nat.le_trans (HBQ.out _).size hle1)
  clear hR1 hle1 hB3
  go_wp2_with fail
  refine (subP_any _ _ q1 q2 _ (HK.out.keep hb3) (HT.out.keep hb3) (HP.out.2.1.keep hb3) (HP.out.2.2.2.keep hb3) (orKeep HX.out.2 hb3) L2 K2 hL2 HS.out.2.2.1 HS.out.2.2.2).mono ?_
  rintro e w4 ⟨_, rfl, ⟨b2, rfl, hR2, hle2⟩, hB4⟩
  have HR1' := Lib.hid (HR1.out.keep hB4)
  have HR2 := Lib.hid hR2
  have HE2 := Lib.hid (Nat.le_trans hb3.size hle2)
  have hb4 := Below.then hb3 (Nat.le_refl _) hB4
  clear hR2 hle2 hB4 hb3
  go_wp2_with fail
  refine (makeComplex_any _ _ _ (.inr (.inr ⟨_, rfl⟩)) (.inr (.inr ⟨_, rfl⟩))).mono ?_
  rintro e w5 ⟨rfl, hB5⟩
  have hb5 := Below.then hb4 (Nat.le_refl _) hB5
  go_wp2
  try rw [Exit.noGoto_ret]
  go_ret
  exact ⟨_, rfl, ⟨_, _, rfl, HR1'.out.keep hB5, HR2.out.keep hB5, HE1.out, HE2.out⟩, hb5⟩
theorem binCSub_pair (v1 v2 : Value) (r1 q1 r2 q2 : Rt) (lo1 lo2 L : Nat) (w : World) (hK : Thr w) (hT : ThrD w) (c1 : CPair lo1 w v1 r1 q1) (c2 : CPair lo2 w v2 r2 q2) (p1 : PLt r1 q1 L) (p2 : PLt r2 q2 L) (hL : L + L ≤ 38) :
    Calls Tryz.prog 48 #[v1, .int .i64 13, v2] w fun e w' => ∃ u, e = .returned u ∧ CPair w.heap.size w' u (Rt.minus r1 r2) (Rt.minus q1 q2) ∧ Below w.heap.size w w' := by
  obtain ⟨b1, b2, rfl, a1, a2, -, -⟩ := c1
  obtain ⟨b3, b4, rfl, a3, a4, -, -⟩ := c2
  exact binCSub_core _ _ _ _ _ _ _ _ _ _ r1 q1 r2 q2 L L L L w hK hT ((matchCC_any _ _ _ _ w).mono fun e w' ⟨he, hw⟩ => ⟨he, by rw [hw]; exact Below.refl _ _⟩) (.inl (crat_of a1)) (.inl (crat_of a2)) (.inl (crat_of a3)) (.inl (crat_of a4)) (.inl (crat_of a1)) (.inl (crat_of a2)) hL hL ⟨p1.n1, p1.d1⟩ ⟨p2.n1, p2.d1⟩ ⟨p1.n2, p1.d2⟩ ⟨p2.n2, p2.d2⟩
theorem binCSub_rat (v1 v2 : Value) (r q : Rt) (lo1 lo2 L : Nat) (w : World) (hK : Thr w) (hT : ThrD w) (c1 : RSing lo1 w v1 r) (c2 : CPair lo2 w v2 (rz 0) q) (p : PLt r q L) (hL : L ≤ 37) :
    Calls Tryz.prog 48 #[v1, .int .i64 13, v2] w fun e w' => ∃ u, e = .returned u ∧ CPair w.heap.size w' u (Rt.minus r (rz 0)) (Rt.minus (rz 0) q) ∧ Below w.heap.size w w' := by
  obtain ⟨b1, rfl, a1, -⟩ := c1
  obtain ⟨b3, b4, rfl, a3, a4, -, -⟩ := c2
  exact binCSub_core _ _ _ _ _ _ _ _ _ _ r (rz 0) (rz 0) q L 1 1 L w hK hT (matchRC_any b1 r _ _ w (crat_of a1)) (.inl (crat_of a1)) (.inr ⟨rfl, rfl⟩) (.inl (crat_of a3)) (.inl (crat_of a4)) (.inl (crat_of a1)) (.inr (crat_of a4)) (by omega) (by omega) ⟨p.n1, p.d1⟩ rz0_lt rz0_lt ⟨p.n2, p.d2⟩
theorem binMadeC_any (b1 b2 : Nat) (r q : Rt) (L : Nat) (hL : L ≤ 37) (w : World) (hK : Thr w) (hT : ThrD w) (h1 : RatAt 139 w b1 r.neg r.num r.den) (h2 : RatAt 139 w b2 q.neg q.num q.den) (p : PLt r q L) :
    Calls Tryz.prog 48 #[.iface 106 (.agg #[.pointer (some ⟨b1, 0, none⟩)]), .int .i64 12, .iface 115 (.agg #[.iface 91 (.int .i64 0), .iface 106 (.agg #[.pointer (some ⟨b2, 0, none⟩)])])] w fun e w' => ∃ u, e = .returned u ∧ CPair w.heap.size w' u r q ∧ Below w.heap.size w w' := by
  have := binCAdd_core _ _ _ _ _ _ _ _ _ _ r (rz 0) (rz 0) q L 1 1 L w hK hT (matchRC_any b1 r _ _ w (crat_of h1)) (.inl (crat_of h1)) (.inr ⟨rfl, rfl⟩) (.inr ⟨rfl, rfl⟩) (.inl (crat_of h2)) (.inl (crat_of h1)) (.inr (crat_of h2)) (by omega) (by omega) ⟨p.n1, p.d1⟩ rz0_lt rz0_lt ⟨p.n2, p.d2⟩
  rw [plus_zero p.ok1, zero_plus p.ok2] at this
  exact this
end Go.Proofs.YtececkbcinmmpaaGreatDoor
