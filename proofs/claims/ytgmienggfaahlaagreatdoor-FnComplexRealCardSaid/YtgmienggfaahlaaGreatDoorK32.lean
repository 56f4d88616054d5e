/-
  Contracts and lemmas: MadR BinRat CpxP CpxA FrD RatAdd.
-/
import Derived.Test.YtgmienggfaahlaaGreatDoorK17
import Derived.Test.YtgmienggfaahlaaGreatDoorK31
import Derived.Test.YtgmienggfaahlaaGreatDoorK30
import Derived.Test.YtgmienggfaahlaaGreatDoorK24
set_option linter.unusedSimpArgs false
set_option linter.unusedVariables false
set_option maxRecDepth 100000
set_option maxHeartbeats 8000000
namespace Go.Proofs.YtgmienggfaahlaaGreatDoor
open Go.RowKit Go.Bg Dg
theorem implOverF_any (s : Bool) (a : Option Addr) (n c : Nat) (f : Nat → Nat) (a' : Option Addr) (n' c' : Nat) (f' : Nat → Nat) (w : World) (h : WordsAt w a n c f) (h' : WordsAt w a' n' c' f') (hn : n ≤ 100000) (hn' : n' ≤ 100000) (hD : 0 < val W64 f' n') :
    Calls Tryz.prog 95 #[.agg #[.bool s, .slice a n c], .slice a' n' c'] w fun e w' => ∃ b, e = .returned (.pointer (some ⟨b, 0, none⟩)) ∧ RatAt 155 w' b (s && decide (0 < val W64 f n)) (val W64 f n) (val W64 f' n') ∧ w.heap.size ≤ b ∧ Below w.heap.size w w' := by
  obtain ⟨W0, hW0⟩ : ∃ W0, W0 = (w.alloc (.cells #[.bool s, .slice a n c] 24)).alloc (.cells #[.bool false, .slice none 0 0, .bool false, .slice none 0 0] 179) := ⟨_, rfl⟩
  have hs0 : W0.heap.size = w.heap.size + 1 + 1 := by rw [hW0]; simp
  have HW := Lib.hid hW0
  have hb0 : Below w.heap.size w W0 := by rw [hW0]; exact Below.alloc' (Below.alloc' (Below.refl _ _) _) _
  have hz : NewRat W0 (w.heap.size + 1) := by
    rw [hW0]
    have := BlkAt.new (w.alloc (.cells #[.bool s, .slice a n c] 24)) #[.bool false, .slice none 0 0, .bool false, .slice none 0 0] 179
    simpa [NewRat] using this
  have HX := Lib.hid (h.keep hb0)
  have HY := Lib.hid h'
  have HD := Lib.hid hD
  have HL := Lib.hid (show val W64 f n < W64 ^ n from val_lt h.lt)
  clear hW0 h h' hD
  go_enter Tryz.func95, Tryz.ntmps95
  go_wp2_with fail
  rw [← HW.out]
  refine (of_any' s a n c f _ HX.out (by omega)).mono ?_
  rintro e w1 ⟨b1, rfl, hb1, hI, hB1⟩
  have hz1 := hz.keep hB1
  have hbw1 := Below.then hb0 (Nat.le_refl _) hB1
  have HS1 := Lib.hid hB1.size
  clear hB1 hz
  go_wp2_with fail
  refine (ratSetInt_new (w.heap.size + 1) b1 0 _ _ _ hz1 hI (by omega) n (by omega) HL.out).mono ?_
  rintro e w2 ⟨rfl, hR, hU⟩
  have hbw2 := hU.below hbw1 (by have := HS1.out; omega) (by omega)
  have HR := Lib.hid hR
  have HS2 := Lib.hid (show w.heap.size + 1 < w2.heap.size from hR.a.blk.lt)
  clear hz1 hI hU hR hbw1
  go_wp2_with fail
  refine (ratDenom_any (w.heap.size + 1) false 1 _ HR.out.d (by omega)).mono ?_
  rintro e w3 ⟨rfl, rfl⟩
  go_wp2_with fail
  refine (wordsOf_any a' n' c' f' _ (HY.out.keep hbw2) (by omega)).mono ?_
  rintro e w4 ⟨v, rfl, hown, hB4⟩
  obtain ⟨a1, c1, rfl, hbuf, hnc, hcm, hnil, hcells⟩ := buf_of_own hown
  have hw4 := hcells (wv f') (fun i hi => by simp [hi])
  have hR4 := HR.out.keep hB4
  have hbw4 := Below.then hbw2 (by have := HS2.out; omega) hB4
  have HS4 := Lib.hid hB4.size
  clear hown hcells hB4 hbw2
  obtain ⟨aa, nn, cc, p0, p1, _⟩ := hR4.d.val
  go_wp2_with fail
  refine (setBits_any (w.heap.size + 1) 2 a1 n' c1 f' _ hR4.d.blk ⟨_, p0⟩ ⟨_, p1⟩ (by omega) hnc hcm hnil HY.out.lt hw4 hbuf).mono ?_
  rintro e w5 hI5
  have hR5 := rat_setDen hR4 hI5 HD.out
  obtain ⟨rfl, _, hU5⟩ := hI5
  have hbw5 := hU5.upd.below hbw4 (by have := HS2.out; have := HS4.out; omega) (fun k _ e => by subst e; omega)
  go_wp2
  go_ret
  exact ⟨_, rfl, hR5, by omega, hbw5⟩
theorem makeRatF_any (b : Nat) (s : Bool) (N D L : Nat) (w : World) (h : RatAt 155 w b s N D) (hN : N < W64 ^ L) (hD : D < W64 ^ L) (hL : L ≤ 63) :
    Calls Tryz.prog 66 #[.pointer (some ⟨b, 0, none⟩)] w fun e w' => e = .returned (.iface 102 (.agg #[.pointer (some ⟨b, 0, none⟩)])) ∧ w = w' := by
  have HH := Lib.hid h
  have HN := Lib.hid hN
  have HD := Lib.hid hD
  clear h hN hD
  go_enter Tryz.func66, Tryz.ntmps66
  go_wp2_with fail
  refine (ratNum_any b _).mono ?_
  rintro e w1 ⟨rfl, rfl⟩
  go_wp2_with fail
  refine (ratDenom_any b false D _ HH.out.d HH.out.pos).mono ?_
  rintro e w1 ⟨rfl, rfl⟩
  go_wp2_with fail
  refine (smallInt_any b 0 s N L _ HH.out.a HN.out hL).mono ?_
  rintro e w1 ⟨rfl, rfl⟩
  go_wp2_with fail
  refine (smallInt_any b 2 false D L _ HH.out.d HD.out hL).mono ?_
  rintro e w1 ⟨rfl, rfl⟩
  go_wp2
  go_ret
  exact ⟨rfl, rfl⟩
theorem makeOfRatF_any (b : Nat) (s : Bool) (N D L : Nat) (w : World) (h : RatAt 155 w b s N D) (hN : N < W64 ^ L) (hD : D < W64 ^ L) (hL : L ≤ 63) :
    Calls Tryz.prog 93 #[.iface 95 (.pointer (some ⟨b, 0, none⟩))] w fun e w' => e = .returned (.iface 102 (.agg #[.pointer (some ⟨b, 0, none⟩)])) ∧ w = w' := by
  have HH := Lib.hid h
  have HN := Lib.hid hN
  have HD := Lib.hid hD
  clear h hN hD
  obtain ⟨t1, t2, t3, t4, t5, t6⟩ := ta_any_pRat
  go_enter Tryz.func93, Tryz.ntmps93
  go_wp2_with fail
  refine (makeRatF_any b s N D L _ HH.out HN.out HD.out hL).mono ?_
  rintro e w1 ⟨rfl, rfl⟩
  go_wp2
  go_ret
  exact ⟨rfl, rfl⟩
theorem madeRatF_any (v : Vl) (w : World) (h : VlAt w v) (hk : v.kind = 4) (hn : v.wn ≤ 63) (hd : v.dn ≤ 63) (hD : 0 < val W64 v.df v.dn) :
    Calls Tryz.prog 38 #[.agg #[.int .i64 v.kind, .bool v.truth, .string v.text, .bool v.neg, .slice v.wa v.wn v.wc, .slice v.da v.dn v.dc, .bool v.ineg, .slice v.ia v.inn v.ic, .slice v.ea v.en v.ec]] w fun e w' => ∃ b, e = .returned (.iface 102 (.agg #[.pointer (some ⟨b, 0, none⟩)])) ∧ RatAt 155 w' b (mrt v).neg (mrt v).num (mrt v).den ∧ w.heap.size ≤ b ∧ Below w.heap.size w w' := by
  obtain ⟨W0, hW0⟩ : ∃ W0, W0 = w.alloc (.cells #[.int .i64 v.kind, .bool v.truth, .string v.text, .bool v.neg, .slice v.wa v.wn v.wc, .slice v.da v.dn v.dc, .bool v.ineg, .slice v.ia v.inn v.ic, .slice v.ea v.en v.ec] 26) := ⟨_, rfl⟩
  have HW := Lib.hid hW0
  have hb0 : Below w.heap.size w W0 := by rw [hW0]; exact Below.alloc' (Below.refl _ _) _
  have X : Box9 W0 w.heap.size v := by rw [hW0]; exact Box9.new w v _ rfl
  have HX := Lib.hid (h.keep hb0)
  have HN := Lib.hid (show val W64 v.wf v.wn < W64 ^ 63 from Nat.lt_of_lt_of_le (val_lt h.ws.lt) (Nat.pow_le_pow_right W64_pos hn))
  have HM := Lib.hid (show val W64 v.df v.dn < W64 ^ 63 from Nat.lt_of_lt_of_le (val_lt h.ds.lt) (Nat.pow_le_pow_right W64_pos hd))
  have HD := Lib.hid hD
  clear hW0 h hD
  obtain ⟨xc0, xc1, xc2, xc3, xc4, xc5, xc6, xc7, xc8⟩ := (X).all
  rw [hk] at xc0
  clear hk
  go_enter Tryz.func38, Tryz.ntmps38
  go_upto_region 1 with fail
  rw [← HW.out]
  go_wp2_with fail
  refine (implOverF_any v.neg v.wa v.wn v.wc v.wf v.da v.dn v.dc v.df _ HX.out.ws HX.out.ds (by omega) (by omega) HD.out).mono ?_
  rintro e w1 ⟨b, rfl, hR, hge, hB1⟩
  go_wp2_with fail
  refine (makeOfRatF_any b _ _ _ 63 _ hR HN.out HM.out (by omega)).mono ?_
  rintro e w2 ⟨rfl, rfl⟩
  have hge2 := Nat.le_trans hb0.size hge
  have HR := Lib.hid hR
  clear hR
  have hbf := Below.then hb0 (Nat.le_refl _) hB1
  go_wp2
  go_ret
  exact ⟨b, rfl, HR.out, hge2, hbf⟩
def NewQ (lo : Nat) (u : Value) : Prop := ∃ b, u = .iface 102 (.agg #[.pointer (some ⟨b, 0, none⟩)]) ∧ lo ≤ b
theorem over_sg {s : Bool} {X D : Nat} {Z : Int} (h : sg (s && decide (0 < X)) X = Z) : Rt.over (decide (Z < 0)) Z.natAbs D = Rt.over s X D := by
  rw [← h, sg_neg, sg_nat]
  unfold Rt.over
  cases s <;> by_cases h0 : 0 < X <;> simp [h0]
theorem plus_over (s t : Bool) (N D M E : Nat) : Rt.over (decide (sg s (N * E) + sg t (M * D) < 0)) (sg s (N * E) + sg t (M * D)).natAbs (D * E) = Rt.plus ⟨s, N, D⟩ ⟨t, M, E⟩ := by
  unfold Rt.plus
  dsimp only
  by_cases h : s = t
  · subst h
    rw [if_pos rfl]
    exact over_sg (sum_same s _ _)
  · rw [if_neg h]
    by_cases hle : M * D ≤ N * E
    · rw [if_pos hle]
      exact over_sg (sum_other h hle)
    · rw [if_neg hle]
      have ht : (!s) = t := by cases s <;> cases t <;> simp_all
      have := sum_other' h (Nat.lt_of_not_le hle)
      rw [ht] at this
      exact over_sg this
theorem minus_over (s t : Bool) (N D M E : Nat) : Rt.over (decide (sg s (N * E) - sg t (M * D) < 0)) (sg s (N * E) - sg t (M * D)).natAbs (D * E) = Rt.minus ⟨s, N, D⟩ ⟨t, M, E⟩ := by
  unfold Rt.minus Rt.negated
  dsimp only
  rw [← plus_over]
  have h : sg (!t && decide (0 < M)) (M * D) = - sg t (M * D) := by
    rcases Nat.eq_zero_or_pos M with h0 | h0
    · subst h0; rw [Nat.zero_mul]; cases t <;> simp [sg]
    · rw [decide_eq_true h0, Bool.and_true, sg_not]
  rw [h, ← Int.sub_eq_add_neg]
theorem times_over (s t : Bool) (N D M E : Nat) : Rt.over (!(s == t)) (N * E) (M * D) = Rt.times ⟨s, N, D⟩ (Rt.upside ⟨t, M, E⟩) := by
  unfold Rt.times Rt.upside
  rw [Nat.mul_comm M D]
  rfl
theorem over_self {r : Rt} (h : ROk r) : Rt.over r.neg r.num r.den = r := by
  obtain ⟨s, N, D⟩ := r
  obtain ⟨h1, h2, h3⟩ := h
  dsimp only at h1 h2 h3 ⊢
  unfold Rt.over
  rw [h3, Nat.div_one, Nat.div_one]
  cases s
  · simp
  · simp [h2 rfl]
theorem zero_rz : rz 0 = ⟨false, 0, 1⟩ := rfl
theorem plus_comm (r q : Rt) : Rt.plus r q = Rt.plus q r := by
  obtain ⟨s, N, D⟩ := r
  obtain ⟨t, M, E⟩ := q
  rw [← plus_over, ← plus_over, Int.add_comm, Nat.mul_comm D E]
theorem plus_zero {r : Rt} (h : ROk r) : Rt.plus r (rz 0) = r := by
  have h0 := over_self h
  have h1 := h.sign
  obtain ⟨s, N, D⟩ := r
  dsimp only at h0 h1
  rw [zero_rz, ← plus_over]
  have e : sg s (N * 1) + sg false (0 * D) = sg s N := by simp [sg]
  rw [e, sg_neg, sg_nat, Nat.mul_one]
  have e2 : (s && decide (0 < N)) = s := by
    cases s
    · rfl
    · simp [h1 rfl]
  rw [e2]
  exact h0
theorem zero_plus {r : Rt} (h : ROk r) : Rt.plus (rz 0) r = r := by rw [plus_comm]; exact plus_zero h
theorem rok_negated {r : Rt} (h : ROk r) : ROk r.negated := ⟨h.den, fun e => by
  have e' : (!r.neg && decide (0 < r.num)) = true := e
  simp only [Bool.and_eq_true, decide_eq_true_eq] at e'
  exact e'.2, h.gcd⟩
theorem negated_negated {r : Rt} (h : ROk r) : r.negated.negated = r := by
  have h1 := h.sign
  obtain ⟨s, N, D⟩ := r
  dsimp only at h1
  unfold Rt.negated
  dsimp only
  by_cases h0 : 0 < N
  · simp [h0]
  · cases s
    · simp [h0]
    · exact absurd (h1 rfl) h0
theorem rok_times {r q : Rt} (h1 : ROk r) (h2 : ROk q) : ROk (Rt.times r q) := rok_over _ _ _ (Nat.mul_pos h1.den h2.den)
theorem times_negated {r q : Rt} (h1 : ROk r) (h2 : ROk q) : Rt.times r q.negated = (Rt.times r q).negated := by
  have hd := Nat.mul_pos h1.den h2.den
  obtain ⟨s, N, D⟩ := r
  obtain ⟨t, M, E⟩ := q
  dsimp only at hd
  unfold Rt.times Rt.negated Rt.over
  dsimp only
  have hg : 0 < Nat.gcd (N * M) (D * E) := Nat.gcd_pos_of_pos_right _ hd
  by_cases h0 : 0 < N * M
  · have hM : 0 < M := Nat.pos_of_mul_pos_left h0
    have hq : 0 < N * M / Nat.gcd (N * M) (D * E) := Nat.div_pos (Nat.gcd_le_left _ h0) hg
    cases s <;> cases t <;> simp [h0, hM, hq]
  · have hz : N * M = 0 := by omega
    rw [hz]
    simp
theorem minus_negated {r q : Rt} (h : ROk q) : Rt.minus r q.negated = Rt.plus r q := by
  show Rt.plus r q.negated.negated = _
  rw [negated_negated h]
theorem ordCpx_any (p q : Value) (w : World) :
    Calls Tryz.prog 132 #[.iface 111 (.agg #[p, q])] w fun e w' => e = .returned (.int .i64 6) ∧ w = w' := by
  obtain ⟨t1, t2, t3, t4, t5, t6, t7, t8, t9⟩ := ta_complexVal
  go_enter Tryz.func132, Tryz.ntmps132
  go_wp2
  go_ret
  exact ⟨rfl, rfl⟩
theorem matchCC_any (p q p2 q2 : Value) (w : World) :
    Calls Tryz.prog 57 #[.iface 111 (.agg #[p, q]), .iface 111 (.agg #[p2, q2])] w fun e w' => e = .returned (.tuple #[.iface 111 (.agg #[p, q]), .iface 111 (.agg #[p2, q2])]) ∧ w' = w := by
  go_enter Tryz.func57, Tryz.ntmps57
  go_wp2_with fail
  refine (ordCpx_any _ _ _).mono ?_
  rintro e w1 ⟨rfl, rfl⟩
  go_wp2_with fail
  refine (ordCpx_any _ _ _).mono ?_
  rintro e w1 ⟨rfl, rfl⟩
  go_wp2
  exact bodyPost_ret (v := .tuple #[.iface 111 (.agg #[p, q]), .iface 111 (.agg #[p2, q2])]) (by simp [results, Tryz.results57, go_sem]) rfl ⟨rfl, rfl⟩
theorem match0RC_any (b : Nat) (p q : Value) (w : World) :
    Calls Tryz.prog 133 #[.iface 102 (.agg #[.pointer (some ⟨b, 0, none⟩)]), .iface 111 (.agg #[p, q])] w fun e w' => e = .returned (.tuple #[.iface 111 (.agg #[.iface 102 (.agg #[.pointer (some ⟨b, 0, none⟩)]), .iface 87 (.int .i64 0)]), .iface 111 (.agg #[p, q])]) ∧ Below w.heap.size w w' := by
  obtain ⟨t1, t2, t3, t4, t5, t6, t7, t8, t9⟩ := ta_ratVal
  obtain ⟨q1, q2, q3, q4, q5, q6, q7, q8, q9⟩ := ta_complexVal
  go_enter Tryz.func133, Tryz.ntmps133
  go_wp2_with fail
  refine (vtoc_any 102 (.agg #[.pointer (some ⟨b, 0, none⟩)]) _).mono ?_
  rintro e w1 ⟨rfl, hB⟩
  have HB := Lib.hid hB
  clear hB
  go_wp2
  exact bodyPost_ret (v := .tuple #[.iface 111 (.agg #[.iface 102 (.agg #[.pointer (some ⟨b, 0, none⟩)]), .iface 87 (.int .i64 0)]), .iface 111 (.agg #[p, q])]) (by simp [results, Tryz.results133, go_sem]) rfl ⟨rfl, HB.out⟩
theorem matchRC_any (b : Nat) (r : Rt) (p q : Value) (w : World) (h : CRat w (.iface 102 (.agg #[.pointer (some ⟨b, 0, none⟩)])) r) :
    Calls Tryz.prog 57 #[.iface 102 (.agg #[.pointer (some ⟨b, 0, none⟩)]), .iface 111 (.agg #[p, q])] w fun e w' => e = .returned (.tuple #[.iface 111 (.agg #[.iface 102 (.agg #[.pointer (some ⟨b, 0, none⟩)]), .iface 87 (.int .i64 0)]), .iface 111 (.agg #[p, q])]) ∧ Below w.heap.size w w' := by
  have H := Lib.hid h
  clear h
  go_enter Tryz.func57, Tryz.ntmps57
  go_wp2_with fail
  refine (ordRat_any _ r _ H.out).mono ?_
  rintro e w1 ⟨rfl, rfl⟩
  go_wp2_with fail
  refine (ordCpx_any _ _ _).mono ?_
  rintro e w1 ⟨rfl, rfl⟩
  go_wp2_with fail
  refine (match0RC_any b p q _).mono ?_
  rintro e w1 ⟨rfl, hB⟩
  have HB := Lib.hid hB
  clear hB
  go_wp2
  exact bodyPost_ret (v := .tuple #[.iface 111 (.agg #[.iface 102 (.agg #[.pointer (some ⟨b, 0, none⟩)]), .iface 87 (.int .i64 0)]), .iface 111 (.agg #[p, q])]) (by simp [results, Tryz.results57, go_sem]) rfl ⟨rfl, HB.out⟩
theorem makeImagR_any (b : Nat) (w : World) :
    Calls Tryz.prog 96 #[.iface 102 (.agg #[.pointer (some ⟨b, 0, none⟩)])] w fun e w' => e = .returned (.iface 111 (.agg #[.iface 87 (.int .i64 0), .iface 102 (.agg #[.pointer (some ⟨b, 0, none⟩)])])) ∧ Below w.heap.size w w' := by
  obtain ⟨t1, t2, t3, t4, t5, t6, t7, t8, t9⟩ := ta_ratVal
  go_enter Tryz.func96, Tryz.ntmps96
  go_wp2_with fail
  refine (makeComplex_any _ _ _ (.inl ⟨0, rfl⟩) (.inr (.inr ⟨_, rfl⟩))).mono ?_
  rintro e w1 ⟨rfl, hB⟩
  go_wp2
  go_ret
  exact ⟨rfl, hB⟩
theorem add_of (v1 v2 : Value) (w : World) (P : World → Value → Prop) (h : Calls Tryz.prog 37 #[v1, .int .i64 12, v2] w fun e w' => ∃ u, e = .returned u ∧ P w' u) :
    Calls Tryz.prog 86 #[v1, v2] w fun e w' => ∃ u, e = .returned u ∧ P w' u := by
  have H := Lib.hid h
  clear h
  go_enter Tryz.func86, Tryz.ntmps86
  go_wp2_with fail
  refine H.out.mono ?_
  rintro e w1 ⟨u, rfl, hu⟩
  have HU := Lib.hid hu
  clear hu
  go_wp2
  go_ret
  exact ⟨_, rfl, HU.out⟩
theorem sub_of (v1 v2 : Value) (w : World) (P : World → Value → Prop) (h : Calls Tryz.prog 37 #[v1, .int .i64 13, v2] w fun e w' => ∃ u, e = .returned u ∧ P w' u) :
    Calls Tryz.prog 87 #[v1, v2] w fun e w' => ∃ u, e = .returned u ∧ P w' u := by
  have H := Lib.hid h
  clear h
  go_enter Tryz.func87, Tryz.ntmps87
  go_wp2_with fail
  refine H.out.mono ?_
  rintro e w1 ⟨u, rfl, hu⟩
  have HU := Lib.hid hu
  clear hu
  go_wp2
  go_ret
  exact ⟨_, rfl, HU.out⟩
theorem mul_of (v1 v2 : Value) (w : World) (P : World → Value → Prop) (h : Calls Tryz.prog 37 #[v1, .int .i64 14, v2] w fun e w' => ∃ u, e = .returned u ∧ P w' u) :
    Calls Tryz.prog 88 #[v1, v2] w fun e w' => ∃ u, e = .returned u ∧ P w' u := by
  have H := Lib.hid h
  clear h
  go_enter Tryz.func88, Tryz.ntmps88
  go_wp2_with fail
  refine H.out.mono ?_
  rintro e w1 ⟨u, rfl, hu⟩
  have HU := Lib.hid hu
  clear hu
  go_wp2
  go_ret
  exact ⟨_, rfl, HU.out⟩
theorem quo_of (v1 v2 : Value) (w : World) (P : World → Value → Prop) (h : Calls Tryz.prog 37 #[v1, .int .i64 15, v2] w fun e w' => ∃ u, e = .returned u ∧ P w' u) :
    Calls Tryz.prog 89 #[v1, v2] w fun e w' => ∃ u, e = .returned u ∧ P w' u := by
  have H := Lib.hid h
  clear h
  go_enter Tryz.func89, Tryz.ntmps89
  go_wp2_with fail
  refine H.out.mono ?_
  rintro e w1 ⟨u, rfl, hu⟩
  have HU := Lib.hid hu
  clear hu
  go_wp2
  go_ret
  exact ⟨_, rfl, HU.out⟩
def CPair (lo : Nat) (w : World) (v : Value) (r q : Rt) : Prop := ∃ b1 b2, v = .iface 111 (.agg #[.iface 102 (.agg #[.pointer (some ⟨b1, 0, none⟩)]), .iface 102 (.agg #[.pointer (some ⟨b2, 0, none⟩)])]) ∧ RatAt 155 w b1 r.neg r.num r.den ∧ RatAt 155 w b2 q.neg q.num q.den ∧ lo ≤ b1 ∧ lo ≤ b2
def RSing (lo : Nat) (w : World) (v : Value) (r : Rt) : Prop := ∃ b, v = .iface 102 (.agg #[.pointer (some ⟨b, 0, none⟩)]) ∧ RatAt 155 w b r.neg r.num r.den ∧ lo ≤ b
theorem CPair.keep {lo : Nat} {w w' : World} {v : Value} {r q : Rt} (h : CPair lo w v r q) (hb : Below w.heap.size w w') : CPair lo w' v r q := by
  obtain ⟨b1, b2, e, h1, h2, h3, h4⟩ := h; exact ⟨b1, b2, e, h1.keep hb, h2.keep hb, h3, h4⟩
theorem CPair.le {lo lo' : Nat} {w : World} {v : Value} {r q : Rt} (h : CPair lo w v r q) (hl : lo' ≤ lo) : CPair lo' w v r q := by
  obtain ⟨b1, b2, e, h1, h2, h3, h4⟩ := h; exact ⟨b1, b2, e, h1, h2, Nat.le_trans hl h3, Nat.le_trans hl h4⟩
theorem RSing.keep {lo : Nat} {w w' : World} {v : Value} {r : Rt} (h : RSing lo w v r) (hb : Below w.heap.size w w') : RSing lo w' v r := by
  obtain ⟨b1, e, h1, h3⟩ := h; exact ⟨b1, e, h1.keep hb, h3⟩
theorem crat_of {w : World} {b : Nat} {r : Rt} (h : RatAt 155 w b r.neg r.num r.den) : CRat w (.iface 102 (.agg #[.pointer (some ⟨b, 0, none⟩)])) r := ⟨b, _, _, _, rfl, h, rfl⟩
theorem RSing.rat {lo : Nat} {w : World} {v : Value} {r : Rt} (h : RSing lo w v r) : CRat w v r := by
  obtain ⟨b, rfl, h1, _⟩ := h; exact crat_of h1
theorem CPair.cpx {lo : Nat} {w : World} {v : Value} {r q : Rt} (h : CPair lo w v r q) : CCpx w v r q := by
  obtain ⟨b1, b2, rfl, h1, h2, _⟩ := h; exact ⟨_, _, rfl, .inr (crat_of h1), .inr (crat_of h2)⟩
theorem newQ_rat {lo : Nat} {w : World} {u : Value} {r : Rt} (h : CRat w u r) (hn : NewQ lo u) : RSing lo w u r := by
  obtain ⟨b, s, N, D, rfl, hR, rfl⟩ := h
  obtain ⟨b', e, hle⟩ := hn
  injection e with _ e
  injection e with e
  injection e with e
  injection e with e _
  injection e with e
  injection e with e
  injection e with e _ _
  subst e
  exact ⟨b, rfl, hR, hle⟩
abbrev MadeLo (x : Vl) (P : Nat → World → Value → Prop) : Prop := ∀ w, Thr w → ThrD w → VlAt w x → Calls Tryz.prog 38 #[.agg #[.int .i64 x.kind, .bool x.truth, .string x.text, .bool x.neg, .slice x.wa x.wn x.wc, .slice x.da x.dn x.dc, .bool x.ineg, .slice x.ia x.inn x.ic, .slice x.ea x.en x.ec]] w fun e w' => ∃ u, e = .returned u ∧ P w.heap.size w' u ∧ Below w.heap.size w w'
theorem intAddF (b o b1 o1 b2 o2 : Nat) (s t : Bool) (N M : Nat) (w : World) (h : NewInt w b o) (h1 : BigAt 155 w b1 o1 s N) (h2 : BigAt 155 w b2 o2 t M) (L : Nat) (hL : L ≤ 900000) (hN : N < W64 ^ L) (hM : M < W64 ^ L) :
    Calls Tryz.prog 61 #[.pointer (some ⟨b, o, none⟩), .pointer (some ⟨b1, o1, none⟩), .pointer (some ⟨b2, o2, none⟩)] w (IntFrE b o (decide ((sg s N + sg t M) < 0)) ((sg s N + sg t M)).natAbs w) := by
  obtain ⟨a, n, c, p0, p1, hNN⟩ := h1.val
  obtain ⟨a', n', c', q0, q1, hMM⟩ := h2.val
  have hn : n ≤ 900000 := Nat.le_trans (len_le W64_gt hNN.num.top hN) hL
  have hn' : n' ≤ 900000 := Nat.le_trans (len_le W64_gt hMM.num.top hM) hL
  have HH := Lib.hid h
  have HN := Lib.hid hNN
  have HM := Lib.hid hMM
  have k1 := h.c1
  clear h h1 h2 hNN hMM hN hM
  by_cases hst : s = t
  · subst hst
    have H1 := HN
    have H2 := HM
    go_enter Tryz.func61, Tryz.ntmps61
    go_upto_region 2 with fail
    go_quiet (fail)
    go_upto_region 3 with fail
    have hd0 : ∀ q, Below w.heap.size w (w.drewN q) := fun q => below_drewN (Below.refl w.heap.size w) q
    go_region_with
      ((go_at_call 136; (with_reducible refine (natAddF a a' n n' c c' N M _ ?_ ?_ hn hn').mono ?_); exact H1.out.keep (hd0 _); exact H2.out.keep (hd0 _); rintro e w1 ⟨a2, n2, c2, rfl, hN2, hB, hf⟩; have hB1 := Below.then (hd0 _) (Nat.le_refl _) hB; have hf1 := (fun k hk => Nat.le_trans (hd0 _).size (hf k hk) : ∀ k, InB a2 k → w.heap.size ≤ k); have HP := Lib.hid (natAt_pos_len hN2.num); have hcm2 := hN2.num.cm; have hnc2 := hN2.num.nc; have HF := Lib.hid (fun (s' : Bool) (hs : s' = true → 0 < (N + M)) => HH.out.madeF hB1 hN2 hf1 hs); have h' := HH.out.keep hB1; obtain ⟨u0, k0⟩ := h'.c0; have k1' := h'.c1; have f0 := h'.blk.frozen o; have f1 := h'.blk.frozen (o + 1); have k0' : ∀ v, (w1.setCell ⟨b, o + 1, none⟩ v).cell? ⟨b, o, none⟩ = some u0 := (fun v => by rw [World.cell?_setCell_other _ _ _ _ (fun hh => by injection hh with _ hh _; omega)]; exact k0); clear h' hN2 hB hB1 hf hf1))
    all_goals
      clear p0 p1 q0 q1 k1
      by_cases hr : 0 < n2
      · go_wp2
        go_ret
        have hp : 0 < (N + M) := by have := HP.out; simpa [hr] using this.symm
        refine intFr_z (HF.out _ (fun _ => hp)) ?_
        have hpl := sum_same s N M
        simpa [hp] using hpl
      · go_wp2
        go_ret
        have hp : ¬ 0 < (N + M) := by have := HP.out; simpa [hr] using this
        refine intFr_z (HF.out false (by simp)) ?_
        have hpl := sum_same s N M
        simpa [hp] using hpl
  · have HST := Lib.hid hst
    have hsb : (s == t) = false := by cases s <;> cases t <;> simp_all
    clear hst
    by_cases hle : M ≤ N
    · have H1 := HN
      have H2 := HM
      have hc := cmpK_ge hle
      go_enter Tryz.func61, Tryz.ntmps61
      go_upto_region 2 with fail
      go_quiet (fail)
      go_upto_region 4 with fail
      go_quiet (first | (go_at_call 137; refine quiet_of2 (natCmp_any _ _ _ _ _ _ N M _ (HN.out.num.drewN _) (HM.out.num.drewN _))))
      generalize cmpI N M = k at *
      go_upto_region 5 with fail
      have hd0 : ∀ q, Below w.heap.size w (w.drewN q) := fun q => below_drewN (Below.refl w.heap.size w) q
      go_region_with
        ((go_at_call 138; (with_reducible refine (natSubF a a' n n' c c' N M _ ?_ ?_ hn hle).mono ?_); exact H1.out.keep (hd0 _); exact H2.out.keep (hd0 _); rintro e w1 ⟨a2, n2, c2, rfl, hN2, hB, hf⟩; have hB1 := Below.then (hd0 _) (Nat.le_refl _) hB; have hf1 := (fun k hk => Nat.le_trans (hd0 _).size (hf k hk) : ∀ k, InB a2 k → w.heap.size ≤ k); have HP := Lib.hid (natAt_pos_len hN2.num); have hcm2 := hN2.num.cm; have hnc2 := hN2.num.nc; have HF := Lib.hid (fun (s' : Bool) (hs : s' = true → 0 < (N - M)) => HH.out.madeF hB1 hN2 hf1 hs); have h' := HH.out.keep hB1; obtain ⟨u0, k0⟩ := h'.c0; have k1' := h'.c1; have f0 := h'.blk.frozen o; have f1 := h'.blk.frozen (o + 1); have k0' : ∀ v, (w1.setCell ⟨b, o + 1, none⟩ v).cell? ⟨b, o, none⟩ = some u0 := (fun v => by rw [World.cell?_setCell_other _ _ _ _ (fun hh => by injection hh with _ hh _; omega)]; exact k0); clear h' hN2 hB hB1 hf hf1))
      all_goals
        clear p0 p1 q0 q1 k1
        by_cases hr : 0 < n2
        · go_wp2
          go_ret
          have hp : 0 < (N - M) := by have := HP.out; simpa [hr] using this.symm
          refine intFr_z (HF.out _ (fun _ => hp)) ?_
          have hpl := sum_other HST.out hle
          simpa [hp] using hpl
        · go_wp2
          go_ret
          have hp : ¬ 0 < (N - M) := by have := HP.out; simpa [hr] using this
          refine intFr_z (HF.out false (by simp)) ?_
          have hpl := sum_other HST.out hle
          simpa [hp] using hpl
    · have hlt : N < M := by omega
      have H1 := HM
      have H2 := HN
      have hc := cmpK_lt hlt
      go_enter Tryz.func61, Tryz.ntmps61
      go_upto_region 2 with fail
      go_quiet (fail)
      go_upto_region 4 with fail
      go_quiet (first | (go_at_call 137; refine quiet_of2 (natCmp_any _ _ _ _ _ _ N M _ (HN.out.num.drewN _) (HM.out.num.drewN _))))
      generalize cmpI N M = k at *
      go_upto_region 7 with fail
      have hd0 : ∀ q, Below w.heap.size w (w.drewN q) := fun q => below_drewN (Below.refl w.heap.size w) q
      go_region_with
        ((go_at_call 138; (with_reducible refine (natSubF a' a n' n c' c M N _ ?_ ?_ hn' (Nat.le_of_lt hlt)).mono ?_); exact H1.out.keep (hd0 _); exact H2.out.keep (hd0 _); rintro e w1 ⟨a2, n2, c2, rfl, hN2, hB, hf⟩; have hB1 := Below.then (hd0 _) (Nat.le_refl _) hB; have hf1 := (fun k hk => Nat.le_trans (hd0 _).size (hf k hk) : ∀ k, InB a2 k → w.heap.size ≤ k); have HP := Lib.hid (natAt_pos_len hN2.num); have hcm2 := hN2.num.cm; have hnc2 := hN2.num.nc; have HF := Lib.hid (fun (s' : Bool) (hs : s' = true → 0 < (M - N)) => HH.out.madeF hB1 hN2 hf1 hs); have h' := HH.out.keep hB1; obtain ⟨u0, k0⟩ := h'.c0; have k1' := h'.c1; have f0 := h'.blk.frozen o; have f1 := h'.blk.frozen (o + 1); have k0' : ∀ v, (w1.setCell ⟨b, o + 1, none⟩ v).cell? ⟨b, o, none⟩ = some u0 := (fun v => by rw [World.cell?_setCell_other _ _ _ _ (fun hh => by injection hh with _ hh _; omega)]; exact k0); clear h' hN2 hB hB1 hf hf1))
      all_goals
        clear p0 p1 q0 q1 k1
        by_cases hr : 0 < n2
        · go_wp2
          go_ret
          have hp : 0 < (M - N) := by have := HP.out; simpa [hr] using this.symm
          refine intFr_z (HF.out _ (fun _ => hp)) ?_
          have hpl := sum_other' HST.out hlt
          simpa [hp] using hpl
        · go_wp2
          go_ret
          have hp : ¬ 0 < (M - N) := by have := HP.out; simpa [hr] using this
          refine intFr_z (HF.out false (by simp)) ?_
          have hpl := sum_other' HST.out hlt
          simpa [hp] using hpl
theorem ratAdd_new (zb b1 b2 : Nat) (s t : Bool) (N D M E : Nat) (w : World) (hK : Thr w) (hT : ThrD w) (h : NewRat w zb) (h1 : RatAt 155 w b1 s N D) (h2 : RatAt 155 w b2 t M E) (ne1 : b1 ≠ zb) (ne2 : b2 ≠ zb) (hv : zb ≠ 3) (hvk : zb ≠ 2) (L K : Nat) (hL : L + K ≤ 38) (hN : N < W64 ^ L) (hD : D < W64 ^ L) (hM : M < W64 ^ K) (hE : E < W64 ^ K) :
    Calls Tryz.prog 76 #[.pointer (some ⟨zb, 0, none⟩), .pointer (some ⟨b1, 0, none⟩), .pointer (some ⟨b2, 0, none⟩)] w (FracIs zb (decide ((sg s (N * E) + sg t (M * D)) < 0)) ((sg s (N * E) + sg t (M * D))).natAbs (D * E) w) := by
  have lz : zb < w.heap.size := h.blk.lt
  have l1 : b1 < w.heap.size := h1.a.blk.lt
  have l2 : b2 < w.heap.size := h2.a.blk.lt
  obtain ⟨aD, nD, cD, _, qD, hND⟩ := h1.d.val
  obtain ⟨aE, nE, cE, _, qE, hNE⟩ := h2.d.val
  have qD' : w.cell? ⟨b1, 3, none⟩ = some (.slice aD nD cD) := qD
  have qE' : w.cell? ⟨b2, 3, none⟩ = some (.slice aE nE cE) := qE
  have hnD : nD < 40 := Nat.lt_of_le_of_lt (len_le W64_gt hND.num.top hD) (by omega)
  have hnE : nE < 40 := Nat.lt_of_le_of_lt (len_le W64_gt hNE.num.top hE) (by omega)
  have HSZ := Lib.hid (show N * E < W64 ^ (L + K) ∧ M * D < W64 ^ (L + K) ∧ D * E < W64 ^ (L + K) from by
    rw [Nat.pow_add, Nat.mul_comm M D]
    exact ⟨Nat.mul_lt_mul'' hN hE, Nat.mul_lt_mul'' hD hM, Nat.mul_lt_mul'' hD hE⟩)
  have HQ := Lib.hid (⟨qD', qE', hND, hNE⟩ : w.cell? ⟨b1, 3, none⟩ = some (.slice aD nD cD) ∧ w.cell? ⟨b2, 3, none⟩ = some (.slice aE nE cE) ∧ BigN 155 w aD nD cD D ∧ BigN 155 w aE nE cE E)
  have H1 := Lib.hid h1
  have H2 := Lib.hid h2
  have HZ := Lib.hid h
  have HK := Lib.hid hK
  have HT := Lib.hid hT
  have HL := Lib.hid (⟨hN, hD, hM, hE, hv⟩ : N < W64 ^ L ∧ D < W64 ^ L ∧ M < W64 ^ K ∧ E < W64 ^ K ∧ zb ≠ 3)
  have HNE := Lib.hid (⟨ne1, ne2, hvk⟩ : b1 ≠ zb ∧ b2 ≠ zb ∧ zb ≠ 2)
  obtain ⟨W3, hW3⟩ : ∃ W3, W3 = ((w.alloc (.cells #[.pointer none] 225)).alloc (.cells #[.bool false, .slice none 0 0] 168)).alloc (.cells #[.bool false, .slice none 0 0] 168) := ⟨_, rfl⟩
  have HW3 := Lib.hid hW3
  have hB3 : Below w.heap.size w W3 := by rw [hW3]; exact Below.alloc' (Below.alloc' (Below.alloc' (Below.refl _ _) _) _) _
  have A3 := Lib.hid (show NewInt W3 (w.heap.size + 1) 0 from by rw [hW3]; have := newInt_is (w.alloc (.cells #[.pointer none] 225)); simp at this; exact this.keep (Below.alloc' (Below.refl _ _) _))
  have B3 := Lib.hid (show NewInt W3 (w.heap.size + 1 + 1) 0 from by rw [hW3]; simpa using newInt_is ((w.alloc (.cells #[.pointer none] 225)).alloc (.cells #[.bool false, .slice none 0 0] 168)))
  have HB3 := Lib.hid hB3
  clear hW3 hB3 qD qE qD' qE' hND hNE h1 h2 h hK hT hN hD hM hE hv ne1 ne2 hvk
  go_enter_defers Tryz.func76, Tryz.ntmps76
  go_wp2_with fail
  refine (getStack_any _).mono ?_
  rintro e w1 ⟨rfl, rfl⟩
  go_upto_region 4 with fail
  rw [← HW3.out]
  have hd3 : Below W3.heap.size W3 W3.drew := (Below.refl _ _).drew
  have hb3 := Below.then HB3.out (Nat.le_refl _) hd3
  have cE3 : W3.cell? ⟨b2, 3, none⟩ = some (.slice aE nE cE) := cell_keep HQ.out.2.1 HB3.out
  have cE3' : W3.drew.cell? ⟨b2, 3, none⟩ = some (.slice aE nE cE) := cell_keep cE3 hd3
  go_region_held3 (fun w' => w'.cell? ⟨b2, 3, none⟩ = some (.slice aE nE cE))
    (first | with_reducible exact cE3 | with_reducible exact cE3' | exact cell_keep cE3 (by assumption) | with_reducible exact q23)
    ((go_at_call 153; (with_reducible refine (scaleDenomF (w.heap.size + 1) 0 b1 0 s N aE nE cE E _ _ ?_ ?_ ?_ ?_ H2.out.pos ?_ (L + K) (by omega) (Nat.lt_of_lt_of_le HL.out.1 (Nat.pow_le_pow_right W64_pos (by omega))) (Nat.lt_of_lt_of_le HL.out.2.2.2.1 (Nat.pow_le_pow_right W64_pos (by omega)))).mono ?_); exact HK.out.keep hb3; exact A3.out.keep hd3; exact (H1.out.keep hb3).a; exact HQ.out.2.2.2.keep hb3; omega; rintro e w4 ⟨rfl, hF⟩; have hO4 := IntFr.own hF (A3.out.keep hd3); have hB4 : Below w.heap.size w w4 := (hO4.2.1.below hb3 hb3.size (fun k _ e => by omega)); have q23 : w4.cell? ⟨b2, 3, none⟩ = some (.slice aE nE cE) := cell_keep HQ.out.2.1 hB4))
  have HF4 := Lib.hid hF
  have HB4 := Lib.hid hB4
  have B4 := Lib.hid (NewInt.updU (B3.out.keep hd3) hO4.2.1 (Nat.succ_ne_self _))
  clear hF hB4 hO4 q23 cE3 cE3' hd3 hb3
  have hd4 : Below w4.heap.size w4 w4.drew := (Below.refl _ _).drew
  have hb4 := Below.then HB4.out (Nat.le_refl _) hd4
  have cD4 : w4.cell? ⟨b1, 3, none⟩ = some (.slice aD nD cD) := cell_keep HQ.out.1 HB4.out
  have cD4' : w4.drew.cell? ⟨b1, 3, none⟩ = some (.slice aD nD cD) := cell_keep cD4 hd4
  go_upto_region 5 with fail
  go_region_held3 (fun w' => w'.cell? ⟨b1, 3, none⟩ = some (.slice aD nD cD))
    (first | with_reducible exact cD4 | with_reducible exact cD4' | exact cell_keep cD4 (by assumption) | with_reducible exact q23)
    ((go_at_call 153; (with_reducible refine (scaleDenomF (w.heap.size + 1 + 1) 0 b2 0 t M aD nD cD D _ _ ?_ ?_ ?_ ?_ H1.out.pos ?_ (L + K) (by omega) (Nat.lt_of_lt_of_le HL.out.2.2.1 (Nat.pow_le_pow_right W64_pos (by omega))) (Nat.lt_of_lt_of_le HL.out.2.1 (Nat.pow_le_pow_right W64_pos (by omega)))).mono ?_); exact HK.out.keep hb4; exact B4.out.keep hd4; exact (H2.out.keep hb4).a; exact HQ.out.2.2.1.keep hb4; omega; rintro e w5 ⟨rfl, hF⟩; have hO5 := IntFr.own hF (B4.out.keep hd4); have hB5 : Below w.heap.size w w5 := (hO5.2.1.below hb4 hb4.size (fun k _ e => by omega)); have q23 : w5.cell? ⟨b1, 3, none⟩ = some (.slice aD nD cD) := cell_keep HQ.out.1 hB5))
  obtain ⟨x1, m1, k1, x2, m2, k2, hT5, hz1, hz2⟩ := two_done HW3.out HF4.out hF
  have HT5 := Lib.hid hT5
  have HZZ := Lib.hid (⟨hz1, hz2⟩ : (s = true → 0 < N * E) ∧ (t = true → 0 < M * D))
  have HZ5 := Lib.hid (HZ.out.keep hT5.bel)
  clear hF hB5 hO5 q23 cD4 cD4' hd4 hb4 HF4 HB4 B4 A3 B3 hT5 hz1 hz2
  go_wp2_with fail
  refine (intAddF zb 0 (w.heap.size + 1) 0 (w.heap.size + 1 + 1) 0 s t (N * E) (M * D) _ HZ5.out.a (HT5.out.a.toAt HZZ.out.1) (HT5.out.d.toAt HZZ.out.2) (L + K) (by omega) HSZ.out.1 HSZ.out.2.1).mono ?_
  rintro e w6 ⟨rfl, hF⟩
  obtain ⟨a, n, c, hF6⟩ := IntFr.frac hF HZ5.out
  have HF6 := Lib.hid hF6
  have HU6 := Lib.hid hF6.upd
  have hd6 : Below w6.heap.size w6 w6.drew := (Below.refl _ _).drew
  have z6 := hF6.raw.k3
  have d6 : w6.cell? ⟨b1, 3, none⟩ = some (.slice aD nD cD) := by rw [HU6.out.cell (p := ⟨b1, 3, none⟩) (Nat.lt_of_lt_of_le l1 HT5.out.bel.size) (fun e => HNE.out.1 e)]; exact cell_keep HQ.out.1 HT5.out.bel
  have e6 : w6.cell? ⟨b2, 3, none⟩ = some (.slice aE nE cE) := by rw [HU6.out.cell (p := ⟨b2, 3, none⟩) (Nat.lt_of_lt_of_le l2 HT5.out.bel.size) (fun e => HNE.out.2.1 e)]; exact cell_keep HQ.out.2.1 HT5.out.bel
  have HMD := Lib.hid (fun p => mulDenomF p aD aE nD nE cD cE D E w6.drew
    (show Thr w6.drew from Thr.keep (by have h0 := HK.out.keep HT5.out.bel; unfold Thr at h0 ⊢; rw [HU6.out.cell (block_lt h0) (fun e => HNE.out.2.2 e.symm)]; exact h0) hd6)
    (((HQ.out.2.2.1.keep HT5.out.bel).apart HU6.out (fun k hk e => by subst e; exact HZ.out.blk.notIn HQ.out.2.2.1 hk)).keep hd6) (((HQ.out.2.2.2.keep HT5.out.bel).apart HU6.out (fun k hk e => by subst e; exact HZ.out.blk.notIn HQ.out.2.2.2 hk)).keep hd6) H1.out.pos H2.out.pos hnD hnE)
  clear hF hF6
  go_upto_region 7 with fail
  go_cut [] from 36 to 56 (fun wx => ∃ a n c a' n' c', FracUp w5 zb (decide ((sg s (N * E) + sg t (M * D)) < 0)) ((sg s (N * E) + sg t (M * D))).natAbs (D * E) wx a n c a' n' c')
  case first =>
    refine wp_region_noPanic ?_
    go_region_with
      ((go_at_call 154; (with_reducible refine (HMD.out _).mono ?_); rintro e w7 ⟨a2, n2, c2, rfl, hQ, hB, hf⟩; have HF7 := Lib.hid (HF6.out.setD hd6 (Upd.of_below hB) hQ (fun k hk => .inr (hf k hk))); have z7 : w7.cell? ⟨zb, 3, none⟩ = some (.slice none 0 0) := cell_keep (cell_keep z6 hd6) hB; have g7 := ((HF6.out.raw.blk.keep hd6).keep hB).frozen 3; clear hQ hB hf))
    all_goals
      refine NoPanic.normal ?_
      go_wp2_with fail
      go_meet
      exact ⟨_, _, _, _, _, _, HF7.out⟩
  case rest =>
  obtain ⟨b, m, k, b', m', k', hF8⟩ := hcut
  have HF8 := Lib.hid hF8
  have HZN := Lib.hid (show ((sg s (N * E) + sg t (M * D))).natAbs < W64 ^ (L + K + 1) from by
    have h1 := HSZ.out.1
    have h2 := HSZ.out.2.1
    have h3 := pow_step (L + K)
    have e1 := sg_nat s (N * E)
    have e2 := sg_nat t (M * D)
    generalize W64 ^ (L + K + 1) = P at *
    generalize W64 ^ (L + K) = Q at *
    omega)
  have HDE := Lib.hid (show D * E < W64 ^ (L + K + 1) from Nat.lt_of_lt_of_le HSZ.out.2.2 (Nat.pow_le_pow_right W64_pos (by omega)))
  clear hF8 HF6 HU6 HMD hd6 z6 d6 e6
  go_wp2_with fail
  refine (HF8.out.norm (HT.out.keep HT5.out.bel) HL.out.2.2.2.2 (Nat.mul_pos H1.out.pos H2.out.pos) (L + K + 1) (by omega) HZN.out HDE.out).mono ?_
  rintro e w9 ⟨rfl, hR9, hU9⟩
  have HR9 := Lib.hid hR9
  have HU9 := Lib.hid hU9
  clear hR9 hU9
  go_wp2
  refine leaves_cons (f := 152) (args := #[.pointer (some ⟨w.heap.size, 0, none⟩)]) (by simp) (by simp [go_sem]) ?_
  refine (stkFree_any w.heap.size 0 none .returning _ ⟨rfl, HU9.out.blk HT5.out.stk (by omega)⟩).mono ?_
  rintro e u' w10 ⟨rfl, rfl, hU⟩
  have hU' : Below _ _ w10 := hU.toBelow (fun k _ ⟨_, _, h, _⟩ => by cases h)
  exact ⟨_, results_tmp rfl _ _ _, rfl, HR9.out.keep hU', ((Upd.of_below HT5.out.bel).trans HU9.out).then hU'⟩
end Go.Proofs.YtgmienggfaahlaaGreatDoor
