/-
  Contracts and lemmas: MatN MixB FldP FldB Law3.
-/
import Derived.Test.YtgmienggfaahlaaGreatDoorK34
import Derived.Test.YtgmienggfaahlaaGreatDoorK35
import Derived.Test.YtgmienggfaahlaaGreatDoorK32
import Derived.Test.YtgmienggfaahlaaGreatDoorK31
import Derived.Test.YtgmienggfaahlaaGreatDoorK19
import Derived.Test.YtgmienggfaahlaaGreatDoorK02
set_option linter.unusedSimpArgs false
set_option linter.unusedVariables false
set_option maxRecDepth 100000
set_option maxHeartbeats 8000000
namespace Go.Proofs.YtgmienggfaahlaaGreatDoor
open Go.RowKit Go.Bg Dg
def mixZ (k : Nat) (r q : Rt) : Rt := if k = 0 then Rt.plus r q else if k = 1 then Rt.minus r q else if k = 2 then Rt.times r q else Rt.times r q.upside
theorem bndMix (k : Nat) (hk : k < 4) (r q : Rt) (L : Nat) (hr : r.num < W64 ^ L ∧ r.den < W64 ^ L) (hq : q.num < W64 ^ L ∧ q.den < W64 ^ L) (hd : 0 < r.den) (he : 0 < q.den) (h0 : k = 3 → 0 < q.num) : (mixZ k r q).num < W64 ^ (L + L + 1) ∧ (mixZ k r q).den < W64 ^ (L + L + 1) ∧ ROk (mixZ k r q) := by
  rcases (by omega : k = 0 ∨ k = 1 ∨ k = 2 ∨ k = 3) with rfl | rfl | rfl | rfl
  · exact bndAdd r q L hr hq hd he
  · exact bndSub r q L hr hq hd he
  · have h := bndMul r q L hr hq hd he
    have hp : W64 ^ (L + L) ≤ W64 ^ (L + L + 1) := Nat.pow_le_pow_right W64_pos (by omega)
    exact ⟨Nat.lt_of_lt_of_le h.1 hp, Nat.lt_of_lt_of_le h.2.1 hp, h.2.2⟩
  · exact bndQuo r q L hr hq hd he (h0 rfl)
def oz (Z : Int) (D : Nat) : Rt := Rt.over (decide (Z < 0)) Z.natAbs D
def sz (r : Rt) : Int := sg r.neg r.num
theorem sg_mulN (s : Bool) (N k : Nat) : sg s (N * k) = sg s N * (k : Int) := by
  cases s
  · simp [sg]
  · simp [sg, Int.neg_mul]
theorem oz_scale (Z : Int) (D k : Nat) (hk : 0 < k) : oz (Z * k) (D * k) = oz Z D := by
  unfold oz Rt.over
  have hn : (Z * (k : Int)).natAbs = Z.natAbs * k := by rw [Int.natAbs_mul, Int.natAbs_natCast]
  have hs : decide (Z * (k : Int) < 0) = decide (Z < 0) := by
    have hk' : (0 : Int) < k := by omega
    congr 1
    apply propext
    constructor
    · intro h
      rcases Int.lt_or_le Z 0 with h1 | h1
      · exact h1
      · exact absurd (Int.mul_nonneg h1 (Int.le_of_lt hk')) (by omega)
    · intro h
      exact Int.mul_neg_of_neg_of_pos h hk'
  have hp : decide (0 < Z.natAbs * k) = decide (0 < Z.natAbs) := by
    congr 1
    apply propext
    exact ⟨fun h => Nat.pos_of_mul_pos_right h, fun h => Nat.mul_pos h hk⟩
  rw [hn, hs, hp, Nat.gcd_mul_right, Nat.mul_div_mul_right _ _ hk, Nat.mul_div_mul_right _ _ hk]
theorem oz_ext {Z Y : Int} {D E : Nat} (h : Z * (E : Int) = Y * (D : Int)) (hD : 0 < D) (hE : 0 < E) : oz Z D = oz Y E := by
  rw [← oz_scale Z D E hE, ← oz_scale Y E D hD, h, Nat.mul_comm D E]
theorem plus_oz (r q : Rt) : Rt.plus r q = oz (sz r * q.den + sz q * r.den) (r.den * q.den) := by
  obtain ⟨s, N, D⟩ := r
  obtain ⟨t, M, E⟩ := q
  rw [← plus_over, sg_mulN, sg_mulN]
  rfl
theorem minus_oz (r q : Rt) : Rt.minus r q = oz (sz r * q.den - sz q * r.den) (r.den * q.den) := by
  obtain ⟨s, N, D⟩ := r
  obtain ⟨t, M, E⟩ := q
  rw [← minus_over, sg_mulN, sg_mulN]
  rfl
theorem times_oz (r q : Rt) : Rt.times r q = oz (sz r * sz q) (r.den * q.den) := by
  obtain ⟨s, N, D⟩ := r
  obtain ⟨t, M, E⟩ := q
  rw [← prod_over]
  rfl
theorem self_oz {r : Rt} (h : ROk r) : r = oz (sz r) r.den := by
  have h0 := over_self h
  have h1 := h.sign
  obtain ⟨s, N, D⟩ := r
  dsimp only at h0 h1
  unfold oz sz
  dsimp only
  rw [sg_neg, sg_nat]
  have e2 : (s && decide (0 < N)) = s := by
    cases s
    · rfl
    · simp [h1 rfl]
  rw [e2]
  exact h0.symm
theorem oz_den {Z : Int} {D : Nat} (hD : 0 < D) : 0 < (oz Z D).den := (rok_over _ _ _ hD).den
theorem oz_cross {Z : Int} {D : Nat} (hD : 0 < D) : sz (oz Z D) * (D : Int) = Z * ((oz Z D).den : Int) := by
  unfold oz sz Rt.over
  dsimp only
  have hg : 0 < Nat.gcd Z.natAbs D := Nat.gcd_pos_of_pos_right _ hD
  obtain ⟨m, hm⟩ := Nat.gcd_dvd_left Z.natAbs D
  obtain ⟨n, hn⟩ := Nat.gcd_dvd_right Z.natAbs D
  have e1 : Z.natAbs / Nat.gcd Z.natAbs D = m := by
    conv => lhs; lhs; rw [hm]
    exact Nat.mul_div_cancel_left _ hg
  have e2 : D / Nat.gcd Z.natAbs D = n := by
    conv => lhs; lhs; rw [hn]
    exact Nat.mul_div_cancel_left _ hg
  rw [e1, e2]
  generalize Nat.gcd Z.natAbs D = g at hm hn hg
  have hz : Z = sg (decide (Z < 0)) Z.natAbs := (sg_natAbs Z).symm
  have hs : sg (decide (Z < 0) && decide (0 < Z.natAbs)) m = sg (decide (Z < 0)) m := by
    rcases Nat.eq_zero_or_pos m with h0 | h0
    · subst h0; cases decide (Z < 0) <;> cases decide (0 < Z.natAbs) <;> rfl
    · have : 0 < Z.natAbs := by rw [hm]; exact Nat.mul_pos hg h0
      rw [decide_eq_true this, Bool.and_true]
  rw [hs]
  have hz2 : Z = sg (decide (Z < 0)) m * (g : Int) := by
    conv => lhs; rw [hz, hm, Nat.mul_comm, sg_mulN]
  conv => rhs; rw [hz2]
  rw [hn, Int.natCast_mul]
  generalize sg (decide (Z < 0)) m = y
  grind
theorem den_ne {r : Rt} (h : 0 < r.den) : ((r.den : Nat) : Int) ≠ 0 := by omega
theorem cancel3 {a b c : Int} (hc : c ≠ 0) (h : a * c = b * c) : a = b := Int.eq_of_mul_eq_mul_right hc h
theorem plus_minus {a b : Rt} (ha : ROk a) (hb : ROk b) : Rt.minus (Rt.plus a b) b = a := by
  conv => rhs; rw [self_oz ha]
  rw [minus_oz]
  have hd := Nat.mul_pos ha.den hb.den
  have hp := oz_cross (Z := sz a * b.den + sz b * a.den) hd
  have hq := oz_den (Z := sz a * b.den + sz b * a.den) hd
  rw [← plus_oz] at hp hq
  refine oz_ext ?_ (Nat.mul_pos hq hb.den) ha.den
  rw [Int.natCast_mul] at hp ⊢
  grind
theorem plus_assoc {a b c : Rt} (ha : ROk a) (hb : ROk b) (hc : ROk c) : Rt.plus (Rt.plus a b) c = Rt.plus a (Rt.plus b c) := by
  rw [plus_oz (Rt.plus a b) c, plus_oz a (Rt.plus b c)]
  have hd := Nat.mul_pos ha.den hb.den
  have he := Nat.mul_pos hb.den hc.den
  have hp := oz_cross (Z := sz a * b.den + sz b * a.den) hd
  have hq := oz_den (Z := sz a * b.den + sz b * a.den) hd
  have hp2 := oz_cross (Z := sz b * c.den + sz c * b.den) he
  have hq2 := oz_den (Z := sz b * c.den + sz c * b.den) he
  rw [← plus_oz] at hp hq hp2 hq2
  refine oz_ext ?_ (Nat.mul_pos hq hc.den) (Nat.mul_pos ha.den hq2)
  refine cancel3 (den_ne hb.den) ?_
  simp only [Int.natCast_mul] at hp hp2 ⊢
  generalize sz (Rt.plus a b) = P at *
  generalize sz (Rt.plus b c) = Q at *
  generalize ((Rt.plus a b).den : Int) = pd at *
  generalize ((Rt.plus b c).den : Int) = qd at *
  generalize sz a = A at *
  generalize sz b = B at *
  generalize sz c = C at *
  generalize (a.den : Int) = ad at *
  generalize (b.den : Int) = bd at *
  generalize (c.den : Int) = cd at *
  clear hd he hq hq2 ha hb hc
  grind
theorem times_assoc {a b c : Rt} (ha : ROk a) (hb : ROk b) (hc : ROk c) : Rt.times (Rt.times a b) c = Rt.times a (Rt.times b c) := by
  rw [times_oz (Rt.times a b) c, times_oz a (Rt.times b c)]
  have hd := Nat.mul_pos ha.den hb.den
  have he := Nat.mul_pos hb.den hc.den
  have hp := oz_cross (Z := sz a * sz b) hd
  have hq := oz_den (Z := sz a * sz b) hd
  have hp2 := oz_cross (Z := sz b * sz c) he
  have hq2 := oz_den (Z := sz b * sz c) he
  rw [← times_oz] at hp hq hp2 hq2
  refine oz_ext ?_ (Nat.mul_pos hq hc.den) (Nat.mul_pos ha.den hq2)
  refine cancel3 (den_ne hb.den) ?_
  simp only [Int.natCast_mul] at hp hp2 ⊢
  generalize sz (Rt.times a b) = P at *
  generalize sz (Rt.times b c) = Q at *
  generalize ((Rt.times a b).den : Int) = pd at *
  generalize ((Rt.times b c).den : Int) = qd at *
  generalize sz a = A at *
  generalize sz b = B at *
  generalize sz c = C at *
  generalize (a.den : Int) = ad at *
  generalize (b.den : Int) = bd at *
  generalize (c.den : Int) = cd at *
  clear hd he hq hq2 ha hb hc
  grind
theorem plus_times {a b c : Rt} (ha : ROk a) (hb : ROk b) (hc : ROk c) : Rt.times (Rt.plus a b) c = Rt.plus (Rt.times a c) (Rt.times b c) := by
  rw [times_oz (Rt.plus a b) c, plus_oz (Rt.times a c) (Rt.times b c)]
  have hd := Nat.mul_pos ha.den hb.den
  have he := Nat.mul_pos ha.den hc.den
  have hf := Nat.mul_pos hb.den hc.den
  have hp := oz_cross (Z := sz a * b.den + sz b * a.den) hd
  have hq := oz_den (Z := sz a * b.den + sz b * a.den) hd
  have hp2 := oz_cross (Z := sz a * sz c) he
  have hq2 := oz_den (Z := sz a * sz c) he
  have hp3 := oz_cross (Z := sz b * sz c) hf
  have hq3 := oz_den (Z := sz b * sz c) hf
  rw [← plus_oz] at hp hq
  rw [← times_oz] at hp2 hq2 hp3 hq3
  refine oz_ext ?_ (Nat.mul_pos hq hc.den) (Nat.mul_pos hq2 hq3)
  refine cancel3 (den_ne hc.den) (cancel3 (den_ne hb.den) (cancel3 (den_ne ha.den) ?_))
  simp only [Int.natCast_mul] at hp hp2 hp3 ⊢
  generalize sz (Rt.plus a b) = P at *
  generalize sz (Rt.times a c) = X at *
  generalize sz (Rt.times b c) = Y at *
  generalize ((Rt.plus a b).den : Int) = pd at *
  generalize ((Rt.times a c).den : Int) = xd at *
  generalize ((Rt.times b c).den : Int) = yd at *
  generalize sz a = A at *
  generalize sz b = B at *
  generalize sz c = C at *
  generalize (a.den : Int) = ad at *
  generalize (b.den : Int) = bd at *
  generalize (c.den : Int) = cd at *
  clear hd he hf hq hq2 hq3 ha hb hc
  grind
theorem times_upside {a b : Rt} (ha : ROk a) (hb : ROk b) (h0 : 0 < b.num) : Rt.times (Rt.times a b) b.upside = a := by
  conv => rhs; rw [self_oz ha]
  rw [times_oz]
  have hd := Nat.mul_pos ha.den hb.den
  have hp := oz_cross (Z := sz a * sz b) hd
  have hq := oz_den (Z := sz a * sz b) hd
  rw [← times_oz] at hp hq
  refine oz_ext ?_ (Nat.mul_pos hq h0) ha.den
  have e1 : sz b.upside = sg b.neg 1 * (b.den : Int) := by
    show sg b.neg b.den = _
    cases b.neg <;> simp [sg]
  have e2 : sz b = sg b.neg 1 * (b.num : Int) := by
    show sg b.neg b.num = _
    cases b.neg <;> simp [sg]
  have e3 : sg b.neg 1 * sg b.neg 1 = 1 := by cases b.neg <;> rfl
  have e4 : (b.upside.den : Nat) = b.num := rfl
  rw [e1]
  rw [e2] at hp
  simp only [Int.natCast_mul, e4] at hp ⊢
  generalize sg b.neg 1 = s at *
  generalize sz (Rt.times a b) = P at *
  generalize ((Rt.times a b).den : Int) = pd at *
  generalize sz a = A at *
  generalize (a.den : Int) = ad at *
  generalize (b.den : Int) = bd at *
  generalize (b.num : Int) = bn at *
  clear hd hq ha hb h0 e1 e2 e4
  grind
theorem isQ_rat {r : Rt} {L K : Nat} {x : Vl} (h : IsQ r L x) (hL : L ≤ K) : lratB x K = true := by
  obtain ⟨h1, h2, h3, h4⟩ := h
  unfold lratB
  rw [h1, decide_eq_true (Nat.le_trans h3 hL), decide_eq_true (Nat.le_trans h4 hL)]
  rfl
theorem lrat_up {x : Vl} {L K : Nat} (h : lratB x L = true) (hL : L ≤ K) : lratB x K = true := by
  unfold lratB at h ⊢
  simp only [Bool.and_eq_true, decide_eq_true_eq] at h ⊢
  exact ⟨⟨by omega, by omega⟩, h.2⟩
theorem implFF_any (k : Nat) (hk : k < 4) (x y : Vl) (r q : Rt) (L : Nat) (hL : L + L ≤ 38) (w : World) (hK : Thr w) (hT : ThrD w) (h1 : VlAt w x) (h2 : VlAt w y) (hx : lratB x L = true) (hy : lratB y L = true) (ex : vrt x = r) (ey : vrt y = q) (h0 : k = 3 → 0 < q.num) :
    Calls Tryz.prog 15 #[.int .i64 k, .agg #[.int .i64 x.kind, .bool x.truth, .string x.text, .bool x.neg, .slice x.wa x.wn x.wc, .slice x.da x.dn x.dc, .bool x.ineg, .slice x.ia x.inn x.ic, .slice x.ea x.en x.ec], .agg #[.int .i64 y.kind, .bool y.truth, .string y.text, .bool y.neg, .slice y.wa y.wn y.wc, .slice y.da y.dn y.dc, .bool y.ineg, .slice y.ia y.inn y.ic, .slice y.ea y.en y.ec]] w (GivesV (IsQ (mixZ k r q) (L + L + 1)) w) := by
  subst ex ey
  have lx := lrat_lt2 h1 hx
  have ly := lrat_lt2 h2 hy
  have ox := (numV_rat hx (by omega)).ok
  have oy := (numV_rat hy (by omega)).ok
  have hz := bndMix k hk (vrt x) (vrt y) L lx ly ox.den oy.den h0
  by_cases e2 : k = 2
  · subst e2
    exact implBinaryA_any 2 (by omega) x y (vrt x) (vrt y) _ (L + L + 1) w h1 h2 (madeNew_rat hx (by omega)) (madeNew_rat hy (by omega)) (by omega) hz
      (fun b1 b2 w' hb c1 c2 hne => (binRMul_any b1 b2 _ _ _ _ _ _ w' (hK.keep hb) (hT.keep hb) c1 c2 hne L L hL lx ly).mono fun e w'' ⟨u, he, hu, _, _, _, hB, _⟩ => ⟨u, he, hu, hB⟩)
  · refine implBinaryQ_any k (by omega) x y (fun w v => CRat w v (vrt x)) (fun w v => CRat w v (vrt y)) _ (L + L + 1) w h1 h2 (madeAs_rat hx (by omega)) (madeAs_rat hy (by omega)) (fun _ _ _ h hb => h.keep hb) (by omega) hz ?_
    intro v1 v2 w' hb c1 c2
    rcases (by omega : k = 0 ∨ k = 1 ∨ k = 3) with rfl | rfl | rfl
    · exact (binRAdd_any v1 v2 (vrt x) (vrt y) w' (hK.keep hb) (hT.keep hb) (matchRR_any v1 v2 _ _ w' c1 c2) L L hL lx ly).mono fun e w'' ⟨u, he, hu, _, _, _, hB, _⟩ => ⟨u, he, hu, hB⟩
    · exact (binRSub_any v1 v2 (vrt x) (vrt y) w' (hK.keep hb) (hT.keep hb) (matchRR_any v1 v2 _ _ w' c1 c2) L L hL lx ly).mono fun e w'' ⟨u, he, hu, _, _, _, hB, _⟩ => ⟨u, he, hu, hB⟩
    · exact (binRQuo_any v1 v2 (vrt x) (vrt y) w' (hK.keep hb) (hT.keep hb) (matchRR_any v1 v2 _ _ w' c1 c2) (h0 rfl) L L hL lx ly).mono fun e w'' ⟨u, he, hu, _, _, _, hB, _⟩ => ⟨u, he, hu, hB⟩
theorem implFF0_any (x y : Vl) (r q : Rt) (L : Nat) (hL : L + L ≤ 38) (w : World) (hK : Thr w) (hT : ThrD w) (h1 : VlAt w x) (h2 : VlAt w y) (hx : lratB x L = true) (hy : lratB y L = true) (ex : vrt x = r) (ey : vrt y = q) :
    Calls Tryz.prog 15 #[.int .i64 0, .agg #[.int .i64 x.kind, .bool x.truth, .string x.text, .bool x.neg, .slice x.wa x.wn x.wc, .slice x.da x.dn x.dc, .bool x.ineg, .slice x.ia x.inn x.ic, .slice x.ea x.en x.ec], .agg #[.int .i64 y.kind, .bool y.truth, .string y.text, .bool y.neg, .slice y.wa y.wn y.wc, .slice y.da y.dn y.dc, .bool y.ineg, .slice y.ia y.inn y.ic, .slice y.ea y.en y.ec]] w (GivesV (IsQ (Rt.plus r q) (L + L + 1)) w) := by
  have h := implFF_any 0 (by omega) x y r q L hL w hK hT h1 h2 hx hy ex ey (fun h => absurd h (by decide))
  rw [show mixZ 0 r q = Rt.plus r q from rfl] at h
  exact h
theorem implFF1_any (x y : Vl) (r q : Rt) (L : Nat) (hL : L + L ≤ 38) (w : World) (hK : Thr w) (hT : ThrD w) (h1 : VlAt w x) (h2 : VlAt w y) (hx : lratB x L = true) (hy : lratB y L = true) (ex : vrt x = r) (ey : vrt y = q) :
    Calls Tryz.prog 15 #[.int .i64 1, .agg #[.int .i64 x.kind, .bool x.truth, .string x.text, .bool x.neg, .slice x.wa x.wn x.wc, .slice x.da x.dn x.dc, .bool x.ineg, .slice x.ia x.inn x.ic, .slice x.ea x.en x.ec], .agg #[.int .i64 y.kind, .bool y.truth, .string y.text, .bool y.neg, .slice y.wa y.wn y.wc, .slice y.da y.dn y.dc, .bool y.ineg, .slice y.ia y.inn y.ic, .slice y.ea y.en y.ec]] w (GivesV (IsQ (Rt.minus r q) (L + L + 1)) w) := by
  have h := implFF_any 1 (by omega) x y r q L hL w hK hT h1 h2 hx hy ex ey (fun h => absurd h (by decide))
  rw [show mixZ 1 r q = Rt.minus r q from rfl] at h
  exact h
theorem implFF2_any (x y : Vl) (r q : Rt) (L : Nat) (hL : L + L ≤ 38) (w : World) (hK : Thr w) (hT : ThrD w) (h1 : VlAt w x) (h2 : VlAt w y) (hx : lratB x L = true) (hy : lratB y L = true) (ex : vrt x = r) (ey : vrt y = q) :
    Calls Tryz.prog 15 #[.int .i64 2, .agg #[.int .i64 x.kind, .bool x.truth, .string x.text, .bool x.neg, .slice x.wa x.wn x.wc, .slice x.da x.dn x.dc, .bool x.ineg, .slice x.ia x.inn x.ic, .slice x.ea x.en x.ec], .agg #[.int .i64 y.kind, .bool y.truth, .string y.text, .bool y.neg, .slice y.wa y.wn y.wc, .slice y.da y.dn y.dc, .bool y.ineg, .slice y.ia y.inn y.ic, .slice y.ea y.en y.ec]] w (GivesV (IsQ (Rt.times r q) (L + L + 1)) w) := by
  have h := implFF_any 2 (by omega) x y r q L hL w hK hT h1 h2 hx hy ex ey (fun h => absurd h (by decide))
  rw [show mixZ 2 r q = Rt.times r q from rfl] at h
  exact h
theorem implFF3_any (x y : Vl) (r q : Rt) (L : Nat) (hL : L + L ≤ 38) (w : World) (hK : Thr w) (hT : ThrD w) (h1 : VlAt w x) (h2 : VlAt w y) (hx : lratB x L = true) (hy : lratB y L = true) (ex : vrt x = r) (ey : vrt y = q) (h0 : 0 < q.num) :
    Calls Tryz.prog 15 #[.int .i64 3, .agg #[.int .i64 x.kind, .bool x.truth, .string x.text, .bool x.neg, .slice x.wa x.wn x.wc, .slice x.da x.dn x.dc, .bool x.ineg, .slice x.ia x.inn x.ic, .slice x.ea x.en x.ec], .agg #[.int .i64 y.kind, .bool y.truth, .string y.text, .bool y.neg, .slice y.wa y.wn y.wc, .slice y.da y.dn y.dc, .bool y.ineg, .slice y.ia y.inn y.ic, .slice y.ea y.en y.ec]] w (GivesV (IsQ (Rt.times r q.upside) (L + L + 1)) w) := by
  have h := implFF_any 3 (by omega) x y r q L hL w hK hT h1 h2 hx hy ex ey (fun _ => h0)
  rw [show mixZ 3 r q = Rt.times r q.upside from rfl] at h
  exact h
theorem implEqF_any (x y : Vl) (r : Rt) (L : Nat) (hL : L < 40) (hL0 : 1 ≤ L) (w : World) (hK : Thr w) (h1 : VlAt w x) (h2 : VlAt w y) (hx : lratB x L = true) (hy : lratB y L = true) (ex : vrt x = r) (ey : vrt y = r) :
    Calls Tryz.prog 19 #[.int .i64 0, .agg #[.int .i64 x.kind, .bool x.truth, .string x.text, .bool x.neg, .slice x.wa x.wn x.wc, .slice x.da x.dn x.dc, .bool x.ineg, .slice x.ia x.inn x.ic, .slice x.ea x.en x.ec], .agg #[.int .i64 y.kind, .bool y.truth, .string y.text, .bool y.neg, .slice y.wa y.wn y.wc, .slice y.da y.dn y.dc, .bool y.ineg, .slice y.ia y.inn y.ic, .slice y.ea y.en y.ec]] w fun e w' => e = .returned (.bool true) ∧ Below w.heap.size w w' := by
  have mx := numV_rat hx (by omega)
  have my := numV_rat hy (by omega)
  have lx := lrat_lt2 h1 hx
  have ly := lrat_lt2 h2 hy
  rw [ex] at mx lx
  rw [ey] at my ly
  have h := implCompareNum_any 0 (by omega) x y r r w hK h1 h2 mx my L hL0 hL lx ly
  have e : cmpB 0 (cmpQ r r) = true := by
    unfold cmpB cmpQ
    simp [cmpZ]
  rw [e] at h
  exact h
theorem lawRationals_any (v u : Vl) (k : Nat) (w : World) (h : VlAt w v) (h' : VlAt w u) (hk : k ≤ 1000) :
    Calls Tryz.prog 16 #[.agg #[.int .i64 v.kind, .bool v.truth, .string v.text, .bool v.neg, .slice v.wa v.wn v.wc, .slice v.da v.dn v.dc, .bool v.ineg, .slice v.ia v.inn v.ic, .slice v.ea v.en v.ec], .agg #[.int .i64 u.kind, .bool u.truth, .string u.text, .bool u.neg, .slice u.wa u.wn u.wc, .slice u.da u.dn u.dc, .bool u.ineg, .slice u.ia u.inn u.ic, .slice u.ea u.en u.ec], .int .i64 k] w
      (Reads2 (lratB v k && lratB u k) (vrt v) (vrt u) (4 * k + 1) w) := by
  obtain ⟨W0, hW0⟩ : ∃ W0, W0 = (((w.alloc (.cells #[.int .i64 v.kind, .bool v.truth, .string v.text, .bool v.neg, .slice v.wa v.wn v.wc, .slice v.da v.dn v.dc, .bool v.ineg, .slice v.ia v.inn v.ic, .slice v.ea v.en v.ec] 26)).alloc (.cells #[.int .i64 u.kind, .bool u.truth, .string u.text, .bool u.neg, .slice u.wa u.wn u.wc, .slice u.da u.dn u.dc, .bool u.ineg, .slice u.ia u.inn u.ic, .slice u.ea u.en u.ec] 26)).alloc (.cells #[.bool false, .slice none 0 0, .slice none 0 0] 31)).alloc (.cells #[.bool false, .slice none 0 0, .slice none 0 0] 31) := ⟨_, rfl⟩
  have HW := Lib.hid hW0
  have hb0 : Below w.heap.size w W0 := by rw [hW0]; exact Below.alloc' (Below.alloc' (Below.alloc' (Below.alloc' (Below.refl _ _) _) _) _) _
  have R1 : ResBlk W0 (w.heap.size + 1 + 1) := by rw [hW0]; exact (ResBlk.new _ _ (by simp)).alloc1 _
  have R2 : ResBlk W0 (w.heap.size + 1 + 1 + 1) := by rw [hW0]; exact ResBlk.new _ _ (by simp)
  have X : Box9 W0 w.heap.size v := by rw [hW0]; exact (((Box9.new w v _ rfl).alloc _).alloc _).alloc _
  have Y : Box9 W0 (w.heap.size + 1) u := by rw [hW0]; exact ((Box9.new _ u _ (by simp)).alloc _).alloc _
  have HX := Lib.hid (h.keep hb0)
  have HY := Lib.hid (h'.keep hb0)
  clear hW0 h h'
  go_enter Tryz.func16, Tryz.ntmps16
  go_upto_region 1 with fail
  rw [← HW.out]
  obtain ⟨xc0, xc1, xc2, xc3, xc4, xc5, xc6, xc7, xc8⟩ := (X).all
  go_wp2_with fail
  refine (lawRational_any v k _ HX.out hk).mono ?_
  rintro e w1 ⟨sA, aA, nA, cA, aB, nB, cB, rfl, hA, hB1⟩
  clear xc0 xc1 xc2 xc3 xc4 xc5 xc6 xc7 xc8
  have hA1 := hA
  obtain ⟨W1, hW1⟩ : ∃ W1, W1 = w1.alloc (.cells #[.bool sA, .slice aA nA cA, .slice aB nB cB] 31) := ⟨_, rfl⟩
  have hb1 : Below W0.heap.size W0 W1 := by rw [hW1]; exact Below.alloc' hB1 _
  have A1 : RtBlk W1 w1.heap.size sA aA nA cA aB nB cB := by rw [hW1]; exact RtBlk.new _ _ rfl _ _ _ _ _ _ _
  have A2 := Lib.hid (show lratB v k = true → RtAt W1 sA aA nA cA aB nB cB (vrt v) (4 * k + 1) from by
    intro hb; rw [hW1]
    exact ((hA hb).keep ((Below.refl _ _).alloc (Nat.le_refl _) _)).mono (by omega))
  have HW1 := Lib.hid hW1
  have R1' := R1.below R1.lt hb1
  have R2' := R2.below R2.lt hb1
  have Y1 := Y.keep hb1
  have HY1 := Lib.hid (HY.out.keep hb1)
  clear hW1 hA hA1
  go_upto_region 2 with fail
  rw [← HW1.out]
  obtain ⟨yc0, yc1, yc2, yc3, yc4, yc5, yc6, yc7, yc8⟩ := (Y1).all
  go_wp2_with fail
  refine (lawRational_any u k _ HY1.out hk).mono ?_
  rintro e w2 ⟨sC, aC, nC, cC, aD, nD, cD, rfl, hC, hB2⟩
  clear yc0 yc1 yc2 yc3 yc4 yc5 yc6 yc7 yc8
  obtain ⟨W2, hW2⟩ : ∃ W2, W2 = w2.alloc (.cells #[.bool sC, .slice aC nC cC, .slice aD nD cD] 31) := ⟨_, rfl⟩
  have hb2 : Below W1.heap.size W1 W2 := by rw [hW2]; exact Below.alloc' hB2 _
  have A3 := A1.keep hb2
  have C1 : RtBlk W2 w2.heap.size sC aC nC cC aD nD cD := by rw [hW2]; exact RtBlk.new _ _ rfl _ _ _ _ _ _ _
  have A4 := Lib.hid (show lratB v k = true → RtAt W2 sA aA nA cA aB nB cB (vrt v) (4 * k + 1) from fun hb => (A2.out hb).keep hb2)
  have C2 := Lib.hid (show lratB u k = true → RtAt W2 sC aC nC cC aD nD cD (vrt u) (4 * k + 1) from by
    intro hb; rw [hW2]
    exact ((hC hb).keep ((Below.refl _ _).alloc (Nat.le_refl _) _)).mono (by omega))
  have HW2 := Lib.hid hW2
  have Q1 := R1'.below R1'.lt hb2
  have Q2 := R2'.below R2'.lt hb2
  have hbf := Below.then (Below.then hb0 (Nat.le_refl _) hb1) (Nat.le_refl _) hb2
  have hlt1 := A3.lt
  have hg1 : w.heap.size + 1 + 1 + 1 < w1.heap.size := Nat.lt_of_lt_of_le R2.lt hB1.size
  have hg2 : w.heap.size + 1 + 1 + 1 < w2.heap.size := Nat.lt_of_lt_of_le R2'.lt hB2.size
  clear hW2 hC hB1 hB2 R1 R2 R1' R2' hb0 hb1 hb2 HX HY HY1 A2 A1 X Y Y1
  go_upto_region 3 with fail
  rw [← HW2.out]
  obtain ⟨a0, a1, a2⟩ := A3
  obtain ⟨d0, d1, d2⟩ := C1
  obtain ⟨⟨u0, r0⟩, ⟨u1, r1⟩, ⟨u2, r2⟩⟩ := Q1.cells
  have f0 := Q1.frozen 0
  have f1 := Q1.frozen 1
  have f2 := Q1.frozen 2
  obtain ⟨⟨z0, q0⟩, ⟨z1, q1⟩, ⟨z2, q2⟩⟩ := Q2.cells
  have g0 := Q2.frozen 0
  have g1 := Q2.frozen 1
  have g2 := Q2.frozen 2
  generalize hv : lratB v k = bv at *
  generalize hu : lratB u k = bu at *
  cases bv
  · go_region
    all_goals go_wp2
    refine bodyPost_ret (v := .tuple #[.agg #[.bool sA, .slice aA nA cA, .slice aB nB cB], .agg #[.bool sC, .slice aC nC cC, .slice aD nD cD], .bool (false && bu)]) (by simp [results, Tryz.results16, go_sem, r0, r1, r2, q0, q1, q2]) rfl ⟨_, _, _, _, _, _, _, _, _, _, _, _, _, _, rfl, ?_, ?_⟩
    · simp
    · exact below33 hbf (by omega) (by omega) _ _ _ _ _ _
  · go_region
    all_goals go_wp2
    refine bodyPost_ret (v := .tuple #[.agg #[.bool sA, .slice aA nA cA, .slice aB nB cB], .agg #[.bool sC, .slice aC nC cC, .slice aD nD cD], .bool (true && bu)]) (by simp [results, Tryz.results16, go_sem, r0, r1, r2, q0, q1, q2]) rfl ⟨_, _, _, _, _, _, _, _, _, _, _, _, _, _, rfl, ?_, ?_⟩
    · intro hb
      exact ⟨RtAt.drew (stored33 Q1.noInt Q2.noInt (A4.out (by simp))), RtAt.drew (stored33 Q1.noInt Q2.noInt (C2.out (by simpa using hb)))⟩
    · exact below33 hbf (by omega) (by omega) _ _ _ _ _ _
end Go.Proofs.YtgmienggfaahlaaGreatDoor
