/-
  Contracts and lemmas: Blen RatB CmpA Pln TolR OpsA TolS OpsB OpsU SpH TolT.
-/
import Derived.Test.YtececkbcinmmpaaGreatDoorM11
import Derived.Test.YtececkbcinmmpaaGreatDoorM02
import Derived.Test.YtececkbcinmmpaaGreatDoorM06
import Derived.Test.YtececkbcinmmpaaGreatDoorM07
import Derived.WalkMore
set_option linter.unusedSimpArgs false
set_option linter.unusedVariables false
set_option maxRecDepth 100000
set_option maxHeartbeats 8000000
namespace Go.Bg
open Go.RowKit Dg
theorem bitLenAux_bl : ∀ (f n : Nat), n < 2 ^ f → Lib.bitLenAux f n = bl n := by
  intro f
  induction f with
  | zero => intro n h; obtain rfl : n = 0 := by simpa using h
            rfl
  | succ f ih =>
    intro n h
    rw [Lib.bitLenAux]
    by_cases h0 : n = 0
    · subst h0; rfl
    · rw [if_neg h0, bl_half (by omega : 0 < n), ih (n / 2) (by rw [Nat.pow_succ] at h; omega)]; omega
theorem bitLen_bl {n : Nat} (h : n < 18446744073709551616) : Lib.bitLen n = bl n := bitLenAux_bl 64 n h
theorem bl_or_shr (t k : Nat) : bl (t ||| t / 2 ^ k) = bl t := by
  have hle : t / 2 ^ k ≤ t := Nat.div_le_self _ _
  refine (bl_unique ?_ ?_).symm
  · exact Nat.or_lt_two_pow (bl_lt t) (Nat.lt_of_le_of_lt hle (bl_lt t))
  · rcases bl_top t with h | h
    · exact .inl h
    · exact .inr (Nat.le_trans h Nat.left_le_or)
theorem or_shr_lt {t : Nat} (k : Nat) (h : t < 18446744073709551616) : (t ||| t / 2 ^ k) < 18446744073709551616 :=
  Nat.or_lt_two_pow (n := 64) h (Nat.lt_of_le_of_lt (Nat.div_le_self _ _) h)
def smear (t : Nat) : Nat :=
  let a := t ||| t / 2 ^ 1
  let b := a ||| a / 2 ^ 2
  let c := b ||| b / 2 ^ 4
  let d := c ||| c / 2 ^ 8
  let e := d ||| d / 2 ^ 16
  e ||| e / 2 ^ 32
theorem smear_lt {t : Nat} (h : t < 18446744073709551616) : smear t < 18446744073709551616 :=
  or_shr_lt _ (or_shr_lt _ (or_shr_lt _ (or_shr_lt _ (or_shr_lt _ (or_shr_lt _ h)))))
theorem smear_eq {t a b c d e : Nat} (ha : a = t ||| t / 2 ^ 1) (hb : b = a ||| a / 2 ^ 2) (hc : c = b ||| b / 2 ^ 4) (hd : d = c ||| c / 2 ^ 8) (he : e = d ||| d / 2 ^ 16) : (e ||| e / 2 ^ 32) = smear t := by
  subst ha hb hc hd he; rfl
theorem smear_bl (t : Nat) : bl (smear t) = bl t := by
  unfold smear
  simp only [bl_or_shr]
theorem bl_top_word {N n : Nat} (h : N < W64 ^ (n + 1)) (ht : W64 ^ n ≤ N) : bl N = n * 64 + bl (dg W64 N n) := by
  have hd : dg W64 N n = N / W64 ^ n := by
    unfold dg
    refine Nat.mod_eq_of_lt ((Nat.div_lt_iff_lt_mul (Nat.pow_pos W64_pos)).2 ?_)
    rw [← Nat.pow_succ']; exact h
  have hp : W64 ^ n = 2 ^ (64 * n) := by rw [W64_eq, ← Nat.pow_mul]
  have hq : 0 < N / W64 ^ n := Nat.div_pos ht (Nat.pow_pos W64_pos)
  rw [hd]
  have hb := bl_pos hq
  refine (bl_unique ?_ ?_).symm
  · have := bl_lt (N / W64 ^ n)
    rw [Nat.div_lt_iff_lt_mul (Nat.pow_pos W64_pos)] at this
    rw [hp] at this ⊢
    rw [← Nat.pow_add] at this
    rw [show n * 64 + bl (N / 2 ^ (64 * n)) = bl (N / 2 ^ (64 * n)) + 64 * n from by omega]
    exact this
  · right
    rcases bl_top (N / W64 ^ n) with h0 | h0
    · omega
    · have h1 : 2 ^ (bl (N / W64 ^ n) - 1) * W64 ^ n ≤ N := Nat.le_trans (Nat.mul_le_mul_right _ h0) (Nat.div_mul_le_self _ _)
      rw [hp, ← Nat.pow_add] at h1
      rw [hp]
      rw [hp] at hb
      rw [show n * 64 + bl (N / 2 ^ (64 * n)) - 1 = bl (N / 2 ^ (64 * n)) - 1 + 64 * n from by omega]
      exact h1
end Go.Bg
namespace Go.Proofs.YtececkbcinmmpaaGreatDoor
open Go.RowKit Go.Bg Dg
theorem u64_or_shr (t k : Nat) (h : t < 18446744073709551616) : bits BinOp.or IntKind.u64 (t : Int) ((t : Int) / 2 ^ k) = ((t ||| t / 2 ^ k : Nat) : Int) := by
  have e : (t : Int) / 2 ^ k = ((t / 2 ^ k : Nat) : Int) := by simp
  rw [e, u64_or_nat _ _ h (Nat.lt_of_le_of_lt (Nat.div_le_self _ _) h)]
theorem natBitLen_any (a : Option Addr) (n c N : Nat) (w : World) (h : NumAt .u64 W64 w a n c N) (hn : n ≤ 1000000) :
    Calls Tryz.prog 243 #[.slice a n c] w fun e w' => e = .returned (.int .i64 (bl N : Nat)) ∧ w = w' := by
  have hcm := h.cm
  have hnc := h.nc
  by_cases h0 : n = 0
  · subst h0
    have hN : N = 0 := by have := h.lt; simpa using this
    clear h
    subst hN
    go_enter Tryz.func243, Tryz.ntmps243
    go_wp2
    go_ret
    exact ⟨rfl, rfl⟩
  · obtain ⟨m, rfl⟩ : ∃ m, n = m + 1 := ⟨n - 1, by omega⟩
    obtain ⟨b, off, rfl, _⟩ := h.form (by omega)
    have hc := h.cell (i := m) (by omega)
    have HB := Lib.hid (show bl N = m * 64 + bl (dg W64 N m) from bl_top_word h.lt (by rcases h.top with h1 | h1; omega; simpa using h1))
    have HX := Lib.hid (show dg W64 N m < 18446744073709551616 from W64_lt (dg_lt W64_pos _ _))
    clear h
    generalize dg W64 N m = x at *
    go_enter Tryz.func243, Tryz.ntmps243
    go_wp2_with fail
    have E1 : bits BinOp.or IntKind.u64 (x : Int) ((x : Int) / 2) = ((x ||| x / 2 ^ 1 : Nat) : Int) := u64_or_shr x 1 HX.out
    rw [E1]
    have L1 := or_shr_lt 1 HX.out
    obtain ⟨x1, h1⟩ : ∃ x1, x1 = x ||| x / 2 ^ 1 := ⟨_, rfl⟩
    rw [← h1] at L1 ⊢
    have E2 : bits BinOp.or IntKind.u64 (x1 : Int) ((x1 : Int) / 4) = ((x1 ||| x1 / 2 ^ 2 : Nat) : Int) := u64_or_shr x1 2 L1
    rw [E2]
    have L2 := or_shr_lt 2 L1
    obtain ⟨x2, h2⟩ : ∃ x2, x2 = x1 ||| x1 / 2 ^ 2 := ⟨_, rfl⟩
    rw [← h2] at L2 ⊢
    have E3 : bits BinOp.or IntKind.u64 (x2 : Int) ((x2 : Int) / 16) = ((x2 ||| x2 / 2 ^ 4 : Nat) : Int) := u64_or_shr x2 4 L2
    rw [E3]
    have L3 := or_shr_lt 4 L2
    obtain ⟨x3, h3⟩ : ∃ x3, x3 = x2 ||| x2 / 2 ^ 4 := ⟨_, rfl⟩
    rw [← h3] at L3 ⊢
    have E4 : bits BinOp.or IntKind.u64 (x3 : Int) ((x3 : Int) / 256) = ((x3 ||| x3 / 2 ^ 8 : Nat) : Int) := u64_or_shr x3 8 L3
    rw [E4]
    have L4 := or_shr_lt 8 L3
    obtain ⟨x4, h4⟩ : ∃ x4, x4 = x3 ||| x3 / 2 ^ 8 := ⟨_, rfl⟩
    rw [← h4] at L4 ⊢
    have E5 : bits BinOp.or IntKind.u64 (x4 : Int) ((x4 : Int) / 65536) = ((x4 ||| x4 / 2 ^ 16 : Nat) : Int) := u64_or_shr x4 16 L4
    rw [E5]
    have L5 := or_shr_lt 16 L4
    obtain ⟨x5, h5⟩ : ∃ x5, x5 = x4 ||| x4 / 2 ^ 16 := ⟨_, rfl⟩
    rw [← h5] at L5 ⊢
    have E6 : bits BinOp.or IntKind.u64 (x5 : Int) ((x5 : Int) / 65536 / 65536) = ((smear x : Nat) : Int) := by
      rw [← smear_eq h1 h2 h3 h4 h5, ← u64_or_shr x5 32 L5, Int.ediv_ediv_of_nonneg (by decide)]; rfl
    rw [E6]
    have HS := Lib.hid (smear_lt HX.out)
    have HE := Lib.hid (smear_bl x)
    clear E1 E2 E3 E4 E5 E6 L1 L2 L3 L4 L5 h1 h2 h3 h4 h5
    generalize smear x = y at *
    refine (Tryz.bits_Len y _ (by omega) (by have := HS.out; omega)).mono ?_
    rintro e w1 ⟨rfl, rfl⟩
    rw [Int.toNat_natCast, bitLen_bl HS.out, HE.out]
    have hbl : bl x ≤ 64 := by
      have := bl_top x
      rcases this with h | h
      · omega
      · have := (Nat.pow_lt_pow_iff_right (by decide : 1 < 2)).1 (Nat.lt_of_le_of_lt h (show x < 2 ^ 64 from HX.out)); omega
    generalize bl x = z at *
    go_wp2
    go_ret
    exact ⟨ret_int (by rw [HB.out]; simp), rfl⟩
theorem intBitLen_any (b o : Nat) (s : Bool) (N L : Nat) (w : World) (h : BigAt 139 w b o s N) (hN : N < W64 ^ L) (hL : L ≤ 1000000) :
    Calls Tryz.prog 210 #[.pointer (some ⟨b, o, none⟩)] w fun e w' => e = .returned (.int .i64 (bl N : Nat)) ∧ w = w' := by
  obtain ⟨a, n, c, p0, p1, hNN⟩ := h.val
  have hn : n ≤ 1000000 := Nat.le_trans (len_le W64_gt hNN.num.top hN) hL
  have HN := Lib.hid hNN.num
  clear h hNN hN
  go_enter Tryz.func210, Tryz.ntmps210
  go_wp2_with fail
  refine (natBitLen_any a n c N _ HN.out hn).mono ?_
  rintro e w1 ⟨rfl, rfl⟩
  go_wp2
  go_ret
  exact ⟨rfl, rfl⟩
theorem rat_setDen {w w' : World} {b : Nat} {s : Bool} {N D0 D : Nat} {e : Ending} (h : RatAt 139 w b s N D0) (hI : IntIs b 2 false D w e w') (hp : 0 < D) : RatAt 139 w' b s N D :=
  ⟨h.a.other h.a.blk hI.2.2 (.inr (.inl (by omega))), hI.2.1, hp⟩
theorem implOver_any (s : Bool) (a : Option Addr) (n c : Nat) (f : Nat → Nat) (a' : Option Addr) (n' c' : Nat) (f' : Nat → Nat) (w : World) (h : WordsAt w a n c f) (h' : WordsAt w a' n' c' f') (hn : n ≤ 100000) (hn' : n' ≤ 100000) (hD : 0 < val W64 f' n') :
    Calls Tryz.prog 111 #[.agg #[.bool s, .slice a n c], .slice a' n' c'] w fun e w' => ∃ b, e = .returned (.pointer (some ⟨b, 0, none⟩)) ∧ RatAt 139 w' b (s && decide (0 < val W64 f n)) (val W64 f n) (val W64 f' n') ∧ Below w.heap.size w w' := by
  obtain ⟨W0, hW0⟩ : ∃ W0, W0 = (w.alloc (.cells #[.bool s, .slice a n c] 24)).alloc (.cells #[.bool false, .slice none 0 0, .bool false, .slice none 0 0] 170) := ⟨_, rfl⟩
  have hs0 : W0.heap.size = w.heap.size + 1 + 1 := by rw [hW0]; simp
  have HW := Lib.hid hW0
  have hb0 : Below w.heap.size w W0 := by rw [hW0]; exact Below.alloc' (Below.alloc' (Below.refl _ _) _) _
  have hz : NewRat W0 (w.heap.size + 1) := by
    rw [hW0]
    have := BlkAt.new (w.alloc (.cells #[.bool s, .slice a n c] 24)) #[.bool false, .slice none 0 0, .bool false, .slice none 0 0] 170
    simpa [NewRat] using this
  have HX := Lib.hid (h.keep hb0)
  have HY := Lib.hid h'
  have HD := Lib.hid hD
  have HL := Lib.hid (show val W64 f n < W64 ^ n from val_lt h.lt)
  clear hW0 h h' hD
  go_enter Tryz.func111, Tryz.ntmps111
  go_wp2_with fail
  rw [← HW.out]
  refine (of_any' s a n c f _ HX.out (by omega)).mono ?_
  rintro e w1 ⟨b1, rfl, hb1, hI, hB1⟩
  have hz1 := hz.keep hB1
  have hbw1 := Below.then hb0 (Nat.le_refl _) hB1
  have HS1 := Lib.hid hB1.size
  clear hB1 hz
  go_wp2_with fail
  refine (ratSetInt_new (w.heap.size + 1) b1 0 _ _ _ hz1 hI (by omega) n (by omega) HL.out).mono ?_
  rintro e w2 ⟨rfl, hR, hU⟩
  have hbw2 := hU.below hbw1 (by have := HS1.out; omega) (by omega)
  have HR := Lib.hid hR
  have HS2 := Lib.hid (show w.heap.size + 1 < w2.heap.size from hR.a.blk.lt)
  clear hz1 hI hU hR hbw1
  go_wp2_with fail
  refine (ratDenom_any (w.heap.size + 1) false 1 _ HR.out.d (by omega)).mono ?_
  rintro e w3 ⟨rfl, rfl⟩
  go_wp2_with fail
  refine (wordsOf_any a' n' c' f' _ (HY.out.keep hbw2) (by omega)).mono ?_
  rintro e w4 ⟨v, rfl, hown, hB4⟩
  obtain ⟨a1, c1, rfl, hbuf, hnc, hcm, hnil, hcells⟩ := buf_of_own hown
  have hw4 := hcells (wv f') (fun i hi => by simp [hi])
  have hR4 := HR.out.keep hB4
  have hbw4 := Below.then hbw2 (by have := HS2.out; omega) hB4
  have HS4 := Lib.hid hB4.size
  clear hown hcells hB4 hbw2
  obtain ⟨aa, nn, cc, p0, p1, _⟩ := hR4.d.val
  go_wp2_with fail
  refine (setBits_any (w.heap.size + 1) 2 a1 n' c1 f' _ hR4.d.blk ⟨_, p0⟩ ⟨_, p1⟩ (by omega) hnc hcm hnil HY.out.lt hw4 hbuf).mono ?_
  rintro e w5 hI5
  have hR5 := rat_setDen hR4 hI5 HD.out
  obtain ⟨rfl, _, hU5⟩ := hI5
  have hbw5 := hU5.upd.below hbw4 (by have := HS2.out; have := HS4.out; omega) (fun k _ e => by subst e; omega)
  go_wp2
  go_ret
  exact ⟨_, rfl, hR5, hbw5⟩
theorem bl_small {N L : Nat} (h : N < W64 ^ L) (hL : L ≤ 63) : decide (bl N < 4096) = true := by
  have h2 : N < 2 ^ (64 * L) := by rw [Nat.pow_mul, ← W64_eq]; exact h
  rcases bl_top N with h0 | h0
  · simp [h0]
  · have : 2 ^ (bl N - 1) < 2 ^ (64 * L) := Nat.lt_of_le_of_lt h0 h2
    have := (Nat.pow_lt_pow_iff_right (by decide : 1 < 2)).1 this
    simp; omega
theorem smallInt_any (b o : Nat) (s : Bool) (N L : Nat) (w : World) (h : BigAt 139 w b o s N) (hN : N < W64 ^ L) (hL : L ≤ 63) :
    Calls Tryz.prog 148 #[.pointer (some ⟨b, o, none⟩)] w fun e w' => e = .returned (.bool true) ∧ w = w' := by
  have HH := Lib.hid h
  have HB := Lib.hid (show decide ((bl N : Int) < 4096) = true from by have := bl_small hN hL; simp at this ⊢; omega)
  have HL := Lib.hid (show N < W64 ^ L from hN)
  clear h hN
  go_enter Tryz.func148, Tryz.ntmps148
  go_wp2_with fail
  refine (intBitLen_any b o s N L _ HH.out HL.out (by omega)).mono ?_
  rintro e w1 ⟨rfl, rfl⟩
  go_wp2
  go_ret
  exact ⟨ret_bool HB.out, rfl⟩
def CRat (w : World) (v : Value) (r : Rt) : Prop := ∃ b s N D, v = .iface 106 (.agg #[.pointer (some ⟨b, 0, none⟩)]) ∧ RatAt 139 w b s N D ∧ r = ⟨s, N, D⟩
theorem CRat.keep {w w' : World} {v : Value} {r : Rt} (h : CRat w v r) (hb : Below w.heap.size w w') : CRat w' v r := by
  obtain ⟨b, s, N, D, rfl, h1, h2⟩ := h; exact ⟨b, s, N, D, rfl, h1.keep hb, h2⟩
theorem makeRat_any (b : Nat) (s : Bool) (N D L : Nat) (w : World) (h : RatAt 139 w b s N D) (hN : N < W64 ^ L) (hD : D < W64 ^ L) (hL : L ≤ 63) :
    Calls Tryz.prog 82 #[.pointer (some ⟨b, 0, none⟩)] w fun e w' => ∃ v, e = .returned v ∧ CRat w' v ⟨s, N, D⟩ ∧ w = w' := by
  have HH := Lib.hid h
  have HN := Lib.hid hN
  have HD := Lib.hid hD
  clear h hN hD
  go_enter Tryz.func82, Tryz.ntmps82
  go_wp2_with fail
  refine (ratNum_any b _).mono ?_
  rintro e w1 ⟨rfl, rfl⟩
  go_wp2_with fail
  refine (ratDenom_any b false D _ HH.out.d HH.out.pos).mono ?_
  rintro e w1 ⟨rfl, rfl⟩
  go_wp2_with fail
  refine (smallInt_any b 0 s N L _ HH.out.a HN.out hL).mono ?_
  rintro e w1 ⟨rfl, rfl⟩
  go_wp2_with fail
  refine (smallInt_any b 2 false D L _ HH.out.d HD.out hL).mono ?_
  rintro e w1 ⟨rfl, rfl⟩
  go_wp2
  go_ret
  exact ⟨_, rfl, ⟨b, s, N, D, rfl, HH.out, rfl⟩, rfl⟩
theorem makeOfRat_any (b : Nat) (s : Bool) (N D L : Nat) (w : World) (h : RatAt 139 w b s N D) (hN : N < W64 ^ L) (hD : D < W64 ^ L) (hL : L ≤ 63) :
    Calls Tryz.prog 109 #[.iface 99 (.pointer (some ⟨b, 0, none⟩))] w fun e w' => ∃ v, e = .returned v ∧ CRat w' v ⟨s, N, D⟩ ∧ w = w' := by
  have HH := Lib.hid h
  have HN := Lib.hid hN
  have HD := Lib.hid hD
  clear h hN hD
  obtain ⟨t1, t2, t3, t4, t5, t6⟩ := ta_any_pRat
  go_enter Tryz.func109, Tryz.ntmps109
  go_wp2_with fail
  refine (makeRat_any b s N D L _ HH.out HN.out HD.out hL).mono ?_
  rintro e w1 ⟨v, rfl, hv, rfl⟩
  have HV := Lib.hid hv
  clear hv
  go_wp2
  go_ret
  exact ⟨_, rfl, HV.out, rfl⟩
def mrt (v : Vl) : Rt := ⟨v.neg && decide (0 < val W64 v.wf v.wn), val W64 v.wf v.wn, val W64 v.df v.dn⟩
theorem madeRat_any (v : Vl) (w : World) (h : VlAt w v) (hk : v.kind = 4) (hn : v.wn ≤ 63) (hd : v.dn ≤ 63) (hD : 0 < val W64 v.df v.dn) :
    Calls Tryz.prog 49 #[.agg #[.int .i64 v.kind, .bool v.truth, .string v.text, .bool v.neg, .slice v.wa v.wn v.wc, .slice v.da v.dn v.dc, .bool v.ineg, .slice v.ia v.inn v.ic, .slice v.ea v.en v.ec]] w fun e w' => ∃ u, e = .returned u ∧ CRat w' u (mrt v) ∧ Below w.heap.size w w' := by
  obtain ⟨W0, hW0⟩ : ∃ W0, W0 = w.alloc (.cells #[.int .i64 v.kind, .bool v.truth, .string v.text, .bool v.neg, .slice v.wa v.wn v.wc, .slice v.da v.dn v.dc, .bool v.ineg, .slice v.ia v.inn v.ic, .slice v.ea v.en v.ec] 26) := ⟨_, rfl⟩
  have HW := Lib.hid hW0
  have hb0 : Below w.heap.size w W0 := by rw [hW0]; exact Below.alloc' (Below.refl _ _) _
  have X : Box9 W0 w.heap.size v := by rw [hW0]; exact Box9.new w v _ rfl
  have HX := Lib.hid (h.keep hb0)
  have HN := Lib.hid (show val W64 v.wf v.wn < W64 ^ 63 from Nat.lt_of_lt_of_le (val_lt h.ws.lt) (Nat.pow_le_pow_right W64_pos hn))
  have HM := Lib.hid (show val W64 v.df v.dn < W64 ^ 63 from Nat.lt_of_lt_of_le (val_lt h.ds.lt) (Nat.pow_le_pow_right W64_pos hd))
  have HD := Lib.hid hD
  clear hW0 h hD
  obtain ⟨xc0, xc1, xc2, xc3, xc4, xc5, xc6, xc7, xc8⟩ := (X).all
  rw [hk] at xc0
  clear hk
  go_enter Tryz.func49, Tryz.ntmps49
  go_upto_region 1 with fail
  rw [← HW.out]
  go_wp2_with fail
  refine (implOver_any v.neg v.wa v.wn v.wc v.wf v.da v.dn v.dc v.df _ HX.out.ws HX.out.ds (by omega) (by omega) HD.out).mono ?_
  rintro e w1 ⟨b, rfl, hR, hB1⟩
  go_wp2_with fail
  refine (makeOfRat_any b _ _ _ 63 _ hR HN.out HM.out (by omega)).mono ?_
  rintro e w2 ⟨u, rfl, hu, rfl⟩
  have hbf := Below.then hb0 (Nat.le_refl _) hB1
  go_wp2
  go_ret
  exact ⟨_, rfl, hu, hbf⟩
end Go.Proofs.YtececkbcinmmpaaGreatDoor
namespace Go.Bg
open Go.RowKit Dg
def rz (z : Int) : Rt := ⟨decide (z < 0), z.natAbs, 1⟩
theorem sg_nat (s : Bool) (N : Nat) : (sg s N).natAbs = N := by cases s <;> simp [sg]
theorem sg_neg (s : Bool) (N : Nat) : decide (sg s N < 0) = (s && decide (0 < N)) := by
  cases s
  · simp [sg]
  · by_cases h : 0 < N <;> simp [sg, h] <;> omega
theorem whole_rz (s : Bool) (N : Nat) : Rt.whole s N = rz (sg s N) := by
  unfold Rt.whole rz
  rw [sg_nat, sg_neg]
theorem whole_abs (z : Int) : Rt.whole (decide (z < 0)) z.natAbs = rz z := by
  unfold Rt.whole rz
  by_cases h : z < 0
  · have : 0 < z.natAbs := by omega
    simp [h, this]
  · simp [h]
end Go.Bg
namespace Go.Proofs.YtececkbcinmmpaaGreatDoor
open Go.RowKit Go.Bg Dg
theorem sameB_refl (r : Rt) : sameB r r = true := by unfold sameB; simp
theorem valRat_any (b : Nat) (w : World) :
    Calls Tryz.prog 133 #[.iface 106 (.agg #[.pointer (some ⟨b, 0, none⟩)])] w fun e w' => e = .returned (.iface 99 (.pointer (some ⟨b, 0, none⟩))) ∧ Below w.heap.size w w' := by
  obtain ⟨t1, t2, t3, t4, t5, t6, t7, t8, t9⟩ := ta_ratVal
  have hb := Lib.hid (fun o => Below.alloc' (Below.refl w.heap.size w) o)
  go_enter Tryz.func133, Tryz.ntmps133
  go_wp2
  go_ret
  exact ⟨rfl, hb.out _⟩
theorem partsRat_any (v : Value) (r : Rt) (w : World) (h : CRat w v r) (L : Nat) (hL : L ≤ 100000) (hN : r.num < W64 ^ L) (hD : r.den < W64 ^ L) :
    Calls Tryz.prog 72 #[v] w fun e w' => ∃ a n c a' n' c', e = .returned (.tuple #[.agg #[.bool r.neg, .slice a n c], .slice a' n' c']) ∧ PlainAt w' a n c r.num ∧ PlainAt w' a' n' c' r.den ∧ Below w.heap.size w w' := by
  obtain ⟨W0, hW0⟩ : ∃ W0, W0 = w.alloc (.cells #[.bool false, .slice none 0 0] 24) := ⟨_, rfl⟩
  have HW := Lib.hid hW0
  have hb0 : Below w.heap.size w W0 := by rw [hW0]; exact Below.alloc' (Below.refl _ _) _
  have hr : BlkAt W0 w.heap.size #[.bool false, .slice none 0 0] 24 := by rw [hW0]; exact BlkAt.new _ _ _
  obtain ⟨b, s, N, D, rfl, hR, rfl⟩ := h
  have HR := Lib.hid (hR.keep hb0)
  have HN := Lib.hid (show N < W64 ^ L from hN)
  have HD := Lib.hid (show D < W64 ^ L from hD)
  clear hW0 hR hN hD
  go_enter Tryz.func72, Tryz.ntmps72
  go_upto_region 1 with fail
  rw [← HW.out]
  go_wp2_with fail
  refine (valRat_any b _).mono ?_
  rintro e w1 ⟨rfl, hB1⟩
  have hr1 := hr.keep hB1
  have hb1 := Below.then hb0 (Nat.le_refl _) hB1
  have HR1 := Lib.hid (HR.out.keep hB1)
  clear hr hB1
  obtain ⟨t1, t2, t3, t4, t5, t6⟩ := ta_any_pRat
  go_wp2_with fail
  refine (ratNum_any b _).mono ?_
  rintro e w2 ⟨rfl, rfl⟩
  go_wp2_with fail
  refine (number_any b 0 s N _ HR1.out.a L hL HN.out).mono ?_
  rintro e w2 ⟨a, n, c, rfl, hP, hB2⟩
  have hr2 := hr1.keep hB2
  have hb2 := Below.then hb1 (Nat.le_refl _) hB2
  have HR2 := Lib.hid (HR1.out.keep hB2)
  go_wp2_with fail
  refine (ratDenom_any b false D _ HR2.out.d HR2.out.pos).mono ?_
  rintro e w3 ⟨rfl, rfl⟩
  go_wp2_with fail
  refine (plain_any b 2 false D _ HR2.out.d L hL HD.out).mono ?_
  rintro e w3 ⟨a', n', c', rfl, hQ, hB3⟩
  have hr3 := hr2.keep hB3
  have hb3 := Below.then hb2 (Nat.le_refl _) hB3
  have hP3 := hP.keep hB3
  have c0 := hr3.cell 0
  have c1 := hr3.cell 1
  have f0 := hr3.frozen 0
  have f1 := hr3.frozen 1
  simp only [List.getElem?_toArray, List.getElem?_cons_zero, List.getElem?_cons_succ] at c0 c1
  have ni := noInt_of_blk hr3 noInt_num
  go_wp2
  exact bodyPost_ret (v := .tuple #[.agg #[.bool s, .slice a n c], .slice a' n' c']) (by simp [results, Tryz.results72, go_sem, c0, c1]) rfl
    ⟨_, _, _, _, _, _, rfl, (hP3.setCell _ ni).setCell _ (ni.setCell (by intro k n h; cases h)), (hQ.setCell _ ni).setCell _ (ni.setCell (by intro k n h; cases h)), (hb3.setCell (Nat.le_refl _) _).setCell (Nat.le_refl _) _⟩
theorem PlainAt.updU {w w' : World} {a : Option Addr} {n c N : Nat} {S : Nat → Prop} (h : PlainAt w a n c N) (hu : Upd S w w') (hS : ∀ k, S k → NoU w k) : PlainAt w' a n c N := ⟨h.ws.updU hu hS, h.lt, h.top⟩
theorem plain_hasW {w : World} {a : Option Addr} {n c N : Nat} (h : PlainAt w a n c N) : hasW (dg W64 N) n N = true := by
  have hv := told_val h
  have ht : n = 0 ∨ dg W64 N (n - 1) ≠ 0 := by
    rcases h.top with h0 | h0
    · exact .inl h0
    · by_cases hn : n = 0
      · exact .inl hn
      · right
        have hlt := h.lt
        rw [show n = n - 1 + 1 from by omega, Nat.pow_succ] at hlt
        have hq : N / W64 ^ (n - 1) < W64 := (Nat.div_lt_iff_lt_mul (Nat.pow_pos W64_pos)).2 (by rw [Nat.mul_comm]; exact hlt)
        have hp : 0 < N / W64 ^ (n - 1) := Nat.div_pos h0 (Nat.pow_pos W64_pos)
        rw [dg, Nat.mod_eq_of_lt hq]
        omega
  unfold hasW
  simp only [hv, true_and]
  simpa using ht
structure ROk (r : Rt) : Prop where
  den : 0 < r.den
  sign : r.neg = true → 0 < r.num
  gcd : Nat.gcd r.num r.den = 1
theorem told_fracB {w : World} {r : Rt} (hr : ROk r) {a : Option Addr} {n c : Nat} {a' : Option Addr} {n' c' : Nat} (h : PlainAt w a n c r.num) (h' : PlainAt w a' n' c' r.den) :
    fracB r.neg (dg W64 r.num) n (dg W64 r.den) n' = true ∧ frt r.neg (dg W64 r.num) n (dg W64 r.den) n' = r := by
  have e1 := told_val h
  have e2 := told_val h'
  have w1 := plain_hasW h
  have w2 := plain_hasW h'
  unfold fracB frt isNumB
  rw [e1, e2, w1, w2]
  have hg := hr.gcd
  refine ⟨?_, rfl⟩
  have h1 := hr.den
  cases hs : r.neg
  · simp [h1, hg]
  · have := hr.sign hs
    simp [h1, this, hg]
theorem methodKindRat (x : Value) (w : World) : (method 409 106 x "Kind").run Tryz.prog w = .ok (346, x) w := by kernel_rfl
theorem kindRat_any (p : Value) (w : World) : Calls Tryz.prog 346 #[.agg #[p]] w fun e w' => e = .returned (.int .i64 4) ∧ Below w.heap.size w w' := by
  have HB := Lib.hid (fun o => (Below.refl w.heap.size w).alloc (Nat.le_refl _) o)
  go_enter Tryz.func346, Tryz.ntmps346
  go_wp2
  go_ret
  exact ⟨rfl, HB.out _⟩
def GivesV (P : Vl → Prop) (w : World) (e : Ending) (w' : World) : Prop := ∃ x : Vl, e = .returned (.agg #[.int .i64 x.kind, .bool x.truth, .string x.text, .bool x.neg, .slice x.wa x.wn x.wc, .slice x.da x.dn x.dc, .bool x.ineg, .slice x.ia x.inn x.ic, .slice x.ea x.en x.ec]) ∧ VlAt w' x ∧ P x ∧ Below w.heap.size w w'
theorem GivesV.mono {P Q : Vl → Prop} {w w' : World} {e : Ending} (h : GivesV P w e w') (hPQ : ∀ x, P x → Q x) : GivesV Q w e w' := by
  obtain ⟨x, h1, h2, h3, h4⟩ := h; exact ⟨x, h1, h2, hPQ x h3, h4⟩
def IsZ (z : Int) (L : Nat) (x : Vl) : Prop := intB x = true ∧ x.neg = decide (z < 0) ∧ val W64 x.wf x.wn = z.natAbs ∧ x.wn ≤ L
def IsQ (r : Rt) (L : Nat) (x : Vl) : Prop := ratB x = true ∧ vrt x = r ∧ x.wn ≤ L ∧ x.dn ≤ L
theorem plain_le {w : World} {a : Option Addr} {n c N L : Nat} (h : PlainAt w a n c N) (hN : N < W64 ^ L) : n ≤ L := len_le W64_gt h.top hN
theorem toldRat_end {w w3 w4 : World} {r : Rt} {L : Nat} {S : Nat → Prop} {a : Option Addr} {n c : Nat} {a' : Option Addr} {n' c' : Nat} (hN : r.num < W64 ^ L) (hD : r.den < W64 ^ L) (hr : ROk r) (hP : PlainAt w3 a n c r.num) (hQ : PlainAt w3 a' n' c' r.den)
    (hu : Upd S w3 w4) (hS : ∀ k, S k → NoU w3 k) (hb : Below w.heap.size w w4) :
    GivesV (IsQ r L) w (.returned (.agg #[.int .i64 4, .bool false, .string ⟨#[]⟩, .bool r.neg, .slice a n c, .slice a' n' c', .bool false, .slice none 0 0, .slice none 0 0])) w4 := by
  have hf := told_fracB hr hP hQ
  refine ⟨⟨4, false, ⟨#[]⟩, r.neg, a, n, c, dg W64 r.num, a', n', c', dg W64 r.den, false, none, 0, 0, fun _ => 0, none, 0, 0, fun _ => 0⟩, rfl, ⟨hP.ws.updU hu hS, hQ.ws.updU hu hS, nilWords _, nilWords _, Nat.zero_le _, by simp⟩, ⟨?_, hf.2, plain_le hP hN, plain_le hQ hD⟩, hb⟩
  unfold ratB Vl.restB
  rw [hf.1]
  simp
theorem toldRat_any (v : Value) (r : Rt) (w : World) (h : CRat w v r) (hr : ROk r) (L : Nat) (hL : L ≤ 100000) (hN : r.num < W64 ^ L) (hD : r.den < W64 ^ L) :
    Calls Tryz.prog 47 #[v] w (GivesV (IsQ r L) w) := by
  have HH := Lib.hid h
  have HN := Lib.hid hN
  have HD := Lib.hid hD
  have HR := Lib.hid hr
  clear hN hD hr
  obtain ⟨b, s, N, D, rfl, -, -⟩ := h
  have hm := methodKindRat
  have hb0 : Below w.heap.size w (w.alloc (.cells #[.int .i64 0, .bool false, .string ⟨#[]⟩, .bool false, .slice none 0 0, .slice none 0 0, .bool false, .slice none 0 0, .slice none 0 0] 26)) := Below.alloc' (Below.refl _ _) _
  have hR0 := BlkAt.new w #[.int .i64 0, .bool false, .string ⟨#[]⟩, .bool false, .slice none 0 0, .slice none 0 0, .bool false, .slice none 0 0, .slice none 0 0] 26
  go_enter Tryz.func47, Tryz.ntmps47
  go_wp2_with fail
  refine (kindRat_any _ _).mono ?_
  rintro e w1 ⟨rfl, hB1⟩
  have hR1 := (hR0.keep hB1).keep ((Below.refl _ _).alloc (Nat.le_refl _) (.cells #[.int .i64 4, .bool false, .string ⟨#[]⟩, .bool false, .slice none 0 0, .slice none 0 0, .bool false, .slice none 0 0, .slice none 0 0] 26))
  have hO1 := BlkAt.new w1 #[.int .i64 4, .bool false, .string ⟨#[]⟩, .bool false, .slice none 0 0, .slice none 0 0, .bool false, .slice none 0 0, .slice none 0 0] 26
  have hb1 := Below.alloc' (Below.then hb0 (Nat.le_refl _) hB1) (.cells #[.int .i64 4, .bool false, .string ⟨#[]⟩, .bool false, .slice none 0 0, .slice none 0 0, .bool false, .slice none 0 0, .slice none 0 0] 26)
  have hlt1 := (hR0.keep hB1).lt
  clear hR0 hb0 hB1
  go_wp2_with fail
  refine (kindRat_any _ _).mono ?_
  rintro e w2 ⟨rfl, hB2⟩
  have hR2 := hR1.keep hB2
  have hO2 := hO1.keep hB2
  have hb2 := Below.then hb1 (Nat.le_refl _) hB2
  clear hR1 hO1 hb1 hB2
  go_wp2_with fail
  refine (partsRat_any _ r _ (HH.out.keep hb2) L hL HN.out HD.out).mono ?_
  rintro e w3 ⟨a, n, c, a', n', c', rfl, hP, hQ, hB3⟩
  have hR3 := hR2.keep hB3
  have hO3 := hO2.keep hB3
  have hb3 := Below.then hb2 (Nat.le_refl _) hB3
  have hne : w.heap.size ≠ w1.heap.size := Nat.ne_of_lt hlt1
  clear hR2 hO2 hb2 hB3
  have oc0 := (hO3).cell 0; have oc1 := (hO3).cell 1; have oc2 := (hO3).cell 2; have oc3 := (hO3).cell 3; have oc4 := (hO3).cell 4; have oc5 := (hO3).cell 5; have oc6 := (hO3).cell 6; have oc7 := (hO3).cell 7; have oc8 := (hO3).cell 8; simp only [List.getElem?_toArray, List.getElem?_cons_zero, List.getElem?_cons_succ] at oc0 oc1 oc2 oc3 oc4 oc5 oc6 oc7 oc8
  have of0 := (hO3).frozen 0; have of1 := (hO3).frozen 1; have of2 := (hO3).frozen 2; have of3 := (hO3).frozen 3; have of4 := (hO3).frozen 4; have of5 := (hO3).frozen 5; have of6 := (hO3).frozen 6; have of7 := (hO3).frozen 7; have of8 := (hO3).frozen 8
  have rc0 := (hR3).cell 0; have rc1 := (hR3).cell 1; have rc2 := (hR3).cell 2; have rc3 := (hR3).cell 3; have rc4 := (hR3).cell 4; have rc5 := (hR3).cell 5; have rc6 := (hR3).cell 6; have rc7 := (hR3).cell 7; have rc8 := (hR3).cell 8; simp only [List.getElem?_toArray, List.getElem?_cons_zero, List.getElem?_cons_succ] at rc0 rc1 rc2 rc3 rc4 rc5 rc6 rc7 rc8
  have rf0 := (hR3).frozen 0; have rf1 := (hR3).frozen 1; have rf2 := (hR3).frozen 2; have rf3 := (hR3).frozen 3; have rf4 := (hR3).frozen 4; have rf5 := (hR3).frozen 5; have rf6 := (hR3).frozen 6; have rf7 := (hR3).frozen 7; have rf8 := (hR3).frozen 8
  have HNO := Lib.hid (noU_of_blk hO3 (noU_vals _))
  have HNR := Lib.hid (noU_of_blk hR3 (noU_vals _))
  have HP := Lib.hid hP
  have HQ := Lib.hid hQ
  have HB3 := Lib.hid hb3
  clear hm hP hQ hb3 hO3 hR3
  go_wp2
  refine bodyPost_ret (v := .agg #[.int .i64 4, .bool false, .string ⟨#[]⟩, .bool r.neg, .slice a n c, .slice a' n' c', .bool false, .slice none 0 0, .slice none 0 0]) (by simp [results, Tryz.results47, go_sem, rc0, rc1, rc2, rc3, rc4, rc5, rc6, rc7, rc8]) rfl ?_
  refine toldRat_end HN.out HD.out HR.out HP.out HQ.out (S := fun k => k = w1.heap.size ∨ k = w.heap.size) ?_ ?_ ?_
  · iterate 12 refine Upd.setCell ?_ (by first | exact Or.inl rfl | exact Or.inr rfl) _
    exact Upd.refl _ _
  · rintro k (rfl | rfl)
    · exact HNO.out
    · exact HNR.out
  · iterate 12 refine Below.setCell ?_ (by first | exact Nat.le_refl _ | exact Nat.le_of_lt hlt1) _
    exact HB3.out
theorem givesV_end {w w3 : World} {g : Nat} {T : TypeId} {P : Vl → Prop} {y : Vl} (hR : BlkAt w3 g #[.int .i64 0, .bool false, .string ⟨#[]⟩, .bool false, .slice none 0 0, .slice none 0 0, .bool false, .slice none 0 0, .slice none 0 0] T) (hg : w.heap.size ≤ g) (hb : Below w.heap.size w w3) (hy : VlAt w3 y) (hP : P y) :
    GivesV P w (.returned (.agg #[.int .i64 y.kind, .bool y.truth, .string y.text, .bool y.neg, .slice y.wa y.wn y.wc, .slice y.da y.dn y.dc, .bool y.ineg, .slice y.ia y.inn y.ic, .slice y.ea y.en y.ec])) (((((((((w3.setCell ⟨g, 0, none⟩ (.int .i64 y.kind)).setCell ⟨g, 1, none⟩ (.bool y.truth)).setCell ⟨g, 2, none⟩ (.string y.text)).setCell ⟨g, 3, none⟩ (.bool y.neg)).setCell ⟨g, 4, none⟩ (.slice y.wa y.wn y.wc)).setCell ⟨g, 5, none⟩ (.slice y.da y.dn y.dc)).setCell ⟨g, 6, none⟩ (.bool y.ineg)).setCell ⟨g, 7, none⟩ (.slice y.ia y.inn y.ic)).setCell ⟨g, 8, none⟩ (.slice y.ea y.en y.ec)) := by
  have hU : Upd (· = g) w3 (((((((((w3.setCell ⟨g, 0, none⟩ (.int .i64 y.kind)).setCell ⟨g, 1, none⟩ (.bool y.truth)).setCell ⟨g, 2, none⟩ (.string y.text)).setCell ⟨g, 3, none⟩ (.bool y.neg)).setCell ⟨g, 4, none⟩ (.slice y.wa y.wn y.wc)).setCell ⟨g, 5, none⟩ (.slice y.da y.dn y.dc)).setCell ⟨g, 6, none⟩ (.bool y.ineg)).setCell ⟨g, 7, none⟩ (.slice y.ia y.inn y.ic)).setCell ⟨g, 8, none⟩ (.slice y.ea y.en y.ec)) := by
    iterate 9 refine Upd.setCell ?_ (by exact rfl) _
    exact Upd.refl _ _
  have hS : ∀ k, k = g → NoU w3 k := fun k e => by subst e; exact noU_of_blk hR (noU_vals _)
  exact ⟨y, rfl, ⟨hy.ws.updU hU hS, hy.ds.updU hU hS, hy.is.updU hU hS, hy.es.updU hU hS, hy.text, hy.kind⟩, hP, hU.below hb (Nat.le_trans hb.size (Nat.le_refl _)) (fun k _ e => by subst e; exact hg)⟩
def IsN (r : Rt) (L : Nat) (x : Vl) : Prop := (∃ z, r = rz z ∧ IsZ z L x) ∨ IsQ r L x
structure NumV (x : Vl) (r : Rt) : Prop where
  form : (x.kind = 3 ∧ r = rz (sg x.neg (val W64 x.wf x.wn))) ∨ (x.kind = 4 ∧ 0 < val W64 x.df x.dn ∧ r = mrt x)
  wn : x.wn ≤ 63
  dn : x.dn ≤ 63
  ok : ROk r
theorem NumV.lt {w : World} {x : Vl} {r : Rt} (h : NumV x r) (hx : VlAt w x) : r.num < W64 ^ 63 ∧ r.den < W64 ^ 63 := by
  have h1 : val W64 x.wf x.wn < W64 ^ 63 := Nat.lt_of_lt_of_le (val_lt hx.ws.lt) (Nat.pow_le_pow_right W64_pos h.wn)
  have h2 : val W64 x.df x.dn < W64 ^ 63 := Nat.lt_of_lt_of_le (val_lt hx.ds.lt) (Nat.pow_le_pow_right W64_pos h.dn)
  rcases h.form with ⟨_, rfl⟩ | ⟨_, _, rfl⟩
  · refine ⟨?_, ?_⟩
    · show (sg x.neg (val W64 x.wf x.wn)).natAbs < _
      rw [sg_nat]; exact h1
    · show 1 < _
      exact Nat.lt_of_lt_of_le W64_gt (by rw [show (63 : Nat) = 62 + 1 from rfl, Nat.pow_succ]; exact Nat.le_mul_of_pos_left _ (Nat.pow_pos W64_pos))
  · exact ⟨h1, h2⟩
end Go.Proofs.YtececkbcinmmpaaGreatDoor
