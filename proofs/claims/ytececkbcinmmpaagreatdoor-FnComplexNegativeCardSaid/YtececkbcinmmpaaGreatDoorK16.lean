/-
  Contracts and lemmas: MulN VecD NatB IntK IntM RcmpA.
-/
import Derived.Test.YtececkbcinmmpaaGreatDoorK15
import Derived.Test.YtececkbcinmmpaaGreatDoorK04
import Derived.BigRegion
import Derived.Defers
import Derived.Test.YtececkbcinmmpaaGreatDoorK10
set_option linter.unusedSimpArgs false
set_option linter.unusedVariables false
set_option maxRecDepth 100000
set_option maxHeartbeats 8000000
namespace Go.Proofs.YtececkbcinmmpaaGreatDoor
open Go.RowKit Go.Bg Dg
def Thr (w : World) : Prop := w.cell? ⟨2, 0, none⟩ = some (.int .i64 40)
theorem Thr.keep {w w' : World} (h : Thr w) (hb : Below w.heap.size w w') : Thr w' := cell_keep h hb
theorem mulAddVWW0_any (g o n c0 b1 o1 c1 : Nat) (cur : Array Value) (X y : Nat) (w : World) (hg : BlkAt w g cur 139) (hn : n ≤ 1000000) (hr : o + n ≤ cur.size) (h0 : n ≤ c0) (h0m : c0 ≤ maxLen)
    (h1 : WCells w b1 o1 n (dg W64 X)) (h1c : n ≤ c1) (h1m : c1 ≤ maxLen) (hn1 : b1 ≠ g ∨ o ≤ o1) (hy : y < W64) :
    Calls Tryz.prog 275 #[.slice (some ⟨g, o, none⟩) n c0, .slice (some ⟨b1, o1, none⟩) n c1, .int .u64 y, .int .u64 0] w
      (VecIs g o n cur (dg W64 (X * y)) ((X % W64 ^ n * y) / W64 ^ n) w) :=
  mulAddVWW_any g o n c0 b1 o1 c1 cur X y 0 w hg hn hr h0 h0m h1 h1c h1m hn1 hy W64_pos
theorem natMulW_nil (a1 : Option Addr) (n1 c1 N1 y : Nat) (w : World) (h1 : BigN 139 w a1 n1 c1 N1) (hb1 : n1 ≤ 900000) (hz : 0 < n1) (hy0 : 0 < y) (hy : y < W64) :
    Calls Tryz.prog 237 #[.slice none 0 0, .slice a1 n1 c1, .int .u64 y, .int .u64 0] w (GivesN 139 (N1 * y) w) := by
  have hm1 := h1.num.cm
  have hc1 := h1.num.nc
  unfold maxLen at hm1
  have hz1 : ((n1 : Int) == 0) = false := by simp; omega
  have hy1 : ((y : Int) == 0) = false := by simp; omega
  have hy2 : y < 18446744073709551616 := hy
  obtain ⟨b1, o1, rfl, hl1⟩ := h1.num.form (by omega)
  have HB1 := Lib.hid h1
  have HY := Lib.hid hy
  clear h1 hy
  go_enter Tryz.func237, Tryz.ntmps237
  go_wp2_with fail
  refine (make_nil (n1 + 1) (by omega) _).mono ?_
  rintro e w1 (⟨h, _⟩ | ⟨c, hc0, hcn1, hcn2, rfl, hw⟩)
  case inl => omega
  have hb : BlkAt w1 w.heap.size (Array.replicate c (.int .u64 0)) 139 := by rw [hw]; exact BlkAt.new _ _ _
  have hB1 : Below w.heap.size w w1 := by rw [hw]; exact (Below.refl _ _).alloc (Nat.le_refl _) _
  clear hw
  have HD1 := Lib.hid (HB1.out.num.keep hB1)
  have hsz : (Array.replicate c (Value.int .u64 0)).size = c := by simp
  have hx1 : (n1 : Int) ≤ c := by omega
  have HBK := Lib.hid hb
  have HBD := Lib.hid hB1
  have HLT := Lib.hid (show N1 * y < W64 ^ (n1 + 1) from by
    rw [Nat.pow_succ]
    exact Nat.mul_lt_mul_of_lt_of_le HB1.out.num.lt (Nat.le_of_lt HY.out) W64_pos)
  have HCA := Lib.hid (show (N1 % W64 ^ n1 * y) / W64 ^ n1 = dg W64 (N1 * y) n1 from by
    rw [Nat.mod_eq_of_lt HB1.out.num.lt]
    have hu : dg W64 (N1 * y) n1 = N1 * y / W64 ^ n1 % W64 := rfl
    rw [hu]
    refine (Nat.mod_eq_of_lt (Nat.div_lt_of_lt_mul ?_)).symm
    rw [← Nat.pow_succ]; exact HLT.out)
  clear hb hB1
  go_wp2_with fail
  refine (mulAddVWW0_any w.heap.size 0 n1 c b1 o1 c1 _ N1 y _ HBK.out (by omega) (by rw [hsz]; omega) (by omega) (by unfold maxLen; omega) (HD1.out.wcells0 (Nat.le_refl _)) (by omega) (by unfold maxLen; omega) (.inl (Nat.ne_of_lt hl1)) HY.out).mono ?_
  rintro e w2 ⟨rfl, hR2⟩
  rw [HCA.out]
  clear hx1
  have hroom := hR2.room (j := n1) (by rw [hsz]; omega)
  obtain ⟨⟨u0, p0⟩, f0⟩ := hroom
  obtain ⟨W3, hW3⟩ : ∃ W3, W3 = w2.setCell ⟨w.heap.size, n1, none⟩ (.int .u64 (dg W64 (N1 * y) n1 : Nat)) := ⟨_, rfl⟩
  have HR3 := Lib.hid (hR2.step (by rw [hsz]; omega) rfl)
  have HW3 := Lib.hid hW3
  simp only [Nat.zero_add] at HR3
  rw [← hW3] at HR3
  have HRB := Lib.hid (HR3.out.toB (B := w.heap.size) (Nat.le_refl _) HBD.out.size)
  obtain ⟨cur3, hk1, hk2, hk3, hk4⟩ := HR3.out.blk
  obtain ⟨hcl, hbn⟩ := bigN_row (c := c) (m := n1 + 1) hk1 (by rw [hk2, hsz]) (fun i hi => by have := hk3 i hi; simpa using this) hcn1 (by unfold maxLen; omega) HLT.out
  have HCL := Lib.hid hcl
  have HBN := Lib.hid hbn
  clear hk1 hk2 hk3 hk4 hcl hbn hR2 hW3 hsz
  go_wp2_with fail
  rw [← HW3.out]
  refine (norm_any (some ⟨w.heap.size, 0, none⟩) (n1 + 1) c (dg W64 (N1 * y)) _ (by omega) (by omega) (by unfold maxLen; omega) (by simp) HCL.out).mono ?_
  rintro e w4 ⟨rfl, rfl⟩
  go_wp2
  go_ret
  exact ⟨_, _, _, rfl, HBN.out, HBD.out.trans HRB.out.below⟩
theorem alias_nil (a : Option Addr) (n c : Nat) (w : World) :
    Calls Tryz.prog 151 #[.slice none 0 0, .slice a n c] w fun e w' => e = .returned (.bool false) ∧ ∃ m, w' = w.drewN m := by
  go_enter Tryz.func151, Tryz.ntmps151
  go_wp2
  go_quiet (fail)
  go_wp2
  go_ret
  exact ⟨rfl, _, rfl⟩
theorem natMul_ge (a1 a2 : Option Addr) (n1 n2 c1 c2 N1 N2 : Nat) (w : World) (hK : Thr w) (h1 : BigN 139 w a1 n1 c1 N1) (h2 : BigN 139 w a2 n2 c2 N2) (hb1 : n1 ≤ 300000) (hb2 : n2 < 40) (hge : n2 ≤ n1) (p : Value) :
    Calls Tryz.prog 209 #[.slice none 0 0, p, .slice a1 n1 c1, .slice a2 n2 c2] w (GivesN 139 (N1 * N2) w) := by
  have hm1 := h1.num.cm
  have hm2 := h2.num.cm
  have hc1 := h1.num.nc
  have hc2 := h2.num.nc
  unfold maxLen at hm1 hm2
  have HK := Lib.hid hK
  clear hK
  by_cases z2 : n2 = 0
  · subst z2
    have e2 : N2 = 0 := by have := h2.num.lt; simpa using this
    subst e2
    clear h1 h2
    by_cases z1 : n1 = 0
    · subst z1
      go_enter Tryz.func209, Tryz.ntmps209
      go_wp2
      go_ret
      exact ⟨_, _, _, rfl, BigN.nil _ _, Below.refl _ _⟩
    · have hz1 : ((n1 : Int) == 0) = false := by simpa using z1
      go_enter Tryz.func209, Tryz.ntmps209
      go_wp2
      go_ret
      exact ⟨_, _, _, rfl, BigN.nil _ _, Below.refl _ _⟩
  have hz1 : ((n1 : Int) == 0) = false := by simp; omega
  have hz2 : ((n2 : Int) == 0) = false := by simpa using z2
  obtain ⟨b1, o1, rfl, hl1⟩ := h1.num.form (by omega)
  obtain ⟨b2, o2, rfl, hl2⟩ := h2.num.form (by omega)
  have HB1 := Lib.hid h1
  have HB2 := Lib.hid h2
  by_cases z3 : n2 = 1
  · subst z3
    have e2 := h2.num.cell (i := 0) (by omega)
    rw [Nat.add_zero] at e2
    have hlt2 := h2.num.lt
    have htop := h2.num.top
    rw [Nat.pow_one] at hlt2
    have hd : dg W64 N2 0 = N2 := by unfold dg; rw [Nat.pow_zero, Nat.div_one, Nat.mod_eq_of_lt hlt2]
    rw [hd] at e2
    have h20 : 0 < N2 := by rcases htop with h | h <;> simp at h; omega
    have HL2 := Lib.hid hlt2
    clear h1 h2 hlt2 htop hd
    go_enter Tryz.func209, Tryz.ntmps209
    go_wp2_with fail
    refine (natMulW_nil _ n1 c1 N1 N2 _ HB1.out (by omega) (by omega) h20 HL2.out).mono ?_
    rintro e w1 ⟨a, n, c, rfl, hN, hB⟩
    go_wp2
    go_ret
    exact ⟨_, _, _, rfl, hN, hB⟩
  · have hz3 : ((n2 : Int) == 1) = false := by simp; omega
    clear h1 h2
    go_enter Tryz.func209, Tryz.ntmps209
    go_wp2_with fail
    refine (alias_nil _ n1 c1 _).mono ?_
    rintro e w1 ⟨rfl, q1, rfl⟩
    go_wp2_with fail
    refine (alias_nil _ n2 c2 _).mono ?_
    rintro e w2 ⟨rfl, q2, rfl⟩
    obtain ⟨W2, hW2⟩ : ∃ W2, W2 = w.drewN (q1 + q2) := ⟨_, rfl⟩
    have hbq : Below w.heap.size w W2 := by rw [hW2]; exact below_drewN (Below.refl _ _) _
    go_wp2_with fail
    rw [← hW2]
    refine (make_nil (n1 + n2) (by omega) _).mono ?_
    rintro e w3 (⟨h, _⟩ | ⟨c, hc0, hcn1, hcn2, rfl, hw⟩)
    case inl => omega
    have hb : BlkAt w3 W2.heap.size (Array.replicate c (.int .u64 0)) 139 := by rw [hw]; exact BlkAt.new _ _ _
    have hB3 : Below W2.heap.size W2 w3 := by rw [hw]; exact (Below.refl _ _).alloc (Nat.le_refl _) _
    have hbd := Below.then hbq (Nat.le_refl _) hB3
    clear hw hW2
    have HD1 := Lib.hid (HB1.out.num.keep hbd)
    have HD2 := Lib.hid (HB2.out.num.keep hbd)
    have hk := HK.out.keep hbd
    unfold Thr at hk
    have hsz : (Array.replicate c (Value.int .u64 0)).size = c := by simp
    have HBK := Lib.hid hb
    have HBD := Lib.hid hbd
    have HLT := Lib.hid (show N1 * N2 < W64 ^ (n1 + n2) from by
      rw [Nat.pow_add]
      exact Nat.mul_lt_mul_of_lt_of_le HB1.out.num.lt (Nat.le_of_lt HB2.out.num.lt) (Nat.pow_pos W64_pos))
    have HG1 := Lib.hid (show b1 ≠ W2.heap.size from Nat.ne_of_lt (Nat.lt_of_lt_of_le hl1 hbq.size))
    have HG2 := Lib.hid (show b2 ≠ W2.heap.size from Nat.ne_of_lt (Nat.lt_of_lt_of_le hl2 hbq.size))
    have HWS := Lib.hid hbq.size
    clear hb hbd hbq hB3
    have hcast : ((n1 + n2 : Nat) : Int) = (n1 : Int) + n2 := by omega
    go_wp2_with fail
    refine (basicMul_any W2.heap.size (n1 + n2) c b1 o1 n1 c1 b2 o2 n2 c2 _ N1 N2 _ HBK.out hsz hcn1 (Nat.le_refl _) (by unfold maxLen; omega) (by omega) (by omega) (by omega) (by omega) (HD1.out.wcells0 (Nat.le_refl _)) (by omega) (by unfold maxLen; omega) (HD2.out.wcells0 (Nat.le_refl _)) (by omega) (by unfold maxLen; omega) HG1.out HG2.out HB1.out.num.lt HB2.out.num.lt).mono ?_
    rintro e w4 ⟨rfl, hR⟩
    have HRB := Lib.hid (hR.toB (B := w.heap.size) HWS.out HBD.out.size)
    obtain ⟨cur3, hk1, hk2, hk3, hk4⟩ := hR.blk
    obtain ⟨hcl, hbn⟩ := bigN_row (c := c) (m := n1 + n2) hk1 (by rw [hk2, hsz]) (fun i hi => by have := hk3 i hi; simpa using this) hcn1 (by unfold maxLen; omega) HLT.out
    have HCL := Lib.hid hcl
    have HBN := Lib.hid hbn
    clear hk1 hk2 hk3 hk4 hcl hbn hR hsz hk
    go_wp2_with fail
    refine (norm_any (some ⟨W2.heap.size, 0, none⟩) (n1 + n2) c (dg W64 (N1 * N2)) _ (by omega) (by omega) (by unfold maxLen; omega) (by simp) HCL.out).mono ?_
    rintro e w5 ⟨rfl, rfl⟩
    go_wp2
    go_ret
    exact ⟨_, _, _, rfl, HBN.out, HBD.out.trans HRB.out.below⟩
theorem natMul_nil (a1 a2 : Option Addr) (n1 n2 c1 c2 N1 N2 : Nat) (w : World) (hK : Thr w) (h1 : BigN 139 w a1 n1 c1 N1) (h2 : BigN 139 w a2 n2 c2 N2) (hb1 : n1 ≤ 300000) (hb2 : n2 ≤ 300000) (hb : n1 < 40 ∨ n2 < 40) (p : Value) :
    Calls Tryz.prog 209 #[.slice none 0 0, p, .slice a1 n1 c1, .slice a2 n2 c2] w (GivesN 139 (N1 * N2) w) := by
  by_cases hge : n2 ≤ n1
  · exact natMul_ge a1 a2 n1 n2 c1 c2 N1 N2 w hK h1 h2 hb1 (by omega) hge p
  · have hlt : n1 < n2 := by omega
    have HS := Lib.hid (natMul_ge a2 a1 n2 n1 c2 c1 N2 N1 w hK h2 h1 hb2 (by omega) (by omega) p)
    have hm1 := h1.num.cm
    have hm2 := h2.num.cm
    unfold maxLen at hm1 hm2
    have hc1 := h1.num.nc
    have hc2 := h2.num.nc
    clear h1 h2 hge
    go_enter Tryz.func209, Tryz.ntmps209
    go_wp2_with fail
    refine HS.out.mono ?_
    rintro e w1 ⟨a, n, c, rfl, hN, hB⟩
    rw [Nat.mul_comm N2 N1] at hN
    go_wp2
    go_ret
    exact ⟨_, _, _, rfl, hN, hB⟩
theorem pow_ge_one {k : Nat} (hk : 1 ≤ k) : W64 ≤ W64 ^ k := by
  obtain ⟨d, rfl⟩ : ∃ d, k = d + 1 := ⟨k - 1, by omega⟩
  rw [Nat.pow_succ]; exact Nat.le_mul_of_pos_left _ (Nat.pow_pos W64_pos)
theorem subw_same {X y k i : Nat} (hy : y < W64) (hXy : y ≤ X) (h : bor X y k = 0) (hk : 1 ≤ k) (hi : k ≤ i) : dg W64 (X - y) i = dg W64 X i := by
  obtain ⟨j, rfl⟩ : ∃ j, i = k + j := ⟨i - k, by omega⟩
  have hb : (if X % W64 ^ k < y % W64 ^ k then 1 else 0 : Nat) = 0 := h
  rw [← dg_div, ← dg_div, subb W64_pos hXy, hb, Nat.div_eq_of_lt (Nat.lt_of_lt_of_le hy (pow_ge_one hk))]
  rfl
theorem bor_none {X y k n : Nat} (hy : y < W64) (h : bor X y k = 0) (hk : 1 ≤ k) (hkn : k ≤ n) : bor X y n = 0 := by
  have e : ∀ m, 1 ≤ m → y % W64 ^ m = y := fun m hm => Nat.mod_eq_of_lt (Nat.lt_of_lt_of_le hy (pow_ge_one hm))
  unfold bor at h ⊢
  rw [e k hk] at h
  rw [e n (by omega)]
  have h1 : ¬ X % W64 ^ k < y := fun hh => by rw [if_pos hh] at h; cases h
  refine if_neg (fun hh => h1 (Nat.lt_of_le_of_lt ?_ hh))
  obtain ⟨d, rfl⟩ : ∃ d, n = k + d := ⟨n - k, by omega⟩
  have := Nat.mod_mul (x := X) (a := W64 ^ k) (b := W64 ^ d)
  rw [Nat.pow_add, this]
  exact Nat.le_add_right _ _
theorem subVW_any (B g o n c0 b1 o1 c1 : Nat) (cur cur1 : Array Value) (T1 : TypeId) (X y : Nat) (w : World) (hg : BlkAt w g cur 139) (hg1 : BlkAt w b1 cur1 T1) (hBg : B ≤ g) (hBw : B ≤ w.heap.size) (hn1 : 1 ≤ n) (hn : n ≤ 1000000) (hr : o + n ≤ cur.size) (h0 : n ≤ c0) (h0m : c0 ≤ maxLen)
    (h1 : WCells w b1 o1 n (dg W64 X)) (h1c : n ≤ c1) (h1m : c1 ≤ maxLen) (hne : b1 ≠ g) (hy : y < W64) (hXy : y ≤ X) :
    Calls Tryz.prog 208 #[.slice (some ⟨g, o, none⟩) n c0, .slice (some ⟨b1, o1, none⟩) n c1, .int .u64 y] w
      (VecBs B g o n cur (dg W64 (X - y)) (bor X y n) w) := by
  unfold maxLen at h0m h1m
  obtain ⟨j, hj, hj1⟩ := infoWordJ
  have hy' : y < 18446744073709551616 := W64_lt hy
  have HG := Lib.hid hg
  have HG1 := Lib.hid hg1
  have H1 := Lib.hid h1
  have e1 := h1 0 (by omega)
  rw [Nat.add_zero] at e1
  have d1 : dg W64 X 0 < 18446744073709551616 := W64_lt (dg_lt W64_pos _ _)
  have HS := Lib.hid (subw_step hXy 0)
  have HY := Lib.hid (show ∀ k, 1 ≤ k → dg W64 y k = 0 from fun k hk => dg_of_lt (Nat.lt_of_lt_of_le hy (by obtain ⟨d, rfl⟩ : ∃ d, k = d + 1 := ⟨k - 1, by omega⟩; rw [Nat.pow_succ]; exact Nat.le_mul_of_pos_left _ (Nat.pow_pos W64_pos))))
  have hy0 : dg W64 y 0 = y := by simp [dg, Nat.mod_eq_of_lt hy]
  rw [hy0, bor_zero] at HS
  have HYL := Lib.hid hy
  clear hy0
  have hroom := (RowUp.start hg o (dg W64 (X - y))).room (j := o) (by omega)
  obtain ⟨⟨u0, p0⟩, f0⟩ := hroom
  have HX := Lib.hid (show dg W64 X 0 = dg W64 X 0 from rfl)
  have hn0 : ((n : Int) == 0) = false := by simp; omega
  clear hg hg1 h1 hy
  generalize hx : dg W64 X 0 = x at *
  have HE := Lib.hid (show (x + 18446744073709551616 - y - 0) % 18446744073709551616 = dg W64 (X - y) 0 from HS.out.1)
  have HF := Lib.hid (show (if x < y + 0 then 1 else 0 : Nat) = bor X y 1 from HS.out.2)
  have hdl : (x + 18446744073709551616 - y - 0) % 18446744073709551616 < 18446744073709551616 := Nat.mod_lt _ (by decide)
  have hcl : (if x < y + 0 then 1 else 0 : Nat) ≤ 1 := by split <;> omega
  have HC := Lib.hid (fun w => bitsSub_any x y 0 (by omega) w)
  generalize (x + 18446744073709551616 - y - 0) % 18446744073709551616 = s at *
  generalize hcc : (if x < y + 0 then 1 else 0 : Nat) = cc at *
  clear hx hcc
  go_enter Tryz.func208, Tryz.ntmps208
  go_wp2_with fail
  refine (HC.out _).mono ?_
  rintro e w1 ⟨rfl, rfl⟩
  have HR := Lib.hid ((RowUp.start HG.out o (dg W64 (X - y))).step (by omega) HE.out)
  simp only [Nat.add_zero, Nat.zero_add] at HR
  obtain ⟨W1, hW1⟩ : ∃ W1, W1 = w.setCell ⟨g, o, none⟩ (.int .u64 (s : Nat)) := ⟨_, rfl⟩
  have HW1 := Lib.hid hW1
  rw [← hW1] at HR
  obtain ⟨cur', hk1, hk2, hk3, hk4⟩ := HR.out.blk
  have hk5 := HR.out.upd.blk HG1.out hne
  have HQ := Lib.hid (fun q => run_neq_ptr_other (P := Tryz.prog) (a := ⟨g, o, none⟩) (b := ⟨b1, o1, none⟩) (W1.drewN q) Tryz.underlying219 hj (by rw [hj1]; decide) (by intro h; injection h with h _ _; exact hne h.symm) hk1 hk5)
  clear hW1
  by_cases hc0 : cc = 0
  · subst hc0
    go_upto_region 8 with fail
    rw [← HW1.out]
    have hq := HQ.out
    go_quiet (fail)
    go_upto_region 9 with fail
    have hbd : Below W1.heap.size W1 (W1.drewN (nq + 1)) := below_drewN (Below.refl _ _) (nq + 1)
    have hk1' := hk1.keep hbd
    have HG2 := Lib.hid (show (W1.drewN (nq + 1)).heap[g]? = some (.cells cur'.toList.toArray 139 (0, 0)) from by unfold BlkAt at hk1'; simpa using hk1')
    have HSRC := Lib.hid (show ∀ j v, (wlf X 1 (n - 1))[j]? = some v → (W1.drewN (nq + 1)).cell? ((⟨b1, o1 + 1, none⟩ : Addr).add j) = some v from by
      intro j v hjv
      have hjn : j < n - 1 := by
        have := (List.getElem?_eq_some_iff.1 hjv).1
        rwa [wlf_len] at this
      rw [wlf_get hjn] at hjv
      rw [← hjv, Addr.add_lit, show o1 + 1 + j = o1 + (1 + j) from by omega]
      exact cell_keep (HR.out.read HG.out (H1.out (1 + j) (by omega)) (.inl hne) (by omega)) hbd)
    have HB2 := Lib.hid (((HR.out.toB hBg hBw).below).trans (hbd.mono (Nat.le_trans hBw HR.out.upd.size)))
    have HT := Lib.hid (show o + 1 + (wlf X 1 (n - 1)).length ≤ cur'.toList.length from by rw [wlf_len]; simp; omega)
    have HL := Lib.hid (wlf_len X 1 (n - 1))
    have hn1i : (1 : Int) ≤ n := by omega
    have HNC := Lib.hid (show bor X y 1 = 0 from HF.out.symm)
    clear hbd hk1'
    go_region_law (refine step_copy_splice rfl (.tmp 40) (.tmp 42) 138 138 rfl 139 Tryz.underlying138 infoWordSize _ _ _ _ _ _ rfl rfl g (o + 1) cur'.toList 139 HG2.out (wlf X 1 (n - 1)) (by rw [HL.out]; exact (Nat.min_self _).symm) (fun h0 => by rw [HL.out] at h0; exact ⟨if_neg (by omega), ⟨b1, o1 + 1, none⟩, if_neg (by omega), HSRC.out⟩) HT.out (wlf_one _ _ _) B w HB2.out hBg ?_; intro w4 hg4 hb4)
    all_goals go_wp2
    all_goals
      go_ret
      refine ⟨ret_u64 ?_, rowB_spliced (k := 1) (by omega) hk2 (by omega) hk3 hk4 hg4 hb4 (fun i hi _ => subw_same HYL.out hXy HNC.out (by omega) hi)⟩
      exact (bor_none HYL.out HNC.out (by omega) (by omega)).symm
  · obtain rfl : cc = 1 := by omega
    have HC1 := Lib.hid (show bor X y 1 = 1 from HF.out.symm)
    go_upto_region 11 with fail
    rw [← HW1.out]
    clear hk1 hk2 hk3 hk4 hk5 p0 f0 e1 hc0 hcl
    go_wp2
    go_loopw [6, 9, 10] (fun _ i _ wr => ∃ k : Nat, 1 ≤ k ∧ k ≤ n ∧ i = .int .i64 k ∧ bor X y k = 1 ∧ RowUp 139 w wr g o k cur (dg W64 (X - y)))
      (fun _ i _ _ => n - (intOf i).toNat)
    case atStart => exact ⟨1, Nat.le_refl _, hn1, rfl, HC1.out, HR.out⟩
    case round =>
      obtain ⟨k, hk0, hk, rfl, hca, hR⟩ := hrel
      have HCA := Lib.hid hca
      clear hca
      by_cases k1 : k < n
      · have e1 := hR.read HG.out (H1.out k k1) (.inl hne) (Nat.le_refl _)
        have d1 : dg W64 X k < 18446744073709551616 := W64_lt (dg_lt W64_pos _ _)
        have HS2 := Lib.hid (subw_step hXy k)
        rw [HCA.out, HY.out k hk0] at HS2
        have HRR := Lib.hid hR
        have hroom := hR.room (j := o + k) (by omega)
        obtain ⟨⟨u0, p0⟩, f0⟩ := hroom
        clear hR
        generalize hx : dg W64 X k = xk at *
        clear hx
        by_cases hm : xk = 0
        · subst hm
          have HE2 := Lib.hid (show 18446744073709551615 = dg W64 (X - y) k from by rw [← HS2.out.1])
          have HF2 := Lib.hid (show bor X y (k + 1) = 1 from by rw [← HS2.out.2]; rfl)
          go_wp2
          go_roundw
          case rel => exact ⟨k + 1, by omega, by omega, by go_num, HF2.out, HRR.out.step (x := 18446744073709551615) (by omega) HE2.out⟩
          case measure => simp [intOf]; omega
        · have hmb : ((xk : Int) != 0) = true := by simp; omega
          have hxw : 1 ≤ xk := by omega
          have HE2 := Lib.hid (show xk - 1 = dg W64 (X - y) k from by rw [← HS2.out.1]; omega)
          have HF2 := Lib.hid (show bor X y (k + 1) = 0 from by rw [← HS2.out.2]; exact if_neg (by omega))
          have hcast : ((xk - 1 : Nat) : Int) = xk - 1 := by omega
          go_upto_region 17 with fail
          obtain ⟨W2, hW2⟩ : ∃ W2, W2 = wr.setCell ⟨g, o + k, none⟩ (.int .u64 ((xk : Int) - 1)) := ⟨_, rfl⟩
          have HR2 := Lib.hid (HRR.out.step (x := xk - 1) (by omega) HE2.out)
          rw [hcast, ← hW2] at HR2
          rw [← hW2]
          obtain ⟨cur', hk1, hk2, hk3, hk4⟩ := HR2.out.blk
          have hk5 := HR2.out.upd.blk HG1.out hne
          have HQ2 := Lib.hid (fun q => run_neq_ptr_other (P := Tryz.prog) (a := ⟨g, o, none⟩) (b := ⟨b1, o1, none⟩) (W2.drewN q) Tryz.underlying219 hj (by rw [hj1]; decide) (by intro h; injection h with h _ _; exact hne h.symm) hk1 hk5)
          clear hW2 hcast p0 f0 e1
          have hq := HQ2.out
          go_quiet (fail)
          go_upto_region 18 with fail
          clear hq
          have hbd : Below W2.heap.size W2 (W2.drewN (nq + 1)) := below_drewN (Below.refl _ _) (nq + 1)
          have hk1' := hk1.keep hbd
          have HG2 := Lib.hid (show (W2.drewN (nq + 1)).heap[g]? = some (.cells cur'.toList.toArray 139 (0, 0)) from by unfold BlkAt at hk1'; simpa using hk1')
          have HSRC := Lib.hid (show ∀ j v, (wlf X (k + 1) (n - (k + 1)))[j]? = some v → (W2.drewN (nq + 1)).cell? ((⟨b1, o1 + (k + 1), none⟩ : Addr).add j) = some v from by
            intro j v hjv
            have hjn : j < n - (k + 1) := by
              have := (List.getElem?_eq_some_iff.1 hjv).1
              rwa [wlf_len] at this
            rw [wlf_get hjn] at hjv
            rw [← hjv, Addr.add_lit, show o1 + (k + 1) + j = o1 + (k + 1 + j) from by omega]
            exact cell_keep (HR2.out.read HG.out (H1.out (k + 1 + j) (by omega)) (.inl hne) (by omega)) hbd)
          have HB2 := Lib.hid (((HR2.out.toB hBg hBw).below).trans (hbd.mono (Nat.le_trans hBw HR2.out.upd.size)))
          have HT := Lib.hid (show o + (k + 1) + (wlf X (k + 1) (n - (k + 1))).length ≤ cur'.toList.length from by rw [wlf_len]; simp; omega)
          have HL := Lib.hid (wlf_len X (k + 1) (n - (k + 1)))
          have s1 : IntKind.i64.wrap ((k : Int) + 1) = (k : Int) + 1 := IntWalk.i64_in _ (by omega)
          have s2 : (0 : Int) ≤ (k : Int) + 1 := by omega
          have s3 : (k : Int) + 1 ≤ n := by omega
          have s4 : ((k : Int) + 1).toNat = k + 1 := by omega
          clear hbd hk1'
          go_region_law (refine step_copy_splice rfl (.tmp 69) (.tmp 73) 138 138 rfl 139 Tryz.underlying138 infoWordSize (if c0 = k + 1 then some ⟨g, o, none⟩ else some ⟨g, o + (k + 1), none⟩) (if c1 = k + 1 then some ⟨b1, o1, none⟩ else some ⟨b1, o1 + (k + 1), none⟩) (n - (k + 1)) (c0 - (k + 1)) (n - (k + 1)) (c1 - (k + 1)) (by simp [Act.eval, Act.put]) (by simp [Act.eval, Act.put]) g (o + (k + 1)) cur'.toList 139 HG2.out (wlf X (k + 1) (n - (k + 1))) (by rw [HL.out]; exact (Nat.min_self _).symm) (fun h0 => by rw [HL.out] at h0; exact ⟨if_neg (by omega), ⟨b1, o1 + (k + 1), none⟩, if_neg (by omega), HSRC.out⟩) HT.out (wlf_one _ _ _) B w HB2.out hBg ?_; intro w4 hg4 hb4)
          all_goals go_wp2
          all_goals
            go_ret
            refine ⟨ret_u64 ?_, rowB_spliced (k := k + 1) (by omega) hk2 (by omega) hk3 hk4 hg4 hb4 (fun i hi _ => subw_same HYL.out hXy HF2.out (by omega) hi)⟩
            exact (bor_none HYL.out HF2.out (by omega) (by omega)).symm
      · obtain rfl : k = n := by omega
        go_wp2
        go_ret
        exact ⟨ret_u64 HCA.out.symm, hR.toB hBg hBw⟩
theorem sub_high {N1 N2 n m : Nat} (hle : N2 ≤ N1) (h1 : N1 < W64 ^ m) (h2 : N2 < W64 ^ n) (hnm : n ≤ m) :
    (N1 - N2) / W64 ^ n = N1 / W64 ^ n - bor N1 N2 n ∧ bor N1 N2 n ≤ N1 / W64 ^ n ∧ bor (N1 / W64 ^ n) (bor N1 N2 n) (m - n) = 0 ∧ (m = n → bor N1 N2 n = 0) := by
  have e2 : N2 % W64 ^ n = N2 := Nat.mod_eq_of_lt h2
  have hb := bor_le N1 N2 n
  have e1 : (N1 - N2) / W64 ^ n = N1 / W64 ^ n - bor N1 N2 n := by
    rw [subb W64_pos hle, Nat.div_eq_of_lt h2]; rfl
  have hx : bor N1 N2 n ≤ N1 / W64 ^ n := by
    by_cases h : N1 % W64 ^ n < N2 % W64 ^ n
    · have hq : bor N1 N2 n = 1 := if_pos h
      rw [hq]
      refine Nat.div_pos ?_ (Nat.pow_pos W64_pos)
      rcases Nat.lt_or_ge N1 (W64 ^ n) with hh | hh
      · rw [Nat.mod_eq_of_lt hh, e2] at h; omega
      · exact hh
    · have hq : bor N1 N2 n = 0 := if_neg h
      rw [hq]; exact Nat.zero_le _
  obtain ⟨d, rfl⟩ : ∃ d, m = n + d := ⟨m - n, by omega⟩
  have hX : N1 / W64 ^ n < W64 ^ d := (Nat.div_lt_iff_lt_mul (Nat.pow_pos W64_pos)).2 (by rw [Nat.mul_comm, ← Nat.pow_add]; exact h1)
  refine ⟨e1, hx, ?_, fun h => ?_⟩
  · rw [show n + d - n = d from by omega]
    refine if_neg ?_
    rw [Nat.mod_eq_of_lt hX]
    have := Nat.mod_le (bor N1 N2 n) (W64 ^ d)
    omega
  · obtain rfl : d = 0 := by omega
    rw [Nat.pow_zero] at hX
    omega
theorem sum_same (s : Bool) (N M : Nat) : sg (s && decide (0 < N + M)) (N + M) = sg s N + sg s M := by
  cases s
  · simp [sg]
  · by_cases h : 0 < N + M
    · simp [sg, h]; omega
    · obtain rfl : N = 0 := by omega
      obtain rfl : M = 0 := by omega
      rfl
theorem sum_other {s t : Bool} {N M : Nat} (hst : s ≠ t) (hle : M ≤ N) : sg (s && decide (0 < N - M)) (N - M) = sg s N + sg t M := by
  cases s <;> cases t <;> simp at hst
  · simp [sg]; omega
  · by_cases h : 0 < N - M
    · simp [sg, h]; omega
    · simp [sg, h]; omega
theorem sum_other' {s t : Bool} {N M : Nat} (hst : s ≠ t) (hlt : N < M) : sg (!s && decide (0 < M - N)) (M - N) = sg s N + sg t M := by
  cases s <;> cases t <;> simp at hst
  · have h : 0 < M - N := by omega
    simp [sg, h]; omega
  · simp [sg]; omega
theorem sg_not (t : Bool) (M : Nat) : sg (!t) M = -sg t M := by cases t <;> simp [sg]
theorem cmpK_ge {N M : Nat} (h : M ≤ N) : decide (0 ≤ cmpI N M) = true := by
  unfold cmpI; simp; split
  · omega
  · split <;> omega
theorem cmpK_lt {N M : Nat} (h : N < M) : decide (0 ≤ cmpI N M) = false := by
  unfold cmpI; rw [if_pos h]; rfl
theorem sg_mul (s t : Bool) (N M : Nat) : sg ((s != t) && decide (0 < N * M)) (N * M) = sg s N * sg t M := by
  by_cases h : 0 < N * M
  · cases s <;> cases t <;> simp [sg, h, Int.neg_mul, Int.mul_neg]
  · have e : N * M = 0 := by omega
    have e' : (N : Int) * (M : Int) = 0 := by rw [← Int.natCast_mul, e]; rfl
    cases s <;> cases t <;> simp [sg, e, e', Int.neg_mul, Int.mul_neg]
theorem getStack_any (w : World) : Calls Tryz.prog 160 #[] w fun e w' => e = .returned (.pointer (some ⟨w.heap.size, 0, none⟩)) ∧ w' = w.alloc (.cells #[.pointer none] 225) := by
  go_enter Tryz.func160, Tryz.ntmps160
  go_wp2
  go_ret
  exact ⟨rfl, rfl⟩
theorem free_d (g : Nat) (u : FrameMode) (w : World) (h : w.cell? ⟨g, 0, none⟩ = some (.pointer none)) :
    CallsD Tryz.prog 161 #[.pointer (some ⟨g, 0, none⟩)] u w fun e u' w' => u' = u ∧ (e = .returned (.tuple #[]) ∧ w' = w) := by
  go_enter_d Tryz.func161, Tryz.ntmps161
  go_wp2
  go_end0
  exact ⟨rfl, rfl⟩
def SetTo (d p : Nat) (s : Bool) (R : Nat) (w : World) (e : Ending) (w' : World) : Prop := e = .returned (.tuple #[]) ∧ BigAt 139 w' d p s R ∧ UpdI 139 d p w w'
theorem scaleDenom_new (d p b o : Nat) (s : Bool) (N : Nat) (af : Option Addr) (nf cf F : Nat) (q : Value) (w : World) (hK : Thr w) (h : NewInt w d p) (h1 : BigAt 139 w b o s N) (h2 : BigN 139 w af nf cf F) (hF : 0 < F) (hne : b ≠ d) (L : Nat) (hL : L < 40) (hN : N < W64 ^ L) (hFL : F < W64 ^ L) :
    Calls Tryz.prog 162 #[.pointer (some ⟨d, p, none⟩), q, .pointer (some ⟨b, o, none⟩), .slice af nf cf] w (SetTo d p s (N * F) w) := by
  obtain ⟨a, n, c, p0, p1, hNN⟩ := h1.val
  have hn : n ≤ L := len_le W64_gt hNN.num.top hN
  have hnf : nf ≤ L := len_le W64_gt h2.num.top hFL
  have hnf0 : ((nf : Int) == 0) = false := by
    have hp := natAt_pos_len h2.num
    have : 0 < nf := by simpa [hF] using hp
    simp; omega
  have hcm := h2.num.cm
  have hnc := h2.num.nc
  have HZ := Lib.hid (show s = true → 0 < N * F from fun hs => Nat.mul_pos (h1.zero hs) hF)
  have HH := Lib.hid h
  have HN := Lib.hid hNN
  have H2 := Lib.hid h2
  have HK := Lib.hid hK
  have HP0 := Lib.hid p0
  have k1 := h.c1
  clear h h1 hNN hN p0 h2 hK
  go_enter Tryz.func162, Tryz.ntmps162
  go_upto_region 2 with fail
  have hd0 : ∀ q, Below w.heap.size w (w.drewN q) := fun q => below_drewN (Below.refl w.heap.size w) q
  go_region_with
    ((go_at_call 209; (with_reducible refine (natMul_nil a af n nf c cf N F _ ?_ ?_ ?_ (by omega) (by omega) (.inl (by omega)) q).mono ?_); exact HK.out.keep (hd0 _); exact HN.out.keep (hd0 _); exact H2.out.keep (hd0 _); rintro e w1 ⟨a2, n2, c2, rfl, hN2, hB⟩; have hB1 := Below.then (hd0 _) (Nat.le_refl _) hB; have HF := Lib.hid (HH.out.made hB1 (s := s) hN2 HZ.out); have h' := HH.out.keep hB1; obtain ⟨u0, k0⟩ := h'.c0; have k1' := h'.c1; have f0 := h'.blk.frozen p; have f1 := h'.blk.frozen (p + 1); have k0' : ∀ v, (w1.setCell ⟨d, p + 1, none⟩ v).cell? ⟨d, p, none⟩ = some u0 := (fun v => by rw [World.cell?_setCell_other _ _ _ _ (fun hh => by injection hh with _ hh _; omega)]; exact k0); have x0' : ∀ v, (w1.setCell ⟨d, p + 1, none⟩ v).cell? ⟨b, o, none⟩ = some (.bool s) := (fun v => by rw [World.cell?_setCell_other _ _ _ _ (fun hh => by injection hh with hh _ _; exact hne hh.symm)]; exact cell_keep HP0.out hB1); clear hN2 h'))
  all_goals
    clear p1 k1
    go_wp2
    go_end0
    exact ⟨rfl, HF.out.2⟩
end Go.Proofs.YtececkbcinmmpaaGreatDoor
