/-
  Contracts and lemmas: VecD NatB NatC NatD UnkA ToiA ShI KnuP KnuR KnuG CopR.
-/
import Derived.Test.YtececkbcinmmpaaGreatDoorM14
import Derived.Test.YtececkbcinmmpaaGreatDoorM12
import Derived.Test.YtececkbcinmmpaaGreatDoorM10
import Derived.Test.YtececkbcinmmpaaGreatDoorM17
import Derived.Test.YtececkbcinmmpaaGreatDoorM16
import Derived.Test.YtececkbcinmmpaaGreatDoorM13
set_option linter.unusedSimpArgs false
set_option linter.unusedVariables false
set_option maxRecDepth 100000
set_option maxHeartbeats 8000000
namespace Go.Proofs.YtececkbcinmmpaaGreatDoor
open Go.RowKit Go.Bg Dg
theorem pow_ge_one {k : Nat} (hk : 1 ≤ k) : W64 ≤ W64 ^ k := by
  obtain ⟨d, rfl⟩ : ∃ d, k = d + 1 := ⟨k - 1, by omega⟩
  rw [Nat.pow_succ]; exact Nat.le_mul_of_pos_left _ (Nat.pow_pos W64_pos)
theorem subw_same {X y k i : Nat} (hy : y < W64) (hXy : y ≤ X) (h : bor X y k = 0) (hk : 1 ≤ k) (hi : k ≤ i) : dg W64 (X - y) i = dg W64 X i := by
  obtain ⟨j, rfl⟩ : ∃ j, i = k + j := ⟨i - k, by omega⟩
  have hb : (if X % W64 ^ k < y % W64 ^ k then 1 else 0 : Nat) = 0 := h
  rw [← Dg.dg_div, ← Dg.dg_div, subb W64_pos hXy, hb, Nat.div_eq_of_lt (Nat.lt_of_lt_of_le hy (pow_ge_one hk))]
  rfl
theorem bor_none {X y k n : Nat} (hy : y < W64) (h : bor X y k = 0) (hk : 1 ≤ k) (hkn : k ≤ n) : bor X y n = 0 := by
  have e : ∀ m, 1 ≤ m → y % W64 ^ m = y := fun m hm => Nat.mod_eq_of_lt (Nat.lt_of_lt_of_le hy (pow_ge_one hm))
  unfold bor at h ⊢
  rw [e k hk] at h
  rw [e n (by omega)]
  have h1 : ¬ X % W64 ^ k < y := fun hh => by rw [if_pos hh] at h; cases h
  refine if_neg (fun hh => h1 (Nat.lt_of_le_of_lt ?_ hh))
  obtain ⟨d, rfl⟩ : ∃ d, n = k + d := ⟨n - k, by omega⟩
  have := Nat.mod_mul (x := X) (a := W64 ^ k) (b := W64 ^ d)
  rw [Nat.pow_add, this]
  exact Nat.le_add_right _ _
theorem subVW_any (B g o n c0 b1 o1 c1 : Nat) (cur cur1 : Array Value) (T1 : TypeId) (X y : Nat) (w : World) (hg : BlkAt w g cur 139) (hg1 : BlkAt w b1 cur1 T1) (hBg : B ≤ g) (hBw : B ≤ w.heap.size) (hn1 : 1 ≤ n) (hn : n ≤ 1000000) (hr : o + n ≤ cur.size) (h0 : n ≤ c0) (h0m : c0 ≤ maxLen)
    (h1 : WCells w b1 o1 n (dg W64 X)) (h1c : n ≤ c1) (h1m : c1 ≤ maxLen) (hne : b1 ≠ g) (hy : y < W64) (hXy : y ≤ X) :
    Calls Tryz.prog 208 #[.slice (some ⟨g, o, none⟩) n c0, .slice (some ⟨b1, o1, none⟩) n c1, .int .u64 y] w
      (VecBs B g o n cur (dg W64 (X - y)) (bor X y n) w) := by
  unfold maxLen at h0m h1m
  obtain ⟨j, hj, hj1⟩ := infoWordJ
  have hy' : y < 18446744073709551616 := W64_lt hy
  have HG := Lib.hid hg
  have HG1 := Lib.hid hg1
  have H1 := Lib.hid h1
  have e1 := h1 0 (by omega)
  rw [Nat.add_zero] at e1
  have d1 : dg W64 X 0 < 18446744073709551616 := W64_lt (dg_lt W64_pos _ _)
  have HS := Lib.hid (subw_step hXy 0)
  have HY := Lib.hid (show ∀ k, 1 ≤ k → dg W64 y k = 0 from fun k hk => dg_of_lt (Nat.lt_of_lt_of_le hy (by obtain ⟨d, rfl⟩ : ∃ d, k = d + 1 := ⟨k - 1, by omega⟩; rw [Nat.pow_succ]; exact Nat.le_mul_of_pos_left _ (Nat.pow_pos W64_pos))))
  have hy0 : dg W64 y 0 = y := by simp [dg, Nat.mod_eq_of_lt hy]
  rw [hy0, bor_zero] at HS
  have HYL := Lib.hid hy
  clear hy0
  have hroom := (RowUp.start hg o (dg W64 (X - y))).room (j := o) (by omega)
  obtain ⟨⟨u0, p0⟩, f0⟩ := hroom
  have HX := Lib.hid (show dg W64 X 0 = dg W64 X 0 from rfl)
  have hn0 : ((n : Int) == 0) = false := by simp; omega
  clear hg hg1 h1 hy
  generalize hx : dg W64 X 0 = x at *
  have HE := Lib.hid (show (x + 18446744073709551616 - y - 0) % 18446744073709551616 = dg W64 (X - y) 0 from HS.out.1)
  have HF := Lib.hid (show (if x < y + 0 then 1 else 0 : Nat) = bor X y 1 from HS.out.2)
  have hdl : (x + 18446744073709551616 - y - 0) % 18446744073709551616 < 18446744073709551616 := Nat.mod_lt _ (by decide)
  have hcl : (if x < y + 0 then 1 else 0 : Nat) ≤ 1 := by split <;> omega
  have HC := Lib.hid (fun w => bitsSub_any x y 0 (by omega) w)
  generalize (x + 18446744073709551616 - y - 0) % 18446744073709551616 = s at *
  generalize hcc : (if x < y + 0 then 1 else 0 : Nat) = cc at *
  clear hx hcc
  go_enter Tryz.func208, Tryz.ntmps208
  go_wp2_with fail
  refine (HC.out _).mono ?_
  rintro e w1 ⟨rfl, rfl⟩
  have HR := Lib.hid ((RowUp.start HG.out o (dg W64 (X - y))).step (by omega) HE.out)
  simp only [Nat.add_zero, Nat.zero_add] at HR
  obtain ⟨W1, hW1⟩ : ∃ W1, W1 = w.setCell ⟨g, o, none⟩ (.int .u64 (s : Nat)) := ⟨_, rfl⟩
  have HW1 := Lib.hid hW1
  rw [← hW1] at HR
  obtain ⟨cur', hk1, hk2, hk3, hk4⟩ := HR.out.blk
  have hk5 := HR.out.upd.blk HG1.out hne
  have HQ := Lib.hid (fun q => run_neq_ptr_other (P := Tryz.prog) (a := ⟨g, o, none⟩) (b := ⟨b1, o1, none⟩) (W1.drewN q) Tryz.underlying219 hj (by rw [hj1]; decide) (by intro h; injection h with h _ _; exact hne h.symm) hk1 hk5)
  clear hW1
  by_cases hc0 : cc = 0
  · subst hc0
    go_upto_region 8 with fail
    rw [← HW1.out]
    have hq := HQ.out
    go_quiet (fail)
    go_upto_region 9 with fail
    have hbd : Below W1.heap.size W1 (W1.drewN (nq + 1)) := below_drewN (Below.refl _ _) (nq + 1)
    have hk1' := hk1.keep hbd
    have HG2 := Lib.hid (show (W1.drewN (nq + 1)).heap[g]? = some (.cells cur'.toList.toArray 139 (0, 0)) from by unfold BlkAt at hk1'; simpa using hk1')
    have HSRC := Lib.hid (show ∀ j v, (wlf X 1 (n - 1))[j]? = some v → (W1.drewN (nq + 1)).cell? ((⟨b1, o1 + 1, none⟩ : Addr).add j) = some v from by
      intro j v hjv
      have hjn : j < n - 1 := by
        have := (List.getElem?_eq_some_iff.1 hjv).1
        rwa [wlf_len] at this
      rw [wlf_get hjn] at hjv
      rw [← hjv, Addr.add_lit, show o1 + 1 + j = o1 + (1 + j) from by omega]
      exact cell_keep (HR.out.read HG.out (H1.out (1 + j) (by omega)) (.inl hne) (by omega)) hbd)
    have HB2 := Lib.hid (((HR.out.toB hBg hBw).below).trans (hbd.mono (Nat.le_trans hBw HR.out.upd.size)))
    have HT := Lib.hid (show o + 1 + (wlf X 1 (n - 1)).length ≤ cur'.toList.length from by rw [wlf_len]; simp; omega)
    have HL := Lib.hid (wlf_len X 1 (n - 1))
    have hn1i : (1 : Int) ≤ n := by omega
    have HNC := Lib.hid (show bor X y 1 = 0 from HF.out.symm)
    clear hbd hk1'
    go_region_law (refine step_copy_splice rfl (.tmp 40) (.tmp 42) 138 138 rfl 139 Tryz.underlying138 infoWordSize _ _ _ _ _ _ rfl rfl g (o + 1) cur'.toList 139 HG2.out (wlf X 1 (n - 1)) (by rw [HL.out]; exact (Nat.min_self _).symm) (fun h0 => by rw [HL.out] at h0; exact ⟨if_neg (by omega), ⟨b1, o1 + 1, none⟩, if_neg (by omega), HSRC.out⟩) HT.out (wlf_one _ _ _) B w HB2.out hBg ?_; intro w4 hg4 hb4)
    all_goals go_wp2
    all_goals
      go_ret
      refine ⟨ret_u64 ?_, rowB_spliced (k := 1) (by omega) hk2 (by omega) hk3 hk4 hg4 hb4 (fun i hi _ => subw_same HYL.out hXy HNC.out (by omega) hi)⟩
      exact (bor_none HYL.out HNC.out (by omega) (by omega)).symm
  · obtain rfl : cc = 1 := by omega
    have HC1 := Lib.hid (show bor X y 1 = 1 from HF.out.symm)
    go_upto_region 11 with fail
    rw [← HW1.out]
    clear hk1 hk2 hk3 hk4 hk5 p0 f0 e1 hc0 hcl
    go_wp2
    go_loopw [6, 9, 10] (fun _ i _ wr => ∃ k : Nat, 1 ≤ k ∧ k ≤ n ∧ i = .int .i64 k ∧ bor X y k = 1 ∧ RowUp 139 w wr g o k cur (dg W64 (X - y)))
      (fun _ i _ _ => n - (intOf i).toNat)
    case atStart => exact ⟨1, Nat.le_refl _, hn1, rfl, HC1.out, HR.out⟩
    case round =>
      obtain ⟨k, hk0, hk, rfl, hca, hR⟩ := hrel
      have HCA := Lib.hid hca
      clear hca
      by_cases k1 : k < n
      · have e1 := hR.read HG.out (H1.out k k1) (.inl hne) (Nat.le_refl _)
        have d1 : dg W64 X k < 18446744073709551616 := W64_lt (dg_lt W64_pos _ _)
        have HS2 := Lib.hid (subw_step hXy k)
        rw [HCA.out, HY.out k hk0] at HS2
        have HRR := Lib.hid hR
        have hroom := hR.room (j := o + k) (by omega)
        obtain ⟨⟨u0, p0⟩, f0⟩ := hroom
        clear hR
        generalize hx : dg W64 X k = xk at *
        clear hx
        by_cases hm : xk = 0
        · subst hm
          have HE2 := Lib.hid (show 18446744073709551615 = dg W64 (X - y) k from by rw [← HS2.out.1])
          have HF2 := Lib.hid (show bor X y (k + 1) = 1 from by rw [← HS2.out.2]; rfl)
          go_wp2
          go_roundw
          case rel => exact ⟨k + 1, by omega, by omega, by go_num, HF2.out, HRR.out.step (x := 18446744073709551615) (by omega) HE2.out⟩
          case measure => simp [intOf]; omega
        · have hmb : ((xk : Int) != 0) = true := by simp; omega
          have hxw : 1 ≤ xk := by omega
          have HE2 := Lib.hid (show xk - 1 = dg W64 (X - y) k from by rw [← HS2.out.1]; omega)
          have HF2 := Lib.hid (show bor X y (k + 1) = 0 from by rw [← HS2.out.2]; exact if_neg (by omega))
          have hcast : ((xk - 1 : Nat) : Int) = xk - 1 := by omega
          go_upto_region 17 with fail
          obtain ⟨W2, hW2⟩ : ∃ W2, W2 = wr.setCell ⟨g, o + k, none⟩ (.int .u64 ((xk : Int) - 1)) := ⟨_, rfl⟩
          have HR2 := Lib.hid (HRR.out.step (x := xk - 1) (by omega) HE2.out)
          rw [hcast, ← hW2] at HR2
          rw [← hW2]
          obtain ⟨cur', hk1, hk2, hk3, hk4⟩ := HR2.out.blk
          have hk5 := HR2.out.upd.blk HG1.out hne
          have HQ2 := Lib.hid (fun q => run_neq_ptr_other (P := Tryz.prog) (a := ⟨g, o, none⟩) (b := ⟨b1, o1, none⟩) (W2.drewN q) Tryz.underlying219 hj (by rw [hj1]; decide) (by intro h; injection h with h _ _; exact hne h.symm) hk1 hk5)
          clear hW2 hcast p0 f0 e1
          have hq := HQ2.out
          go_quiet (fail)
          go_upto_region 18 with fail
          clear hq
          have hbd : Below W2.heap.size W2 (W2.drewN (nq + 1)) := below_drewN (Below.refl _ _) (nq + 1)
          have hk1' := hk1.keep hbd
          have HG2 := Lib.hid (show (W2.drewN (nq + 1)).heap[g]? = some (.cells cur'.toList.toArray 139 (0, 0)) from by unfold BlkAt at hk1'; simpa using hk1')
          have HSRC := Lib.hid (show ∀ j v, (wlf X (k + 1) (n - (k + 1)))[j]? = some v → (W2.drewN (nq + 1)).cell? ((⟨b1, o1 + (k + 1), none⟩ : Addr).add j) = some v from by
            intro j v hjv
            have hjn : j < n - (k + 1) := by
              have := (List.getElem?_eq_some_iff.1 hjv).1
              rwa [wlf_len] at this
            rw [wlf_get hjn] at hjv
            rw [← hjv, Addr.add_lit, show o1 + (k + 1) + j = o1 + (k + 1 + j) from by omega]
            exact cell_keep (HR2.out.read HG.out (H1.out (k + 1 + j) (by omega)) (.inl hne) (by omega)) hbd)
          have HB2 := Lib.hid (((HR2.out.toB hBg hBw).below).trans (hbd.mono (Nat.le_trans hBw HR2.out.upd.size)))
          have HT := Lib.hid (show o + (k + 1) + (wlf X (k + 1) (n - (k + 1))).length ≤ cur'.toList.length from by rw [wlf_len]; simp; omega)
          have HL := Lib.hid (wlf_len X (k + 1) (n - (k + 1)))
          have s1 : IntKind.i64.wrap ((k : Int) + 1) = (k : Int) + 1 := IntWalk.i64_in _ (by omega)
          have s2 : (0 : Int) ≤ (k : Int) + 1 := by omega
          have s3 : (k : Int) + 1 ≤ n := by omega
          have s4 : ((k : Int) + 1).toNat = k + 1 := by omega
          clear hbd hk1'
          go_region_law (refine step_copy_splice rfl (.tmp 69) (.tmp 73) 138 138 rfl 139 Tryz.underlying138 infoWordSize (if c0 = k + 1 then some ⟨g, o, none⟩ else some ⟨g, o + (k + 1), none⟩) (if c1 = k + 1 then some ⟨b1, o1, none⟩ else some ⟨b1, o1 + (k + 1), none⟩) (n - (k + 1)) (c0 - (k + 1)) (n - (k + 1)) (c1 - (k + 1)) (by simp [Act.eval, Act.put]) (by simp [Act.eval, Act.put]) g (o + (k + 1)) cur'.toList 139 HG2.out (wlf X (k + 1) (n - (k + 1))) (by rw [HL.out]; exact (Nat.min_self _).symm) (fun h0 => by rw [HL.out] at h0; exact ⟨if_neg (by omega), ⟨b1, o1 + (k + 1), none⟩, if_neg (by omega), HSRC.out⟩) HT.out (wlf_one _ _ _) B w HB2.out hBg ?_; intro w4 hg4 hb4)
          all_goals go_wp2
          all_goals
            go_ret
            refine ⟨ret_u64 ?_, rowB_spliced (k := k + 1) (by omega) hk2 (by omega) hk3 hk4 hg4 hb4 (fun i hi _ => subw_same HYL.out hXy HF2.out (by omega) hi)⟩
            exact (bor_none HYL.out HF2.out (by omega) (by omega)).symm
      · obtain rfl : k = n := by omega
        go_wp2
        go_ret
        exact ⟨ret_u64 HCA.out.symm, hR.toB hBg hBw⟩
theorem sub_high {N1 N2 n m : Nat} (hle : N2 ≤ N1) (h1 : N1 < W64 ^ m) (h2 : N2 < W64 ^ n) (hnm : n ≤ m) :
    (N1 - N2) / W64 ^ n = N1 / W64 ^ n - bor N1 N2 n ∧ bor N1 N2 n ≤ N1 / W64 ^ n ∧ bor (N1 / W64 ^ n) (bor N1 N2 n) (m - n) = 0 ∧ (m = n → bor N1 N2 n = 0) := by
  have e2 : N2 % W64 ^ n = N2 := Nat.mod_eq_of_lt h2
  have hb := bor_le N1 N2 n
  have e1 : (N1 - N2) / W64 ^ n = N1 / W64 ^ n - bor N1 N2 n := by
    rw [subb W64_pos hle, Nat.div_eq_of_lt h2]; rfl
  have hx : bor N1 N2 n ≤ N1 / W64 ^ n := by
    by_cases h : N1 % W64 ^ n < N2 % W64 ^ n
    · have hq : bor N1 N2 n = 1 := if_pos h
      rw [hq]
      refine Nat.div_pos ?_ (Nat.pow_pos W64_pos)
      rcases Nat.lt_or_ge N1 (W64 ^ n) with hh | hh
      · rw [Nat.mod_eq_of_lt hh, e2] at h; omega
      · exact hh
    · have hq : bor N1 N2 n = 0 := if_neg h
      rw [hq]; exact Nat.zero_le _
  obtain ⟨d, rfl⟩ : ∃ d, m = n + d := ⟨m - n, by omega⟩
  have hX : N1 / W64 ^ n < W64 ^ d := (Nat.div_lt_iff_lt_mul (Nat.pow_pos W64_pos)).2 (by rw [Nat.mul_comm, ← Nat.pow_add]; exact h1)
  refine ⟨e1, hx, ?_, fun h => ?_⟩
  · rw [show n + d - n = d from by omega]
    refine if_neg ?_
    rw [Nat.mod_eq_of_lt hX]
    have := Nat.mod_le (bor N1 N2 n) (W64 ^ d)
    omega
  · obtain rfl : d = 0 := by omega
    rw [Nat.pow_zero] at hX
    omega
end Go.Proofs.YtececkbcinmmpaaGreatDoor
namespace Go.Bg
open Go.RowKit Dg
theorem RowUp.rest {T : TypeId} {w w' : World} {g o k n : Nat} {cur : Array Value} {h : Nat → Nat} (r : RowUp T w w' g o k cur h) (hk : k ≤ n) (hr : ∀ i, k ≤ i → i < n → cur[o + i]? = some (.int .u64 (h i : Nat))) : RowUp T w w' g o n cur h := by
  obtain ⟨cur', h1, h2, h3, h4⟩ := r.blk
  refine ⟨r.upd, cur', h1, h2, fun i hi => ?_, fun j hj => h4 j (by omega)⟩
  by_cases hik : i < k
  · exact h3 i hik
  · rw [h4 _ (by omega)]
    exact hr i (by omega) hi
end Go.Bg
namespace Go.Proofs.YtececkbcinmmpaaGreatDoor
open Go.RowKit Go.Bg Dg
theorem natOne_any (w : World) : Calls Tryz.prog 155 #[] w fun e w' => e = .returned (.slice (some ⟨w.heap.size, 0, none⟩) 1 1) ∧ w' = w.alloc (.cells #[.int .u64 1] 139) := by
  go_enter Tryz.func155, Tryz.ntmps155
  go_wp2
  go_ret
  exact ⟨rfl, rfl⟩
theorem natOne_is (w : World) : BigN 139 (w.alloc (.cells #[.int .u64 1] 139)) (some ⟨w.heap.size, 0, none⟩) 1 1 1 := by
  have h := BlkAt.new w #[.int .u64 1] 139
  refine ⟨⟨by rw [Nat.pow_one]; exact W64_gt, .inr (by simp), Nat.le_refl _, by simp [maxLen], fun _ => ⟨w.heap.size, 0, rfl, fun i hi => ?_⟩⟩, .inr ⟨_, _, rfl, h, rfl⟩⟩
  obtain rfl : i = 0 := by omega
  have e : dg W64 1 0 = 1 := by unfold dg; rw [Nat.pow_zero, Nat.div_one, Nat.mod_eq_of_lt W64_gt]
  show (w.alloc (.cells #[.int .u64 1] 139)).cell? ⟨w.heap.size, 0, none⟩ = some (.int .u64 ((dg W64 1 0 : Nat) : Int))
  rw [h.cell, e]
  rfl
theorem make_self (g nz cz n : Nat) (w : World) (hn : n ≤ cz) (hnz : nz ≤ cz) (hcm : cz ≤ 9223372036854775807) :
    Calls Tryz.prog 204 #[.slice (some ⟨g, 0, none⟩) nz cz, .int .i64 n] w fun e w' => e = .returned (.slice (some ⟨g, 0, none⟩) n cz) ∧ w = w' := by
  have hle : (n : Int) ≤ cz := by omega
  go_enter Tryz.func204, Tryz.ntmps204
  go_wp2
  go_ret
  exact ⟨rfl, rfl⟩
end Go.Proofs.YtececkbcinmmpaaGreatDoor
namespace Go.Bg
open Go.RowKit Dg
structure Gk (B h l u z q r : Nat) : Prop where
  eq : q * h + r = u
  lo : (u * B + z) / (h * B + l) ≤ q
  hi : q < B
theorem Gk.start {B h l u z : Nat} (hB : 0 < B) (hh : 0 < h) (hl : l < B) (hz : z < B) (hu : u < h * B) : Gk B h l u z (u / h) (u % h) := by
  refine ⟨by rw [Nat.mul_comm]; exact Nat.div_add_mod _ _, ?_, (Nat.div_lt_iff_lt_mul hh).2 (by rw [Nat.mul_comm]; exact hu)⟩
  have e1 : (u * B + z) / (B * h) = u / h := by
    rw [← Nat.div_div_eq_div_mul]
    congr 1
    rw [Nat.mul_comm, Nat.mul_add_div hB, Nat.div_eq_of_lt hz, Nat.add_zero]
  rw [← e1]
  exact Nat.div_le_div_left (by rw [Nat.mul_comm]; omega) (Nat.mul_pos hB hh)
theorem Gk.down {B h l u z q r : Nat} (g : Gk B h l u z q r) (hB : 0 < B) (hh : 0 < h) (hg : r * B + z < q * l) :
    0 < q ∧ (u * B + z) / (h * B + l) ≤ q - 1 := by
  have hpos : 0 < h * B + l := Nat.lt_of_lt_of_le (Nat.mul_pos hh hB) (Nat.le_add_right _ _)
  have : (u * B + z) / (h * B + l) < q := by
    refine (Nat.div_lt_iff_lt_mul hpos).2 ?_
    rw [← g.eq, Nat.mul_add, Nat.add_mul, ← Nat.mul_assoc]
    omega
  generalize (u * B + z) / (h * B + l) = w at *
  omega
theorem Gk.next {B h l u z q r : Nat} (g : Gk B h l u z q r) (hB : 0 < B) (hh : 0 < h) (hg : r * B + z < q * l) : Gk B h l u z (q - 1) (r + h) := by
  obtain ⟨h1, h2⟩ := g.down hB hh hg
  have e := g.eq
  have := g.hi
  refine ⟨?_, h2, by omega⟩
  obtain ⟨p, rfl⟩ : ∃ p, q = p + 1 := ⟨q - 1, by omega⟩
  rw [Nat.add_mul, Nat.one_mul] at e
  rw [Nat.add_sub_cancel]
  omega
theorem Gk.right {B h l u z q r : Nat} (g : Gk B h l u z q r) (hB : 0 < B) (hh : 0 < h) (hg : q * l ≤ r * B + z) : q = (u * B + z) / (h * B + l) := by
  have hpos : 0 < h * B + l := Nat.lt_of_lt_of_le (Nat.mul_pos hh hB) (Nat.le_add_right _ _)
  refine Nat.le_antisymm ((Nat.le_div_iff_mul_le hpos).2 ?_) g.lo
  rw [← g.eq, Nat.mul_add, Nat.add_mul, ← Nat.mul_assoc]
  omega
theorem Gk.broke {B h l u z q r : Nat} (g : Gk B h l u z q r) (hB : 0 < B) (hh : 0 < h) (hl : l < B) (hr : B ≤ r) : q = (u * B + z) / (h * B + l) := by
  refine g.right hB hh ?_
  have h1 : q * l ≤ B * B := Nat.mul_le_mul (Nat.le_of_lt g.hi) (Nat.le_of_lt hl)
  have h2 : B * B ≤ r * B := Nat.mul_le_mul_right _ hr
  omega
theorem guess_off {P a b x y V U q : Nat} (hP : 0 < P) (hx : x < P) (hy : y < P) (hU : U = a * P + x) (hV : V = b * P + y) (hb : 0 < b) (hq : q = a / b) (hqb : q ≤ b) :
    U / V ≤ q ∧ q ≤ U / V + 1 := by
  have hVp : 0 < V := by
    rw [hV]; exact Nat.lt_of_lt_of_le (Nat.mul_pos hb hP) (Nat.le_add_right _ _)
  have q1 : q * b ≤ a := by rw [hq]; exact Nat.div_mul_le_self _ _
  have q2 : a < q * b + b := by
    have := Nat.lt_mul_div_succ a hb
    rw [← hq, Nat.mul_add, Nat.mul_one, Nat.mul_comm b q] at this
    exact this
  constructor
  · have : U / V < q + 1 := by
      refine (Nat.div_lt_iff_lt_mul hVp).2 ?_
      have h1 : (a + 1) * P ≤ (q * b + b) * P := Nat.mul_le_mul_right _ q2
      have h2 : (q + 1) * V = (q * b + b) * P + (q + 1) * y := by rw [hV, Nat.mul_add, ← Nat.mul_assoc, Nat.add_mul q 1 b, Nat.one_mul]
      rw [Nat.add_mul a, Nat.one_mul] at h1
      rw [hU, h2]
      generalize (q * b + b) * P = m1 at *
      generalize a * P = m2 at *
      generalize (q + 1) * y = m3 at *
      omega
    exact Nat.le_of_lt_succ this
  · by_cases h0 : q = 0
    · rw [h0]; exact Nat.zero_le _
    · have : q - 1 ≤ U / V := by
        refine (Nat.le_div_iff_mul_le hVp).2 ?_
        obtain ⟨p, rfl⟩ : ∃ p, q = p + 1 := ⟨q - 1, by omega⟩
        rw [Nat.add_sub_cancel]
        have h1 : (p + 1) * b * P ≤ a * P := Nat.mul_le_mul_right _ q1
        have h2 : (p + 1) * b * P = p * b * P + b * P := by rw [Nat.add_mul, Nat.one_mul, Nat.add_mul]
        have h3 : p * V = p * b * P + p * y := by rw [hV, Nat.mul_add, ← Nat.mul_assoc]
        have h4 : p * y ≤ b * P := Nat.mul_le_mul (by omega) (Nat.le_of_lt hy)
        rw [hU, h3]
        rw [h2] at h1
        generalize p * b * P = m1 at *
        generalize b * P = m2 at *
        generalize a * P = m3 at *
        generalize p * y = m4 at *
        omega
      exact Nat.sub_le_iff_le_add.1 this
theorem guess_top {B P h y V U : Nat} (hB : 2 ≤ B) (hy : y < P) (hV : V = h * P + y) (hU : h * P * B ≤ U) (hU2 : U < B * V) (hh : B ≤ 2 * h) : U / V ≤ B - 1 ∧ B - 1 ≤ U / V + 1 := by
  have hVp : 0 < V := by
    rcases Nat.eq_zero_or_pos V with h0 | h0
    · rw [h0, Nat.mul_zero] at hU2; omega
    · exact h0
  constructor
  · have : U / V < B := (Nat.div_lt_iff_lt_mul hVp).2 hU2
    exact Nat.le_sub_one_of_lt this
  · have : B - 2 ≤ U / V := by
      refine (Nat.le_div_iff_mul_le hVp).2 ?_
      have h1 : B * V = h * P * B + y * B := by rw [hV, Nat.mul_comm B, Nat.add_mul]
      have h2 : y * B ≤ P * B := Nat.mul_le_mul_right _ (Nat.le_of_lt hy)
      have h3 : B * P ≤ 2 * h * P := Nat.mul_le_mul_right _ hh
      have h4 : 2 * h * P ≤ 2 * V := by rw [hV, Nat.mul_assoc, Nat.mul_add]; exact Nat.le_add_right _ _
      rw [Nat.mul_comm B P] at h3
      have h5 : (B - 2) * V = B * V - 2 * V := Nat.sub_mul _ _ _
      rw [h5]
      generalize B * V = m1 at *
      generalize h * P * B = m2 at *
      generalize y * B = m3 at *
      generalize P * B = m4 at *
      generalize 2 * h * P = m5 at *
      generalize (B - 2) * V = m6 at *
      omega
    generalize U / V = q at *
    omega
def urest (B U V k : Nat) : Nat := U % (V * B ^ k)
theorem urest_lt {B U V k : Nat} (hB : 0 < B) (hV : 0 < V) : urest B U V k < V * B ^ k := Nat.mod_lt _ (Nat.mul_pos hV (Nat.pow_pos hB))
theorem urest_start {B U V k : Nat} (h : U < V * B ^ k) : urest B U V k = U := Nat.mod_eq_of_lt h
theorem urest_done (B U V : Nat) : urest B U V 0 = U % V := by unfold urest; rw [Nat.pow_zero, Nat.mul_one]
theorem usec_lt {B U V k : Nat} (hB : 0 < B) (hV : 0 < V) : urest B U V (k + 1) / B ^ k < V * B := by
  refine (Nat.div_lt_iff_lt_mul (Nat.pow_pos hB)).2 ?_
  have := urest_lt (B := B) (U := U) (V := V) (k := k + 1) hB hV
  rw [Nat.mul_assoc, Nat.mul_comm B, ← Nat.pow_succ]; exact this
theorem usec_step {B U V k : Nat} : urest B U V k = urest B U V (k + 1) % B ^ k + urest B U V (k + 1) / B ^ k % V * B ^ k := by
  unfold urest
  have e : U % (V * B ^ k) = U % (V * B ^ (k + 1)) % (B ^ k * V) := by
    rw [Nat.pow_succ, ← Nat.mul_assoc, Nat.mul_comm (B ^ k) V, Nat.mod_mul_right_mod]
  rw [e, Nat.mod_mul, Nat.mul_comm (B ^ k)]
theorem usec_digit {B U V k : Nat} : urest B U V (k + 1) / B ^ k / V = dg B (U / V) k := by
  unfold urest dg
  rw [Nat.div_div_eq_div_mul, Nat.div_div_eq_div_mul, Nat.mul_comm (B ^ k) V, Nat.pow_succ, ← Nat.mul_assoc, Nat.mod_mul_right_div_self]
theorem dg_lo {B a x k i : Nat} (hB : 0 < B) (hi : i < k) : dg B (a % B ^ k + x * B ^ k) i = dg B a i := by
  rw [← dg_mod (a % B ^ k + x * B ^ k) hi, Nat.add_mul_mod_self_right, Nat.mod_mod, dg_mod _ hi]
theorem dg_hi {B a x k i : Nat} (hB : 0 < B) : dg B (a % B ^ k + x * B ^ k) (k + i) = dg B x i := by
  rw [← Dg.dg_div, Nat.add_mul_div_right _ _ (Nat.pow_pos hB), Nat.div_eq_of_lt (Nat.mod_lt _ (Nat.pow_pos hB)), Nat.zero_add]
theorem urest_lo {B U V k i : Nat} (hB : 0 < B) (hi : i < k) : dg B (urest B U V k) i = dg B (urest B U V (k + 1)) i := by
  rw [usec_step, dg_lo hB hi]
theorem urest_hi {B U V k i : Nat} (hB : 0 < B) : dg B (urest B U V k) (k + i) = dg B (urest B U V (k + 1) / B ^ k % V) i := by
  rw [usec_step, dg_hi hB]
theorem sub_right {B n S V q : Nat} (hS : S < B ^ (n + 1)) (hV : 0 < V) (h1 : S / V ≤ q) (hle : q * V ≤ S) : q = S / V ∧ S - q * V = S % V := by
  have e : q = S / V := Nat.le_antisymm ((Nat.le_div_iff_mul_le hV).2 hle) h1
  refine ⟨e, ?_⟩
  have := Nat.div_add_mod S V
  rw [e, Nat.mul_comm]
  omega
theorem sub_wrong {S V q : Nat} (hV : 0 < V) (h1 : S / V ≤ q) (h2 : q ≤ S / V + 1) (hgt : S < q * V) : q = S / V + 1 ∧ ∀ M, q * V ≤ S + M → V ≤ M → S + M - q * V + V = M + S % V := by
  have hne : q ≠ S / V := fun e => by
    have := Nat.div_mul_le_self S V
    rw [← e] at this
    omega
  have e : q = S / V + 1 := by omega
  refine ⟨e, fun M hM hVM => ?_⟩
  have := Nat.div_add_mod S V
  have h3 : q * V = V * (S / V) + V := by rw [e, Nat.add_mul, Nat.one_mul, Nat.mul_comm]
  omega
theorem guess_fits {B n V q : Nat} (hV : V < B ^ n) (hq : q < B) (hB : 0 < B) : q * V < B ^ (n + 1) := by
  rw [Nat.pow_succ, Nat.mul_comm (B ^ n)]
  have h1 : q * V ≤ q * B ^ n := Nat.mul_le_mul_left _ (Nat.le_of_lt hV)
  have h2 : q * B ^ n < B * B ^ n := Nat.mul_lt_mul_of_pos_right hq (Nat.pow_pos hB)
  omega
end Go.Bg
namespace Go.Proofs.YtececkbcinmmpaaGreatDoor
open Go.RowKit Go.Bg Dg
theorem bor_sec {n S Y M : Nat} (hS : S < W64 ^ n) (hY : Y < W64 ^ n) (hM : M = W64 ^ n) : bor (S + M) Y n = if S < Y then 1 else 0 := by
  unfold bor
  rw [hM, Nat.add_mod_right, Nat.mod_eq_of_lt hS, Nat.mod_eq_of_lt hY]
end Go.Proofs.YtececkbcinmmpaaGreatDoor
namespace Go.Bg
open Go.RowKit Dg
theorem top_two {B V n : Nat} (hB : 0 < B) (hV : V < B ^ (n + 2)) : V = (dg B V (n + 1) * B + dg B V n) * B ^ n + V % B ^ n ∧ dg B V (n + 1) < B ∧ dg B V n < B := by
  refine ⟨?_, dg_lt hB _ _, dg_lt hB _ _⟩
  have h1 := mod_succ B V (n + 1)
  have h2 := mod_succ B V n
  rw [Nat.mod_eq_of_lt hV] at h1
  rw [h2] at h1
  rw [Nat.add_mul, Nat.mul_assoc, Nat.mul_comm B (B ^ n), ← Nat.pow_succ, Nat.mul_comm _ (B ^ (n + 1)), Nat.mul_comm _ (B ^ n)]
  omega
theorem top_three {B S n : Nat} (hB : 0 < B) (hS : S < B ^ (n + 3)) : S = ((dg B S (n + 2) * B + dg B S (n + 1)) * B + dg B S n) * B ^ n + S % B ^ n := by
  have h1 := mod_succ B S (n + 2)
  have h2 := mod_succ B S (n + 1)
  have h3 := mod_succ B S n
  rw [Nat.mod_eq_of_lt hS, h2, h3] at h1
  have e1 : (dg B S (n + 2) * B + dg B S (n + 1)) * B * B ^ n = B ^ (n + 2) * dg B S (n + 2) + B ^ (n + 1) * dg B S (n + 1) := by
    rw [Nat.mul_assoc, Nat.mul_comm B (B ^ n), ← Nat.pow_succ, Nat.add_mul, Nat.mul_assoc, Nat.mul_comm B (B ^ (n + 1)), ← Nat.pow_succ, Nat.mul_comm, Nat.mul_comm (dg B S (n + 1))]
  rw [Nat.add_mul, e1, Nat.mul_comm (dg B S n)]
  omega
theorem guess_alike {n S V : Nat} (hV : V < W64 ^ (n + 2)) (hS : S < V * W64) (hn : W64 ≤ 2 * dg W64 V (n + 1)) (he : dg W64 S (n + 2) = dg W64 V (n + 1)) :
    S / V ≤ W64 - 1 ∧ W64 - 1 ≤ S / V + 1 := by
  have hS3 : S < W64 ^ (n + 3) := by
    rw [Nat.pow_succ]; exact Nat.lt_of_lt_of_le hS (Nat.mul_le_mul_right _ (Nat.le_of_lt hV))
  have h1 := mod_succ W64 V (n + 1)
  rw [Nat.mod_eq_of_lt hV] at h1
  have h2 := mod_succ W64 S (n + 2)
  rw [Nat.mod_eq_of_lt hS3, he] at h2
  refine guess_top (B := W64) (P := W64 ^ (n + 1)) (h := dg W64 V (n + 1)) (y := V % W64 ^ (n + 1)) (by decide) (Nat.mod_lt _ (Nat.pow_pos W64_pos)) (by rw [Nat.mul_comm]; omega) ?_ (by rw [Nat.mul_comm]; exact hS) hn
  have e : dg W64 V (n + 1) * W64 ^ (n + 1) * W64 = W64 ^ (n + 2) * dg W64 V (n + 1) := by rw [Nat.mul_assoc, ← Nat.pow_succ, Nat.mul_comm]
  rw [e, h2]
  exact Nat.le_add_left _ _
theorem guess_three {n S V q : Nat} (hV : V < W64 ^ (n + 2)) (hS : S < V * W64) (hn : W64 ≤ 2 * dg W64 V (n + 1))
    (hq : q = ((dg W64 S (n + 2) * W64 + dg W64 S (n + 1)) * W64 + dg W64 S n) / (dg W64 V (n + 1) * W64 + dg W64 V n)) (hqB : q < W64) :
    S / V ≤ q ∧ q ≤ S / V + 1 := by
  have hS3 : S < W64 ^ (n + 3) := by
    rw [Nat.pow_succ]; exact Nat.lt_of_lt_of_le hS (Nat.mul_le_mul_right _ (Nat.le_of_lt hV))
  have hh : 0 < dg W64 V (n + 1) := by
    have : 0 < W64 := W64_pos
    omega
  have hb : W64 ≤ dg W64 V (n + 1) * W64 + dg W64 V n := by
    have : 1 * W64 ≤ dg W64 V (n + 1) * W64 := Nat.mul_le_mul_right _ hh
    omega
  exact guess_off (Nat.pow_pos W64_pos) (Nat.mod_lt _ (Nat.pow_pos W64_pos)) (Nat.mod_lt _ (Nat.pow_pos W64_pos)) (top_three W64_pos hS3) (top_two W64_pos hV).1 (by have := W64_pos; omega) hq (by omega)
theorem top_le {n S V : Nat} (hV : V < W64 ^ (n + 2)) (hS : S < V * W64) : dg W64 S (n + 2) ≤ dg W64 V (n + 1) := by
  have hS3 : S < W64 ^ (n + 3) := by
    rw [Nat.pow_succ]; exact Nat.lt_of_lt_of_le hS (Nat.mul_le_mul_right _ (Nat.le_of_lt hV))
  have e1 : dg W64 S (n + 2) = S / W64 ^ (n + 2) := by
    unfold dg; exact Nat.mod_eq_of_lt ((Nat.div_lt_iff_lt_mul (Nat.pow_pos W64_pos)).2 (by rw [← Nat.pow_succ']; exact hS3))
  have e2 : dg W64 V (n + 1) = V / W64 ^ (n + 1) := by
    unfold dg; exact Nat.mod_eq_of_lt ((Nat.div_lt_iff_lt_mul (Nat.pow_pos W64_pos)).2 (by rw [← Nat.pow_succ']; exact hV))
  rw [e1, e2]
  have h1 : S / W64 ^ (n + 2) ≤ V * W64 / W64 ^ (n + 2) := Nat.div_le_div_right (Nat.le_of_lt hS)
  rw [Nat.pow_succ W64 (n + 1), Nat.mul_div_mul_right _ _ W64_pos] at h1
  rw [Nat.pow_succ W64 (n + 1)]
  exact h1
end Go.Bg
namespace Go.Proofs.YtececkbcinmmpaaGreatDoor
open Go.RowKit Go.Bg Dg
theorem wpList_copy_words {P : Program} {w : World} {ops : Array Oper} {rest : List Oper} {o : Oper} {a : Act} {Q : Exit → Act → World → Prop} (hgd : o.guard = none) (d s : Operand) (dT sT : TypeId)
    (ho : o.op = .call { callee := .builtin .copy, args := #[d, s], argTypes := #[dT, sT] }) (elem : TypeId) (hu : P.underlying dT = some (.slice elem)) (hsz : (P.info? elem).map (·.size) = some 1)
    (g off n dCap b o1 sCap X : Nat) (hd : a.eval d = .slice (some ⟨g, off, none⟩) n dCap) (hs : a.eval s = .slice (some ⟨b, o1, none⟩) n sCap)
    (cur : Array Value) (T : TypeId) (hg : BlkAt w g cur T) (h1 : WCells w b o1 n (dg W64 X)) (hfit : off + n ≤ cur.size)
    (h : ∀ w', RowUp T w w' g off n cur (dg W64 X) → wpList P ops Q rest (a.put o.dst (goInt n)) w') : wpList P ops Q (o :: rest) a w := by
  have hl := wlf_len X 0 n
  refine wpList_copy_own hgd d s dT sT ho elem hu hsz g off n dCap ⟨b, o1, none⟩ n sCap hd hs cur T hg (wlf X 0 n) (by rw [hl]; exact (Nat.min_self n).symm) ?_ (by rw [hl]; exact hfit) (wlf_one _ _ _) ?_
  · intro j v hj
    have hjn : j < n := by
      have := (List.getElem?_eq_some_iff.1 hj).1
      rwa [hl] at this
    rw [wlf_get hjn] at hj
    rw [← hj, Addr.add_lit, Nat.zero_add]
    exact h1 j hjn
  · rw [hl]
    refine h _ ⟨⟨rfl, rfl, rfl, by simp [World.setRow], fun k hk hn => setRow_other w g k _ hn⟩, _, setRow_heap w g _ _ T _ hg, ?_, ?_, ?_⟩
    · simp [hl]; omega
    · intro i hi
      simp only [List.getElem?_toArray]
      rw [List.getElem?_append_right (by simp; omega), List.getElem?_append_left (by rw [hl]; simp; omega)]
      have e : off + i - (List.take off cur.toList).length = i := by simp; omega
      rw [e, wlf_get hi, Nat.zero_add]
    · intro j hj
      simp only [List.getElem?_toArray]
      rcases hj with hj | hj
      · rw [List.getElem?_append_left (by simp; omega), List.getElem?_take_of_lt hj]
        simp
      · rw [List.getElem?_append_right (by simp; omega), List.getElem?_append_right (by rw [hl]; simp; omega), List.getElem?_drop, hl]
        have e : off + n + (j - (List.take off cur.toList).length - n) = j := by simp; omega
        rw [e]
        simp
end Go.Proofs.YtececkbcinmmpaaGreatDoor
