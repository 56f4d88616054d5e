/-
  Contracts and lemmas: VecC NatA MulB.
-/
import Derived.Test.YtececkbcinmmpaaGreatDoorK14
import Derived.Test.YtececkbcinmmpaaGreatDoorK09
import Derived.Lib.SliceRun
set_option linter.unusedSimpArgs false
set_option linter.unusedVariables false
set_option maxRecDepth 100000
set_option maxHeartbeats 8000000
namespace Go.Bg
open Go.RowKit Dg
structure RowB (T : TypeId) (B : Nat) (w w' : World) (g o n : Nat) (cur : Array Value) (h : Nat → Nat) : Prop where
  below : Below B w w'
  blk : ∃ cur', BlkAt w' g cur' T ∧ cur'.size = cur.size ∧ (∀ i, i < n → cur'[o + i]? = some (.int .u64 (h i : Nat))) ∧ ∀ j, (j < o ∨ o + n ≤ j) → cur'[j]? = cur[j]?
theorem RowUp.toB {T : TypeId} {B : Nat} {w w' : World} {g o n : Nat} {cur : Array Value} {h : Nat → Nat} (r : RowUp T w w' g o n cur h) (hg : B ≤ g) (hB : B ≤ w.heap.size) : RowB T B w w' g o n cur h :=
  ⟨r.upd.below (Below.refl B w) hB (fun k _ e => e ▸ hg), r.blk⟩
theorem RowUp.mono {T : TypeId} {w w' : World} {g o n : Nat} {cur : Array Value} {h h' : Nat → Nat} (r : RowUp T w w' g o n cur h) (he : ∀ i, i < n → h i = h' i) : RowUp T w w' g o n cur h' := by
  obtain ⟨cur', h1, h2, h3, h4⟩ := r.blk
  exact ⟨r.upd, cur', h1, h2, fun i hi => by rw [← he i hi]; exact h3 i hi, h4⟩
def wlf (X i n : Nat) : List Value := (List.range n).map (fun j => Value.int .u64 (dg W64 X (i + j) : Nat))
theorem wlf_get {X i n j : Nat} (h : j < n) : (wlf X i n)[j]? = some (.int .u64 (dg W64 X (i + j) : Nat)) := by simp [wlf, h]
theorem wlf_len (X i n : Nat) : (wlf X i n).length = n := by simp [wlf]
theorem wlf_one (X i n : Nat) : ∀ v ∈ wlf X i n, v.oneCell' = true := by
  intro v hv
  simp only [wlf, List.mem_map] at hv
  obtain ⟨_, _, rfl⟩ := hv
  rfl
theorem rowB_spliced {T : TypeId} {B : Nat} {w w2 : World} {g o k n X : Nat} {cur cur' : Array Value} {h : Nat → Nat} (hkn : k ≤ n) (hsz : cur'.size = cur.size) (hfit : o + n ≤ cur.size)
    (h3 : ∀ i, i < k → cur'[o + i]? = some (.int .u64 (h i : Nat))) (h4 : ∀ j, (j < o ∨ o + k ≤ j) → cur'[j]? = cur[j]?)
    (hg : w2.heap[g]? = some (.cells (splice cur'.toList (o + k) (wlf X k (n - k))).toArray T (0, 0))) (hb : Below B w w2) (he : ∀ i, k ≤ i → i < n → h i = dg W64 X i) : RowB T B w w2 g o n cur h := by
  have hl : (wlf X k (n - k)).length = n - k := wlf_len _ _ _
  have hll : o + k + (wlf X k (n - k)).length ≤ cur'.toList.length := by rw [hl]; simp; omega
  refine ⟨hb, (splice cur'.toList (o + k) (wlf X k (n - k))).toArray, hg, by simp only [List.size_toArray]; rw [length_splice _ _ _ hll]; simpa using hsz, fun i hi => ?_, fun j hj => ?_⟩
  · by_cases hik : i < k
    · rw [← h3 i hik]
      simp only [List.getElem?_toArray, splice]
      rw [List.getElem?_append_left (by simp; omega), List.getElem?_take_of_lt (by omega)]
      simp
    · simp only [List.getElem?_toArray, splice]
      have hls : cur'.toList.length = cur'.size := by simp
      have hidx : o + i - min (o + k) cur'.toList.length = i - k := by rw [hls]; omega
      rw [List.getElem?_append_right (by simp; omega), List.getElem?_append_left (by rw [hl]; simp; omega), List.length_take, hidx, wlf_get (by omega), he i (by omega) hi, show k + (i - k) = i from by omega]
  · rw [← h4 j (by omega)]
    simp only [List.getElem?_toArray, splice]
    rcases hj with hj | hj
    · rw [List.getElem?_append_left (by simp; omega), List.getElem?_take_of_lt (by omega)]
      simp
    · by_cases hjs : j < cur'.size
      · rw [List.getElem?_append_right (by simp; omega), List.getElem?_append_right (by rw [hl]; simp; omega), List.getElem?_drop, hl, List.length_take]
        have : o + k + (n - k) + (j - min (o + k) cur'.toList.length - (n - k)) = j := by simp; omega
        rw [this]; simp
      · rw [Array.getElem?_eq_none (by omega), List.getElem?_eq_none]
        have := length_splice _ _ _ hll
        unfold splice at this
        rw [this]; simp; omega
end Go.Bg
namespace Go.Bg
open Dg
theorem ret_u64 {a b : Nat} (h : a = b) : Ending.returned (.int .u64 (a : Nat)) = .returned (.int .u64 (b : Nat)) := by rw [h]
theorem addw_none {B X y k n : Nat} (hB : 0 < B) (h : (X % B ^ k + y) / B ^ k = 0) (hkn : k ≤ n) : (X % B ^ n + y) / B ^ n = 0 := by
  have hp := Nat.pow_pos (n := k) hB
  have hq := Nat.pow_pos (n := n) hB
  have h1 : X % B ^ k + y < B ^ k := by
    rcases Nat.lt_or_ge (X % B ^ k + y) (B ^ k) with hh | hh
    · exact hh
    · have := Nat.div_pos hh hp; omega
  obtain ⟨d, rfl⟩ : ∃ d, n = k + d := ⟨n - k, by omega⟩
  have e := Nat.mod_mul (x := X) (a := B ^ k) (b := B ^ d)
  rw [Nat.pow_add, e]
  have hd := Nat.mod_lt (X / B ^ k) (Nat.pow_pos (n := d) hB)
  have : B ^ k * (X / B ^ k % B ^ d) + B ^ k ≤ B ^ k * B ^ d := by
    rw [← Nat.mul_succ]; exact Nat.mul_le_mul_left _ hd
  exact Nat.div_eq_of_lt (by omega)
end Go.Bg
namespace Go.Proofs.YtececkbcinmmpaaGreatDoor
open Go.RowKit Go.Bg Dg
def VecBs (B g o n : Nat) (cur : Array Value) (h : Nat → Nat) (c : Nat) (w : World) (e : Ending) (w' : World) : Prop :=
  e = .returned (.int .u64 (c : Nat)) ∧ RowB 139 B w w' g o n cur h
theorem infoWordJ : ∃ j, Tryz.prog.info? 139 = some j ∧ j.size = 1 := Option.map_eq_some_iff.1 infoWordSize
theorem addVW_any (B g o n c0 b1 o1 c1 : Nat) (cur cur1 : Array Value) (T1 : TypeId) (X y : Nat) (w : World) (hg : BlkAt w g cur 139) (hg1 : BlkAt w b1 cur1 T1) (hBg : B ≤ g) (hBw : B ≤ w.heap.size) (hn1 : 1 ≤ n) (hn : n ≤ 1000000) (hr : o + n ≤ cur.size) (h0 : n ≤ c0) (h0m : c0 ≤ maxLen)
    (h1 : WCells w b1 o1 n (dg W64 X)) (h1c : n ≤ c1) (h1m : c1 ≤ maxLen) (hne : b1 ≠ g) (hy : y < W64) :
    Calls Tryz.prog 206 #[.slice (some ⟨g, o, none⟩) n c0, .slice (some ⟨b1, o1, none⟩) n c1, .int .u64 y] w
      (VecBs B g o n cur (dg W64 (X + y)) ((X % W64 ^ n + y) / W64 ^ n) w) := by
  unfold maxLen at h0m h1m
  obtain ⟨j, hj, hj1⟩ := infoWordJ
  have hy' : y < 18446744073709551616 := W64_lt hy
  have HG := Lib.hid hg
  have HG1 := Lib.hid hg1
  have H1 := Lib.hid h1
  have e1 := h1 0 (by omega)
  rw [Nat.add_zero] at e1
  have d1 : dg W64 X 0 < 18446744073709551616 := W64_lt (dg_lt W64_pos _ _)
  have HS := Lib.hid (addw_step W64_pos X y 0)
  have hroom := (RowUp.start hg o (dg W64 (X + y))).room (j := o) (by omega)
  obtain ⟨⟨u0, p0⟩, f0⟩ := hroom
  have HX := Lib.hid (show dg W64 X 0 = dg W64 X 0 from rfl)
  have hn0 : ((n : Int) == 0) = false := by simp; omega
  clear hg hg1 h1 hy
  generalize hx : dg W64 X 0 = x at *
  simp only [Nat.pow_zero, Nat.mod_one, Nat.zero_add, Nat.div_one, Nat.pow_one] at HS
  have HE := Lib.hid (show (x + y + 0) % 18446744073709551616 = dg W64 (X + y) 0 from by rw [HS.out.1]; rfl)
  have HF := Lib.hid (show (x + y + 0) / 18446744073709551616 = (X % W64 + y) / W64 from by rw [HS.out.2]; rfl)
  have hdl : (x + y + 0) % 18446744073709551616 < 18446744073709551616 := Nat.mod_lt _ (by decide)
  have hcl : (x + y + 0) / 18446744073709551616 ≤ 1 := by omega
  have HC := Lib.hid (fun w => bitsAdd_any x y 0 (by omega) w)
  generalize (x + y + 0) % 18446744073709551616 = s at *
  generalize hcc : (x + y + 0) / 18446744073709551616 = cc at *
  clear hx hcc
  go_enter Tryz.func206, Tryz.ntmps206
  go_wp2_with fail
  refine (HC.out _).mono ?_
  rintro e w1 ⟨rfl, rfl⟩
  have HR := Lib.hid ((RowUp.start HG.out o (dg W64 (X + y))).step (by omega) HE.out)
  simp only [Nat.add_zero, Nat.zero_add] at HR
  obtain ⟨W1, hW1⟩ : ∃ W1, W1 = w.setCell ⟨g, o, none⟩ (.int .u64 (s : Nat)) := ⟨_, rfl⟩
  have HW1 := Lib.hid hW1
  rw [← hW1] at HR
  obtain ⟨cur', hk1, hk2, hk3, hk4⟩ := HR.out.blk
  have hk5 := HR.out.upd.blk HG1.out hne
  have HQ := Lib.hid (fun q => run_neq_ptr_other (P := Tryz.prog) (a := ⟨g, o, none⟩) (b := ⟨b1, o1, none⟩) (W1.drewN q) Tryz.underlying219 hj (by rw [hj1]; decide) (by intro h; injection h with h _ _; exact hne h.symm) hk1 hk5)
  clear hW1
  by_cases hc0 : cc = 0
  · subst hc0
    go_upto_region 8 with fail
    rw [← HW1.out]
    have hq := HQ.out
    go_quiet (fail)
    go_upto_region 9 with fail
    have hbd : Below W1.heap.size W1 (W1.drewN (nq + 1)) := below_drewN (Below.refl _ _) (nq + 1)
    have hk1' := hk1.keep hbd
    have HG2 := Lib.hid (show (W1.drewN (nq + 1)).heap[g]? = some (.cells cur'.toList.toArray 139 (0, 0)) from by unfold BlkAt at hk1'; simpa using hk1')
    have HSRC := Lib.hid (show ∀ j v, (wlf X 1 (n - 1))[j]? = some v → (W1.drewN (nq + 1)).cell? ((⟨b1, o1 + 1, none⟩ : Addr).add j) = some v from by
      intro j v hjv
      have hjn : j < n - 1 := by
        have := (List.getElem?_eq_some_iff.1 hjv).1
        rwa [wlf_len] at this
      rw [wlf_get hjn] at hjv
      rw [← hjv, Addr.add_lit, show o1 + 1 + j = o1 + (1 + j) from by omega]
      exact cell_keep (HR.out.read HG.out (H1.out (1 + j) (by omega)) (.inl hne) (by omega)) hbd)
    have HB2 := Lib.hid (((HR.out.toB hBg hBw).below).trans (hbd.mono (Nat.le_trans hBw HR.out.upd.size)))
    have HT := Lib.hid (show o + 1 + (wlf X 1 (n - 1)).length ≤ cur'.toList.length from by rw [wlf_len]; simp; omega)
    have HL := Lib.hid (wlf_len X 1 (n - 1))
    have hn1i : (1 : Int) ≤ n := by omega
    have HNC := Lib.hid (show (X % W64 ^ 1 + y) / W64 ^ 1 = 0 from by rw [Nat.pow_one]; exact HF.out.symm)
    clear hbd hk1'
    go_region_law (refine step_copy_splice rfl (.tmp 40) (.tmp 42) 138 138 rfl 139 Tryz.underlying138 infoWordSize _ _ _ _ _ _ rfl rfl g (o + 1) cur'.toList 139 HG2.out (wlf X 1 (n - 1)) (by rw [HL.out]; exact (Nat.min_self _).symm) (fun h0 => by rw [HL.out] at h0; exact ⟨if_neg (by omega), ⟨b1, o1 + 1, none⟩, if_neg (by omega), HSRC.out⟩) HT.out (wlf_one _ _ _) B w HB2.out hBg ?_; intro w4 hg4 hb4)
    all_goals go_wp2
    all_goals
      go_ret
      refine ⟨ret_u64 ?_, rowB_spliced (k := 1) (by omega) hk2 (by omega) hk3 hk4 hg4 hb4 (fun i hi _ => addw_same W64_pos HNC.out hi)⟩
      exact (addw_none W64_pos HNC.out (by omega)).symm
  · obtain rfl : cc = 1 := by omega
    have HC1 := Lib.hid (show (X % W64 ^ 1 + y) / W64 ^ 1 = 1 from by rw [Nat.pow_one]; exact HF.out.symm)
    go_upto_region 11 with fail
    rw [← HW1.out]
    clear hk1 hk2 hk3 hk4 hk5 p0 f0 e1 hc0 hcl
    go_wp2
    go_loopw [6, 9, 10] (fun _ i _ wr => ∃ k : Nat, 1 ≤ k ∧ k ≤ n ∧ i = .int .i64 k ∧ (X % W64 ^ k + y) / W64 ^ k = 1 ∧ RowUp 139 w wr g o k cur (dg W64 (X + y)))
      (fun _ i _ _ => n - (intOf i).toNat)
    case atStart => exact ⟨1, Nat.le_refl _, hn1, rfl, HC1.out, HR.out⟩
    case round =>
      obtain ⟨k, hk0, hk, rfl, hca, hR⟩ := hrel
      have HCA := Lib.hid hca
      clear hca
      by_cases k1 : k < n
      · have e1 := hR.read HG.out (H1.out k k1) (.inl hne) (Nat.le_refl _)
        have d1 : dg W64 X k < 18446744073709551616 := W64_lt (dg_lt W64_pos _ _)
        have HS2 := Lib.hid (addw_step W64_pos X y k)
        rw [HCA.out] at HS2
        have HRR := Lib.hid hR
        have hroom := hR.room (j := o + k) (by omega)
        obtain ⟨⟨u0, p0⟩, f0⟩ := hroom
        clear hR
        generalize hx : dg W64 X k = xk at *
        clear hx
        by_cases hm : xk = 18446744073709551615
        · subst hm
          have HE2 := Lib.hid (show 0 = dg W64 (X + y) k from by rw [HS2.out.1]; rfl)
          have HF2 := Lib.hid (show (X % W64 ^ (k + 1) + y) / W64 ^ (k + 1) = 1 from by rw [HS2.out.2]; rfl)
          go_wp2
          go_roundw
          case rel => exact ⟨k + 1, by omega, by omega, by go_num, HF2.out, HRR.out.step (x := 0) (by omega) HE2.out⟩
          case measure => simp [intOf]; omega
        · have hmb : ((xk : Int) != 18446744073709551615) = true := by simp; omega
          have hxw : xk + 1 < 18446744073709551616 := by omega
          have HE2 := Lib.hid (show xk + 1 = dg W64 (X + y) k from by rw [HS2.out.1]; exact (Nat.mod_eq_of_lt hxw).symm)
          have HF2 := Lib.hid (show (X % W64 ^ (k + 1) + y) / W64 ^ (k + 1) = 0 from by rw [HS2.out.2]; exact Nat.div_eq_of_lt hxw)
          have hcast : ((xk + 1 : Nat) : Int) = xk + 1 := by omega
          go_upto_region 17 with fail
          obtain ⟨W2, hW2⟩ : ∃ W2, W2 = wr.setCell ⟨g, o + k, none⟩ (.int .u64 ((xk : Int) + 1)) := ⟨_, rfl⟩
          have HR2 := Lib.hid (HRR.out.step (x := xk + 1) (by omega) HE2.out)
          rw [hcast, ← hW2] at HR2
          rw [← hW2]
          obtain ⟨cur', hk1, hk2, hk3, hk4⟩ := HR2.out.blk
          have hk5 := HR2.out.upd.blk HG1.out hne
          have HQ2 := Lib.hid (fun q => run_neq_ptr_other (P := Tryz.prog) (a := ⟨g, o, none⟩) (b := ⟨b1, o1, none⟩) (W2.drewN q) Tryz.underlying219 hj (by rw [hj1]; decide) (by intro h; injection h with h _ _; exact hne h.symm) hk1 hk5)
          clear hW2 hcast p0 f0 e1
          have hq := HQ2.out
          go_quiet (fail)
          go_upto_region 18 with fail
          clear hq
          have hbd : Below W2.heap.size W2 (W2.drewN (nq + 1)) := below_drewN (Below.refl _ _) (nq + 1)
          have hk1' := hk1.keep hbd
          have HG2 := Lib.hid (show (W2.drewN (nq + 1)).heap[g]? = some (.cells cur'.toList.toArray 139 (0, 0)) from by unfold BlkAt at hk1'; simpa using hk1')
          have HSRC := Lib.hid (show ∀ j v, (wlf X (k + 1) (n - (k + 1)))[j]? = some v → (W2.drewN (nq + 1)).cell? ((⟨b1, o1 + (k + 1), none⟩ : Addr).add j) = some v from by
            intro j v hjv
            have hjn : j < n - (k + 1) := by
              have := (List.getElem?_eq_some_iff.1 hjv).1
              rwa [wlf_len] at this
            rw [wlf_get hjn] at hjv
            rw [← hjv, Addr.add_lit, show o1 + (k + 1) + j = o1 + (k + 1 + j) from by omega]
            exact cell_keep (HR2.out.read HG.out (H1.out (k + 1 + j) (by omega)) (.inl hne) (by omega)) hbd)
          have HB2 := Lib.hid (((HR2.out.toB hBg hBw).below).trans (hbd.mono (Nat.le_trans hBw HR2.out.upd.size)))
          have HT := Lib.hid (show o + (k + 1) + (wlf X (k + 1) (n - (k + 1))).length ≤ cur'.toList.length from by rw [wlf_len]; simp; omega)
          have HL := Lib.hid (wlf_len X (k + 1) (n - (k + 1)))
          have s1 : IntKind.i64.wrap ((k : Int) + 1) = (k : Int) + 1 := IntWalk.i64_in _ (by omega)
          have s2 : (0 : Int) ≤ (k : Int) + 1 := by omega
          have s3 : (k : Int) + 1 ≤ n := by omega
          have s4 : ((k : Int) + 1).toNat = k + 1 := by omega
          clear hbd hk1'
          go_region_law (refine step_copy_splice rfl (.tmp 69) (.tmp 73) 138 138 rfl 139 Tryz.underlying138 infoWordSize (if c0 = k + 1 then some ⟨g, o, none⟩ else some ⟨g, o + (k + 1), none⟩) (if c1 = k + 1 then some ⟨b1, o1, none⟩ else some ⟨b1, o1 + (k + 1), none⟩) (n - (k + 1)) (c0 - (k + 1)) (n - (k + 1)) (c1 - (k + 1)) (by simp [Act.eval, Act.put]) (by simp [Act.eval, Act.put]) g (o + (k + 1)) cur'.toList 139 HG2.out (wlf X (k + 1) (n - (k + 1))) (by rw [HL.out]; exact (Nat.min_self _).symm) (fun h0 => by rw [HL.out] at h0; exact ⟨if_neg (by omega), ⟨b1, o1 + (k + 1), none⟩, if_neg (by omega), HSRC.out⟩) HT.out (wlf_one _ _ _) B w HB2.out hBg ?_; intro w4 hg4 hb4)
          all_goals go_wp2
          all_goals
            go_ret
            refine ⟨ret_u64 ?_, rowB_spliced (k := k + 1) (by omega) hk2 (by omega) hk3 hk4 hg4 hb4 (fun i hi _ => addw_same W64_pos HF2.out hi)⟩
            exact (addw_none W64_pos HF2.out (by omega)).symm
      · obtain rfl : k = n := by omega
        go_wp2
        go_ret
        exact ⟨ret_u64 HCA.out.symm, hR.toB hBg hBw⟩
end Go.Proofs.YtececkbcinmmpaaGreatDoor
namespace Go.Bg
open Go.RowKit Dg
theorem NumAt.wcells {w : World} {b o n c N : Nat} (h : NumAt .u64 W64 w (some ⟨b, o, none⟩) n c N) {k m : Nat} (hk : k + m ≤ n) : WCells w b (o + k) m (dg W64 (N / W64 ^ k)) := by
  intro i hi
  have := h.cell (i := k + i) (by omega)
  rw [dg_div, ← this]
  congr 2
  omega
theorem NumAt.wcells0 {w : World} {b o n c N : Nat} (h : NumAt .u64 W64 w (some ⟨b, o, none⟩) n c N) {m : Nat} (hk : m ≤ n) : WCells w b o m (dg W64 N) := by
  intro i hi
  exact h.cell (i := i) (by omega)
theorem below_drew' (w : World) (B : Nat) : Below B w w.drew := (Below.refl _ _).drew
theorem add_high {N1 N2 n m : Nat} (h1 : N1 < W64 ^ m) (h2 : N2 < W64 ^ n) (hnm : n ≤ m) :
    (N1 + N2) / W64 ^ n = N1 / W64 ^ n + (N1 % W64 ^ n + N2 % W64 ^ n) / W64 ^ n ∧
    dg W64 (N1 + N2) m = (N1 / W64 ^ n % W64 ^ (m - n) + (N1 % W64 ^ n + N2 % W64 ^ n) / W64 ^ n) / W64 ^ (m - n) := by
  have e2 : N2 % W64 ^ n = N2 := Nat.mod_eq_of_lt h2
  have hc := add_carry_le W64_pos N1 N2 n
  rw [e2] at hc ⊢
  have e1 := addw_div W64_pos N1 N2 n
  refine ⟨e1, ?_⟩
  obtain ⟨d, rfl⟩ : ∃ d, m = n + d := ⟨m - n, by omega⟩
  rw [show n + d - n = d from by omega]
  have hX : N1 / W64 ^ n < W64 ^ d := (Nat.div_lt_iff_lt_mul (Nat.pow_pos W64_pos)).2 (by rw [Nat.mul_comm, ← Nat.pow_add]; exact h1)
  rw [Nat.mod_eq_of_lt hX, dg, Nat.pow_add, ← Nat.div_div_eq_div_mul, e1]
  refine Nat.mod_eq_of_lt ((Nat.div_lt_iff_lt_mul (Nat.pow_pos W64_pos)).2 ?_)
  have hp : 0 < W64 ^ d := Nat.pow_pos W64_pos
  have : 2 * W64 ^ d ≤ W64 * W64 ^ d := Nat.mul_le_mul_right _ (by unfold W64; omega)
  omega
theorem add_fits {N1 N2 n m : Nat} (h1 : N1 < W64 ^ m) (h2 : N2 < W64 ^ n) (hnm : n ≤ m) : N1 + N2 < W64 ^ (m + 1) := by
  have h3 : W64 ^ n ≤ W64 ^ m := Nat.pow_le_pow_right W64_pos hnm
  have : 2 * W64 ^ m ≤ W64 * W64 ^ m := Nat.mul_le_mul_right _ (by unfold W64; omega)
  rw [Nat.pow_succ, Nat.mul_comm]
  omega
theorem bigN_row {T : TypeId} {w : World} {g c N m : Nat} {cur : Array Value} (hb : BlkAt w g cur T) (hs : cur.size = c) (hd : ∀ i, i < m → cur[i]? = some (.int .u64 (dg W64 N i : Nat))) (hm : m ≤ c) (hc : c ≤ maxLen) (hN : N < W64 ^ m) :
    Cells w (some ⟨g, 0, none⟩) m (fun i => .int .u64 (dg W64 N i : Nat)) ∧ BigN T w (some ⟨g, 0, none⟩) (tlen (dg W64 N) m) c N := by
  have hcl : Cells w (some ⟨g, 0, none⟩) m (fun i => .int .u64 (dg W64 N i : Nat)) := fun _ => ⟨g, 0, rfl, fun i hi => by
    rw [Nat.zero_add, hb.cell]; exact hd i hi⟩
  have h := bigN_of_words (T := T) (w := w) (f := dg W64 N) (fun i _ => dg_lt W64_pos _ _) hm hc hcl (.inr ⟨g, cur, rfl, hb, hs⟩)
  rw [val_dg, Nat.mod_eq_of_lt hN] at h
  exact ⟨hcl, h⟩
theorem RowUp.wipe {T : TypeId} {w : World} {g o : Nat} {cur : Array Value} {h : Nat → Nat} (hz : ∀ i, h i = 0) : ∀ (n k : Nat) (w' : World), RowUp T w w' g o k cur h → o + k + n ≤ cur.size → RowUp T w (w'.setCells g (o + k) (List.replicate n (.int .u64 0))) g o (k + n) cur h := by
  intro n
  induction n with
  | zero => intro k w' r _; exact r
  | succ n ih =>
    intro k w' r hk
    have := ih (k + 1) _ (r.step (x := 0) (by omega) (hz k).symm) (by omega)
    rw [show k + (n + 1) = k + 1 + n from by omega]
    exact this
theorem RowUp.over {T : TypeId} {w wr w2 : World} {g o n i m : Nat} {cur cr : Array Value} {h h2 h' : Nat → Nat} (r : RowUp T w wr g o n cur h) (hb : BlkAt wr g cr T) (q : RowUp T wr w2 g (o + i) m cr h2) (him : i + m ≤ n)
    (hnew : ∀ j, j < m → h2 j = h' (i + j)) (hold : ∀ j, j < n → (j < i ∨ i + m ≤ j) → h j = h' j) : RowUp T w w2 g o n cur h' := by
  obtain ⟨c1, k1, k2, k3, k4⟩ := r.blk
  obtain rfl : c1 = cr := by
    unfold BlkAt at k1 hb
    rw [k1] at hb
    injection hb with hb
    injection hb
  obtain ⟨c2, l1, l2, l3, l4⟩ := q.blk
  refine ⟨r.upd.trans q.upd, c2, l1, by rw [l2, k2], fun j hj => ?_, fun j hj => ?_⟩
  · by_cases e : j < i ∨ i + m ≤ j
    · rw [l4 (o + j) (by omega), k3 j hj, hold j hj e]
    · have := l3 (j - i) (by omega)
      rw [show o + i + (j - i) = o + j from by omega] at this
      rw [this, hnew (j - i) (by omega), show i + (j - i) = j from by omega]
  · rw [l4 j (by omega), k4 j hj]
end Go.Bg
namespace Dg
theorem dg_zero_of_lt {B N k : Nat} (h : N < B ^ k) : dg B N k = 0 := by
  unfold dg; rw [Nat.div_eq_of_lt h, Nat.zero_mod]
theorem dg_zero_of_lt' {B N k n : Nat} (hB : 0 < B) (h : N < B ^ n) (hn : n ≤ k) : dg B N k = 0 :=
  dg_zero_of_lt (Nat.lt_of_lt_of_le h (Nat.pow_le_pow_right hB hn))
theorem mul_part {B N1 N2 n1 k : Nat} (hB : 0 < B) (h1 : N1 < B ^ n1) : N1 * (N2 % B ^ k) < B ^ (k + n1) ∨ N1 = 0 := by
  by_cases h0 : N1 = 0
  · exact .inr h0
  · have hm := Nat.mod_lt N2 (Nat.pow_pos (n := k) hB)
    rw [Nat.add_comm, Nat.pow_add]
    exact .inl (Nat.mul_lt_mul_of_lt_of_le h1 (Nat.le_of_lt hm) (Nat.pow_pos hB))
theorem mul_part_lt {B N1 N2 n1 k : Nat} (hB : 0 < B) (h1 : N1 < B ^ n1) : N1 * (N2 % B ^ k) < B ^ (k + n1) := by
  rcases mul_part (N2 := N2) (k := k) hB h1 with h | h
  · exact h
  · subst h; rw [Nat.zero_mul]; exact Nat.pow_pos hB
theorem mul_part_step {B N1 N2 k : Nat} : N1 * (N2 % B ^ (k + 1)) = N1 * (N2 % B ^ k) + B ^ k * (N1 * dg B N2 k) := by
  rw [mod_succ, Nat.mul_add]
  congr 1
  rw [← Nat.mul_assoc, Nat.mul_comm N1, Nat.mul_assoc]
theorem mul_round {B N1 N2 n1 n2 k : Nat} (hB : 1 < B) (h1 : N1 < B ^ n1) (hk : k < n2) (X : Nat) (hX : X = N1 * (N2 % B ^ k) / B ^ k) :
    (X % B ^ n1 + N1 % B ^ n1 * dg B N2 k) / B ^ n1 = dg B (X + N1 * dg B N2 k) n1 ∧
    (∀ j, j < n1 + 1 → dg B (X + N1 * dg B N2 k) j = dg B (N1 * (N2 % B ^ (k + 1))) (k + j)) ∧
    (∀ j, j < n1 + n2 → (j < k ∨ k + (n1 + 1) ≤ j) → dg B (N1 * (N2 % B ^ k)) j = dg B (N1 * (N2 % B ^ (k + 1))) j) := by
  have hB0 : 0 < B := by omega
  have hp : 0 < B ^ k := Nat.pow_pos hB0
  have hlt := mul_part_lt (N2 := N2) (k := k) hB0 h1
  have hlt' := mul_part_lt (N2 := N2) (k := k + 1) hB0 h1
  have hXl : X < B ^ n1 := by
    rw [hX]; exact Nat.div_lt_of_lt_mul (by rw [← Nat.pow_add]; exact hlt)
  have hd := dg_lt hB0 N2 k
  have hs := mul_part_step (B := B) (N1 := N1) (N2 := N2) (k := k)
  have hsum : X + N1 * dg B N2 k = N1 * (N2 % B ^ (k + 1)) / B ^ k := by
    rw [hs, Nat.add_mul_div_left _ _ hp, ← hX]
  refine ⟨?_, fun j hj => ?_, fun j hj hjj => ?_⟩
  · rw [Nat.mod_eq_of_lt hXl, Nat.mod_eq_of_lt h1]
    have hu : dg B (X + N1 * dg B N2 k) n1 = (X + N1 * dg B N2 k) / B ^ n1 % B := rfl
    rw [hu]
    refine (Nat.mod_eq_of_lt ?_).symm
    rw [Nat.div_lt_iff_lt_mul (Nat.pow_pos hB0), hsum, Nat.div_lt_iff_lt_mul hp, ← Nat.pow_succ', ← Nat.pow_add]
    refine Nat.lt_of_lt_of_le hlt' (Nat.le_of_eq ?_)
    congr 1; omega
  · rw [hsum, dg_div]
  · rcases hjj with hjj | hjj
    · rw [hs]
      unfold dg
      obtain ⟨e, rfl⟩ : ∃ e, k = j + 1 + e := ⟨k - j - 1, by omega⟩
      have : B ^ (j + 1 + e) * (N1 * (N2 / B ^ (j + 1 + e) % B)) = B ^ j * (B * (B ^ e * (N1 * (N2 / B ^ (j + 1 + e) % B)))) := by
        rw [Nat.pow_add, Nat.pow_succ]
        simp only [Nat.mul_assoc]
      rw [this, Nat.add_mul_div_left _ _ (Nat.pow_pos hB0), Nat.add_mul_mod_self_left]
    · rw [dg_zero_of_lt' hB0 hlt (by omega), dg_zero_of_lt' hB0 hlt' (by omega)]
end Dg
namespace Go.Proofs.YtececkbcinmmpaaGreatDoor
open Go.RowKit Go.Bg Dg
theorem zeroWord (w : World) : (zeroValue 139).run Tryz.prog w = .ok (.int .u64 0) w := by kernel_rfl
theorem addMulVVWW0_any (g o n c0 b1 o1 c1 b2 o2 c2 : Nat) (cur : Array Value) (X Y m : Nat) (w : World) (hg : BlkAt w g cur 139) (hn : n ≤ 1000000) (hr : o + n ≤ cur.size) (h0 : n ≤ c0) (h0m : c0 ≤ maxLen)
    (h1 : WCells w b1 o1 n (dg W64 X)) (h1c : n ≤ c1) (h1m : c1 ≤ maxLen) (h2 : WCells w b2 o2 n (dg W64 Y)) (h2c : n ≤ c2) (h2m : c2 ≤ maxLen) (hn1 : b1 ≠ g ∨ o ≤ o1) (hn2 : b2 ≠ g ∨ o ≤ o2) (hm : m < W64) :
    Calls Tryz.prog 256 #[.slice (some ⟨g, o, none⟩) n c0, .slice (some ⟨b1, o1, none⟩) n c1, .slice (some ⟨b2, o2, none⟩) n c2, .int .u64 m, .int .u64 0] w
      (VecIs g o n cur (dg W64 (X + Y * m)) ((X % W64 ^ n + Y % W64 ^ n * m) / W64 ^ n) w) :=
  addMulVVWW_any g o n c0 b1 o1 c1 b2 o2 c2 cur X Y m 0 w hg hn hr h0 h0m h1 h1c h1m h2 h2c h2m hn1 hn2 hm W64_pos
def MulRow (g n : Nat) (cur : Array Value) (N : Nat) (w : World) (e : Ending) (w' : World) : Prop :=
  e = .returned (.tuple #[]) ∧ RowUp 139 w w' g 0 n cur (dg W64 N)
theorem basicMul_any (g m c b1 o1 n1 c1 b2 o2 n2 c2 : Nat) (cur : Array Value) (N1 N2 : Nat) (w : World) (hg : BlkAt w g cur 139) (hs : cur.size = c) (hm : m ≤ c) (hmn : n1 + n2 ≤ m) (hcm : c ≤ maxLen) (hz1 : 0 < n1) (hz2 : 0 < n2) (hb1 : n1 ≤ 400000) (hb2 : n2 ≤ 400000)
    (h1 : WCells w b1 o1 n1 (dg W64 N1)) (h1c : n1 ≤ c1) (h1m : c1 ≤ maxLen) (h2 : WCells w b2 o2 n2 (dg W64 N2)) (h2c : n2 ≤ c2) (h2m : c2 ≤ maxLen) (hn1 : b1 ≠ g) (hn2 : b2 ≠ g) (l1 : N1 < W64 ^ n1) (l2 : N2 < W64 ^ n2) :
    Calls Tryz.prog 219 #[.slice (some ⟨g, 0, none⟩) m c, .slice (some ⟨b1, o1, none⟩) n1 c1, .slice (some ⟨b2, o2, none⟩) n2 c2] w (MulRow g (n1 + n2) cur (N1 * N2) w) := by
  unfold maxLen at hcm h1m h2m
  have hcl : ∀ ty, (Builtin.clear_ #[153] ty #[.slice (some ⟨g, 0, none⟩) (n1 + n2) c]).run Tryz.prog w = .ok (.tuple #[]) (w.setCells g 0 (List.replicate (n1 + n2) (.int .u64 0))) :=
    fun ty => Lib.run_clear_slice w _ _ ty (.int .u64 0) Tryz.underlying153 zeroWord rfl rfl g 0 (n1 + n2) c (by omega) (fun j hj => by rw [hg.cell, Array.getElem?_eq_getElem (by omega)]; rfl) (fun j hj => hg.frozen _)
  have HG := Lib.hid hg
  have H1 := Lib.hid h1
  have H2 := Lib.hid h2
  have L1 := Lib.hid l1
  have HS := Lib.hid hs
  have HN2 := Lib.hid (Nat.mod_eq_of_lt l2)
  have s1 : IntKind.i64.wrap ((n1 : Int) + n2) = (n1 : Int) + n2 := IntWalk.i64_in _ (by omega)
  have s2 : (0 : Int) ≤ (n1 : Int) + n2 := by omega
  have s3 : (n1 : Int) + n2 ≤ c := by omega
  have s4 : ((n1 : Int) + n2).toNat = n1 + n2 := by omega
  obtain ⟨W0, hW0⟩ : ∃ W0, W0 = w.setCells g 0 (List.replicate (n1 + n2) (.int .u64 0)) := ⟨_, rfl⟩
  have HR0 := Lib.hid (show RowUp 139 w W0 g 0 (n1 + n2) cur (dg W64 (N1 * (N2 % W64 ^ 0))) from by
    have := RowUp.wipe (T := 139) (w := w) (g := g) (o := 0) (cur := cur) (h := dg W64 (N1 * (N2 % W64 ^ 0))) (fun i => by simp [Nat.mod_one, dg]) (n1 + n2) 0 w (RowUp.start hg 0 _) (by omega)
    rw [hW0]; simpa using this)
  rw [← hW0] at hcl
  clear hg h1 h2 l1 l2 hW0 hs
  go_enter Tryz.func219, Tryz.ntmps219
  go_wp2_with (simp only [hcl])
  clear s1 s2 s3 s4 hcl
  go_loopw [6, 7, 17] (fun _ _ i wr => ∃ k : Nat, k ≤ n2 ∧ i = .int .i64 k ∧ RowUp 139 w wr g 0 (n1 + n2) cur (dg W64 (N1 * (N2 % W64 ^ k))))
    (fun _ _ i _ => n2 - (intOf i).toNat)
  case atStart => exact ⟨0, Nat.zero_le _, rfl, HR0.out⟩
  case round =>
    obtain ⟨k, hk, rfl, hR⟩ := hrel
    by_cases k1 : k < n2
    · have e2 : wr.cell? ⟨b2, o2 + k, none⟩ = some (.int .u64 (dg W64 N2 k : Nat)) := by
        have := H2.out k k1
        rw [hR.upd.cell (p := ⟨b2, o2 + k, none⟩) (block_lt this) hn2]; exact this
      have d2 : dg W64 N2 k < 18446744073709551616 := W64_lt (dg_lt W64_pos _ _)
      by_cases hd0 : dg W64 N2 k = 0
      · have HQ := Lib.hid (show RowUp 139 w wr g 0 (n1 + n2) cur (dg W64 (N1 * (N2 % W64 ^ (k + 1)))) from by
          rw [mul_part_step, hd0, Nat.mul_zero, Nat.mul_zero, Nat.add_zero]; exact hR)
        rw [hd0] at e2
        clear hR hd0
        go_wp2
        go_roundw
        case rel => exact ⟨k + 1, by omega, by go_num, HQ.out⟩
        case measure => simp [intOf]; omega
      · obtain ⟨X, hX⟩ : ∃ X, X = N1 * (N2 % W64 ^ k) / W64 ^ k := ⟨_, rfl⟩
        have HM := Lib.hid (mul_round (n2 := n2) W64_gt L1.out k1 X hX)
        have HR := Lib.hid hR
        obtain ⟨cr, hk1, hk2, hk3, hk4⟩ := hR.blk
        have HB := Lib.hid hk1
        have HZ := Lib.hid (show cr.size = c from by rw [hk2, HS.out])
        have HX := Lib.hid (show ∀ j, j < n1 → wr.cell? ⟨g, k + j, none⟩ = some (.int .u64 (dg W64 X j : Nat)) from fun j hj => by
          have := hk3 (k + j) (by omega)
          rw [Nat.zero_add] at this
          rw [hk1.cell, this, hX, dg_div])
        have HY := Lib.hid (show WCells wr b1 o1 n1 (dg W64 N1) from fun j hj => by
          have := H1.out j hj
          rw [hR.upd.cell (p := ⟨b1, o1 + j, none⟩) (block_lt this) hn1]; exact this)
        have hbn : ((dg W64 N2 k : Nat) : Int) != 0 := by simpa using hd0
        clear hR hk1 hk2 hk3 hk4 hX hd0
        have HD := Lib.hid (show dg W64 N2 k < W64 from d2)
        generalize dg W64 N2 k = d at *
        have s1 : IntKind.i64.wrap ((k : Int) + n1) = (k : Int) + n1 := IntWalk.i64_in _ (by omega)
        have s5 : IntKind.i64.wrap ((n1 : Int) + k) = (n1 : Int) + k := IntWalk.i64_in _ (by omega)
        have s2 : (0 : Int) ≤ (k : Int) + n1 := by omega
        have s3 : (k : Int) + n1 ≤ c := by omega
        have s4 : ((k : Int) + n1).toNat = k + n1 := by omega
        have s6 : ((n1 : Int) + k).toNat = n1 + k := by omega
        have s7 : (n1 : Int) + k < m := by omega
        have s8 : (k : Int) ≤ (k : Int) + n1 := by omega
        have s9 : (k : Int) ≤ c := by omega
        have s10 : k + n1 - k = n1 := by omega
        have hd0 : ∀ q, Below wr.heap.size wr (wr.drewN q) := fun q => below_drewN (Below.refl wr.heap.size wr) q
        go_upto_region 5 with fail
        go_region_with
          ((go_at_call 256; (with_reducible refine (addMulVVWW0_any g k n1 (c - k) g k (c - k) b1 o1 c1 cr X N1 d _ ?_ ?_ ?_ ?_ ?_ ?_ ?_ ?_ ?_ ?_ ?_ ?_ ?_ ?_).mono ?_); exact HB.out.keep (hd0 _); omega; (rw [HZ.out]; omega); omega; (unfold maxLen; omega); (intro j hj; exact cell_keep (HX.out j hj) (hd0 _)); omega; (unfold maxLen; omega); (intro j hj; exact cell_keep (HY.out j hj) (hd0 _)); omega; (unfold maxLen; omega); exact .inr (Nat.le_refl _); exact .inl hn1; exact HD.out; rintro e w2 ⟨rfl, hR2⟩; rw [HM.out.1]; have HR2 := Lib.hid hR2; have hroom := hR2.room (j := n1 + k) (by rw [HZ.out]; omega); obtain ⟨⟨u0, p0⟩, f0⟩ := hroom; clear hR2))
        all_goals
          go_wp2
          have HR3 := Lib.hid (HR2.out.step (x := dg W64 (X + N1 * d) n1) (by rw [HZ.out]; omega) rfl)
          have hRd : RowUp 139 w wr.drew g 0 (n1 + n2) cur (dg W64 (N1 * (N2 % W64 ^ k))) := HR.out.drewN 1
          have hBd : BlkAt wr.drew g cr 139 := HB.out.keep (hd0 1)
          have HF := Lib.hid (hRd.over (i := k) hBd (by simpa using HR3.out) (by omega) HM.out.2.1 HM.out.2.2)
          go_roundw
          case rel => exact ⟨k + 1, by omega, by go_num, by have := HF.out; simpa [Nat.add_comm] using this⟩
          case measure => simp [intOf]; omega
    · obtain rfl : k = n2 := by omega
      rw [HN2.out] at hR
      go_wp2
      go_end0
      exact ⟨rfl, hR⟩
end Go.Proofs.YtececkbcinmmpaaGreatDoor
