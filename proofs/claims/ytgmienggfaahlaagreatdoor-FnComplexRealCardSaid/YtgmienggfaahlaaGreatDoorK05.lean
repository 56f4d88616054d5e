/-
  Contracts and lemmas: VecC NatA VecD NatB Shelf.
-/
import Derived.Test.YtgmienggfaahlaaGreatDoorK04
import Derived.Shelf.Small.Bits
import Derived.Shelf.Strconv.Itoa0
import Derived.Shelf.Bits.Mul64
import Derived.Test.YtgmienggfaahlaaGreatDoorProg
set_option linter.unusedSimpArgs false
set_option linter.unusedVariables false
set_option maxRecDepth 100000
set_option maxHeartbeats 8000000
namespace Go.Bg
open Go.RowKit Dg
structure RowB (T : TypeId) (B : Nat) (w w' : World) (g o n : Nat) (cur : Array Value) (h : Nat → Nat) : Prop where
  below : Below B w w'
  blk : ∃ cur', BlkAt w' g cur' T ∧ cur'.size = cur.size ∧ (∀ i, i < n → cur'[o + i]? = some (.int .u64 (h i : Nat))) ∧ ∀ j, (j < o ∨ o + n ≤ j) → cur'[j]? = cur[j]?
theorem RowUp.toB {T : TypeId} {B : Nat} {w w' : World} {g o n : Nat} {cur : Array Value} {h : Nat → Nat} (r : RowUp T w w' g o n cur h) (hg : B ≤ g) (hB : B ≤ w.heap.size) : RowB T B w w' g o n cur h :=
  ⟨r.upd.below (Below.refl B w) hB (fun k _ e => e ▸ hg), r.blk⟩
theorem RowUp.mono {T : TypeId} {w w' : World} {g o n : Nat} {cur : Array Value} {h h' : Nat → Nat} (r : RowUp T w w' g o n cur h) (he : ∀ i, i < n → h i = h' i) : RowUp T w w' g o n cur h' := by
  obtain ⟨cur', h1, h2, h3, h4⟩ := r.blk
  exact ⟨r.upd, cur', h1, h2, fun i hi => by rw [← he i hi]; exact h3 i hi, h4⟩
def wlf (X i n : Nat) : List Value := (List.range n).map (fun j => Value.int .u64 (dg W64 X (i + j) : Nat))
theorem wlf_get {X i n j : Nat} (h : j < n) : (wlf X i n)[j]? = some (.int .u64 (dg W64 X (i + j) : Nat)) := by simp [wlf, h]
theorem wlf_len (X i n : Nat) : (wlf X i n).length = n := by simp [wlf]
theorem wlf_one (X i n : Nat) : ∀ v ∈ wlf X i n, v.oneCell' = true := by
  intro v hv
  simp only [wlf, List.mem_map] at hv
  obtain ⟨_, _, rfl⟩ := hv
  rfl
theorem rowB_spliced {T : TypeId} {B : Nat} {w w2 : World} {g o k n X : Nat} {cur cur' : Array Value} {h : Nat → Nat} (hkn : k ≤ n) (hsz : cur'.size = cur.size) (hfit : o + n ≤ cur.size)
    (h3 : ∀ i, i < k → cur'[o + i]? = some (.int .u64 (h i : Nat))) (h4 : ∀ j, (j < o ∨ o + k ≤ j) → cur'[j]? = cur[j]?)
    (hg : w2.heap[g]? = some (.cells (splice cur'.toList (o + k) (wlf X k (n - k))).toArray T (0, 0))) (hb : Below B w w2) (he : ∀ i, k ≤ i → i < n → h i = dg W64 X i) : RowB T B w w2 g o n cur h := by
  have hl : (wlf X k (n - k)).length = n - k := wlf_len _ _ _
  have hll : o + k + (wlf X k (n - k)).length ≤ cur'.toList.length := by rw [hl]; simp; omega
  refine ⟨hb, (splice cur'.toList (o + k) (wlf X k (n - k))).toArray, hg, by simp only [List.size_toArray]; rw [length_splice _ _ _ hll]; simpa using hsz, fun i hi => ?_, fun j hj => ?_⟩
  · by_cases hik : i < k
    · rw [← h3 i hik]
      simp only [List.getElem?_toArray, splice]
      rw [List.getElem?_append_left (by simp; omega), List.getElem?_take_of_lt (by omega)]
      simp
    · simp only [List.getElem?_toArray, splice]
      have hls : cur'.toList.length = cur'.size := by simp
      have hidx : o + i - min (o + k) cur'.toList.length = i - k := by rw [hls]; omega
      rw [List.getElem?_append_right (by simp; omega), List.getElem?_append_left (by rw [hl]; simp; omega), List.length_take, hidx, wlf_get (by omega), he i (by omega) hi, show k + (i - k) = i from by omega]
  · rw [← h4 j (by omega)]
    simp only [List.getElem?_toArray, splice]
    rcases hj with hj | hj
    · rw [List.getElem?_append_left (by simp; omega), List.getElem?_take_of_lt (by omega)]
      simp
    · by_cases hjs : j < cur'.size
      · rw [List.getElem?_append_right (by simp; omega), List.getElem?_append_right (by rw [hl]; simp; omega), List.getElem?_drop, hl, List.length_take]
        have : o + k + (n - k) + (j - min (o + k) cur'.toList.length - (n - k)) = j := by simp; omega
        rw [this]; simp
      · rw [Array.getElem?_eq_none (by omega), List.getElem?_eq_none]
        have := length_splice _ _ _ hll
        unfold splice at this
        rw [this]; simp; omega
end Go.Bg
namespace Go.Bg
open Dg
theorem ret_u64 {a b : Nat} (h : a = b) : Ending.returned (.int .u64 (a : Nat)) = .returned (.int .u64 (b : Nat)) := by rw [h]
theorem addw_none {B X y k n : Nat} (hB : 0 < B) (h : (X % B ^ k + y) / B ^ k = 0) (hkn : k ≤ n) : (X % B ^ n + y) / B ^ n = 0 := by
  have hp := Nat.pow_pos (n := k) hB
  have hq := Nat.pow_pos (n := n) hB
  have h1 : X % B ^ k + y < B ^ k := by
    rcases Nat.lt_or_ge (X % B ^ k + y) (B ^ k) with hh | hh
    · exact hh
    · have := Nat.div_pos hh hp; omega
  obtain ⟨d, rfl⟩ : ∃ d, n = k + d := ⟨n - k, by omega⟩
  have e := Nat.mod_mul (x := X) (a := B ^ k) (b := B ^ d)
  rw [Nat.pow_add, e]
  have hd := Nat.mod_lt (X / B ^ k) (Nat.pow_pos (n := d) hB)
  have : B ^ k * (X / B ^ k % B ^ d) + B ^ k ≤ B ^ k * B ^ d := by
    rw [← Nat.mul_succ]; exact Nat.mul_le_mul_left _ hd
  exact Nat.div_eq_of_lt (by omega)
end Go.Bg
namespace Go.Proofs.YtgmienggfaahlaaGreatDoor
open Go.RowKit Go.Bg Dg
def VecBs (B g o n : Nat) (cur : Array Value) (h : Nat → Nat) (c : Nat) (w : World) (e : Ending) (w' : World) : Prop :=
  e = .returned (.int .u64 (c : Nat)) ∧ RowB 155 B w w' g o n cur h
theorem infoWordJ : ∃ j, Tryz.prog.info? 155 = some j ∧ j.size = 1 := Option.map_eq_some_iff.1 infoWordSize
theorem addVW_any (B g o n c0 b1 o1 c1 : Nat) (cur cur1 : Array Value) (T1 : TypeId) (X y : Nat) (w : World) (hg : BlkAt w g cur 155) (hg1 : BlkAt w b1 cur1 T1) (hBg : B ≤ g) (hBw : B ≤ w.heap.size) (hn1 : 1 ≤ n) (hn : n ≤ 1000000) (hr : o + n ≤ cur.size) (h0 : n ≤ c0) (h0m : c0 ≤ maxLen)
    (h1 : WCells w b1 o1 n (dg W64 X)) (h1c : n ≤ c1) (h1m : c1 ≤ maxLen) (hne : b1 ≠ g) (hy : y < W64) :
    Calls Tryz.prog 196 #[.slice (some ⟨g, o, none⟩) n c0, .slice (some ⟨b1, o1, none⟩) n c1, .int .u64 y] w
      (VecBs B g o n cur (dg W64 (X + y)) ((X % W64 ^ n + y) / W64 ^ n) w) := by
  unfold maxLen at h0m h1m
  obtain ⟨j, hj, hj1⟩ := infoWordJ
  have hy' : y < 18446744073709551616 := W64_lt hy
  have HG := Lib.hid hg
  have HG1 := Lib.hid hg1
  have H1 := Lib.hid h1
  have e1 := h1 0 (by omega)
  rw [Nat.add_zero] at e1
  have d1 : dg W64 X 0 < 18446744073709551616 := W64_lt (dg_lt W64_pos _ _)
  have HS := Lib.hid (addw_step W64_pos X y 0)
  have hroom := (RowUp.start hg o (dg W64 (X + y))).room (j := o) (by omega)
  obtain ⟨⟨u0, p0⟩, f0⟩ := hroom
  have HX := Lib.hid (show dg W64 X 0 = dg W64 X 0 from rfl)
  have hn0 : ((n : Int) == 0) = false := by simp; omega
  clear hg hg1 h1 hy
  generalize hx : dg W64 X 0 = x at *
  simp only [Nat.pow_zero, Nat.mod_one, Nat.zero_add, Nat.div_one, Nat.pow_one] at HS
  have HE := Lib.hid (show (x + y + 0) % 18446744073709551616 = dg W64 (X + y) 0 from by rw [HS.out.1]; rfl)
  have HF := Lib.hid (show (x + y + 0) / 18446744073709551616 = (X % W64 + y) / W64 from by rw [HS.out.2]; rfl)
  have hdl : (x + y + 0) % 18446744073709551616 < 18446744073709551616 := Nat.mod_lt _ (by decide)
  have hcl : (x + y + 0) / 18446744073709551616 ≤ 1 := by omega
  have HC := Lib.hid (fun w => bitsAdd_any x y 0 (by omega) w)
  generalize (x + y + 0) % 18446744073709551616 = s at *
  generalize hcc : (x + y + 0) / 18446744073709551616 = cc at *
  clear hx hcc
  go_enter Tryz.func196, Tryz.ntmps196
  go_wp2_with fail
  refine (HC.out _).mono ?_
  rintro e w1 ⟨rfl, rfl⟩
  have HR := Lib.hid ((RowUp.start HG.out o (dg W64 (X + y))).step (by omega) HE.out)
  simp only [Nat.add_zero, Nat.zero_add] at HR
  obtain ⟨W1, hW1⟩ : ∃ W1, W1 = w.setCell ⟨g, o, none⟩ (.int .u64 (s : Nat)) := ⟨_, rfl⟩
  have HW1 := Lib.hid hW1
  rw [← hW1] at HR
  obtain ⟨cur', hk1, hk2, hk3, hk4⟩ := HR.out.blk
  have hk5 := HR.out.upd.blk HG1.out hne
  have HQ := Lib.hid (fun q => run_neq_ptr_other (P := Tryz.prog) (a := ⟨g, o, none⟩) (b := ⟨b1, o1, none⟩) (W1.drewN q) Tryz.underlying219 hj (by rw [hj1]; decide) (by intro h; injection h with h _ _; exact hne h.symm) hk1 hk5)
  clear hW1
  by_cases hc0 : cc = 0
  · subst hc0
    go_upto_region 8 with fail
    rw [← HW1.out]
    have hq := HQ.out
    go_quiet (fail)
    go_upto_region 9 with fail
    have hbd : Below W1.heap.size W1 (W1.drewN (nq + 1)) := below_drewN (Below.refl _ _) (nq + 1)
    have hk1' := hk1.keep hbd
    have HG2 := Lib.hid (show (W1.drewN (nq + 1)).heap[g]? = some (.cells cur'.toList.toArray 155 (0, 0)) from by unfold BlkAt at hk1'; simpa using hk1')
    have HSRC := Lib.hid (show ∀ j v, (wlf X 1 (n - 1))[j]? = some v → (W1.drewN (nq + 1)).cell? ((⟨b1, o1 + 1, none⟩ : Addr).add j) = some v from by
      intro j v hjv
      have hjn : j < n - 1 := by
        have := (List.getElem?_eq_some_iff.1 hjv).1
        rwa [wlf_len] at this
      rw [wlf_get hjn] at hjv
      rw [← hjv, Addr.add_lit, show o1 + 1 + j = o1 + (1 + j) from by omega]
      exact cell_keep (HR.out.read HG.out (H1.out (1 + j) (by omega)) (.inl hne) (by omega)) hbd)
    have HB2 := Lib.hid (((HR.out.toB hBg hBw).below).trans (hbd.mono (Nat.le_trans hBw HR.out.upd.size)))
    have HT := Lib.hid (show o + 1 + (wlf X 1 (n - 1)).length ≤ cur'.toList.length from by rw [wlf_len]; simp; omega)
    have HL := Lib.hid (wlf_len X 1 (n - 1))
    have hn1i : (1 : Int) ≤ n := by omega
    have HNC := Lib.hid (show (X % W64 ^ 1 + y) / W64 ^ 1 = 0 from by rw [Nat.pow_one]; exact HF.out.symm)
    clear hbd hk1'
    go_region_law (refine step_copy_splice rfl (.tmp 40) (.tmp 42) 146 146 rfl 155 Tryz.underlying146 infoWordSize _ _ _ _ _ _ rfl rfl g (o + 1) cur'.toList 155 HG2.out (wlf X 1 (n - 1)) (by rw [HL.out]; exact (Nat.min_self _).symm) (fun h0 => by rw [HL.out] at h0; exact ⟨if_neg (by omega), ⟨b1, o1 + 1, none⟩, if_neg (by omega), HSRC.out⟩) HT.out (wlf_one _ _ _) B w HB2.out hBg ?_; intro w4 hg4 hb4)
    all_goals go_wp2
    all_goals
      go_ret
      refine ⟨ret_u64 ?_, rowB_spliced (k := 1) (by omega) hk2 (by omega) hk3 hk4 hg4 hb4 (fun i hi _ => addw_same W64_pos HNC.out hi)⟩
      exact (addw_none W64_pos HNC.out (by omega)).symm
  · obtain rfl : cc = 1 := by omega
    have HC1 := Lib.hid (show (X % W64 ^ 1 + y) / W64 ^ 1 = 1 from by rw [Nat.pow_one]; exact HF.out.symm)
    go_upto_region 11 with fail
    rw [← HW1.out]
    clear hk1 hk2 hk3 hk4 hk5 p0 f0 e1 hc0 hcl
    go_wp2
    go_loopw [6, 9, 10] (fun _ i _ wr => ∃ k : Nat, 1 ≤ k ∧ k ≤ n ∧ i = .int .i64 k ∧ (X % W64 ^ k + y) / W64 ^ k = 1 ∧ RowUp 155 w wr g o k cur (dg W64 (X + y)))
      (fun _ i _ _ => n - (intOf i).toNat)
    case atStart => exact ⟨1, Nat.le_refl _, hn1, rfl, HC1.out, HR.out⟩
    case round =>
      obtain ⟨k, hk0, hk, rfl, hca, hR⟩ := hrel
      have HCA := Lib.hid hca
      clear hca
      by_cases k1 : k < n
      · have e1 := hR.read HG.out (H1.out k k1) (.inl hne) (Nat.le_refl _)
        have d1 : dg W64 X k < 18446744073709551616 := W64_lt (dg_lt W64_pos _ _)
        have HS2 := Lib.hid (addw_step W64_pos X y k)
        rw [HCA.out] at HS2
        have HRR := Lib.hid hR
        have hroom := hR.room (j := o + k) (by omega)
        obtain ⟨⟨u0, p0⟩, f0⟩ := hroom
        clear hR
        generalize hx : dg W64 X k = xk at *
        clear hx
        by_cases hm : xk = 18446744073709551615
        · subst hm
          have HE2 := Lib.hid (show 0 = dg W64 (X + y) k from by rw [HS2.out.1]; rfl)
          have HF2 := Lib.hid (show (X % W64 ^ (k + 1) + y) / W64 ^ (k + 1) = 1 from by rw [HS2.out.2]; rfl)
          go_wp2
          go_roundw
          case rel => exact ⟨k + 1, by omega, by omega, by go_num, HF2.out, HRR.out.step (x := 0) (by omega) HE2.out⟩
          case measure => simp [intOf]; omega
        · have hmb : ((xk : Int) != 18446744073709551615) = true := by simp; omega
          have hxw : xk + 1 < 18446744073709551616 := by omega
          have HE2 := Lib.hid (show xk + 1 = dg W64 (X + y) k from by rw [HS2.out.1]; exact (Nat.mod_eq_of_lt hxw).symm)
          have HF2 := Lib.hid (show (X % W64 ^ (k + 1) + y) / W64 ^ (k + 1) = 0 from by rw [HS2.out.2]; exact Nat.div_eq_of_lt hxw)
          have hcast : ((xk + 1 : Nat) : Int) = xk + 1 := by omega
          go_upto_region 17 with fail
          obtain ⟨W2, hW2⟩ : ∃ W2, W2 = wr.setCell ⟨g, o + k, none⟩ (.int .u64 ((xk : Int) + 1)) := ⟨_, rfl⟩
          have HR2 := Lib.hid (HRR.out.step (x := xk + 1) (by omega) HE2.out)
          rw [hcast, ← hW2] at HR2
          rw [← hW2]
          obtain ⟨cur', hk1, hk2, hk3, hk4⟩ := HR2.out.blk
          have hk5 := HR2.out.upd.blk HG1.out hne
          have HQ2 := Lib.hid (fun q => run_neq_ptr_other (P := Tryz.prog) (a := ⟨g, o, none⟩) (b := ⟨b1, o1, none⟩) (W2.drewN q) Tryz.underlying219 hj (by rw [hj1]; decide) (by intro h; injection h with h _ _; exact hne h.symm) hk1 hk5)
          clear hW2 hcast p0 f0 e1
          have hq := HQ2.out
          go_quiet (fail)
          go_upto_region 18 with fail
          clear hq
          have hbd : Below W2.heap.size W2 (W2.drewN (nq + 1)) := below_drewN (Below.refl _ _) (nq + 1)
          have hk1' := hk1.keep hbd
          have HG2 := Lib.hid (show (W2.drewN (nq + 1)).heap[g]? = some (.cells cur'.toList.toArray 155 (0, 0)) from by unfold BlkAt at hk1'; simpa using hk1')
          have HSRC := Lib.hid (show ∀ j v, (wlf X (k + 1) (n - (k + 1)))[j]? = some v → (W2.drewN (nq + 1)).cell? ((⟨b1, o1 + (k + 1), none⟩ : Addr).add j) = some v from by
            intro j v hjv
            have hjn : j < n - (k + 1) := by
              have := (List.getElem?_eq_some_iff.1 hjv).1
              rwa [wlf_len] at this
            rw [wlf_get hjn] at hjv
            rw [← hjv, Addr.add_lit, show o1 + (k + 1) + j = o1 + (k + 1 + j) from by omega]
            exact cell_keep (HR2.out.read HG.out (H1.out (k + 1 + j) (by omega)) (.inl hne) (by omega)) hbd)
          have HB2 := Lib.hid (((HR2.out.toB hBg hBw).below).trans (hbd.mono (Nat.le_trans hBw HR2.out.upd.size)))
          have HT := Lib.hid (show o + (k + 1) + (wlf X (k + 1) (n - (k + 1))).length ≤ cur'.toList.length from by rw [wlf_len]; simp; omega)
          have HL := Lib.hid (wlf_len X (k + 1) (n - (k + 1)))
          have s1 : IntKind.i64.wrap ((k : Int) + 1) = (k : Int) + 1 := IntWalk.i64_in _ (by omega)
          have s2 : (0 : Int) ≤ (k : Int) + 1 := by omega
          have s3 : (k : Int) + 1 ≤ n := by omega
          have s4 : ((k : Int) + 1).toNat = k + 1 := by omega
          clear hbd hk1'
          go_region_law (refine step_copy_splice rfl (.tmp 69) (.tmp 73) 146 146 rfl 155 Tryz.underlying146 infoWordSize (if c0 = k + 1 then some ⟨g, o, none⟩ else some ⟨g, o + (k + 1), none⟩) (if c1 = k + 1 then some ⟨b1, o1, none⟩ else some ⟨b1, o1 + (k + 1), none⟩) (n - (k + 1)) (c0 - (k + 1)) (n - (k + 1)) (c1 - (k + 1)) (by simp [Act.eval, Act.put]) (by simp [Act.eval, Act.put]) g (o + (k + 1)) cur'.toList 155 HG2.out (wlf X (k + 1) (n - (k + 1))) (by rw [HL.out]; exact (Nat.min_self _).symm) (fun h0 => by rw [HL.out] at h0; exact ⟨if_neg (by omega), ⟨b1, o1 + (k + 1), none⟩, if_neg (by omega), HSRC.out⟩) HT.out (wlf_one _ _ _) B w HB2.out hBg ?_; intro w4 hg4 hb4)
          all_goals go_wp2
          all_goals
            go_ret
            refine ⟨ret_u64 ?_, rowB_spliced (k := k + 1) (by omega) hk2 (by omega) hk3 hk4 hg4 hb4 (fun i hi _ => addw_same W64_pos HF2.out hi)⟩
            exact (addw_none W64_pos HF2.out (by omega)).symm
      · obtain rfl : k = n := by omega
        go_wp2
        go_ret
        exact ⟨ret_u64 HCA.out.symm, hR.toB hBg hBw⟩
end Go.Proofs.YtgmienggfaahlaaGreatDoor
namespace Go.Bg
open Go.RowKit Dg
theorem NumAt.wcells {w : World} {b o n c N : Nat} (h : NumAt .u64 W64 w (some ⟨b, o, none⟩) n c N) {k m : Nat} (hk : k + m ≤ n) : WCells w b (o + k) m (dg W64 (N / W64 ^ k)) := by
  intro i hi
  have := h.cell (i := k + i) (by omega)
  rw [dg_div, ← this]
  congr 2
  omega
theorem NumAt.wcells0 {w : World} {b o n c N : Nat} (h : NumAt .u64 W64 w (some ⟨b, o, none⟩) n c N) {m : Nat} (hk : m ≤ n) : WCells w b o m (dg W64 N) := by
  intro i hi
  exact h.cell (i := i) (by omega)
theorem below_drew' (w : World) (B : Nat) : Below B w w.drew := (Below.refl _ _).drew
theorem add_high {N1 N2 n m : Nat} (h1 : N1 < W64 ^ m) (h2 : N2 < W64 ^ n) (hnm : n ≤ m) :
    (N1 + N2) / W64 ^ n = N1 / W64 ^ n + (N1 % W64 ^ n + N2 % W64 ^ n) / W64 ^ n ∧
    dg W64 (N1 + N2) m = (N1 / W64 ^ n % W64 ^ (m - n) + (N1 % W64 ^ n + N2 % W64 ^ n) / W64 ^ n) / W64 ^ (m - n) := by
  have e2 : N2 % W64 ^ n = N2 := Nat.mod_eq_of_lt h2
  have hc := add_carry_le W64_pos N1 N2 n
  rw [e2] at hc ⊢
  have e1 := addw_div W64_pos N1 N2 n
  refine ⟨e1, ?_⟩
  obtain ⟨d, rfl⟩ : ∃ d, m = n + d := ⟨m - n, by omega⟩
  rw [show n + d - n = d from by omega]
  have hX : N1 / W64 ^ n < W64 ^ d := (Nat.div_lt_iff_lt_mul (Nat.pow_pos W64_pos)).2 (by rw [Nat.mul_comm, ← Nat.pow_add]; exact h1)
  rw [Nat.mod_eq_of_lt hX, dg, Nat.pow_add, ← Nat.div_div_eq_div_mul, e1]
  refine Nat.mod_eq_of_lt ((Nat.div_lt_iff_lt_mul (Nat.pow_pos W64_pos)).2 ?_)
  have hp : 0 < W64 ^ d := Nat.pow_pos W64_pos
  have : 2 * W64 ^ d ≤ W64 * W64 ^ d := Nat.mul_le_mul_right _ (by unfold W64; omega)
  omega
theorem add_fits {N1 N2 n m : Nat} (h1 : N1 < W64 ^ m) (h2 : N2 < W64 ^ n) (hnm : n ≤ m) : N1 + N2 < W64 ^ (m + 1) := by
  have h3 : W64 ^ n ≤ W64 ^ m := Nat.pow_le_pow_right W64_pos hnm
  have : 2 * W64 ^ m ≤ W64 * W64 ^ m := Nat.mul_le_mul_right _ (by unfold W64; omega)
  rw [Nat.pow_succ, Nat.mul_comm]
  omega
theorem bigN_row {T : TypeId} {w : World} {g c N m : Nat} {cur : Array Value} (hb : BlkAt w g cur T) (hs : cur.size = c) (hd : ∀ i, i < m → cur[i]? = some (.int .u64 (dg W64 N i : Nat))) (hm : m ≤ c) (hc : c ≤ maxLen) (hN : N < W64 ^ m) :
    Cells w (some ⟨g, 0, none⟩) m (fun i => .int .u64 (dg W64 N i : Nat)) ∧ BigN T w (some ⟨g, 0, none⟩) (tlen (dg W64 N) m) c N := by
  have hcl : Cells w (some ⟨g, 0, none⟩) m (fun i => .int .u64 (dg W64 N i : Nat)) := fun _ => ⟨g, 0, rfl, fun i hi => by
    rw [Nat.zero_add, hb.cell]; exact hd i hi⟩
  have h := bigN_of_words (T := T) (w := w) (f := dg W64 N) (fun i _ => dg_lt W64_pos _ _) hm hc hcl (.inr ⟨g, cur, rfl, hb, hs⟩)
  rw [val_dg, Nat.mod_eq_of_lt hN] at h
  exact ⟨hcl, h⟩
end Go.Bg
namespace Go.Proofs.YtgmienggfaahlaaGreatDoor
open Go.RowKit Go.Bg Dg
theorem pow_ge_one {k : Nat} (hk : 1 ≤ k) : W64 ≤ W64 ^ k := by
  obtain ⟨d, rfl⟩ : ∃ d, k = d + 1 := ⟨k - 1, by omega⟩
  rw [Nat.pow_succ]; exact Nat.le_mul_of_pos_left _ (Nat.pow_pos W64_pos)
theorem subw_same {X y k i : Nat} (hy : y < W64) (hXy : y ≤ X) (h : bor X y k = 0) (hk : 1 ≤ k) (hi : k ≤ i) : dg W64 (X - y) i = dg W64 X i := by
  obtain ⟨j, rfl⟩ : ∃ j, i = k + j := ⟨i - k, by omega⟩
  have hb : (if X % W64 ^ k < y % W64 ^ k then 1 else 0 : Nat) = 0 := h
  rw [← Dg.dg_div, ← Dg.dg_div, subb W64_pos hXy, hb, Nat.div_eq_of_lt (Nat.lt_of_lt_of_le hy (pow_ge_one hk))]
  rfl
theorem bor_none {X y k n : Nat} (hy : y < W64) (h : bor X y k = 0) (hk : 1 ≤ k) (hkn : k ≤ n) : bor X y n = 0 := by
  have e : ∀ m, 1 ≤ m → y % W64 ^ m = y := fun m hm => Nat.mod_eq_of_lt (Nat.lt_of_lt_of_le hy (pow_ge_one hm))
  unfold bor at h ⊢
  rw [e k hk] at h
  rw [e n (by omega)]
  have h1 : ¬ X % W64 ^ k < y := fun hh => by rw [if_pos hh] at h; cases h
  refine if_neg (fun hh => h1 (Nat.lt_of_le_of_lt ?_ hh))
  obtain ⟨d, rfl⟩ : ∃ d, n = k + d := ⟨n - k, by omega⟩
  have := Nat.mod_mul (x := X) (a := W64 ^ k) (b := W64 ^ d)
  rw [Nat.pow_add, this]
  exact Nat.le_add_right _ _
theorem subVW_any (B g o n c0 b1 o1 c1 : Nat) (cur cur1 : Array Value) (T1 : TypeId) (X y : Nat) (w : World) (hg : BlkAt w g cur 155) (hg1 : BlkAt w b1 cur1 T1) (hBg : B ≤ g) (hBw : B ≤ w.heap.size) (hn1 : 1 ≤ n) (hn : n ≤ 1000000) (hr : o + n ≤ cur.size) (h0 : n ≤ c0) (h0m : c0 ≤ maxLen)
    (h1 : WCells w b1 o1 n (dg W64 X)) (h1c : n ≤ c1) (h1m : c1 ≤ maxLen) (hne : b1 ≠ g) (hy : y < W64) (hXy : y ≤ X) :
    Calls Tryz.prog 198 #[.slice (some ⟨g, o, none⟩) n c0, .slice (some ⟨b1, o1, none⟩) n c1, .int .u64 y] w
      (VecBs B g o n cur (dg W64 (X - y)) (bor X y n) w) := by
  unfold maxLen at h0m h1m
  obtain ⟨j, hj, hj1⟩ := infoWordJ
  have hy' : y < 18446744073709551616 := W64_lt hy
  have HG := Lib.hid hg
  have HG1 := Lib.hid hg1
  have H1 := Lib.hid h1
  have e1 := h1 0 (by omega)
  rw [Nat.add_zero] at e1
  have d1 : dg W64 X 0 < 18446744073709551616 := W64_lt (dg_lt W64_pos _ _)
  have HS := Lib.hid (subw_step hXy 0)
  have HY := Lib.hid (show ∀ k, 1 ≤ k → dg W64 y k = 0 from fun k hk => dg_of_lt (Nat.lt_of_lt_of_le hy (by obtain ⟨d, rfl⟩ : ∃ d, k = d + 1 := ⟨k - 1, by omega⟩; rw [Nat.pow_succ]; exact Nat.le_mul_of_pos_left _ (Nat.pow_pos W64_pos))))
  have hy0 : dg W64 y 0 = y := by simp [dg, Nat.mod_eq_of_lt hy]
  rw [hy0, bor_zero] at HS
  have HYL := Lib.hid hy
  clear hy0
  have hroom := (RowUp.start hg o (dg W64 (X - y))).room (j := o) (by omega)
  obtain ⟨⟨u0, p0⟩, f0⟩ := hroom
  have HX := Lib.hid (show dg W64 X 0 = dg W64 X 0 from rfl)
  have hn0 : ((n : Int) == 0) = false := by simp; omega
  clear hg hg1 h1 hy
  generalize hx : dg W64 X 0 = x at *
  have HE := Lib.hid (show (x + 18446744073709551616 - y - 0) % 18446744073709551616 = dg W64 (X - y) 0 from HS.out.1)
  have HF := Lib.hid (show (if x < y + 0 then 1 else 0 : Nat) = bor X y 1 from HS.out.2)
  have hdl : (x + 18446744073709551616 - y - 0) % 18446744073709551616 < 18446744073709551616 := Nat.mod_lt _ (by decide)
  have hcl : (if x < y + 0 then 1 else 0 : Nat) ≤ 1 := by split <;> omega
  have HC := Lib.hid (fun w => bitsSub_any x y 0 (by omega) w)
  generalize (x + 18446744073709551616 - y - 0) % 18446744073709551616 = s at *
  generalize hcc : (if x < y + 0 then 1 else 0 : Nat) = cc at *
  clear hx hcc
  go_enter Tryz.func198, Tryz.ntmps198
  go_wp2_with fail
  refine (HC.out _).mono ?_
  rintro e w1 ⟨rfl, rfl⟩
  have HR := Lib.hid ((RowUp.start HG.out o (dg W64 (X - y))).step (by omega) HE.out)
  simp only [Nat.add_zero, Nat.zero_add] at HR
  obtain ⟨W1, hW1⟩ : ∃ W1, W1 = w.setCell ⟨g, o, none⟩ (.int .u64 (s : Nat)) := ⟨_, rfl⟩
  have HW1 := Lib.hid hW1
  rw [← hW1] at HR
  obtain ⟨cur', hk1, hk2, hk3, hk4⟩ := HR.out.blk
  have hk5 := HR.out.upd.blk HG1.out hne
  have HQ := Lib.hid (fun q => run_neq_ptr_other (P := Tryz.prog) (a := ⟨g, o, none⟩) (b := ⟨b1, o1, none⟩) (W1.drewN q) Tryz.underlying219 hj (by rw [hj1]; decide) (by intro h; injection h with h _ _; exact hne h.symm) hk1 hk5)
  clear hW1
  by_cases hc0 : cc = 0
  · subst hc0
    go_upto_region 8 with fail
    rw [← HW1.out]
    have hq := HQ.out
    go_quiet (fail)
    go_upto_region 9 with fail
    have hbd : Below W1.heap.size W1 (W1.drewN (nq + 1)) := below_drewN (Below.refl _ _) (nq + 1)
    have hk1' := hk1.keep hbd
    have HG2 := Lib.hid (show (W1.drewN (nq + 1)).heap[g]? = some (.cells cur'.toList.toArray 155 (0, 0)) from by unfold BlkAt at hk1'; simpa using hk1')
    have HSRC := Lib.hid (show ∀ j v, (wlf X 1 (n - 1))[j]? = some v → (W1.drewN (nq + 1)).cell? ((⟨b1, o1 + 1, none⟩ : Addr).add j) = some v from by
      intro j v hjv
      have hjn : j < n - 1 := by
        have := (List.getElem?_eq_some_iff.1 hjv).1
        rwa [wlf_len] at this
      rw [wlf_get hjn] at hjv
      rw [← hjv, Addr.add_lit, show o1 + 1 + j = o1 + (1 + j) from by omega]
      exact cell_keep (HR.out.read HG.out (H1.out (1 + j) (by omega)) (.inl hne) (by omega)) hbd)
    have HB2 := Lib.hid (((HR.out.toB hBg hBw).below).trans (hbd.mono (Nat.le_trans hBw HR.out.upd.size)))
    have HT := Lib.hid (show o + 1 + (wlf X 1 (n - 1)).length ≤ cur'.toList.length from by rw [wlf_len]; simp; omega)
    have HL := Lib.hid (wlf_len X 1 (n - 1))
    have hn1i : (1 : Int) ≤ n := by omega
    have HNC := Lib.hid (show bor X y 1 = 0 from HF.out.symm)
    clear hbd hk1'
    go_region_law (refine step_copy_splice rfl (.tmp 40) (.tmp 42) 146 146 rfl 155 Tryz.underlying146 infoWordSize _ _ _ _ _ _ rfl rfl g (o + 1) cur'.toList 155 HG2.out (wlf X 1 (n - 1)) (by rw [HL.out]; exact (Nat.min_self _).symm) (fun h0 => by rw [HL.out] at h0; exact ⟨if_neg (by omega), ⟨b1, o1 + 1, none⟩, if_neg (by omega), HSRC.out⟩) HT.out (wlf_one _ _ _) B w HB2.out hBg ?_; intro w4 hg4 hb4)
    all_goals go_wp2
    all_goals
      go_ret
      refine ⟨ret_u64 ?_, rowB_spliced (k := 1) (by omega) hk2 (by omega) hk3 hk4 hg4 hb4 (fun i hi _ => subw_same HYL.out hXy HNC.out (by omega) hi)⟩
      exact (bor_none HYL.out HNC.out (by omega) (by omega)).symm
  · obtain rfl : cc = 1 := by omega
    have HC1 := Lib.hid (show bor X y 1 = 1 from HF.out.symm)
    go_upto_region 11 with fail
    rw [← HW1.out]
    clear hk1 hk2 hk3 hk4 hk5 p0 f0 e1 hc0 hcl
    go_wp2
    go_loopw [6, 9, 10] (fun _ i _ wr => ∃ k : Nat, 1 ≤ k ∧ k ≤ n ∧ i = .int .i64 k ∧ bor X y k = 1 ∧ RowUp 155 w wr g o k cur (dg W64 (X - y)))
      (fun _ i _ _ => n - (intOf i).toNat)
    case atStart => exact ⟨1, Nat.le_refl _, hn1, rfl, HC1.out, HR.out⟩
    case round =>
      obtain ⟨k, hk0, hk, rfl, hca, hR⟩ := hrel
      have HCA := Lib.hid hca
      clear hca
      by_cases k1 : k < n
      · have e1 := hR.read HG.out (H1.out k k1) (.inl hne) (Nat.le_refl _)
        have d1 : dg W64 X k < 18446744073709551616 := W64_lt (dg_lt W64_pos _ _)
        have HS2 := Lib.hid (subw_step hXy k)
        rw [HCA.out, HY.out k hk0] at HS2
        have HRR := Lib.hid hR
        have hroom := hR.room (j := o + k) (by omega)
        obtain ⟨⟨u0, p0⟩, f0⟩ := hroom
        clear hR
        generalize hx : dg W64 X k = xk at *
        clear hx
        by_cases hm : xk = 0
        · subst hm
          have HE2 := Lib.hid (show 18446744073709551615 = dg W64 (X - y) k from by rw [← HS2.out.1])
          have HF2 := Lib.hid (show bor X y (k + 1) = 1 from by rw [← HS2.out.2]; rfl)
          go_wp2
          go_roundw
          case rel => exact ⟨k + 1, by omega, by omega, by go_num, HF2.out, HRR.out.step (x := 18446744073709551615) (by omega) HE2.out⟩
          case measure => simp [intOf]; omega
        · have hmb : ((xk : Int) != 0) = true := by simp; omega
          have hxw : 1 ≤ xk := by omega
          have HE2 := Lib.hid (show xk - 1 = dg W64 (X - y) k from by rw [← HS2.out.1]; omega)
          have HF2 := Lib.hid (show bor X y (k + 1) = 0 from by rw [← HS2.out.2]; exact if_neg (by omega))
          have hcast : ((xk - 1 : Nat) : Int) = xk - 1 := by omega
          go_upto_region 17 with fail
          obtain ⟨W2, hW2⟩ : ∃ W2, W2 = wr.setCell ⟨g, o + k, none⟩ (.int .u64 ((xk : Int) - 1)) := ⟨_, rfl⟩
          have HR2 := Lib.hid (HRR.out.step (x := xk - 1) (by omega) HE2.out)
          rw [hcast, ← hW2] at HR2
          rw [← hW2]
          obtain ⟨cur', hk1, hk2, hk3, hk4⟩ := HR2.out.blk
          have hk5 := HR2.out.upd.blk HG1.out hne
          have HQ2 := Lib.hid (fun q => run_neq_ptr_other (P := Tryz.prog) (a := ⟨g, o, none⟩) (b := ⟨b1, o1, none⟩) (W2.drewN q) Tryz.underlying219 hj (by rw [hj1]; decide) (by intro h; injection h with h _ _; exact hne h.symm) hk1 hk5)
          clear hW2 hcast p0 f0 e1
          have hq := HQ2.out
          go_quiet (fail)
          go_upto_region 18 with fail
          clear hq
          have hbd : Below W2.heap.size W2 (W2.drewN (nq + 1)) := below_drewN (Below.refl _ _) (nq + 1)
          have hk1' := hk1.keep hbd
          have HG2 := Lib.hid (show (W2.drewN (nq + 1)).heap[g]? = some (.cells cur'.toList.toArray 155 (0, 0)) from by unfold BlkAt at hk1'; simpa using hk1')
          have HSRC := Lib.hid (show ∀ j v, (wlf X (k + 1) (n - (k + 1)))[j]? = some v → (W2.drewN (nq + 1)).cell? ((⟨b1, o1 + (k + 1), none⟩ : Addr).add j) = some v from by
            intro j v hjv
            have hjn : j < n - (k + 1) := by
              have := (List.getElem?_eq_some_iff.1 hjv).1
              rwa [wlf_len] at this
            rw [wlf_get hjn] at hjv
            rw [← hjv, Addr.add_lit, show o1 + (k + 1) + j = o1 + (k + 1 + j) from by omega]
            exact cell_keep (HR2.out.read HG.out (H1.out (k + 1 + j) (by omega)) (.inl hne) (by omega)) hbd)
          have HB2 := Lib.hid (((HR2.out.toB hBg hBw).below).trans (hbd.mono (Nat.le_trans hBw HR2.out.upd.size)))
          have HT := Lib.hid (show o + (k + 1) + (wlf X (k + 1) (n - (k + 1))).length ≤ cur'.toList.length from by rw [wlf_len]; simp; omega)
          have HL := Lib.hid (wlf_len X (k + 1) (n - (k + 1)))
          have s1 : IntKind.i64.wrap ((k : Int) + 1) = (k : Int) + 1 := IntWalk.i64_in _ (by omega)
          have s2 : (0 : Int) ≤ (k : Int) + 1 := by omega
          have s3 : (k : Int) + 1 ≤ n := by omega
          have s4 : ((k : Int) + 1).toNat = k + 1 := by omega
          clear hbd hk1'
          go_region_law (refine step_copy_splice rfl (.tmp 69) (.tmp 73) 146 146 rfl 155 Tryz.underlying146 infoWordSize (if c0 = k + 1 then some ⟨g, o, none⟩ else some ⟨g, o + (k + 1), none⟩) (if c1 = k + 1 then some ⟨b1, o1, none⟩ else some ⟨b1, o1 + (k + 1), none⟩) (n - (k + 1)) (c0 - (k + 1)) (n - (k + 1)) (c1 - (k + 1)) (by simp [Act.eval, Act.put]) (by simp [Act.eval, Act.put]) g (o + (k + 1)) cur'.toList 155 HG2.out (wlf X (k + 1) (n - (k + 1))) (by rw [HL.out]; exact (Nat.min_self _).symm) (fun h0 => by rw [HL.out] at h0; exact ⟨if_neg (by omega), ⟨b1, o1 + (k + 1), none⟩, if_neg (by omega), HSRC.out⟩) HT.out (wlf_one _ _ _) B w HB2.out hBg ?_; intro w4 hg4 hb4)
          all_goals go_wp2
          all_goals
            go_ret
            refine ⟨ret_u64 ?_, rowB_spliced (k := k + 1) (by omega) hk2 (by omega) hk3 hk4 hg4 hb4 (fun i hi _ => subw_same HYL.out hXy HF2.out (by omega) hi)⟩
            exact (bor_none HYL.out HF2.out (by omega) (by omega)).symm
      · obtain rfl : k = n := by omega
        go_wp2
        go_ret
        exact ⟨ret_u64 HCA.out.symm, hR.toB hBg hBw⟩
theorem sub_high {N1 N2 n m : Nat} (hle : N2 ≤ N1) (h1 : N1 < W64 ^ m) (h2 : N2 < W64 ^ n) (hnm : n ≤ m) :
    (N1 - N2) / W64 ^ n = N1 / W64 ^ n - bor N1 N2 n ∧ bor N1 N2 n ≤ N1 / W64 ^ n ∧ bor (N1 / W64 ^ n) (bor N1 N2 n) (m - n) = 0 ∧ (m = n → bor N1 N2 n = 0) := by
  have e2 : N2 % W64 ^ n = N2 := Nat.mod_eq_of_lt h2
  have hb := bor_le N1 N2 n
  have e1 : (N1 - N2) / W64 ^ n = N1 / W64 ^ n - bor N1 N2 n := by
    rw [subb W64_pos hle, Nat.div_eq_of_lt h2]; rfl
  have hx : bor N1 N2 n ≤ N1 / W64 ^ n := by
    by_cases h : N1 % W64 ^ n < N2 % W64 ^ n
    · have hq : bor N1 N2 n = 1 := if_pos h
      rw [hq]
      refine Nat.div_pos ?_ (Nat.pow_pos W64_pos)
      rcases Nat.lt_or_ge N1 (W64 ^ n) with hh | hh
      · rw [Nat.mod_eq_of_lt hh, e2] at h; omega
      · exact hh
    · have hq : bor N1 N2 n = 0 := if_neg h
      rw [hq]; exact Nat.zero_le _
  obtain ⟨d, rfl⟩ : ∃ d, m = n + d := ⟨m - n, by omega⟩
  have hX : N1 / W64 ^ n < W64 ^ d := (Nat.div_lt_iff_lt_mul (Nat.pow_pos W64_pos)).2 (by rw [Nat.mul_comm, ← Nat.pow_add]; exact h1)
  refine ⟨e1, hx, ?_, fun h => ?_⟩
  · rw [show n + d - n = d from by omega]
    refine if_neg ?_
    rw [Nat.mod_eq_of_lt hX]
    have := Nat.mod_le (bor N1 N2 n) (W64 ^ d)
    omega
  · obtain rfl : d = 0 := by omega
    rw [Nat.pow_zero] at hX
    omega
end Go.Proofs.YtgmienggfaahlaaGreatDoor
namespace Go.Proofs
open Go.Shelf
def Tryz.lays125_ren : Go.Shelf.Ren := ⟨fun | 125 => 258 | 128 => 291 | 129 => 292 | n => n, fun | 46 => 151 | 3 => 3 | 51 => 115 | 53 => 175 | 4 => 4 | 5 => 5 | 9 => 9 | n => n, fun | n => n⟩
theorem Tryz.lays125 : Go.Proofs.Lays.n125 Tryz.prog Tryz.lays125_ren := {
  mixed := by kernel_rfl
  f125 := Tryz.func258.trans (congrArg some (by kernel_rfl))
  f128 := Tryz.func291.trans (congrArg some (by kernel_rfl))
  f129 := Tryz.func292.trans (congrArg some (by kernel_rfl))
  t3 := Tryz.underlying3
  a3 := Tryz.isAgg3
  z3 := Tryz.sizeOf3
  v3 := Tryz.zeroValue3
  t4 := Tryz.underlying4
  a4 := Tryz.isAgg4
  z4 := Tryz.sizeOf4
  v4 := Tryz.zeroValue4
  t5 := Tryz.underlying5
  a5 := Tryz.isAgg5
  z5 := Tryz.sizeOf5
  v5 := Tryz.zeroValue5
  t9 := Tryz.underlying9
  a9 := Tryz.isAgg9
  z9 := Tryz.sizeOf9
  v9 := Tryz.zeroValue9
  t46 := Tryz.underlying151
  a46 := Tryz.isAgg151
  z46 := Tryz.sizeOf151
  v46 := Tryz.zeroValue151
  t51 := Tryz.underlying115
  a51 := Tryz.isAgg115
  z51 := Tryz.sizeOf115
  v51 := Tryz.zeroValue115
  t53 := Tryz.underlying175
  a53 := Tryz.isAgg175
  z53 := Tryz.sizeOf175
  v53 := Tryz.zeroValue175 }
theorem Tryz.bits_Len (x : Int) (w : World) (h0 : 0 ≤ x) (h1 : x ≤ 18446744073709551615) :
    Calls Tryz.prog 258 #[.int .u64 x] w fun e w' => e = .returned (.int .i64 (Lib.bitLen x.toNat)) ∧ w' = w := Any.bits_Len Tryz.lays125 x w h0 h1
def Tryz.lays134_ren : Go.Shelf.Ren := ⟨fun | 134 => 295 | 129 => 292 | n => n, fun | 53 => 175 | 3 => 3 | 4 => 4 | 46 => 151 | 5 => 5 | 9 => 9 | n => n, fun | n => n⟩
theorem Tryz.lays134 : Go.Proofs.Lays.n134 Tryz.prog Tryz.lays134_ren := {
  mixed := by kernel_rfl
  f129 := Tryz.func292.trans (congrArg some (by kernel_rfl))
  f134 := Tryz.func295.trans (congrArg some (by kernel_rfl))
  t3 := Tryz.underlying3
  a3 := Tryz.isAgg3
  z3 := Tryz.sizeOf3
  v3 := Tryz.zeroValue3
  t4 := Tryz.underlying4
  a4 := Tryz.isAgg4
  z4 := Tryz.sizeOf4
  v4 := Tryz.zeroValue4
  t5 := Tryz.underlying5
  a5 := Tryz.isAgg5
  z5 := Tryz.sizeOf5
  v5 := Tryz.zeroValue5
  t9 := Tryz.underlying9
  a9 := Tryz.isAgg9
  z9 := Tryz.sizeOf9
  v9 := Tryz.zeroValue9
  t46 := Tryz.underlying151
  a46 := Tryz.isAgg151
  z46 := Tryz.sizeOf151
  v46 := Tryz.zeroValue151
  t53 := Tryz.underlying175
  a53 := Tryz.isAgg175
  z53 := Tryz.sizeOf175
  v53 := Tryz.zeroValue175 }
theorem Tryz.bits_LeadingZeros64 (x : Int) (w : World) (h0 : 0 ≤ x) (h1 : x ≤ 18446744073709551615) :
    Calls Tryz.prog 295 #[.int .u64 x] w fun e w' => e = .returned (.int .i64 (64 - (Lib.bitLen x.toNat : Int))) ∧ w' = w := Any.bits_LeadingZeros64 Tryz.lays134 x w h0 h1
def Tryz.lays130_ren : Go.Shelf.Ren := ⟨fun | 130 => 276 | 125 => 258 | 128 => 291 | 129 => 292 | n => n, fun | 46 => 151 | 3 => 3 | 51 => 115 | 53 => 175 | 4 => 4 | 5 => 5 | 9 => 9 | n => n, fun | n => n⟩
theorem Tryz.lays130 : Go.Proofs.Lays.n130 Tryz.prog Tryz.lays130_ren := {
  mixed := by kernel_rfl
  f125 := Tryz.func258.trans (congrArg some (by kernel_rfl))
  f128 := Tryz.func291.trans (congrArg some (by kernel_rfl))
  f129 := Tryz.func292.trans (congrArg some (by kernel_rfl))
  f130 := Tryz.func276.trans (congrArg some (by kernel_rfl))
  t3 := Tryz.underlying3
  a3 := Tryz.isAgg3
  z3 := Tryz.sizeOf3
  v3 := Tryz.zeroValue3
  t4 := Tryz.underlying4
  a4 := Tryz.isAgg4
  z4 := Tryz.sizeOf4
  v4 := Tryz.zeroValue4
  t5 := Tryz.underlying5
  a5 := Tryz.isAgg5
  z5 := Tryz.sizeOf5
  v5 := Tryz.zeroValue5
  t9 := Tryz.underlying9
  a9 := Tryz.isAgg9
  z9 := Tryz.sizeOf9
  v9 := Tryz.zeroValue9
  t46 := Tryz.underlying151
  a46 := Tryz.isAgg151
  z46 := Tryz.sizeOf151
  v46 := Tryz.zeroValue151
  t51 := Tryz.underlying115
  a51 := Tryz.isAgg115
  z51 := Tryz.sizeOf115
  v51 := Tryz.zeroValue115
  t53 := Tryz.underlying175
  a53 := Tryz.isAgg175
  z53 := Tryz.sizeOf175
  v53 := Tryz.zeroValue175 }
theorem Tryz.bits_LeadingZeros (x : Int) (w : World) (h0 : 0 ≤ x) (h1 : x ≤ 18446744073709551615) :
    Calls Tryz.prog 276 #[.int .u64 x] w fun e w' => e = .returned (.int .i64 (64 - (Lib.bitLen x.toNat : Int))) ∧ w' = w := Any.bits_LeadingZeros Tryz.lays130 x w h0 h1
open Go.RowKit Go.Lib in
def Tryz.lays212_ren : Go.Shelf.Ren := ⟨fun | 212 => 246 | 263 => 279 | 264 => 280 | n => n, fun | 46 => 151 | 51 => 115 | 146 => 271 | 53 => 175 | 148 => 273 | n => n, fun | n => n⟩
theorem Tryz.lays212 : Go.Proofs.Lays.n212 Tryz.prog Tryz.lays212_ren := {
  mixed := by kernel_rfl
  f212 := Tryz.func246.trans (congrArg some (by kernel_rfl))
  f263 := Tryz.func279.trans (congrArg some (by kernel_rfl))
  f264 := Tryz.func280.trans (congrArg some (by kernel_rfl))
  t46 := Tryz.underlying151
  a46 := Tryz.isAgg151
  z46 := Tryz.sizeOf151
  v46 := Tryz.zeroValue151
  t51 := Tryz.underlying115
  a51 := Tryz.isAgg115
  z51 := Tryz.sizeOf115
  v51 := Tryz.zeroValue115
  t53 := Tryz.underlying175
  a53 := Tryz.isAgg175
  z53 := Tryz.sizeOf175
  v53 := Tryz.zeroValue175
  t146 := Tryz.underlying271
  a146 := Tryz.isAgg271
  z146 := Tryz.sizeOf271
  v146 := Tryz.zeroValue271
  t148 := Tryz.underlying273
  a148 := Tryz.isAgg273
  z148 := Tryz.sizeOf273
  v148 := Tryz.zeroValue273 }
open Go.RowKit Go.Lib in
theorem Tryz.bits_Mul (x y : Nat) (hx : x < 18446744073709551616) (hy : y < 18446744073709551616) (w : World) :
    Calls Tryz.prog 246 #[.int .u64 x, .int .u64 y] w fun e w' => e = .returned (.tuple #[.int .u64 ((x * y / 18446744073709551616 : Nat) : Int), .int .u64 ((x * y % 18446744073709551616 : Nat) : Int)]) ∧ w' = w := Any.bits_Mul Tryz.lays212 x y hx hy w
end Go.Proofs
