/-
  nat.add into nothing.
  nat.sub into nothing.
  Int.Add, Int.Sub into a number that holds nothing yet (printed by gen_inta.py).
  Int.Add, Int.Sub into a number that holds nothing yet (printed by gen_inta.py).
-/
import Derived.Test.YtdkipndepkblhaaGreatDoorBuO
import Derived.Test.YtdkipndepkblhaaGreatDoorBuG
import Derived.Test.YtdkipndepkblhaaGreatDoorBuI
set_option linter.unusedSimpArgs false
set_option linter.unusedVariables false
namespace Go.Bg
open Go.RowKit Dg
/-- a slice of words of a number reads its digits -/
theorem NumAt.wcells {w : World} {b o n c N : Nat} (h : NumAt .u64 W64 w (some ⟨b, o, none⟩) n c N) {k m : Nat} (hk : k + m ≤ n) : WCells w b (o + k) m (dg W64 (N / W64 ^ k)) := by
  intro i hi
  have := h.cell (i := k + i) (by omega)
  rw [dg_div, ← this]
  congr 2
  omega
theorem NumAt.wcells0 {w : World} {b o n c N : Nat} (h : NumAt .u64 W64 w (some ⟨b, o, none⟩) n c N) {m : Nat} (hk : m ≤ n) : WCells w b o m (dg W64 N) := by
  intro i hi
  exact h.cell (i := i) (by omega)
theorem below_drew' (w : World) (B : Nat) : Below B w w.drew := (Below.refl _ _).drew
theorem add_high {N1 N2 n m : Nat} (h1 : N1 < W64 ^ m) (h2 : N2 < W64 ^ n) (hnm : n ≤ m) :
    (N1 + N2) / W64 ^ n = N1 / W64 ^ n + (N1 % W64 ^ n + N2 % W64 ^ n) / W64 ^ n ∧
    dg W64 (N1 + N2) m = (N1 / W64 ^ n % W64 ^ (m - n) + (N1 % W64 ^ n + N2 % W64 ^ n) / W64 ^ n) / W64 ^ (m - n) := by
  have e2 : N2 % W64 ^ n = N2 := Nat.mod_eq_of_lt h2
  have hc := add_carry_le W64_pos N1 N2 n
  rw [e2] at hc ⊢
  have e1 := addw_div W64_pos N1 N2 n
  refine ⟨e1, ?_⟩
  obtain ⟨d, rfl⟩ : ∃ d, m = n + d := ⟨m - n, by omega⟩
  rw [show n + d - n = d from by omega]
  have hX : N1 / W64 ^ n < W64 ^ d := (Nat.div_lt_iff_lt_mul (Nat.pow_pos W64_pos)).2 (by rw [Nat.mul_comm, ← Nat.pow_add]; exact h1)
  rw [Nat.mod_eq_of_lt hX, dg, Nat.pow_add, ← Nat.div_div_eq_div_mul, e1]
  refine Nat.mod_eq_of_lt ((Nat.div_lt_iff_lt_mul (Nat.pow_pos W64_pos)).2 ?_)
  have hp : 0 < W64 ^ d := Nat.pow_pos W64_pos
  have : 2 * W64 ^ d ≤ W64 * W64 ^ d := Nat.mul_le_mul_right _ (by unfold W64; omega)
  omega
theorem add_fits {N1 N2 n m : Nat} (h1 : N1 < W64 ^ m) (h2 : N2 < W64 ^ n) (hnm : n ≤ m) : N1 + N2 < W64 ^ (m + 1) := by
  have h3 : W64 ^ n ≤ W64 ^ m := Nat.pow_le_pow_right W64_pos hnm
  have : 2 * W64 ^ m ≤ W64 * W64 ^ m := Nat.mul_le_mul_right _ (by unfold W64; omega)
  rw [Nat.pow_succ, Nat.mul_comm]
  omega
theorem bigN_row {T : TypeId} {w : World} {g c N m : Nat} {cur : Array Value} (hb : BlkAt w g cur T) (hs : cur.size = c) (hd : ∀ i, i < m → cur[i]? = some (.int .u64 (dg W64 N i : Nat))) (hm : m ≤ c) (hc : c ≤ maxLen) (hN : N < W64 ^ m) :
    Cells w (some ⟨g, 0, none⟩) m (fun i => .int .u64 (dg W64 N i : Nat)) ∧ BigN T w (some ⟨g, 0, none⟩) (tlen (dg W64 N) m) c N := by
  have hcl : Cells w (some ⟨g, 0, none⟩) m (fun i => .int .u64 (dg W64 N i : Nat)) := fun _ => ⟨g, 0, rfl, fun i hi => by
    rw [Nat.zero_add, hb.cell]; exact hd i hi⟩
  have h := bigN_of_words (T := T) (w := w) (f := dg W64 N) (fun i _ => dg_lt W64_pos _ _) hm hc hcl (.inr ⟨g, cur, rfl, hb, hs⟩)
  rw [val_dg, Nat.mod_eq_of_lt hN] at h
  exact ⟨hcl, h⟩
end Go.Bg

namespace Go.Proofs.YtdkipndepkblhaaGreatDoor
open Go.RowKit Go.Bg Dg

set_option maxRecDepth 100000 in
set_option maxHeartbeats 2000000 in
theorem natAdd_ge (a1 a2 : Option Addr) (n1 n2 c1 c2 N1 N2 : Nat) (w : World) (h1 : BigN 151 w a1 n1 c1 N1) (h2 : BigN 151 w a2 n2 c2 N2) (hb1 : n1 ≤ 900000) (hge : n2 ≤ n1) :
    Calls Tryz.prog 124 #[.slice none 0 0, .slice a1 n1 c1, .slice a2 n2 c2] w (GivesN 151 (N1 + N2) w) := by
  have hm1 := h1.num.cm
  have hm2 := h2.num.cm
  have hc1 := h1.num.nc
  have hc2 := h2.num.nc
  unfold maxLen at hm1 hm2
  by_cases z1 : n1 = 0
  · subst z1
    obtain rfl : n2 = 0 := by omega
    have e1 : N1 = 0 := by have := h1.num.lt; simpa using this
    have e2 : N2 = 0 := by have := h2.num.lt; simpa using this
    subst e1
    subst e2
    clear h1 h2
    go_enter Tryz.func124, Tryz.ntmps124
    go_wp2
    go_ret
    exact ⟨_, _, _, rfl, BigN.nil _ _, Below.refl _ _⟩
  · have hz1 : ((n1 : Int) == 0) = false := by simpa using z1
    by_cases z2 : n2 = 0
    · subst z2
      have e2 : N2 = 0 := by have := h2.num.lt; simpa using this
      subst e2
      have HN := Lib.hid h1.num
      clear h1 h2
      go_enter Tryz.func124, Tryz.ntmps124
      go_wp2_with fail
      refine (natSet_nil a1 n1 c1 N1 _ HN.out (by omega)).mono ?_
      rintro e w1 ⟨a, n, c, rfl, hN, hB⟩
      go_wp2
      go_ret
      exact ⟨_, _, _, rfl, hN, hB⟩
    · have hz2 : ((n2 : Int) == 0) = false := by simpa using z2
      obtain ⟨b1, o1, rfl, hl1⟩ := h1.num.form (by omega)
      obtain ⟨b2, o2, rfl, hl2⟩ := h2.num.form (by omega)
      have HB1 := Lib.hid h1
      have HB2 := Lib.hid h2
      clear h1 h2
      go_enter Tryz.func124, Tryz.ntmps124
      go_wp2_with fail
      refine (make_nil (n1 + 1) (by omega) _).mono ?_
      rintro e w1 (⟨h, _⟩ | ⟨c, hc0, hcn1, hcn2, rfl, hw⟩)
      case inl => omega
      have hb : BlkAt w1 w.heap.size (Array.replicate c (.int .u64 0)) 151 := by rw [hw]; exact BlkAt.new _ _ _
      have hB1 : Below w.heap.size w w1 := by rw [hw]; exact (Below.refl _ _).alloc (Nat.le_refl _) _
      have HS1 := Lib.hid (show w1.heap.size = w.heap.size + 1 from by rw [hw]; simp)
      clear hw
      have hbd : Below w1.heap.size w1 w1.drew := (Below.refl _ _).drew
      have hg2 := hb.keep hbd
      have HD1 := Lib.hid (HB1.out.num.keep (hB1.trans (hbd.mono hB1.size)))
      have HD2 := Lib.hid (HB2.out.num.keep (hB1.trans (hbd.mono hB1.size)))
      have hsz : (Array.replicate c (Value.int .u64 0)).size = c := by simp
      have hca := add_carry_le W64_pos N1 N2 n2
      have HH := Lib.hid (add_high HB1.out.num.lt HB2.out.num.lt hge)
      have HLT := Lib.hid (add_fits HB1.out.num.lt HB2.out.num.lt hge)
      have hx1 : (n2 : Int) ≤ c := by omega
      have hx2 : (n2 : Int) ≤ c1 := by omega
      have hx3 : (n2 : Int) ≤ c2 := by omega
      have HBD := Lib.hid (hB1.trans (hbd.mono hB1.size))
      have HBK := Lib.hid hg2
      clear hb hg2 hbd hB1
      generalize hcar : (N1 % W64 ^ n2 + N2 % W64 ^ n2) / W64 ^ n2 = cr at *
      go_upto_region 10 with fail
      go_region_held3 (fun _ => True) (exact trivial) ((go_at_call 185; (with_reducible refine (addVV_any w.heap.size 0 n2 c b1 o1 c1 b2 o2 c2 _ N1 N2 _ HBK.out ?_ ?_ ?_ ?_ ?_ ?_ ?_ ?_ ?_ ?_ ?_ ?_).mono ?_); omega; (rw [hsz]; omega); omega; (unfold maxLen; omega); exact HD1.out.wcells0 hge; omega; (unfold maxLen; omega); exact HD2.out.wcells0 (Nat.le_refl _); omega; (unfold maxLen; omega); exact .inl (Nat.ne_of_lt hl1); exact .inl (Nat.ne_of_lt hl2); rintro e w2 ⟨rfl, hR2⟩; rw [hcar]))
      have HB3 := Lib.hid (hR2.toB (B := w.heap.size) (Nat.le_refl _) HBD.out.size)
      clear hx1 hx2 hx3
      by_cases hgt : n2 < n1
      · have hd : decide (n2 < n1) = true := by simpa using hgt
        have hx1 : (n2 : Int) ≤ n1 := by omega
        have hx2 : (n1 : Int) ≤ c := by omega
        have hx3 : (n2 : Int) ≤ c1 := by omega
        have hn1 : ¬ c = n2 := by omega
        have hn2 : ¬ c1 = n2 := by omega
        obtain ⟨cur2, hk1, hk2, hk3, hk4⟩ := hR2.blk
        obtain ⟨cur1, e1, hq1⟩ : ∃ cur1 e1, BlkAt w2 b1 cur1 e1 := by
          rcases HB1.out.buf with ⟨hh, _⟩ | ⟨g', cur1, hh, hg', _⟩
          · cases hh
          · injection hh with hh
            injection hh with hh _ _
            subst hh
            exact ⟨cur1, _, (hR2.upd.blk (hg'.keep HBD.out) (Nat.ne_of_lt hl1))⟩
        have HE1 := Lib.hid (HB1.out.num.keep (HBD.out.trans (Below.refl _ _)))
        have HW1 := Lib.hid (show WCells w2 b1 (o1 + n2) (n1 - n2) (dg W64 (N1 / W64 ^ n2)) from fun i hi => by
          have := (HD1.out.wcells (k := n2) (m := n1 - n2) (by omega)) i hi
          rw [hR2.upd.cell (p := ⟨b1, o1 + n2 + i, none⟩) (block_lt this) (Nat.ne_of_lt hl1)]
          exact this)
        have HK := Lib.hid (show cur2.size = c from by rw [hk2, hsz])
        have HSZ2 := Lib.hid hR2.upd.size
        have HK1 := Lib.hid hk1
        have HK3 := Lib.hid hk3
        have HQ1 := Lib.hid hq1
        clear hk1 hk2 hk3 hk4 hq1 hR2 hsz
        go_upto_region 12 with fail
        go_region_held3 (fun _ => True) (exact trivial) ((go_at_call 186; (with_reducible refine (addVW_any w.heap.size w.heap.size n2 (n1 - n2) (c - n2) b1 (o1 + n2) (c1 - n2) cur2 cur1 e1 (N1 / W64 ^ n2) cr _ ?_ ?_ ?_ ?_ ?_ ?_ ?_ ?_ ?_ ?_ ?_ ?_ ?_ ?_).mono ?_); exact HK1.out; exact HQ1.out; exact Nat.le_refl _; (exact Nat.le_trans HBD.out.size HSZ2.out); omega; omega; (rw [HK.out]; omega); omega; (unfold maxLen; omega); exact HW1.out; omega; (unfold maxLen; omega); exact Nat.ne_of_lt hl1; (unfold W64; omega); rintro e w3 ⟨rfl, hR3⟩; rw [← HH.out.2]))
        obtain ⟨cur3, hk1, hk2, hk3, hk4⟩ := hR3.blk
        have hsz3 : cur3.size = c := by rw [hk2, HK.out]
        obtain ⟨u0, p0⟩ : ∃ u0, w3.cell? ⟨w.heap.size, n1, none⟩ = some u0 := ⟨_, by rw [hk1.cell n1, Array.getElem?_eq_getElem (by omega)]⟩
        have f0 := hk1.frozen n1
        obtain ⟨W4, hW4⟩ : ∃ W4, W4 = w3.setCell ⟨w.heap.size, n1, none⟩ (.int .u64 (dg W64 (N1 + N2) n1 : Nat)) := ⟨_, rfl⟩
        have hset := hk1.set n1 (.int .u64 (dg W64 (N1 + N2) n1 : Nat))
        rw [← hW4] at hset
        have HBf := Lib.hid (show Below w.heap.size w W4 from by
          rw [hW4]
          exact ((HBD.out.trans HB3.out.below).trans ((below_drew' w2 _).trans hR3.below)).setCell (Nat.le_refl _) _)
        obtain ⟨hcl, hbn⟩ := bigN_row (c := c) (m := n1 + 1) (N := N1 + N2) hset (by simpa using hsz3) (fun i hi => by
          rw [Array.getElem?_setIfInBounds]
          by_cases e : n1 = i
          · subst e; rw [if_pos rfl, if_pos (by omega)]
          · rw [if_neg e]
            by_cases hlo : i < n2
            · rw [hk4 i (.inl hlo)]
              have := HK3.out i hlo
              simpa using this
            · have := hk3 (i - n2) (by omega)
              rw [show n2 + (i - n2) = i from by omega] at this
              rw [this, ← HH.out.1, dg_div, show n2 + (i - n2) = i from by omega]) hcn1 (by unfold maxLen; omega) HLT.out
        have HCL := Lib.hid hcl
        have HBN := Lib.hid hbn
        have HW4 := Lib.hid hW4
        clear hk1 hk2 hk3 hk4 hcl hbn hW4 hset hR3 hsz3
        go_wp2_with fail
        rw [← HW4.out]
        refine (norm_any (some ⟨w.heap.size, 0, none⟩) (n1 + 1) c (dg W64 (N1 + N2)) _ (by omega) (by omega) (by unfold maxLen; omega) (by simp) HCL.out).mono ?_
        rintro e w5 ⟨rfl, rfl⟩
        go_wp2
        go_ret
        exact ⟨_, _, _, rfl, HBN.out, HBf.out⟩
      · have hd : decide (n2 < n1) = false := by simpa using hgt
        obtain rfl : n1 = n2 := by omega
        have hroom := hR2.room (j := n1) (by rw [hsz]; omega)
        obtain ⟨⟨u0, p0⟩, f0⟩ := hroom
        have hcr : cr = dg W64 (N1 + N2) n1 := by
          rw [HH.out.2]; simp [Nat.mod_one]
        obtain ⟨W3, hW3⟩ : ∃ W3, W3 = w2.setCell ⟨w.heap.size, n1, none⟩ (.int .u64 (cr : Nat)) := ⟨_, rfl⟩
        have HR3 := Lib.hid (hR2.step (by rw [hsz]; omega) hcr)
        have HW3 := Lib.hid hW3
        simp only [Nat.zero_add] at HR3
        rw [← hW3] at HR3
        have HRB := Lib.hid (HR3.out.toB (B := w.heap.size) (Nat.le_refl _) HBD.out.size)
        obtain ⟨cur3, hk1, hk2, hk3, hk4⟩ := HR3.out.blk
        obtain ⟨hcl, hbn⟩ := bigN_row (c := c) (m := n1 + 1) hk1 (by rw [hk2, hsz]) (fun i hi => by have := hk3 i hi; simpa using this) hcn1 (by unfold maxLen; omega) HLT.out
        have HCL := Lib.hid hcl
        have HBN := Lib.hid hbn
        clear hk1 hk2 hk3 hk4 hcl hbn hR2 hW3 hsz hcr hgt
        go_wp2_with fail
        rw [← HW3.out]
        refine (norm_any (some ⟨w.heap.size, 0, none⟩) (n1 + 1) c (dg W64 (N1 + N2)) _ (by omega) (by omega) (by unfold maxLen; omega) (by simp) HCL.out).mono ?_
        rintro e w4 ⟨rfl, rfl⟩
        go_wp2
        go_ret
        exact ⟨_, _, _, rfl, HBN.out, HBD.out.trans HRB.out.below⟩

set_option maxRecDepth 100000 in
set_option maxHeartbeats 2000000 in
theorem natAdd_nil (a1 a2 : Option Addr) (n1 n2 c1 c2 N1 N2 : Nat) (w : World) (h1 : BigN 151 w a1 n1 c1 N1) (h2 : BigN 151 w a2 n2 c2 N2) (hb1 : n1 ≤ 900000) (hb2 : n2 ≤ 900000) :
    Calls Tryz.prog 124 #[.slice none 0 0, .slice a1 n1 c1, .slice a2 n2 c2] w (GivesN 151 (N1 + N2) w) := by
  by_cases hge : n2 ≤ n1
  · exact natAdd_ge a1 a2 n1 n2 c1 c2 N1 N2 w h1 h2 hb1 hge
  · have hlt : n1 < n2 := by omega
    have HS := Lib.hid (natAdd_ge a2 a1 n2 n1 c2 c1 N2 N1 w h2 h1 hb2 (by omega))
    have hm1 := h1.num.cm
    have hm2 := h2.num.cm
    unfold maxLen at hm1 hm2
    have hc1 := h1.num.nc
    have hc2 := h2.num.nc
    clear h1 h2 hge
    go_enter Tryz.func124, Tryz.ntmps124
    go_wp2_with fail
    refine HS.out.mono ?_
    rintro e w1 ⟨a, n, c, rfl, hN, hB⟩
    rw [Nat.add_comm N2 N1] at hN
    go_wp2
    go_ret
    exact ⟨_, _, _, rfl, hN, hB⟩
end Go.Proofs.YtdkipndepkblhaaGreatDoor

set_option linter.unusedSimpArgs false
set_option linter.unusedVariables false
namespace Go.Proofs.YtdkipndepkblhaaGreatDoor
open Go.RowKit Go.Bg Dg

/-- a difference above n -/
theorem sub_high {N1 N2 n m : Nat} (hle : N2 ≤ N1) (h1 : N1 < W64 ^ m) (h2 : N2 < W64 ^ n) (hnm : n ≤ m) :
    (N1 - N2) / W64 ^ n = N1 / W64 ^ n - bor N1 N2 n ∧ bor N1 N2 n ≤ N1 / W64 ^ n ∧ bor (N1 / W64 ^ n) (bor N1 N2 n) (m - n) = 0 ∧ (m = n → bor N1 N2 n = 0) := by
  have e2 : N2 % W64 ^ n = N2 := Nat.mod_eq_of_lt h2
  have hb := bor_le N1 N2 n
  have e1 : (N1 - N2) / W64 ^ n = N1 / W64 ^ n - bor N1 N2 n := by
    rw [subb W64_pos hle, Nat.div_eq_of_lt h2]; rfl
  have hx : bor N1 N2 n ≤ N1 / W64 ^ n := by
    by_cases h : N1 % W64 ^ n < N2 % W64 ^ n
    · have hq : bor N1 N2 n = 1 := if_pos h
      rw [hq]
      refine Nat.div_pos ?_ (Nat.pow_pos W64_pos)
      rcases Nat.lt_or_ge N1 (W64 ^ n) with hh | hh
      · rw [Nat.mod_eq_of_lt hh, e2] at h; omega
      · exact hh
    · have hq : bor N1 N2 n = 0 := if_neg h
      rw [hq]; exact Nat.zero_le _
  obtain ⟨d, rfl⟩ : ∃ d, m = n + d := ⟨m - n, by omega⟩
  have hX : N1 / W64 ^ n < W64 ^ d := (Nat.div_lt_iff_lt_mul (Nat.pow_pos W64_pos)).2 (by rw [Nat.mul_comm, ← Nat.pow_add]; exact h1)
  refine ⟨e1, hx, ?_, fun h => ?_⟩
  · rw [show n + d - n = d from by omega]
    refine if_neg ?_
    rw [Nat.mod_eq_of_lt hX]
    have := Nat.mod_le (bor N1 N2 n) (W64 ^ d)
    omega
  · obtain rfl : d = 0 := by omega
    rw [Nat.pow_zero] at hX
    omega

set_option maxRecDepth 100000 in
set_option maxHeartbeats 2000000 in
theorem natSub_nil (a1 a2 : Option Addr) (n1 n2 c1 c2 N1 N2 : Nat) (w : World) (h1 : BigN 151 w a1 n1 c1 N1) (h2 : BigN 151 w a2 n2 c2 N2) (hb1 : n1 ≤ 900000) (hle : N2 ≤ N1) :
    Calls Tryz.prog 126 #[.slice none 0 0, .slice a1 n1 c1, .slice a2 n2 c2] w (GivesN 151 (N1 - N2) w) := by
  have hge : n2 ≤ n1 := len_le W64_gt h2.num.top (Nat.lt_of_le_of_lt hle h1.num.lt)
  have hm1 := h1.num.cm
  have hm2 := h2.num.cm
  have hc1 := h1.num.nc
  have hc2 := h2.num.nc
  unfold maxLen at hm1 hm2
  by_cases z1 : n1 = 0
  · subst z1
    obtain rfl : n2 = 0 := by omega
    have e1 : N1 = 0 := by have := h1.num.lt; simpa using this
    have e2 : N2 = 0 := by have := h2.num.lt; simpa using this
    subst e1
    subst e2
    clear h1 h2
    go_enter Tryz.func126, Tryz.ntmps126
    go_wp2
    go_ret
    exact ⟨_, _, _, rfl, BigN.nil _ _, Below.refl _ _⟩
  · have hz1 : ((n1 : Int) == 0) = false := by simpa using z1
    by_cases z2 : n2 = 0
    · subst z2
      have e2 : N2 = 0 := by have := h2.num.lt; simpa using this
      subst e2
      have HN := Lib.hid h1.num
      clear h1 h2
      go_enter Tryz.func126, Tryz.ntmps126
      go_wp2_with fail
      refine (natSet_nil a1 n1 c1 N1 _ HN.out (by omega)).mono ?_
      rintro e w1 ⟨a, n, c, rfl, hN, hB⟩
      go_wp2
      go_ret
      exact ⟨_, _, _, rfl, hN, hB⟩
    · have hz2 : ((n2 : Int) == 0) = false := by simpa using z2
      obtain ⟨b1, o1, rfl, hl1⟩ := h1.num.form (by omega)
      obtain ⟨b2, o2, rfl, hl2⟩ := h2.num.form (by omega)
      have HB1 := Lib.hid h1
      have HB2 := Lib.hid h2
      clear h1 h2
      go_enter Tryz.func126, Tryz.ntmps126
      go_wp2_with fail
      refine (make_nil n1 (by omega) _).mono ?_
      rintro e w1 (⟨h, _⟩ | ⟨c, hc0, hcn1, hcn2, rfl, hw⟩)
      case inl => omega
      have hb : BlkAt w1 w.heap.size (Array.replicate c (.int .u64 0)) 151 := by rw [hw]; exact BlkAt.new _ _ _
      have hB1 : Below w.heap.size w w1 := by rw [hw]; exact (Below.refl _ _).alloc (Nat.le_refl _) _
      have HS1 := Lib.hid (show w1.heap.size = w.heap.size + 1 from by rw [hw]; simp)
      clear hw
      have hbd : Below w1.heap.size w1 w1.drew := (Below.refl _ _).drew
      have hg2 := hb.keep hbd
      have HD1 := Lib.hid (HB1.out.num.keep (hB1.trans (hbd.mono hB1.size)))
      have HD2 := Lib.hid (HB2.out.num.keep (hB1.trans (hbd.mono hB1.size)))
      have hsz : (Array.replicate c (Value.int .u64 0)).size = c := by simp
      have hca := bor_le N1 N2 n2
      have HH := Lib.hid (sub_high hle HB1.out.num.lt HB2.out.num.lt hge)
      have HLT := Lib.hid (show N1 - N2 < W64 ^ n1 from Nat.lt_of_le_of_lt (Nat.sub_le _ _) HB1.out.num.lt)
      have hx1 : (n2 : Int) ≤ c := by omega
      have hx2 : (n2 : Int) ≤ c1 := by omega
      have hx3 : (n2 : Int) ≤ c2 := by omega
      have HBD := Lib.hid (hB1.trans (hbd.mono hB1.size))
      have HBK := Lib.hid hg2
      clear hb hg2 hbd hB1
      have HLE := Lib.hid hle
      generalize hcar : bor N1 N2 n2 = cr at *
      go_upto_region 10 with fail
      go_region_held3 (fun _ => True) (exact trivial) ((go_at_call 188; (with_reducible refine (subVV_any w.heap.size 0 n2 c b1 o1 c1 b2 o2 c2 _ N1 N2 HLE.out _ HBK.out ?_ ?_ ?_ ?_ ?_ ?_ ?_ ?_ ?_ ?_ ?_ ?_).mono ?_); omega; (rw [hsz]; omega); omega; (unfold maxLen; omega); exact HD1.out.wcells0 hge; omega; (unfold maxLen; omega); exact HD2.out.wcells0 (Nat.le_refl _); omega; (unfold maxLen; omega); exact .inl (Nat.ne_of_lt hl1); exact .inl (Nat.ne_of_lt hl2); rintro e w2 ⟨rfl, hR2⟩; rw [hcar]))
      have HB3 := Lib.hid (hR2.toB (B := w.heap.size) (Nat.le_refl _) HBD.out.size)
      clear hx1 hx2 hx3
      by_cases hgt : n2 < n1
      · have hd : decide (n2 < n1) = true := by simpa using hgt
        have hx1 : (n2 : Int) ≤ n1 := by omega
        have hx2 : (n2 : Int) ≤ c := by omega
        have hx3 : (n2 : Int) ≤ c1 := by omega
        have hn1 : ¬ c = n2 := by omega
        have hn2 : ¬ c1 = n2 := by omega
        obtain ⟨cur2, hk1, hk2, hk3, hk4⟩ := hR2.blk
        obtain ⟨cur1, e1, hq1⟩ : ∃ cur1 e1, BlkAt w2 b1 cur1 e1 := by
          rcases HB1.out.buf with ⟨hh, _⟩ | ⟨g', cur1, hh, hg', _⟩
          · cases hh
          · injection hh with hh
            injection hh with hh _ _
            subst hh
            exact ⟨cur1, _, (hR2.upd.blk (hg'.keep HBD.out) (Nat.ne_of_lt hl1))⟩
        have HE1 := Lib.hid (HB1.out.num.keep (HBD.out.trans (Below.refl _ _)))
        have HW1 := Lib.hid (show WCells w2 b1 (o1 + n2) (n1 - n2) (dg W64 (N1 / W64 ^ n2)) from fun i hi => by
          have := (HD1.out.wcells (k := n2) (m := n1 - n2) (by omega)) i hi
          rw [hR2.upd.cell (p := ⟨b1, o1 + n2 + i, none⟩) (block_lt this) (Nat.ne_of_lt hl1)]
          exact this)
        have HK := Lib.hid (show cur2.size = c from by rw [hk2, hsz])
        have HSZ2 := Lib.hid hR2.upd.size
        have HK1 := Lib.hid hk1
        have HK3 := Lib.hid hk3
        have HQ1 := Lib.hid hq1
        clear hk1 hk2 hk3 hk4 hq1 hR2 hsz
        go_upto_region 12 with fail
        go_region_held3 (fun _ => True) (exact trivial) ((go_at_call 189; (with_reducible refine (subVW_any w.heap.size w.heap.size n2 (n1 - n2) (c - n2) b1 (o1 + n2) (c1 - n2) cur2 cur1 e1 (N1 / W64 ^ n2) cr _ ?_ ?_ ?_ ?_ ?_ ?_ ?_ ?_ ?_ ?_ ?_ ?_ ?_ ?_ HH.out.2.1).mono ?_); exact HK1.out; exact HQ1.out; exact Nat.le_refl _; (exact Nat.le_trans HBD.out.size HSZ2.out); omega; omega; (rw [HK.out]; omega); omega; (unfold maxLen; omega); exact HW1.out; omega; (unfold maxLen; omega); exact Nat.ne_of_lt hl1; (unfold W64; omega); rintro e w3 ⟨rfl, hR3⟩; rw [HH.out.2.2.1]))
        obtain ⟨cur3, hk1, hk2, hk3, hk4⟩ := hR3.blk
        have hsz3 : cur3.size = c := by rw [hk2, HK.out]
        have HBf := Lib.hid (show Below w.heap.size w w3 from (HBD.out.trans HB3.out.below).trans ((below_drew' w2 _).trans hR3.below))
        obtain ⟨hcl, hbn⟩ := bigN_row (c := c) (m := n1) (N := N1 - N2) hk1 (by simpa using hsz3) (fun i hi => by
          by_cases hlo : i < n2
          · rw [hk4 i (.inl hlo)]
            have := HK3.out i hlo
            simpa using this
          · have := hk3 (i - n2) (by omega)
            rw [show n2 + (i - n2) = i from by omega] at this
            rw [this, ← HH.out.1, dg_div, show n2 + (i - n2) = i from by omega]) hcn1 (by unfold maxLen; omega) HLT.out
        have HCL := Lib.hid hcl
        have HBN := Lib.hid hbn
        clear hk1 hk2 hk3 hk4 hcl hbn hR3 hsz3
        go_wp2_with fail
        refine (norm_any (some ⟨w.heap.size, 0, none⟩) n1 c (dg W64 (N1 - N2)) _ (by omega) (by omega) (by unfold maxLen; omega) (by simp) HCL.out).mono ?_
        rintro e w5 ⟨rfl, rfl⟩
        go_wp2
        go_ret
        exact ⟨_, _, _, rfl, HBN.out, HBf.out⟩
      · have hd : decide (n2 < n1) = false := by simpa using hgt
        obtain rfl : n1 = n2 := by omega
        have hcr : cr = 0 := HH.out.2.2.2 rfl
        subst hcr
        have HRB := Lib.hid (hR2.toB (B := w.heap.size) (Nat.le_refl _) HBD.out.size)
        obtain ⟨cur3, hk1, hk2, hk3, hk4⟩ := hR2.blk
        obtain ⟨hcl, hbn⟩ := bigN_row (c := c) (m := n1) hk1 (by rw [hk2, hsz]) (fun i hi => by have := hk3 i hi; simpa using this) hcn1 (by unfold maxLen; omega) HLT.out
        have HCL := Lib.hid hcl
        have HBN := Lib.hid hbn
        clear hk1 hk2 hk3 hk4 hcl hbn hR2 hsz hgt
        go_wp2_with fail
        refine (norm_any (some ⟨w.heap.size, 0, none⟩) n1 c (dg W64 (N1 - N2)) _ (by omega) (by omega) (by unfold maxLen; omega) (by simp) HCL.out).mono ?_
        rintro e w4 ⟨rfl, rfl⟩
        go_wp2
        go_ret
        exact ⟨_, _, _, rfl, HBN.out, HBD.out.trans HRB.out.below⟩
end Go.Proofs.YtdkipndepkblhaaGreatDoor

set_option linter.unusedSimpArgs false
set_option linter.unusedVariables false
namespace Go.Proofs.YtdkipndepkblhaaGreatDoor
open Go.RowKit Go.Bg Dg

theorem intIs_z {b o : Nat} {s : Bool} {R : Nat} {z : Int} {w : World} {e : Ending} {w' : World} (h : IntIs b o s R w e w') (hz : sg s R = z) : IntIs b o (decide (z < 0)) z.natAbs w e w' := by
  obtain ⟨e1, e2⟩ := sg_abs h.2.1.zero
  rw [hz] at e1 e2
  rw [e1, e2]; exact h

theorem sum_same (s : Bool) (N M : Nat) : sg (s && decide (0 < N + M)) (N + M) = sg s N + sg s M := by
  cases s
  · simp [sg]
  · by_cases h : 0 < N + M
    · simp [sg, h]; omega
    · obtain rfl : N = 0 := by omega
      obtain rfl : M = 0 := by omega
      rfl
theorem sum_other {s t : Bool} {N M : Nat} (hst : s ≠ t) (hle : M ≤ N) : sg (s && decide (0 < N - M)) (N - M) = sg s N + sg t M := by
  cases s <;> cases t <;> simp at hst
  · simp [sg]; omega
  · by_cases h : 0 < N - M
    · simp [sg, h]; omega
    · simp [sg, h]; omega
theorem sum_other' {s t : Bool} {N M : Nat} (hst : s ≠ t) (hlt : N < M) : sg (!s && decide (0 < M - N)) (M - N) = sg s N + sg t M := by
  cases s <;> cases t <;> simp at hst
  · have h : 0 < M - N := by omega
    simp [sg, h]; omega
  · simp [sg]; omega
theorem sg_not (t : Bool) (M : Nat) : sg (!t) M = -sg t M := by cases t <;> simp [sg]
theorem cmpK_ge {N M : Nat} (h : M ≤ N) : decide (0 ≤ cmpI N M) = true := by
  unfold cmpI; simp; split
  · omega
  · split <;> omega
theorem cmpK_lt {N M : Nat} (h : N < M) : decide (0 ≤ cmpI N M) = false := by
  unfold cmpI; rw [if_pos h]; rfl
end Go.Proofs.YtdkipndepkblhaaGreatDoor

set_option linter.unusedSimpArgs false
set_option linter.unusedVariables false
namespace Go.Proofs.YtdkipndepkblhaaGreatDoor
open Go.RowKit Go.Bg Dg

set_option maxRecDepth 100000 in
set_option maxHeartbeats 4000000 in
theorem intAdd_new (b o b1 o1 b2 o2 : Nat) (s t : Bool) (N M : Nat) (w : World) (h : NewInt w b o) (h1 : BigAt 151 w b1 o1 s N) (h2 : BigAt 151 w b2 o2 t M) (L : Nat) (hL : L ≤ 900000) (hN : N < W64 ^ L) (hM : M < W64 ^ L) :
    Calls Tryz.prog 63 #[.pointer (some ⟨b, o, none⟩), .pointer (some ⟨b1, o1, none⟩), .pointer (some ⟨b2, o2, none⟩)] w (IntIs b o (decide ((sg s N + sg t M) < 0)) ((sg s N + sg t M)).natAbs w) := by
  obtain ⟨a, n, c, p0, p1, hNN⟩ := h1.val
  obtain ⟨a', n', c', q0, q1, hMM⟩ := h2.val
  have hn : n ≤ 900000 := Nat.le_trans (len_le W64_gt hNN.num.top hN) hL
  have hn' : n' ≤ 900000 := Nat.le_trans (len_le W64_gt hMM.num.top hM) hL
  have HH := Lib.hid h
  have HN := Lib.hid hNN
  have HM := Lib.hid hMM
  have k1 := h.c1
  clear h h1 h2 hNN hMM hN hM
  by_cases hst : s = t
  · subst hst
    have H1 := HN
    have H2 := HM
    go_enter Tryz.func63, Tryz.ntmps63
    go_upto_region 2 with fail
    go_quiet (fail)
    go_upto_region 3 with fail
    have hd0 : ∀ q, Below w.heap.size w (w.drewN q) := fun q => below_drewN (Below.refl w.heap.size w) q
    go_region_with
      ((go_at_call 124; (with_reducible refine (natAdd_nil a a' n n' c c' N M _ ?_ ?_ hn hn').mono ?_); exact H1.out.keep (hd0 _); exact H2.out.keep (hd0 _); rintro e w1 ⟨a2, n2, c2, rfl, hN2, hB⟩; have hB1 := Below.then (hd0 _) (Nat.le_refl _) hB; have HP := Lib.hid (natAt_pos_len hN2.num); have hcm2 := hN2.num.cm; have hnc2 := hN2.num.nc; have HF := Lib.hid (fun (s' : Bool) (hs : s' = true → 0 < (N + M)) => HH.out.made hB1 hN2 hs); have h' := HH.out.keep hB1; obtain ⟨u0, k0⟩ := h'.c0; have k1' := h'.c1; have f0 := h'.blk.frozen o; have f1 := h'.blk.frozen (o + 1); have k0' : ∀ v, (w1.setCell ⟨b, o + 1, none⟩ v).cell? ⟨b, o, none⟩ = some u0 := (fun v => by rw [World.cell?_setCell_other _ _ _ _ (fun hh => by injection hh with _ hh _; omega)]; exact k0); clear h' hN2 hB hB1))
    all_goals
      clear p0 p1 q0 q1 k1
      by_cases hr : 0 < n2
      · go_wp2
        go_ret
        have hp : 0 < (N + M) := by have := HP.out; simpa [hr] using this.symm
        refine intIs_z (HF.out _ (fun _ => hp)) ?_
        have hpl := sum_same s N M
        simpa [hp] using hpl
      · go_wp2
        go_ret
        have hp : ¬ 0 < (N + M) := by have := HP.out; simpa [hr] using this
        refine intIs_z (HF.out false (by simp)) ?_
        have hpl := sum_same s N M
        simpa [hp] using hpl
  · have HST := Lib.hid hst
    have hsb : (s == t) = false := by cases s <;> cases t <;> simp_all
    clear hst
    by_cases hle : M ≤ N
    · have H1 := HN
      have H2 := HM
      have hc := cmpK_ge hle
      go_enter Tryz.func63, Tryz.ntmps63
      go_upto_region 2 with fail
      go_quiet (fail)
      go_upto_region 4 with fail
      go_quiet (first | (go_at_call 125; refine quiet_of2 (natCmp_any _ _ _ _ _ _ N M _ (HN.out.num.drewN _) (HM.out.num.drewN _))))
      generalize cmpI N M = k at *
      go_upto_region 5 with fail
      have hd0 : ∀ q, Below w.heap.size w (w.drewN q) := fun q => below_drewN (Below.refl w.heap.size w) q
      go_region_with
        ((go_at_call 126; (with_reducible refine (natSub_nil a a' n n' c c' N M _ ?_ ?_ hn hle).mono ?_); exact H1.out.keep (hd0 _); exact H2.out.keep (hd0 _); rintro e w1 ⟨a2, n2, c2, rfl, hN2, hB⟩; have hB1 := Below.then (hd0 _) (Nat.le_refl _) hB; have HP := Lib.hid (natAt_pos_len hN2.num); have hcm2 := hN2.num.cm; have hnc2 := hN2.num.nc; have HF := Lib.hid (fun (s' : Bool) (hs : s' = true → 0 < (N - M)) => HH.out.made hB1 hN2 hs); have h' := HH.out.keep hB1; obtain ⟨u0, k0⟩ := h'.c0; have k1' := h'.c1; have f0 := h'.blk.frozen o; have f1 := h'.blk.frozen (o + 1); have k0' : ∀ v, (w1.setCell ⟨b, o + 1, none⟩ v).cell? ⟨b, o, none⟩ = some u0 := (fun v => by rw [World.cell?_setCell_other _ _ _ _ (fun hh => by injection hh with _ hh _; omega)]; exact k0); clear h' hN2 hB hB1))
      all_goals
        clear p0 p1 q0 q1 k1
        by_cases hr : 0 < n2
        · go_wp2
          go_ret
          have hp : 0 < (N - M) := by have := HP.out; simpa [hr] using this.symm
          refine intIs_z (HF.out _ (fun _ => hp)) ?_
          have hpl := sum_other HST.out hle
          simpa [hp] using hpl
        · go_wp2
          go_ret
          have hp : ¬ 0 < (N - M) := by have := HP.out; simpa [hr] using this
          refine intIs_z (HF.out false (by simp)) ?_
          have hpl := sum_other HST.out hle
          simpa [hp] using hpl
    · have hlt : N < M := by omega
      have H1 := HM
      have H2 := HN
      have hc := cmpK_lt hlt
      go_enter Tryz.func63, Tryz.ntmps63
      go_upto_region 2 with fail
      go_quiet (fail)
      go_upto_region 4 with fail
      go_quiet (first | (go_at_call 125; refine quiet_of2 (natCmp_any _ _ _ _ _ _ N M _ (HN.out.num.drewN _) (HM.out.num.drewN _))))
      generalize cmpI N M = k at *
      go_upto_region 7 with fail
      have hd0 : ∀ q, Below w.heap.size w (w.drewN q) := fun q => below_drewN (Below.refl w.heap.size w) q
      go_region_with
        ((go_at_call 126; (with_reducible refine (natSub_nil a' a n' n c' c M N _ ?_ ?_ hn' (Nat.le_of_lt hlt)).mono ?_); exact H1.out.keep (hd0 _); exact H2.out.keep (hd0 _); rintro e w1 ⟨a2, n2, c2, rfl, hN2, hB⟩; have hB1 := Below.then (hd0 _) (Nat.le_refl _) hB; have HP := Lib.hid (natAt_pos_len hN2.num); have hcm2 := hN2.num.cm; have hnc2 := hN2.num.nc; have HF := Lib.hid (fun (s' : Bool) (hs : s' = true → 0 < (M - N)) => HH.out.made hB1 hN2 hs); have h' := HH.out.keep hB1; obtain ⟨u0, k0⟩ := h'.c0; have k1' := h'.c1; have f0 := h'.blk.frozen o; have f1 := h'.blk.frozen (o + 1); have k0' : ∀ v, (w1.setCell ⟨b, o + 1, none⟩ v).cell? ⟨b, o, none⟩ = some u0 := (fun v => by rw [World.cell?_setCell_other _ _ _ _ (fun hh => by injection hh with _ hh _; omega)]; exact k0); clear h' hN2 hB hB1))
      all_goals
        clear p0 p1 q0 q1 k1
        by_cases hr : 0 < n2
        · go_wp2
          go_ret
          have hp : 0 < (M - N) := by have := HP.out; simpa [hr] using this.symm
          refine intIs_z (HF.out _ (fun _ => hp)) ?_
          have hpl := sum_other' HST.out hlt
          simpa [hp] using hpl
        · go_wp2
          go_ret
          have hp : ¬ 0 < (M - N) := by have := HP.out; simpa [hr] using this
          refine intIs_z (HF.out false (by simp)) ?_
          have hpl := sum_other' HST.out hlt
          simpa [hp] using hpl
end Go.Proofs.YtdkipndepkblhaaGreatDoor
