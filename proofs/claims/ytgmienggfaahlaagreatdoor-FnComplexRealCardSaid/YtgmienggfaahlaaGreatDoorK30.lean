/-
  Contracts and lemmas: FrA FrB RcmpB.
-/
import Derived.Test.YtgmienggfaahlaaGreatDoorK05
import Derived.Test.YtgmienggfaahlaaGreatDoorK06
import Derived.Test.YtgmienggfaahlaaGreatDoorK29
import Derived.Test.YtgmienggfaahlaaGreatDoorK11
import Derived.Test.YtgmienggfaahlaaGreatDoorK12
set_option linter.unusedSimpArgs false
set_option linter.unusedVariables false
set_option maxRecDepth 100000
set_option maxHeartbeats 8000000
namespace Go.Bg
open Go.RowKit Dg
def GivesF (T : TypeId) (N : Nat) (w : World) (e : Ending) (w' : World) : Prop := ∃ a n c, e = .returned (.slice a n c) ∧ BigN T w' a n c N ∧ Below w.heap.size w w' ∧ ∀ k, InB a k → w.heap.size ≤ k
theorem GivesI.fresh {T : TypeId} {N : Nat} {w : World} {e : Ending} {w' : World} (h : GivesI T none N w e w') : GivesF T N w e w' := by
  obtain ⟨a, n, c, rfl, hN, hU, hp⟩ := h
  exact ⟨a, n, c, rfl, hN, hU.toBelow (fun k _ h => inB_none h), fun k hk => (hp k hk).elim (fun h => (inB_none h).elim) id⟩
end Go.Bg
namespace Go.Proofs.YtgmienggfaahlaaGreatDoor
open Go.RowKit Go.Bg Dg
theorem natSetF (a : Option Addr) (n c N : Nat) (w : World) (h : NumAt .u64 W64 w a n c N) (hn : n ≤ 1000000) :
    Calls Tryz.prog 143 #[.slice none 0 0, .slice a n c] w (GivesF 155 N w) := (natSet_none a n c N w h hn).mono fun _ _ h => h.fresh
theorem natMulWF (a1 : Option Addr) (n1 c1 N1 y : Nat) (w : World) (h1 : BigN 155 w a1 n1 c1 N1) (hb1 : n1 ≤ 900000) (hy : y < W64) :
    Calls Tryz.prog 230 #[.slice none 0 0, .slice a1 n1 c1, .int .u64 y, .int .u64 0] w (GivesF 155 (N1 * y) w) := (natMulW_into none 0 0 0 a1 n1 c1 N1 y w (BigN.nil _ _) h1 hb1 hy).mono fun _ _ h => h.fresh
theorem natAddF_ge (a1 a2 : Option Addr) (n1 n2 c1 c2 N1 N2 : Nat) (w : World) (h1 : BigN 155 w a1 n1 c1 N1) (h2 : BigN 155 w a2 n2 c2 N2) (hb1 : n1 ≤ 900000) (hge : n2 ≤ n1) :
    Calls Tryz.prog 136 #[.slice none 0 0, .slice a1 n1 c1, .slice a2 n2 c2] w (GivesF 155 (N1 + N2) w) := by
  have hm1 := h1.num.cm
  have hm2 := h2.num.cm
  have hc1 := h1.num.nc
  have hc2 := h2.num.nc
  unfold maxLen at hm1 hm2
  by_cases z1 : n1 = 0
  · subst z1
    obtain rfl : n2 = 0 := by omega
    have e1 : N1 = 0 := by have := h1.num.lt; simpa using this
    have e2 : N2 = 0 := by have := h2.num.lt; simpa using this
    subst e1
    subst e2
    clear h1 h2
    go_enter Tryz.func136, Tryz.ntmps136
    go_wp2
    go_ret
    exact ⟨_, _, _, rfl, BigN.nil _ _, Below.refl _ _, fun k h => (inB_none h).elim⟩
  · have hz1 : ((n1 : Int) == 0) = false := by simpa using z1
    by_cases z2 : n2 = 0
    · subst z2
      have e2 : N2 = 0 := by have := h2.num.lt; simpa using this
      subst e2
      have HN := Lib.hid h1.num
      clear h1 h2
      go_enter Tryz.func136, Tryz.ntmps136
      go_wp2_with fail
      refine (natSetF a1 n1 c1 N1 _ HN.out (by omega)).mono ?_
      rintro e w1 ⟨a, n, c, rfl, hN, hB, hf⟩
      go_wp2
      go_ret
      exact ⟨_, _, _, rfl, hN, hB, hf⟩
    · have hz2 : ((n2 : Int) == 0) = false := by simpa using z2
      obtain ⟨b1, o1, rfl, hl1⟩ := h1.num.form (by omega)
      obtain ⟨b2, o2, rfl, hl2⟩ := h2.num.form (by omega)
      have HB1 := Lib.hid h1
      have HB2 := Lib.hid h2
      clear h1 h2
      go_enter Tryz.func136, Tryz.ntmps136
      go_wp2_with fail
      refine (make_nil (n1 + 1) (by omega) _).mono ?_
      rintro e w1 (⟨h, _⟩ | ⟨c, hc0, hcn1, hcn2, rfl, hw⟩)
      case inl => omega
      have hb : BlkAt w1 w.heap.size (Array.replicate c (.int .u64 0)) 155 := by rw [hw]; exact BlkAt.new _ _ _
      have hB1 : Below w.heap.size w w1 := by rw [hw]; exact (Below.refl _ _).alloc (Nat.le_refl _) _
      have HS1 := Lib.hid (show w1.heap.size = w.heap.size + 1 from by rw [hw]; simp)
      clear hw
      have hbd : Below w1.heap.size w1 w1.drew := (Below.refl _ _).drew
      have hg2 := hb.keep hbd
      have HD1 := Lib.hid (HB1.out.num.keep (hB1.trans (hbd.mono hB1.size)))
      have HD2 := Lib.hid (HB2.out.num.keep (hB1.trans (hbd.mono hB1.size)))
      have hsz : (Array.replicate c (Value.int .u64 0)).size = c := by simp
      have hca := add_carry_le W64_pos N1 N2 n2
      have HH := Lib.hid (add_high HB1.out.num.lt HB2.out.num.lt hge)
      have HLT := Lib.hid (add_fits HB1.out.num.lt HB2.out.num.lt hge)
      have hx1 : (n2 : Int) ≤ c := by omega
      have hx2 : (n2 : Int) ≤ c1 := by omega
      have hx3 : (n2 : Int) ≤ c2 := by omega
      have HBD := Lib.hid (hB1.trans (hbd.mono hB1.size))
      have HBK := Lib.hid hg2
      clear hb hg2 hbd hB1
      generalize hcar : (N1 % W64 ^ n2 + N2 % W64 ^ n2) / W64 ^ n2 = cr at *
      go_upto_region 10 with fail
      go_region_held3 (fun _ => True) (exact trivial) ((go_at_call 195; (with_reducible refine (addVV_any w.heap.size 0 n2 c b1 o1 c1 b2 o2 c2 _ N1 N2 _ HBK.out ?_ ?_ ?_ ?_ ?_ ?_ ?_ ?_ ?_ ?_ ?_ ?_).mono ?_); omega; (rw [hsz]; omega); omega; (unfold maxLen; omega); exact HD1.out.wcells0 hge; omega; (unfold maxLen; omega); exact HD2.out.wcells0 (Nat.le_refl _); omega; (unfold maxLen; omega); exact .inl (Nat.ne_of_lt hl1); exact .inl (Nat.ne_of_lt hl2); rintro e w2 ⟨rfl, hR2⟩; rw [hcar]))
      have HB3 := Lib.hid (hR2.toB (B := w.heap.size) (Nat.le_refl _) HBD.out.size)
      clear hx1 hx2 hx3
      by_cases hgt : n2 < n1
      · have hd : decide (n2 < n1) = true := by simpa using hgt
        have hx1 : (n2 : Int) ≤ n1 := by omega
        have hx2 : (n1 : Int) ≤ c := by omega
        have hx3 : (n2 : Int) ≤ c1 := by omega
        have hn1 : ¬ c = n2 := by omega
        have hn2 : ¬ c1 = n2 := by omega
        obtain ⟨cur2, hk1, hk2, hk3, hk4⟩ := hR2.blk
        obtain ⟨cur1, e1, hq1⟩ : ∃ cur1 e1, BlkAt w2 b1 cur1 e1 := by
          rcases HB1.out.buf with ⟨hh, _⟩ | ⟨g', cur1, hh, hg', _⟩
          · cases hh
          · injection hh with hh
            injection hh with hh _ _
            subst hh
            exact ⟨cur1, _, (hR2.upd.blk (hg'.keep HBD.out) (Nat.ne_of_lt hl1))⟩
        have HE1 := Lib.hid (HB1.out.num.keep (HBD.out.trans (Below.refl _ _)))
        have HW1 := Lib.hid (show WCells w2 b1 (o1 + n2) (n1 - n2) (dg W64 (N1 / W64 ^ n2)) from fun i hi => by
          have := (HD1.out.wcells (k := n2) (m := n1 - n2) (by omega)) i hi
          rw [hR2.upd.cell (p := ⟨b1, o1 + n2 + i, none⟩) (block_lt this) (Nat.ne_of_lt hl1)]
          exact this)
        have HK := Lib.hid (show cur2.size = c from by rw [hk2, hsz])
        have HSZ2 := Lib.hid hR2.upd.size
        have HK1 := Lib.hid hk1
        have HK3 := Lib.hid hk3
        have HQ1 := Lib.hid hq1
        clear hk1 hk2 hk3 hk4 hq1 hR2 hsz
        go_upto_region 12 with fail
        go_region_held3 (fun _ => True) (exact trivial) ((go_at_call 196; (with_reducible refine (addVW_any w.heap.size w.heap.size n2 (n1 - n2) (c - n2) b1 (o1 + n2) (c1 - n2) cur2 cur1 e1 (N1 / W64 ^ n2) cr _ ?_ ?_ ?_ ?_ ?_ ?_ ?_ ?_ ?_ ?_ ?_ ?_ ?_ ?_).mono ?_); exact HK1.out; exact HQ1.out; exact Nat.le_refl _; (exact Nat.le_trans HBD.out.size HSZ2.out); omega; omega; (rw [HK.out]; omega); omega; (unfold maxLen; omega); exact HW1.out; omega; (unfold maxLen; omega); exact Nat.ne_of_lt hl1; (unfold W64; omega); rintro e w3 ⟨rfl, hR3⟩; rw [← HH.out.2]))
        obtain ⟨cur3, hk1, hk2, hk3, hk4⟩ := hR3.blk
        have hsz3 : cur3.size = c := by rw [hk2, HK.out]
        obtain ⟨u0, p0⟩ : ∃ u0, w3.cell? ⟨w.heap.size, n1, none⟩ = some u0 := ⟨_, by rw [hk1.cell n1, Array.getElem?_eq_getElem (by omega)]⟩
        have f0 := hk1.frozen n1
        obtain ⟨W4, hW4⟩ : ∃ W4, W4 = w3.setCell ⟨w.heap.size, n1, none⟩ (.int .u64 (dg W64 (N1 + N2) n1 : Nat)) := ⟨_, rfl⟩
        have hset := hk1.set n1 (.int .u64 (dg W64 (N1 + N2) n1 : Nat))
        rw [← hW4] at hset
        have HBf := Lib.hid (show Below w.heap.size w W4 from by
          rw [hW4]
          exact ((HBD.out.trans HB3.out.below).trans ((below_drew' w2 _).trans hR3.below)).setCell (Nat.le_refl _) _)
        obtain ⟨hcl, hbn⟩ := bigN_row (c := c) (m := n1 + 1) (N := N1 + N2) hset (by simpa using hsz3) (fun i hi => by
          rw [Array.getElem?_setIfInBounds]
          by_cases e : n1 = i
          · subst e; rw [if_pos rfl, if_pos (by omega)]
          · rw [if_neg e]
            by_cases hlo : i < n2
            · rw [hk4 i (.inl hlo)]
              have := HK3.out i hlo
              simpa using this
            · have := hk3 (i - n2) (by omega)
              rw [show n2 + (i - n2) = i from by omega] at this
              rw [this, ← HH.out.1, Dg.dg_div, show n2 + (i - n2) = i from by omega]) hcn1 (by unfold maxLen; omega) HLT.out
        have HCL := Lib.hid hcl
        have HBN := Lib.hid hbn
        have HW4 := Lib.hid hW4
        clear hk1 hk2 hk3 hk4 hcl hbn hW4 hset hR3 hsz3
        go_wp2_with fail
        rw [← HW4.out]
        refine (norm_any (some ⟨w.heap.size, 0, none⟩) (n1 + 1) c (dg W64 (N1 + N2)) _ (by omega) (by omega) (by unfold maxLen; omega) (by simp) HCL.out).mono ?_
        rintro e w5 ⟨rfl, rfl⟩
        go_wp2
        go_ret
        exact ⟨_, _, _, rfl, HBN.out, HBf.out, fun k hk => by rw [← inB_some hk]; first | exact Nat.le_refl _ | exact HWS.out⟩
      · have hd : decide (n2 < n1) = false := by simpa using hgt
        obtain rfl : n1 = n2 := by omega
        have hroom := hR2.room (j := n1) (by rw [hsz]; omega)
        obtain ⟨⟨u0, p0⟩, f0⟩ := hroom
        have hcr : cr = dg W64 (N1 + N2) n1 := by
          rw [HH.out.2]; simp [Nat.mod_one]
        obtain ⟨W3, hW3⟩ : ∃ W3, W3 = w2.setCell ⟨w.heap.size, n1, none⟩ (.int .u64 (cr : Nat)) := ⟨_, rfl⟩
        have HR3 := Lib.hid (hR2.step (by rw [hsz]; omega) hcr)
        have HW3 := Lib.hid hW3
        simp only [Nat.zero_add] at HR3
        rw [← hW3] at HR3
        have HRB := Lib.hid (HR3.out.toB (B := w.heap.size) (Nat.le_refl _) HBD.out.size)
        obtain ⟨cur3, hk1, hk2, hk3, hk4⟩ := HR3.out.blk
        obtain ⟨hcl, hbn⟩ := bigN_row (c := c) (m := n1 + 1) hk1 (by rw [hk2, hsz]) (fun i hi => by have := hk3 i hi; simpa using this) hcn1 (by unfold maxLen; omega) HLT.out
        have HCL := Lib.hid hcl
        have HBN := Lib.hid hbn
        clear hk1 hk2 hk3 hk4 hcl hbn hR2 hW3 hsz hcr hgt
        go_wp2_with fail
        rw [← HW3.out]
        refine (norm_any (some ⟨w.heap.size, 0, none⟩) (n1 + 1) c (dg W64 (N1 + N2)) _ (by omega) (by omega) (by unfold maxLen; omega) (by simp) HCL.out).mono ?_
        rintro e w4 ⟨rfl, rfl⟩
        go_wp2
        go_ret
        exact ⟨_, _, _, rfl, HBN.out, HBD.out.trans HRB.out.below, fun k hk => by rw [← inB_some hk]; first | exact Nat.le_refl _ | exact HWS.out⟩
theorem natAddF (a1 a2 : Option Addr) (n1 n2 c1 c2 N1 N2 : Nat) (w : World) (h1 : BigN 155 w a1 n1 c1 N1) (h2 : BigN 155 w a2 n2 c2 N2) (hb1 : n1 ≤ 900000) (hb2 : n2 ≤ 900000) :
    Calls Tryz.prog 136 #[.slice none 0 0, .slice a1 n1 c1, .slice a2 n2 c2] w (GivesF 155 (N1 + N2) w) := by
  by_cases hge : n2 ≤ n1
  · exact natAddF_ge a1 a2 n1 n2 c1 c2 N1 N2 w h1 h2 hb1 hge
  · have hlt : n1 < n2 := by omega
    have HS := Lib.hid (natAddF_ge a2 a1 n2 n1 c2 c1 N2 N1 w h2 h1 hb2 (by omega))
    have hm1 := h1.num.cm
    have hm2 := h2.num.cm
    unfold maxLen at hm1 hm2
    have hc1 := h1.num.nc
    have hc2 := h2.num.nc
    clear h1 h2 hge
    go_enter Tryz.func136, Tryz.ntmps136
    go_wp2_with fail
    refine HS.out.mono ?_
    rintro e w1 ⟨a, n, c, rfl, hN, hB, hf⟩
    rw [Nat.add_comm N2 N1] at hN
    go_wp2
    go_ret
    exact ⟨_, _, _, rfl, hN, hB, hf⟩
theorem natSubF (a1 a2 : Option Addr) (n1 n2 c1 c2 N1 N2 : Nat) (w : World) (h1 : BigN 155 w a1 n1 c1 N1) (h2 : BigN 155 w a2 n2 c2 N2) (hb1 : n1 ≤ 900000) (hle : N2 ≤ N1) :
    Calls Tryz.prog 138 #[.slice none 0 0, .slice a1 n1 c1, .slice a2 n2 c2] w (GivesF 155 (N1 - N2) w) := by
  have hge : n2 ≤ n1 := len_le W64_gt h2.num.top (Nat.lt_of_le_of_lt hle h1.num.lt)
  have hm1 := h1.num.cm
  have hm2 := h2.num.cm
  have hc1 := h1.num.nc
  have hc2 := h2.num.nc
  unfold maxLen at hm1 hm2
  by_cases z1 : n1 = 0
  · subst z1
    obtain rfl : n2 = 0 := by omega
    have e1 : N1 = 0 := by have := h1.num.lt; simpa using this
    have e2 : N2 = 0 := by have := h2.num.lt; simpa using this
    subst e1
    subst e2
    clear h1 h2
    go_enter Tryz.func138, Tryz.ntmps138
    go_wp2
    go_ret
    exact ⟨_, _, _, rfl, BigN.nil _ _, Below.refl _ _, fun k h => (inB_none h).elim⟩
  · have hz1 : ((n1 : Int) == 0) = false := by simpa using z1
    by_cases z2 : n2 = 0
    · subst z2
      have e2 : N2 = 0 := by have := h2.num.lt; simpa using this
      subst e2
      have HN := Lib.hid h1.num
      clear h1 h2
      go_enter Tryz.func138, Tryz.ntmps138
      go_wp2_with fail
      refine (natSetF a1 n1 c1 N1 _ HN.out (by omega)).mono ?_
      rintro e w1 ⟨a, n, c, rfl, hN, hB, hf⟩
      go_wp2
      go_ret
      exact ⟨_, _, _, rfl, hN, hB, hf⟩
    · have hz2 : ((n2 : Int) == 0) = false := by simpa using z2
      obtain ⟨b1, o1, rfl, hl1⟩ := h1.num.form (by omega)
      obtain ⟨b2, o2, rfl, hl2⟩ := h2.num.form (by omega)
      have HB1 := Lib.hid h1
      have HB2 := Lib.hid h2
      clear h1 h2
      go_enter Tryz.func138, Tryz.ntmps138
      go_wp2_with fail
      refine (make_nil n1 (by omega) _).mono ?_
      rintro e w1 (⟨h, _⟩ | ⟨c, hc0, hcn1, hcn2, rfl, hw⟩)
      case inl => omega
      have hb : BlkAt w1 w.heap.size (Array.replicate c (.int .u64 0)) 155 := by rw [hw]; exact BlkAt.new _ _ _
      have hB1 : Below w.heap.size w w1 := by rw [hw]; exact (Below.refl _ _).alloc (Nat.le_refl _) _
      have HS1 := Lib.hid (show w1.heap.size = w.heap.size + 1 from by rw [hw]; simp)
      clear hw
      have hbd : Below w1.heap.size w1 w1.drew := (Below.refl _ _).drew
      have hg2 := hb.keep hbd
      have HD1 := Lib.hid (HB1.out.num.keep (hB1.trans (hbd.mono hB1.size)))
      have HD2 := Lib.hid (HB2.out.num.keep (hB1.trans (hbd.mono hB1.size)))
      have hsz : (Array.replicate c (Value.int .u64 0)).size = c := by simp
      have hca := bor_le N1 N2 n2
      have HH := Lib.hid (sub_high hle HB1.out.num.lt HB2.out.num.lt hge)
      have HLT := Lib.hid (show N1 - N2 < W64 ^ n1 from Nat.lt_of_le_of_lt (Nat.sub_le _ _) HB1.out.num.lt)
      have hx1 : (n2 : Int) ≤ c := by omega
      have hx2 : (n2 : Int) ≤ c1 := by omega
      have hx3 : (n2 : Int) ≤ c2 := by omega
      have HBD := Lib.hid (hB1.trans (hbd.mono hB1.size))
      have HBK := Lib.hid hg2
      clear hb hg2 hbd hB1
      have HLE := Lib.hid hle
      generalize hcar : bor N1 N2 n2 = cr at *
      go_upto_region 10 with fail
      go_region_held3 (fun _ => True) (exact trivial) ((go_at_call 197; (with_reducible refine (subVV_any w.heap.size 0 n2 c b1 o1 c1 b2 o2 c2 _ N1 N2 HLE.out _ HBK.out ?_ ?_ ?_ ?_ ?_ ?_ ?_ ?_ ?_ ?_ ?_ ?_).mono ?_); omega; (rw [hsz]; omega); omega; (unfold maxLen; omega); exact HD1.out.wcells0 hge; omega; (unfold maxLen; omega); exact HD2.out.wcells0 (Nat.le_refl _); omega; (unfold maxLen; omega); exact .inl (Nat.ne_of_lt hl1); exact .inl (Nat.ne_of_lt hl2); rintro e w2 ⟨rfl, hR2⟩; rw [hcar]))
      have HB3 := Lib.hid (hR2.toB (B := w.heap.size) (Nat.le_refl _) HBD.out.size)
      clear hx1 hx2 hx3
      by_cases hgt : n2 < n1
      · have hd : decide (n2 < n1) = true := by simpa using hgt
        have hx1 : (n2 : Int) ≤ n1 := by omega
        have hx2 : (n2 : Int) ≤ c := by omega
        have hx3 : (n2 : Int) ≤ c1 := by omega
        have hn1 : ¬ c = n2 := by omega
        have hn2 : ¬ c1 = n2 := by omega
        obtain ⟨cur2, hk1, hk2, hk3, hk4⟩ := hR2.blk
        obtain ⟨cur1, e1, hq1⟩ : ∃ cur1 e1, BlkAt w2 b1 cur1 e1 := by
          rcases HB1.out.buf with ⟨hh, _⟩ | ⟨g', cur1, hh, hg', _⟩
          · cases hh
          · injection hh with hh
            injection hh with hh _ _
            subst hh
            exact ⟨cur1, _, (hR2.upd.blk (hg'.keep HBD.out) (Nat.ne_of_lt hl1))⟩
        have HE1 := Lib.hid (HB1.out.num.keep (HBD.out.trans (Below.refl _ _)))
        have HW1 := Lib.hid (show WCells w2 b1 (o1 + n2) (n1 - n2) (dg W64 (N1 / W64 ^ n2)) from fun i hi => by
          have := (HD1.out.wcells (k := n2) (m := n1 - n2) (by omega)) i hi
          rw [hR2.upd.cell (p := ⟨b1, o1 + n2 + i, none⟩) (block_lt this) (Nat.ne_of_lt hl1)]
          exact this)
        have HK := Lib.hid (show cur2.size = c from by rw [hk2, hsz])
        have HSZ2 := Lib.hid hR2.upd.size
        have HK1 := Lib.hid hk1
        have HK3 := Lib.hid hk3
        have HQ1 := Lib.hid hq1
        clear hk1 hk2 hk3 hk4 hq1 hR2 hsz
        go_upto_region 12 with fail
        go_region_held3 (fun _ => True) (exact trivial) ((go_at_call 198; (with_reducible refine (subVW_any w.heap.size w.heap.size n2 (n1 - n2) (c - n2) b1 (o1 + n2) (c1 - n2) cur2 cur1 e1 (N1 / W64 ^ n2) cr _ ?_ ?_ ?_ ?_ ?_ ?_ ?_ ?_ ?_ ?_ ?_ ?_ ?_ ?_ HH.out.2.1).mono ?_); exact HK1.out; exact HQ1.out; exact Nat.le_refl _; (exact Nat.le_trans HBD.out.size HSZ2.out); omega; omega; (rw [HK.out]; omega); omega; (unfold maxLen; omega); exact HW1.out; omega; (unfold maxLen; omega); exact Nat.ne_of_lt hl1; (unfold W64; omega); rintro e w3 ⟨rfl, hR3⟩; rw [HH.out.2.2.1]))
        obtain ⟨cur3, hk1, hk2, hk3, hk4⟩ := hR3.blk
        have hsz3 : cur3.size = c := by rw [hk2, HK.out]
        have HBf := Lib.hid (show Below w.heap.size w w3 from (HBD.out.trans HB3.out.below).trans ((below_drew' w2 _).trans hR3.below))
        obtain ⟨hcl, hbn⟩ := bigN_row (c := c) (m := n1) (N := N1 - N2) hk1 (by simpa using hsz3) (fun i hi => by
          by_cases hlo : i < n2
          · rw [hk4 i (.inl hlo)]
            have := HK3.out i hlo
            simpa using this
          · have := hk3 (i - n2) (by omega)
            rw [show n2 + (i - n2) = i from by omega] at this
            rw [this, ← HH.out.1, Dg.dg_div, show n2 + (i - n2) = i from by omega]) hcn1 (by unfold maxLen; omega) HLT.out
        have HCL := Lib.hid hcl
        have HBN := Lib.hid hbn
        clear hk1 hk2 hk3 hk4 hcl hbn hR3 hsz3
        go_wp2_with fail
        refine (norm_any (some ⟨w.heap.size, 0, none⟩) n1 c (dg W64 (N1 - N2)) _ (by omega) (by omega) (by unfold maxLen; omega) (by simp) HCL.out).mono ?_
        rintro e w5 ⟨rfl, rfl⟩
        go_wp2
        go_ret
        exact ⟨_, _, _, rfl, HBN.out, HBf.out, fun k hk => by rw [← inB_some hk]; first | exact Nat.le_refl _ | exact HWS.out⟩
      · have hd : decide (n2 < n1) = false := by simpa using hgt
        obtain rfl : n1 = n2 := by omega
        have hcr : cr = 0 := HH.out.2.2.2 rfl
        subst hcr
        have HRB := Lib.hid (hR2.toB (B := w.heap.size) (Nat.le_refl _) HBD.out.size)
        obtain ⟨cur3, hk1, hk2, hk3, hk4⟩ := hR2.blk
        obtain ⟨hcl, hbn⟩ := bigN_row (c := c) (m := n1) hk1 (by rw [hk2, hsz]) (fun i hi => by have := hk3 i hi; simpa using this) hcn1 (by unfold maxLen; omega) HLT.out
        have HCL := Lib.hid hcl
        have HBN := Lib.hid hbn
        clear hk1 hk2 hk3 hk4 hcl hbn hR2 hsz hgt
        go_wp2_with fail
        refine (norm_any (some ⟨w.heap.size, 0, none⟩) n1 c (dg W64 (N1 - N2)) _ (by omega) (by omega) (by unfold maxLen; omega) (by simp) HCL.out).mono ?_
        rintro e w4 ⟨rfl, rfl⟩
        go_wp2
        go_ret
        exact ⟨_, _, _, rfl, HBN.out, HBD.out.trans HRB.out.below, fun k hk => by rw [← inB_some hk]; first | exact Nat.le_refl _ | exact HWS.out⟩
theorem natMulF_ge (a1 a2 : Option Addr) (n1 n2 c1 c2 N1 N2 : Nat) (w : World) (hK : Thr w) (h1 : BigN 155 w a1 n1 c1 N1) (h2 : BigN 155 w a2 n2 c2 N2) (hb1 : n1 ≤ 300000) (hb2 : n2 < 40) (hge : n2 ≤ n1) (p : Value) :
    Calls Tryz.prog 199 #[.slice none 0 0, p, .slice a1 n1 c1, .slice a2 n2 c2] w (GivesF 155 (N1 * N2) w) := by
  have hm1 := h1.num.cm
  have hm2 := h2.num.cm
  have hc1 := h1.num.nc
  have hc2 := h2.num.nc
  unfold maxLen at hm1 hm2
  have HK := Lib.hid hK
  clear hK
  by_cases z2 : n2 = 0
  · subst z2
    have e2 : N2 = 0 := by have := h2.num.lt; simpa using this
    subst e2
    clear h1 h2
    by_cases z1 : n1 = 0
    · subst z1
      go_enter Tryz.func199, Tryz.ntmps199
      go_wp2
      go_ret
      exact ⟨_, _, _, rfl, BigN.nil _ _, Below.refl _ _, fun k h => (inB_none h).elim⟩
    · have hz1 : ((n1 : Int) == 0) = false := by simpa using z1
      go_enter Tryz.func199, Tryz.ntmps199
      go_wp2
      go_ret
      exact ⟨_, _, _, rfl, BigN.nil _ _, Below.refl _ _, fun k h => (inB_none h).elim⟩
  have hz1 : ((n1 : Int) == 0) = false := by simp; omega
  have hz2 : ((n2 : Int) == 0) = false := by simpa using z2
  obtain ⟨b1, o1, rfl, hl1⟩ := h1.num.form (by omega)
  obtain ⟨b2, o2, rfl, hl2⟩ := h2.num.form (by omega)
  have HB1 := Lib.hid h1
  have HB2 := Lib.hid h2
  by_cases z3 : n2 = 1
  · subst z3
    have e2 := h2.num.cell (i := 0) (by omega)
    rw [Nat.add_zero] at e2
    have hlt2 := h2.num.lt
    have htop := h2.num.top
    rw [Nat.pow_one] at hlt2
    have hd : dg W64 N2 0 = N2 := by unfold dg; rw [Nat.pow_zero, Nat.div_one, Nat.mod_eq_of_lt hlt2]
    rw [hd] at e2
    have h20 : 0 < N2 := by rcases htop with h | h <;> simp at h; omega
    have HL2 := Lib.hid hlt2
    clear h1 h2 hlt2 htop hd
    go_enter Tryz.func199, Tryz.ntmps199
    go_wp2_with fail
    refine (natMulWF _ n1 c1 N1 N2 _ HB1.out (by omega) HL2.out).mono ?_
    rintro e w1 ⟨a, n, c, rfl, hN, hB, hf⟩
    go_wp2
    go_ret
    exact ⟨_, _, _, rfl, hN, hB, hf⟩
  · have hz3 : ((n2 : Int) == 1) = false := by simp; omega
    clear h1 h2
    go_enter Tryz.func199, Tryz.ntmps199
    go_wp2_with fail
    refine (alias_nil _ n1 c1 _).mono ?_
    rintro e w1 ⟨rfl, q1, rfl⟩
    go_wp2_with fail
    refine (alias_nil _ n2 c2 _).mono ?_
    rintro e w2 ⟨rfl, q2, rfl⟩
    obtain ⟨W2, hW2⟩ : ∃ W2, W2 = w.drewN (q1 + q2) := ⟨_, rfl⟩
    have hbq : Below w.heap.size w W2 := by rw [hW2]; exact below_drewN (Below.refl _ _) _
    go_wp2_with fail
    rw [← hW2]
    refine (make_nil (n1 + n2) (by omega) _).mono ?_
    rintro e w3 (⟨h, _⟩ | ⟨c, hc0, hcn1, hcn2, rfl, hw⟩)
    case inl => omega
    have hb : BlkAt w3 W2.heap.size (Array.replicate c (.int .u64 0)) 155 := by rw [hw]; exact BlkAt.new _ _ _
    have hB3 : Below W2.heap.size W2 w3 := by rw [hw]; exact (Below.refl _ _).alloc (Nat.le_refl _) _
    have hbd := Below.then hbq (Nat.le_refl _) hB3
    clear hw hW2
    have HD1 := Lib.hid (HB1.out.num.keep hbd)
    have HD2 := Lib.hid (HB2.out.num.keep hbd)
    have hk := HK.out.keep hbd
    unfold Thr at hk
    have hsz : (Array.replicate c (Value.int .u64 0)).size = c := by simp
    have HBK := Lib.hid hb
    have HBD := Lib.hid hbd
    have HLT := Lib.hid (show N1 * N2 < W64 ^ (n1 + n2) from by
      rw [Nat.pow_add]
      exact Nat.mul_lt_mul_of_lt_of_le HB1.out.num.lt (Nat.le_of_lt HB2.out.num.lt) (Nat.pow_pos W64_pos))
    have HG1 := Lib.hid (show b1 ≠ W2.heap.size from Nat.ne_of_lt (Nat.lt_of_lt_of_le hl1 hbq.size))
    have HG2 := Lib.hid (show b2 ≠ W2.heap.size from Nat.ne_of_lt (Nat.lt_of_lt_of_le hl2 hbq.size))
    have HWS := Lib.hid hbq.size
    clear hb hbd hbq hB3
    have hcast : ((n1 + n2 : Nat) : Int) = (n1 : Int) + n2 := by omega
    go_wp2_with fail
    refine (basicMul_any W2.heap.size (n1 + n2) c b1 o1 n1 c1 b2 o2 n2 c2 _ N1 N2 _ HBK.out hsz hcn1 (Nat.le_refl _) (by unfold maxLen; omega) (by omega) (by omega) (by omega) (by omega) (HD1.out.wcells0 (Nat.le_refl _)) (by omega) (by unfold maxLen; omega) (HD2.out.wcells0 (Nat.le_refl _)) (by omega) (by unfold maxLen; omega) HG1.out HG2.out HB1.out.num.lt HB2.out.num.lt).mono ?_
    rintro e w4 ⟨rfl, hR⟩
    have HRB := Lib.hid (hR.toB (B := w.heap.size) HWS.out HBD.out.size)
    obtain ⟨cur3, hk1, hk2, hk3, hk4⟩ := hR.blk
    obtain ⟨hcl, hbn⟩ := bigN_row (c := c) (m := n1 + n2) hk1 (by rw [hk2, hsz]) (fun i hi => by have := hk3 i hi; simpa using this) hcn1 (by unfold maxLen; omega) HLT.out
    have HCL := Lib.hid hcl
    have HBN := Lib.hid hbn
    clear hk1 hk2 hk3 hk4 hcl hbn hR hsz hk
    go_wp2_with fail
    refine (norm_any (some ⟨W2.heap.size, 0, none⟩) (n1 + n2) c (dg W64 (N1 * N2)) _ (by omega) (by omega) (by unfold maxLen; omega) (by simp) HCL.out).mono ?_
    rintro e w5 ⟨rfl, rfl⟩
    go_wp2
    go_ret
    exact ⟨_, _, _, rfl, HBN.out, HBD.out.trans HRB.out.below, fun k hk => by rw [← inB_some hk]; first | exact Nat.le_refl _ | exact HWS.out⟩
theorem natMulF (a1 a2 : Option Addr) (n1 n2 c1 c2 N1 N2 : Nat) (w : World) (hK : Thr w) (h1 : BigN 155 w a1 n1 c1 N1) (h2 : BigN 155 w a2 n2 c2 N2) (hb1 : n1 ≤ 300000) (hb2 : n2 ≤ 300000) (hb : n1 < 40 ∨ n2 < 40) (p : Value) :
    Calls Tryz.prog 199 #[.slice none 0 0, p, .slice a1 n1 c1, .slice a2 n2 c2] w (GivesF 155 (N1 * N2) w) := by
  by_cases hge : n2 ≤ n1
  · exact natMulF_ge a1 a2 n1 n2 c1 c2 N1 N2 w hK h1 h2 hb1 (by omega) hge p
  · have hlt : n1 < n2 := by omega
    have HS := Lib.hid (natMulF_ge a2 a1 n2 n1 c2 c1 N2 N1 w hK h2 h1 hb2 (by omega) (by omega) p)
    have hm1 := h1.num.cm
    have hm2 := h2.num.cm
    unfold maxLen at hm1 hm2
    have hc1 := h1.num.nc
    have hc2 := h2.num.nc
    clear h1 h2 hge
    go_enter Tryz.func199, Tryz.ntmps199
    go_wp2_with fail
    refine HS.out.mono ?_
    rintro e w1 ⟨a, n, c, rfl, hN, hB, hf⟩
    rw [Nat.mul_comm N2 N1] at hN
    go_wp2
    go_ret
    exact ⟨_, _, _, rfl, hN, hB, hf⟩
end Go.Proofs.YtgmienggfaahlaaGreatDoor
namespace Go.Bg
open Go.RowKit Dg
def IntFr (T : TypeId) (b o : Nat) (s : Bool) (R : Nat) (w w' : World) : Prop :=
  ∃ a n c w1, BigN T w1 a n c R ∧ Below w.heap.size w w1 ∧ (∀ k, InB a k → w.heap.size ≤ k) ∧ (s = true → 0 < R) ∧
    Below ((w1.setCell ⟨b, o + 1, none⟩ (.slice a n c)).setCell ⟨b, o, none⟩ (.bool s)).heap.size ((w1.setCell ⟨b, o + 1, none⟩ (.slice a n c)).setCell ⟨b, o, none⟩ (.bool s)) w'
theorem IntFr.then {T : TypeId} {b o : Nat} {s : Bool} {R : Nat} {w w' w'' : World} (h : IntFr T b o s R w w') (hb : Below w'.heap.size w' w'') : IntFr T b o s R w w'' := by
  obtain ⟨a, n, c, w1, h1, h2, h3, h4, h5⟩ := h
  exact ⟨a, n, c, w1, h1, h2, h3, h4, Below.then h5 (Nat.le_refl _) hb⟩
end Go.Bg
namespace Go.Proofs.YtgmienggfaahlaaGreatDoor
open Go.RowKit Go.Bg Dg
def IntFrE (b o : Nat) (s : Bool) (R : Nat) (w : World) (e : Ending) (w' : World) : Prop := e = .returned (.pointer (some ⟨b, o, none⟩)) ∧ IntFr 155 b o s R w w'
theorem NewInt.madeF {w w1 : World} {b o : Nat} (h : NewInt w b o) (hb : Below w.heap.size w w1) {a : Option Addr} {n c N : Nat} {s : Bool} (hN : BigN 155 w1 a n c N) (hf : ∀ k, InB a k → w.heap.size ≤ k) (hz : s = true → 0 < N) :
    IntFrE b o s N w (.returned (.pointer (some ⟨b, o, none⟩))) ((w1.setCell ⟨b, o + 1, none⟩ (.slice a n c)).setCell ⟨b, o, none⟩ (.bool s)) :=
  ⟨rfl, a, n, c, w1, hN, hb, hf, hz, Below.refl _ _⟩
theorem intFr_z {b o : Nat} {s : Bool} {R : Nat} {z : Int} {w : World} {e : Ending} {w' : World} (h : IntFrE b o s R w e w') (hz : sg s R = z) : IntFrE b o (decide (z < 0)) z.natAbs w e w' := by
  obtain ⟨_, _, _, _, _, _, _, h4, _⟩ := h.2
  obtain ⟨e1, e2⟩ := sg_abs h4
  rw [hz] at e1 e2
  rw [e1, e2]; exact h
theorem intFr_set {b o : Nat} {s : Bool} {R : Nat} {z : Int} {w : World} {e : Ending} {w' : World} (h : IntFrE b o s R w e w') (hz : sg s R = z) : (Ending.returned (.tuple #[]) = .returned (.tuple #[])) ∧ IntFr 155 b o (decide (z < 0)) z.natAbs w w'.drew :=
  ⟨rfl, (intFr_z h hz).2.then ((Below.refl _ _).drew)⟩
theorem IntFr.own {b o : Nat} {s : Bool} {R : Nat} {w w' : World} (h : IntFr 155 b o s R w w') (hn : NewInt w b o) : (∃ a n c, OwnI 155 w' b o s a n c R ∧ ∀ k, InB a k → w.heap.size ≤ k) ∧ Upd (· = b) w w' ∧ (s = true → 0 < R) := by
  obtain ⟨a, n, c, w1, h1, h2, h3, h4, h5⟩ := h
  have h' := hn.keep h2
  exact ⟨⟨a, n, c, (OwnI.stored h'.blk h'.c0 ⟨_, h'.c1⟩ h1).keep h5, h3⟩, (((Upd.of_below (S := (· = b)) h2).setCell (p := ⟨b, o + 1, none⟩) rfl _).setCell (p := ⟨b, o, none⟩) rfl _).then h5, h4⟩
theorem IntFr.frac {zb : Nat} {s : Bool} {R : Nat} {w w' : World} (h : IntFr 155 zb 0 s R w w') (hn : NewRat w zb) : ∃ a n c, FracUp w zb s R 0 w' a n c none 0 0 := by
  obtain ⟨a, n, c, w1, h1, h2, h3, h4, h5⟩ := h
  exact ⟨a, n, c, (((FracUp.start hn).setA (Below.refl _ _) (Upd.of_below h2) h1 (fun k hk => .inr (h3 k hk))).neg s).keep h5⟩
theorem scaleDenomF (d p b o : Nat) (s : Bool) (N : Nat) (af : Option Addr) (nf cf F : Nat) (q : Value) (w : World) (hK : Thr w) (h : NewInt w d p) (h1 : BigAt 155 w b o s N) (h2 : BigN 155 w af nf cf F) (hF : 0 < F) (hne : b ≠ d) (L : Nat) (hL : L < 40) (hN : N < W64 ^ L) (hFL : F < W64 ^ L) :
    Calls Tryz.prog 153 #[.pointer (some ⟨d, p, none⟩), q, .pointer (some ⟨b, o, none⟩), .slice af nf cf] w fun e w' => e = .returned (.tuple #[]) ∧ IntFr 155 d p s (N * F) w w' := by
  obtain ⟨a, n, c, p0, p1, hNN⟩ := h1.val
  have hn : n ≤ L := len_le W64_gt hNN.num.top hN
  have hnf : nf ≤ L := len_le W64_gt h2.num.top hFL
  have hnf0 : ((nf : Int) == 0) = false := by
    have hp := natAt_pos_len h2.num
    have : 0 < nf := by simpa [hF] using hp
    simp; omega
  have hcm := h2.num.cm
  have hnc := h2.num.nc
  have HZ := Lib.hid (show s = true → 0 < N * F from fun hs => Nat.mul_pos (h1.zero hs) hF)
  have HH := Lib.hid h
  have HN := Lib.hid hNN
  have H2 := Lib.hid h2
  have HK := Lib.hid hK
  have HP0 := Lib.hid p0
  have k1 := h.c1
  clear h h1 hNN hN p0 h2 hK
  go_enter Tryz.func153, Tryz.ntmps153
  go_upto_region 2 with fail
  have hd0 : ∀ q, Below w.heap.size w (w.drewN q) := fun q => below_drewN (Below.refl w.heap.size w) q
  go_region_with
    ((go_at_call 199; (with_reducible refine (natMulF a af n nf c cf N F _ ?_ ?_ ?_ (by omega) (by omega) (.inl (by omega)) q).mono ?_); exact HK.out.keep (hd0 _); exact HN.out.keep (hd0 _); exact H2.out.keep (hd0 _); rintro e w1 ⟨a2, n2, c2, rfl, hN2, hB, hf⟩; have hB1 := Below.then (hd0 _) (Nat.le_refl _) hB; have hf1 := (fun k hk => Nat.le_trans (hd0 _).size (hf k hk) : ∀ k, InB a2 k → w.heap.size ≤ k); have HF := Lib.hid (HH.out.madeF hB1 (s := s) hN2 hf1 HZ.out); have h' := HH.out.keep hB1; obtain ⟨u0, k0⟩ := h'.c0; have k1' := h'.c1; have f0 := h'.blk.frozen p; have f1 := h'.blk.frozen (p + 1); have k0' : ∀ v, (w1.setCell ⟨d, p + 1, none⟩ v).cell? ⟨d, p, none⟩ = some u0 := (fun v => by rw [World.cell?_setCell_other _ _ _ _ (fun hh => by injection hh with _ hh _; omega)]; exact k0); have x0' : ∀ v, (w1.setCell ⟨d, p + 1, none⟩ v).cell? ⟨b, o, none⟩ = some (.bool s) := (fun v => by rw [World.cell?_setCell_other _ _ _ _ (fun hh => by injection hh with hh _ _; exact hne hh.symm)]; exact cell_keep HP0.out hB1); clear hN2 h' hf hf1))
  all_goals
    clear p1 k1
    go_wp2
    go_end0
    exact ⟨rfl, HF.out.2⟩
theorem NewInt.updU {w w1 : World} {b o d : Nat} (h : NewInt w b o) (hu : Upd (· = d) w w1) (hne : b ≠ d) : NewInt w1 b o := by
  obtain ⟨u, h0⟩ := h.c0
  exact ⟨h.blk.upd hu hne, ⟨u, by rw [hu.cell (p := ⟨b, o, none⟩) (block_lt h0) hne]; exact h0⟩, by rw [hu.cell (p := ⟨b, o + 1, none⟩) (block_lt h.c1) hne]; exact h.c1⟩
theorem ratCmp_any (b1 b2 : Nat) (s t : Bool) (N D M E : Nat) (w : World) (hK : Thr w) (h1 : RatAt 155 w b1 s N D) (h2 : RatAt 155 w b2 t M E) (L : Nat) (hL : L < 40) (hN : N < W64 ^ L) (hD : D < W64 ^ L) (hM : M < W64 ^ L) (hE : E < W64 ^ L) :
    Calls Tryz.prog 101 #[.pointer (some ⟨b1, 0, none⟩), .pointer (some ⟨b2, 0, none⟩)] w fun e w' => e = .returned (.int .i64 (cmpZ (sg s (N * E)) (sg t (M * D)))) ∧ Below w.heap.size w w' := by
  obtain ⟨W0, hW0⟩ : ∃ W0, W0 = (w.alloc (.cells #[.bool false, .slice none 0 0] 168)).alloc (.cells #[.bool false, .slice none 0 0] 168) := ⟨_, rfl⟩
  have HW := Lib.hid hW0
  have hb0 : Below w.heap.size w W0 := by rw [hW0]; exact Below.alloc' (Below.alloc' (Below.refl _ _) _) _
  have hs0 : W0.heap.size = w.heap.size + 1 + 1 := by rw [hW0]; simp
  have A0 : NewInt W0 w.heap.size 0 := by rw [hW0]; exact (newInt_is w).keep ((Below.refl _ _).alloc (Nat.le_refl _) _)
  have B0 : NewInt W0 (w.heap.size + 1) 0 := by rw [hW0]; simpa using newInt_is (w.alloc (.cells #[.bool false, .slice none 0 0] 168))
  have l1 : b1 < w.heap.size := h1.a.blk.lt
  have l2 : b2 < w.heap.size := h2.a.blk.lt
  have H1 := Lib.hid (h1.keep hb0)
  have H2 := Lib.hid (h2.keep hb0)
  have HK := Lib.hid (hK.keep hb0)
  have HKG := Lib.hid (show ¬ (2 : Nat) = w.heap.size from Nat.ne_of_lt (block_lt (show w.cell? ⟨2, 0, none⟩ = some (.int .i64 40) from hK)))
  have HDP := Lib.hid h1.pos
  have HEP := Lib.hid h2.pos
  have HN := Lib.hid hN
  have HD := Lib.hid hD
  have HM := Lib.hid hM
  have HE := Lib.hid hE
  clear hW0 h1 h2 hK hN hD hM hE
  go_enter_defers Tryz.func101, Tryz.ntmps101
  go_upto_region 2 with fail
  rw [← HW.out]
  go_wp2_with fail
  refine (getStack_any _).mono ?_
  rintro e w1 ⟨rfl, hw1⟩
  have hB1 : Below W0.heap.size W0 w1 := by rw [hw1]; exact Below.alloc' (Below.refl _ _) _
  have hst : BlkAt w1 W0.heap.size #[.pointer none] 225 := by rw [hw1]; exact BlkAt.new _ _ _
  have hs1 : w1.heap.size = W0.heap.size + 1 := by rw [hw1]; simp
  have A1 := A0.keep hB1
  have B1 := B0.keep hB1
  have hb1 := Below.then hb0 (Nat.le_refl _) hB1
  have H11 := Lib.hid (H1.out.keep hB1)
  have H21 := Lib.hid (H2.out.keep hB1)
  have HK1 := Lib.hid (HK.out.keep hB1)
  clear hw1 hB1 A0 B0 H1 H2 HK HW
  obtain ⟨aE, nE, cE, q0, q1, hNE⟩ := H21.out.d.val
  have q13 : w1.cell? ⟨b2, 3, none⟩ = some (.slice aE nE cE) := q1
  have HNE := Lib.hid hNE
  clear q0 q1 hNE
  have hd0 : Below w1.heap.size w1 w1.drew := (Below.refl _ _).drew
  go_upto_region 4 with fail
  go_region_held3 (fun w' => w'.cell? ⟨b2, 3, none⟩ = some (.slice aE nE cE))
    (first | with_reducible exact q13 | exact cell_keep q13 (by assumption) | with_reducible exact q23)
    ((go_at_call 153; (with_reducible refine (scaleDenom_new w.heap.size 0 b1 0 s N aE nE cE E _ _ ?_ ?_ ?_ ?_ HEP.out ?_ L hL HN.out HE.out).mono ?_); exact HK1.out.keep (by assumption); exact A1.keep (by assumption); exact H11.out.a.keep (by assumption); exact HNE.out.keep (by assumption); exact Nat.ne_of_lt l1; rintro e w2 ⟨rfl, hI, hU⟩; have q23 : w2.cell? ⟨b2, 3, none⟩ = some (.slice aE nE cE) := (by rw [hU.upd.cell (p := ⟨b2, 3, none⟩) (block_lt (cell_keep q13 hd0)) (Nat.ne_of_lt l2)]; exact cell_keep q13 hd0)))
  have hsz2 : w.heap.size ≤ w1.drew.heap.size := Nat.le_trans hb1.size hd0.size
  have hB2 := hU.upd.below (Below.then hb1 (Nat.le_refl _) hd0) hsz2 (fun k _ e => by subst e; exact Nat.le_refl _)
  have A2 := Lib.hid hI
  have hns : ∀ k, k < w1.drew.heap.size → k = w.heap.size → Strct 155 w1.drew k := fun k _ e => by subst e; exact (A1.keep hd0).blk
  have H12 := Lib.hid ((H11.out.keep hd0).upd hU.upd (Nat.ne_of_lt l1) hns)
  have H22 := Lib.hid ((H21.out.keep hd0).upd hU.upd (Nat.ne_of_lt l2) hns)
  have B2 := NewInt.updU (B1.keep hd0) hU.upd (Nat.succ_ne_self _)
  have S2 := hU.upd.blk (hst.keep hd0) (show ¬ W0.heap.size = w.heap.size from by omega)
  have HK2 := Lib.hid (show Thr w2 from by
    have h0 := HK1.out.keep hd0
    unfold Thr at h0 ⊢
    rw [hU.upd.cell (block_lt h0) HKG.out]
    exact h0)
  clear hI hU q13 q23 A1 B1 hb1 hst H11 H21 HK1 hd0 hns HNE hsz2
  obtain ⟨aD, nD, cD, q0, q1, hND⟩ := H12.out.d.val
  have q13 : w2.cell? ⟨b1, 3, none⟩ = some (.slice aD nD cD) := q1
  have HND := Lib.hid hND
  clear q0 q1 hND
  have hd0 : Below w2.heap.size w2 w2.drew := (Below.refl _ _).drew
  go_upto_region 5 with fail
  go_region_held3 (fun w' => w'.cell? ⟨b1, 3, none⟩ = some (.slice aD nD cD))
    (first | with_reducible exact q13 | exact cell_keep q13 (by assumption) | with_reducible exact q23)
    ((go_at_call 153; (with_reducible refine (scaleDenom_new (w.heap.size + 1) 0 b2 0 t M aD nD cD D _ _ ?_ ?_ ?_ ?_ HDP.out ?_ L hL HM.out HD.out).mono ?_); exact HK2.out.keep (by assumption); exact B2.keep (by assumption); exact H22.out.a.keep (by assumption); exact HND.out.keep (by assumption); exact Nat.ne_of_lt (Nat.lt_succ_of_lt l2); rintro e w3 ⟨rfl, hI, hU⟩; have q23 : w3.cell? ⟨b1, 3, none⟩ = some (.slice aD nD cD) := (by rw [hU.upd.cell (p := ⟨b1, 3, none⟩) (block_lt (cell_keep q13 hd0)) (Nat.ne_of_lt (Nat.lt_succ_of_lt l1))]; exact cell_keep q13 hd0)))
  have hsz3 : w.heap.size ≤ w2.drew.heap.size := Nat.le_trans hB2.size hd0.size
  have hB3 := hU.upd.below (Below.then hB2 (Nat.le_refl _) hd0) hsz3 (fun k _ e => by subst e; exact Nat.le_add_right _ 1)
  have hns : ∀ k, k < w2.drew.heap.size → k = w.heap.size + 1 → Strct 155 w2.drew k := fun k _ e => by subst e; exact (B2.keep hd0).blk
  have A3 := Lib.hid ((A2.out.keep hd0).upd hU.upd (Nat.ne_of_lt (Nat.lt_succ_self _)) hns)
  have B3 := Lib.hid hI
  have S3 := hU.upd.blk (S2.keep hd0) (show ¬ W0.heap.size = w.heap.size + 1 from by omega)
  have HB3 := Lib.hid hB3
  have HS3 := Lib.hid S3
  clear hI hU q13 q23 A2 B2 S2 hB2 H12 H22 HK2 hd0 hns HND hsz3 hB3 S3
  go_wp2_with fail
  refine (intCmp_any w.heap.size 0 (w.heap.size + 1) 0 s t (N * E) (M * D) _ A3.out B3.out).mono ?_
  rintro e w4 ⟨rfl, hd⟩
  have hb4 : Below w3.heap.size w3 w4 := below_of_drewN hd
  have hst4 := (HS3.out.keep hb4).cell 0
  simp only [List.getElem?_toArray, List.getElem?_cons_zero] at hst4
  rw [hs0] at hst4
  have HB4 := Lib.hid (Below.then HB3.out (Nat.le_refl _) hb4)
  clear hd hb4
  go_wp2
  refine leaves_cons (f := 152) (args := #[.pointer (some ⟨w.heap.size + 1 + 1, 0, none⟩)]) (by simp) (by simp [go_sem]) ?_
  refine (free_d _ .returning _ hst4).mono ?_
  rintro e u' w'' ⟨rfl, rfl, rfl⟩
  exact ⟨_, results_tmp rfl _ _ _, rfl, HB4.out⟩
end Go.Proofs.YtgmienggfaahlaaGreatDoor
