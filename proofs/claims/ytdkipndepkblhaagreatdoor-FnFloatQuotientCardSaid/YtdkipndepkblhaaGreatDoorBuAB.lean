/-
  A sum, a difference, a product in new words. PRINTED BY wip/gen_fresh.py.
  A sum, a difference, a product of Ints, its words new. PRINTED BY wip/gen_fresh.py.
  Rat.Add, Rat.Sub, Rat.Quo: what their walks share. PRINTED BY wip/gen_ratop.py.
-/
import Derived.Test.YtdkipndepkblhaaGreatDoorBuP
import Derived.Test.YtdkipndepkblhaaGreatDoorBuS
import Derived.Test.YtdkipndepkblhaaGreatDoorBuZZ
import Derived.Test.YtdkipndepkblhaaGreatDoorRcmpA
import Derived.Test.YtdkipndepkblhaaGreatDoorBuII
import Derived.Test.YtdkipndepkblhaaGreatDoorBuU
set_option linter.unusedSimpArgs false
set_option linter.unusedVariables false
namespace Go.Bg
open Go.RowKit Dg
/-- a number in new words -/
def GivesF (T : TypeId) (N : Nat) (w : World) (e : Ending) (w' : World) : Prop := ∃ a n c, e = .returned (.slice a n c) ∧ BigN T w' a n c N ∧ Below w.heap.size w w' ∧ ∀ k, InB a k → w.heap.size ≤ k
theorem GivesI.fresh {T : TypeId} {N : Nat} {w : World} {e : Ending} {w' : World} (h : GivesI T none N w e w') : GivesF T N w e w' := by
  obtain ⟨a, n, c, rfl, hN, hU, hp⟩ := h
  exact ⟨a, n, c, rfl, hN, hU.toBelow (fun k _ h => inB_none h), fun k hk => (hp k hk).elim (fun h => (inB_none h).elim) id⟩
end Go.Bg
namespace Go.Proofs.YtdkipndepkblhaaGreatDoor
open Go.RowKit Go.Bg Dg

theorem natSetF (a : Option Addr) (n c N : Nat) (w : World) (h : NumAt .u64 W64 w a n c N) (hn : n ≤ 1000000) :
    Calls Tryz.prog 132 #[.slice none 0 0, .slice a n c] w (GivesF 151 N w) := (natSet_none a n c N w h hn).mono fun _ _ h => h.fresh
theorem natMulWF (a1 : Option Addr) (n1 c1 N1 y : Nat) (w : World) (h1 : BigN 151 w a1 n1 c1 N1) (hb1 : n1 ≤ 900000) (hy : y < W64) :
    Calls Tryz.prog 221 #[.slice none 0 0, .slice a1 n1 c1, .int .u64 y, .int .u64 0] w (GivesF 151 (N1 * y) w) := (natMulW_into none 0 0 0 a1 n1 c1 N1 y w (BigN.nil _ _) h1 hb1 hy).mono fun _ _ h => h.fresh

set_option maxRecDepth 100000 in
set_option maxHeartbeats 2000000 in
theorem natAddF_ge (a1 a2 : Option Addr) (n1 n2 c1 c2 N1 N2 : Nat) (w : World) (h1 : BigN 151 w a1 n1 c1 N1) (h2 : BigN 151 w a2 n2 c2 N2) (hb1 : n1 ≤ 900000) (hge : n2 ≤ n1) :
    Calls Tryz.prog 124 #[.slice none 0 0, .slice a1 n1 c1, .slice a2 n2 c2] w (GivesF 151 (N1 + N2) w) := by
  have hm1 := h1.num.cm
  have hm2 := h2.num.cm
  have hc1 := h1.num.nc
  have hc2 := h2.num.nc
  unfold maxLen at hm1 hm2
  by_cases z1 : n1 = 0
  · subst z1
    obtain rfl : n2 = 0 := by omega
    have e1 : N1 = 0 := by have := h1.num.lt; simpa using this
    have e2 : N2 = 0 := by have := h2.num.lt; simpa using this
    subst e1
    subst e2
    clear h1 h2
    go_enter Tryz.func124, Tryz.ntmps124
    go_wp2
    go_ret
    exact ⟨_, _, _, rfl, BigN.nil _ _, Below.refl _ _, fun k h => (inB_none h).elim⟩
  · have hz1 : ((n1 : Int) == 0) = false := by simpa using z1
    by_cases z2 : n2 = 0
    · subst z2
      have e2 : N2 = 0 := by have := h2.num.lt; simpa using this
      subst e2
      have HN := Lib.hid h1.num
      clear h1 h2
      go_enter Tryz.func124, Tryz.ntmps124
      go_wp2_with fail
      refine (natSetF a1 n1 c1 N1 _ HN.out (by omega)).mono ?_
      rintro e w1 ⟨a, n, c, rfl, hN, hB, hf⟩
      go_wp2
      go_ret
      exact ⟨_, _, _, rfl, hN, hB, hf⟩
    · have hz2 : ((n2 : Int) == 0) = false := by simpa using z2
      obtain ⟨b1, o1, rfl, hl1⟩ := h1.num.form (by omega)
      obtain ⟨b2, o2, rfl, hl2⟩ := h2.num.form (by omega)
      have HB1 := Lib.hid h1
      have HB2 := Lib.hid h2
      clear h1 h2
      go_enter Tryz.func124, Tryz.ntmps124
      go_wp2_with fail
      refine (make_nil (n1 + 1) (by omega) _).mono ?_
      rintro e w1 (⟨h, _⟩ | ⟨c, hc0, hcn1, hcn2, rfl, hw⟩)
      case inl => omega
      have hb : BlkAt w1 w.heap.size (Array.replicate c (.int .u64 0)) 151 := by rw [hw]; exact BlkAt.new _ _ _
      have hB1 : Below w.heap.size w w1 := by rw [hw]; exact (Below.refl _ _).alloc (Nat.le_refl _) _
      have HS1 := Lib.hid (show w1.heap.size = w.heap.size + 1 from by rw [hw]; simp)
      clear hw
      have hbd : Below w1.heap.size w1 w1.drew := (Below.refl _ _).drew
      have hg2 := hb.keep hbd
      have HD1 := Lib.hid (HB1.out.num.keep (hB1.trans (hbd.mono hB1.size)))
      have HD2 := Lib.hid (HB2.out.num.keep (hB1.trans (hbd.mono hB1.size)))
      have hsz : (Array.replicate c (Value.int .u64 0)).size = c := by simp
      have hca := add_carry_le W64_pos N1 N2 n2
      have HH := Lib.hid (add_high HB1.out.num.lt HB2.out.num.lt hge)
      have HLT := Lib.hid (add_fits HB1.out.num.lt HB2.out.num.lt hge)
      have hx1 : (n2 : Int) ≤ c := by omega
      have hx2 : (n2 : Int) ≤ c1 := by omega
      have hx3 : (n2 : Int) ≤ c2 := by omega
      have HBD := Lib.hid (hB1.trans (hbd.mono hB1.size))
      have HBK := Lib.hid hg2
      clear hb hg2 hbd hB1
      generalize hcar : (N1 % W64 ^ n2 + N2 % W64 ^ n2) / W64 ^ n2 = cr at *
      go_upto_region 10 with fail
      go_region_held3 (fun _ => True) (exact trivial) ((go_at_call 185; (with_reducible refine (addVV_any w.heap.size 0 n2 c b1 o1 c1 b2 o2 c2 _ N1 N2 _ HBK.out ?_ ?_ ?_ ?_ ?_ ?_ ?_ ?_ ?_ ?_ ?_ ?_).mono ?_); omega; (rw [hsz]; omega); omega; (unfold maxLen; omega); exact HD1.out.wcells0 hge; omega; (unfold maxLen; omega); exact HD2.out.wcells0 (Nat.le_refl _); omega; (unfold maxLen; omega); exact .inl (Nat.ne_of_lt hl1); exact .inl (Nat.ne_of_lt hl2); rintro e w2 ⟨rfl, hR2⟩; rw [hcar]))
      have HB3 := Lib.hid (hR2.toB (B := w.heap.size) (Nat.le_refl _) HBD.out.size)
      clear hx1 hx2 hx3
      by_cases hgt : n2 < n1
      · have hd : decide (n2 < n1) = true := by simpa using hgt
        have hx1 : (n2 : Int) ≤ n1 := by omega
        have hx2 : (n1 : Int) ≤ c := by omega
        have hx3 : (n2 : Int) ≤ c1 := by omega
        have hn1 : ¬ c = n2 := by omega
        have hn2 : ¬ c1 = n2 := by omega
        obtain ⟨cur2, hk1, hk2, hk3, hk4⟩ := hR2.blk
        obtain ⟨cur1, e1, hq1⟩ : ∃ cur1 e1, BlkAt w2 b1 cur1 e1 := by
          rcases HB1.out.buf with ⟨hh, _⟩ | ⟨g', cur1, hh, hg', _⟩
          · cases hh
          · injection hh with hh
            injection hh with hh _ _
            subst hh
            exact ⟨cur1, _, (hR2.upd.blk (hg'.keep HBD.out) (Nat.ne_of_lt hl1))⟩
        have HE1 := Lib.hid (HB1.out.num.keep (HBD.out.trans (Below.refl _ _)))
        have HW1 := Lib.hid (show WCells w2 b1 (o1 + n2) (n1 - n2) (dg W64 (N1 / W64 ^ n2)) from fun i hi => by
          have := (HD1.out.wcells (k := n2) (m := n1 - n2) (by omega)) i hi
          rw [hR2.upd.cell (p := ⟨b1, o1 + n2 + i, none⟩) (block_lt this) (Nat.ne_of_lt hl1)]
          exact this)
        have HK := Lib.hid (show cur2.size = c from by rw [hk2, hsz])
        have HSZ2 := Lib.hid hR2.upd.size
        have HK1 := Lib.hid hk1
        have HK3 := Lib.hid hk3
        have HQ1 := Lib.hid hq1
        clear hk1 hk2 hk3 hk4 hq1 hR2 hsz
        go_upto_region 12 with fail
        go_region_held3 (fun _ => True) (exact trivial) ((go_at_call 186; (with_reducible refine (addVW_any w.heap.size w.heap.size n2 (n1 - n2) (c - n2) b1 (o1 + n2) (c1 - n2) cur2 cur1 e1 (N1 / W64 ^ n2) cr _ ?_ ?_ ?_ ?_ ?_ ?_ ?_ ?_ ?_ ?_ ?_ ?_ ?_ ?_).mono ?_); exact HK1.out; exact HQ1.out; exact Nat.le_refl _; (exact Nat.le_trans HBD.out.size HSZ2.out); omega; omega; (rw [HK.out]; omega); omega; (unfold maxLen; omega); exact HW1.out; omega; (unfold maxLen; omega); exact Nat.ne_of_lt hl1; (unfold W64; omega); rintro e w3 ⟨rfl, hR3⟩; rw [← HH.out.2]))
        obtain ⟨cur3, hk1, hk2, hk3, hk4⟩ := hR3.blk
        have hsz3 : cur3.size = c := by rw [hk2, HK.out]
        obtain ⟨u0, p0⟩ : ∃ u0, w3.cell? ⟨w.heap.size, n1, none⟩ = some u0 := ⟨_, by rw [hk1.cell n1, Array.getElem?_eq_getElem (by omega)]⟩
        have f0 := hk1.frozen n1
        obtain ⟨W4, hW4⟩ : ∃ W4, W4 = w3.setCell ⟨w.heap.size, n1, none⟩ (.int .u64 (dg W64 (N1 + N2) n1 : Nat)) := ⟨_, rfl⟩
        have hset := hk1.set n1 (.int .u64 (dg W64 (N1 + N2) n1 : Nat))
        rw [← hW4] at hset
        have HBf := Lib.hid (show Below w.heap.size w W4 from by
          rw [hW4]
          exact ((HBD.out.trans HB3.out.below).trans ((below_drew' w2 _).trans hR3.below)).setCell (Nat.le_refl _) _)
        obtain ⟨hcl, hbn⟩ := bigN_row (c := c) (m := n1 + 1) (N := N1 + N2) hset (by simpa using hsz3) (fun i hi => by
          rw [Array.getElem?_setIfInBounds]
          by_cases e : n1 = i
          · subst e; rw [if_pos rfl, if_pos (by omega)]
          · rw [if_neg e]
            by_cases hlo : i < n2
            · rw [hk4 i (.inl hlo)]
              have := HK3.out i hlo
              simpa using this
            · have := hk3 (i - n2) (by omega)
              rw [show n2 + (i - n2) = i from by omega] at this
              rw [this, ← HH.out.1, Dg.dg_div, show n2 + (i - n2) = i from by omega]) hcn1 (by unfold maxLen; omega) HLT.out
        have HCL := Lib.hid hcl
        have HBN := Lib.hid hbn
        have HW4 := Lib.hid hW4
        clear hk1 hk2 hk3 hk4 hcl hbn hW4 hset hR3 hsz3
        go_wp2_with fail
        rw [← HW4.out]
        refine (norm_any (some ⟨w.heap.size, 0, none⟩) (n1 + 1) c (dg W64 (N1 + N2)) _ (by omega) (by omega) (by unfold maxLen; omega) (by simp) HCL.out).mono ?_
        rintro e w5 ⟨rfl, rfl⟩
        go_wp2
        go_ret
        exact ⟨_, _, _, rfl, HBN.out, HBf.out, fun k hk => by rw [← inB_some hk]; first | exact Nat.le_refl _ | exact HWS.out⟩
      · have hd : decide (n2 < n1) = false := by simpa using hgt
        obtain rfl : n1 = n2 := by omega
        have hroom := hR2.room (j := n1) (by rw [hsz]; omega)
        obtain ⟨⟨u0, p0⟩, f0⟩ := hroom
        have hcr : cr = dg W64 (N1 + N2) n1 := by
          rw [HH.out.2]; simp [Nat.mod_one]
        obtain ⟨W3, hW3⟩ : ∃ W3, W3 = w2.setCell ⟨w.heap.size, n1, none⟩ (.int .u64 (cr : Nat)) := ⟨_, rfl⟩
        have HR3 := Lib.hid (hR2.step (by rw [hsz]; omega) hcr)
        have HW3 := Lib.hid hW3
        simp only [Nat.zero_add] at HR3
        rw [← hW3] at HR3
        have HRB := Lib.hid (HR3.out.toB (B := w.heap.size) (Nat.le_refl _) HBD.out.size)
        obtain ⟨cur3, hk1, hk2, hk3, hk4⟩ := HR3.out.blk
        obtain ⟨hcl, hbn⟩ := bigN_row (c := c) (m := n1 + 1) hk1 (by rw [hk2, hsz]) (fun i hi => by have := hk3 i hi; simpa using this) hcn1 (by unfold maxLen; omega) HLT.out
        have HCL := Lib.hid hcl
        have HBN := Lib.hid hbn
        clear hk1 hk2 hk3 hk4 hcl hbn hR2 hW3 hsz hcr hgt
        go_wp2_with fail
        rw [← HW3.out]
        refine (norm_any (some ⟨w.heap.size, 0, none⟩) (n1 + 1) c (dg W64 (N1 + N2)) _ (by omega) (by omega) (by unfold maxLen; omega) (by simp) HCL.out).mono ?_
        rintro e w4 ⟨rfl, rfl⟩
        go_wp2
        go_ret
        exact ⟨_, _, _, rfl, HBN.out, HBD.out.trans HRB.out.below, fun k hk => by rw [← inB_some hk]; first | exact Nat.le_refl _ | exact HWS.out⟩

set_option maxRecDepth 100000 in
set_option maxHeartbeats 2000000 in
theorem natAddF (a1 a2 : Option Addr) (n1 n2 c1 c2 N1 N2 : Nat) (w : World) (h1 : BigN 151 w a1 n1 c1 N1) (h2 : BigN 151 w a2 n2 c2 N2) (hb1 : n1 ≤ 900000) (hb2 : n2 ≤ 900000) :
    Calls Tryz.prog 124 #[.slice none 0 0, .slice a1 n1 c1, .slice a2 n2 c2] w (GivesF 151 (N1 + N2) w) := by
  by_cases hge : n2 ≤ n1
  · exact natAddF_ge a1 a2 n1 n2 c1 c2 N1 N2 w h1 h2 hb1 hge
  · have hlt : n1 < n2 := by omega
    have HS := Lib.hid (natAddF_ge a2 a1 n2 n1 c2 c1 N2 N1 w h2 h1 hb2 (by omega))
    have hm1 := h1.num.cm
    have hm2 := h2.num.cm
    unfold maxLen at hm1 hm2
    have hc1 := h1.num.nc
    have hc2 := h2.num.nc
    clear h1 h2 hge
    go_enter Tryz.func124, Tryz.ntmps124
    go_wp2_with fail
    refine HS.out.mono ?_
    rintro e w1 ⟨a, n, c, rfl, hN, hB, hf⟩
    rw [Nat.add_comm N2 N1] at hN
    go_wp2
    go_ret
    exact ⟨_, _, _, rfl, hN, hB, hf⟩

set_option maxRecDepth 100000 in
set_option maxHeartbeats 2000000 in
theorem natSubF (a1 a2 : Option Addr) (n1 n2 c1 c2 N1 N2 : Nat) (w : World) (h1 : BigN 151 w a1 n1 c1 N1) (h2 : BigN 151 w a2 n2 c2 N2) (hb1 : n1 ≤ 900000) (hle : N2 ≤ N1) :
    Calls Tryz.prog 126 #[.slice none 0 0, .slice a1 n1 c1, .slice a2 n2 c2] w (GivesF 151 (N1 - N2) w) := by
  have hge : n2 ≤ n1 := len_le W64_gt h2.num.top (Nat.lt_of_le_of_lt hle h1.num.lt)
  have hm1 := h1.num.cm
  have hm2 := h2.num.cm
  have hc1 := h1.num.nc
  have hc2 := h2.num.nc
  unfold maxLen at hm1 hm2
  by_cases z1 : n1 = 0
  · subst z1
    obtain rfl : n2 = 0 := by omega
    have e1 : N1 = 0 := by have := h1.num.lt; simpa using this
    have e2 : N2 = 0 := by have := h2.num.lt; simpa using this
    subst e1
    subst e2
    clear h1 h2
    go_enter Tryz.func126, Tryz.ntmps126
    go_wp2
    go_ret
    exact ⟨_, _, _, rfl, BigN.nil _ _, Below.refl _ _, fun k h => (inB_none h).elim⟩
  · have hz1 : ((n1 : Int) == 0) = false := by simpa using z1
    by_cases z2 : n2 = 0
    · subst z2
      have e2 : N2 = 0 := by have := h2.num.lt; simpa using this
      subst e2
      have HN := Lib.hid h1.num
      clear h1 h2
      go_enter Tryz.func126, Tryz.ntmps126
      go_wp2_with fail
      refine (natSetF a1 n1 c1 N1 _ HN.out (by omega)).mono ?_
      rintro e w1 ⟨a, n, c, rfl, hN, hB, hf⟩
      go_wp2
      go_ret
      exact ⟨_, _, _, rfl, hN, hB, hf⟩
    · have hz2 : ((n2 : Int) == 0) = false := by simpa using z2
      obtain ⟨b1, o1, rfl, hl1⟩ := h1.num.form (by omega)
      obtain ⟨b2, o2, rfl, hl2⟩ := h2.num.form (by omega)
      have HB1 := Lib.hid h1
      have HB2 := Lib.hid h2
      clear h1 h2
      go_enter Tryz.func126, Tryz.ntmps126
      go_wp2_with fail
      refine (make_nil n1 (by omega) _).mono ?_
      rintro e w1 (⟨h, _⟩ | ⟨c, hc0, hcn1, hcn2, rfl, hw⟩)
      case inl => omega
      have hb : BlkAt w1 w.heap.size (Array.replicate c (.int .u64 0)) 151 := by rw [hw]; exact BlkAt.new _ _ _
      have hB1 : Below w.heap.size w w1 := by rw [hw]; exact (Below.refl _ _).alloc (Nat.le_refl _) _
      have HS1 := Lib.hid (show w1.heap.size = w.heap.size + 1 from by rw [hw]; simp)
      clear hw
      have hbd : Below w1.heap.size w1 w1.drew := (Below.refl _ _).drew
      have hg2 := hb.keep hbd
      have HD1 := Lib.hid (HB1.out.num.keep (hB1.trans (hbd.mono hB1.size)))
      have HD2 := Lib.hid (HB2.out.num.keep (hB1.trans (hbd.mono hB1.size)))
      have hsz : (Array.replicate c (Value.int .u64 0)).size = c := by simp
      have hca := bor_le N1 N2 n2
      have HH := Lib.hid (sub_high hle HB1.out.num.lt HB2.out.num.lt hge)
      have HLT := Lib.hid (show N1 - N2 < W64 ^ n1 from Nat.lt_of_le_of_lt (Nat.sub_le _ _) HB1.out.num.lt)
      have hx1 : (n2 : Int) ≤ c := by omega
      have hx2 : (n2 : Int) ≤ c1 := by omega
      have hx3 : (n2 : Int) ≤ c2 := by omega
      have HBD := Lib.hid (hB1.trans (hbd.mono hB1.size))
      have HBK := Lib.hid hg2
      clear hb hg2 hbd hB1
      have HLE := Lib.hid hle
      generalize hcar : bor N1 N2 n2 = cr at *
      go_upto_region 10 with fail
      go_region_held3 (fun _ => True) (exact trivial) ((go_at_call 188; (with_reducible refine (subVV_any w.heap.size 0 n2 c b1 o1 c1 b2 o2 c2 _ N1 N2 HLE.out _ HBK.out ?_ ?_ ?_ ?_ ?_ ?_ ?_ ?_ ?_ ?_ ?_ ?_).mono ?_); omega; (rw [hsz]; omega); omega; (unfold maxLen; omega); exact HD1.out.wcells0 hge; omega; (unfold maxLen; omega); exact HD2.out.wcells0 (Nat.le_refl _); omega; (unfold maxLen; omega); exact .inl (Nat.ne_of_lt hl1); exact .inl (Nat.ne_of_lt hl2); rintro e w2 ⟨rfl, hR2⟩; rw [hcar]))
      have HB3 := Lib.hid (hR2.toB (B := w.heap.size) (Nat.le_refl _) HBD.out.size)
      clear hx1 hx2 hx3
      by_cases hgt : n2 < n1
      · have hd : decide (n2 < n1) = true := by simpa using hgt
        have hx1 : (n2 : Int) ≤ n1 := by omega
        have hx2 : (n2 : Int) ≤ c := by omega
        have hx3 : (n2 : Int) ≤ c1 := by omega
        have hn1 : ¬ c = n2 := by omega
        have hn2 : ¬ c1 = n2 := by omega
        obtain ⟨cur2, hk1, hk2, hk3, hk4⟩ := hR2.blk
        obtain ⟨cur1, e1, hq1⟩ : ∃ cur1 e1, BlkAt w2 b1 cur1 e1 := by
          rcases HB1.out.buf with ⟨hh, _⟩ | ⟨g', cur1, hh, hg', _⟩
          · cases hh
          · injection hh with hh
            injection hh with hh _ _
            subst hh
            exact ⟨cur1, _, (hR2.upd.blk (hg'.keep HBD.out) (Nat.ne_of_lt hl1))⟩
        have HE1 := Lib.hid (HB1.out.num.keep (HBD.out.trans (Below.refl _ _)))
        have HW1 := Lib.hid (show WCells w2 b1 (o1 + n2) (n1 - n2) (dg W64 (N1 / W64 ^ n2)) from fun i hi => by
          have := (HD1.out.wcells (k := n2) (m := n1 - n2) (by omega)) i hi
          rw [hR2.upd.cell (p := ⟨b1, o1 + n2 + i, none⟩) (block_lt this) (Nat.ne_of_lt hl1)]
          exact this)
        have HK := Lib.hid (show cur2.size = c from by rw [hk2, hsz])
        have HSZ2 := Lib.hid hR2.upd.size
        have HK1 := Lib.hid hk1
        have HK3 := Lib.hid hk3
        have HQ1 := Lib.hid hq1
        clear hk1 hk2 hk3 hk4 hq1 hR2 hsz
        go_upto_region 12 with fail
        go_region_held3 (fun _ => True) (exact trivial) ((go_at_call 189; (with_reducible refine (subVW_any w.heap.size w.heap.size n2 (n1 - n2) (c - n2) b1 (o1 + n2) (c1 - n2) cur2 cur1 e1 (N1 / W64 ^ n2) cr _ ?_ ?_ ?_ ?_ ?_ ?_ ?_ ?_ ?_ ?_ ?_ ?_ ?_ ?_ HH.out.2.1).mono ?_); exact HK1.out; exact HQ1.out; exact Nat.le_refl _; (exact Nat.le_trans HBD.out.size HSZ2.out); omega; omega; (rw [HK.out]; omega); omega; (unfold maxLen; omega); exact HW1.out; omega; (unfold maxLen; omega); exact Nat.ne_of_lt hl1; (unfold W64; omega); rintro e w3 ⟨rfl, hR3⟩; rw [HH.out.2.2.1]))
        obtain ⟨cur3, hk1, hk2, hk3, hk4⟩ := hR3.blk
        have hsz3 : cur3.size = c := by rw [hk2, HK.out]
        have HBf := Lib.hid (show Below w.heap.size w w3 from (HBD.out.trans HB3.out.below).trans ((below_drew' w2 _).trans hR3.below))
        obtain ⟨hcl, hbn⟩ := bigN_row (c := c) (m := n1) (N := N1 - N2) hk1 (by simpa using hsz3) (fun i hi => by
          by_cases hlo : i < n2
          · rw [hk4 i (.inl hlo)]
            have := HK3.out i hlo
            simpa using this
          · have := hk3 (i - n2) (by omega)
            rw [show n2 + (i - n2) = i from by omega] at this
            rw [this, ← HH.out.1, Dg.dg_div, show n2 + (i - n2) = i from by omega]) hcn1 (by unfold maxLen; omega) HLT.out
        have HCL := Lib.hid hcl
        have HBN := Lib.hid hbn
        clear hk1 hk2 hk3 hk4 hcl hbn hR3 hsz3
        go_wp2_with fail
        refine (norm_any (some ⟨w.heap.size, 0, none⟩) n1 c (dg W64 (N1 - N2)) _ (by omega) (by omega) (by unfold maxLen; omega) (by simp) HCL.out).mono ?_
        rintro e w5 ⟨rfl, rfl⟩
        go_wp2
        go_ret
        exact ⟨_, _, _, rfl, HBN.out, HBf.out, fun k hk => by rw [← inB_some hk]; first | exact Nat.le_refl _ | exact HWS.out⟩
      · have hd : decide (n2 < n1) = false := by simpa using hgt
        obtain rfl : n1 = n2 := by omega
        have hcr : cr = 0 := HH.out.2.2.2 rfl
        subst hcr
        have HRB := Lib.hid (hR2.toB (B := w.heap.size) (Nat.le_refl _) HBD.out.size)
        obtain ⟨cur3, hk1, hk2, hk3, hk4⟩ := hR2.blk
        obtain ⟨hcl, hbn⟩ := bigN_row (c := c) (m := n1) hk1 (by rw [hk2, hsz]) (fun i hi => by have := hk3 i hi; simpa using this) hcn1 (by unfold maxLen; omega) HLT.out
        have HCL := Lib.hid hcl
        have HBN := Lib.hid hbn
        clear hk1 hk2 hk3 hk4 hcl hbn hR2 hsz hgt
        go_wp2_with fail
        refine (norm_any (some ⟨w.heap.size, 0, none⟩) n1 c (dg W64 (N1 - N2)) _ (by omega) (by omega) (by unfold maxLen; omega) (by simp) HCL.out).mono ?_
        rintro e w4 ⟨rfl, rfl⟩
        go_wp2
        go_ret
        exact ⟨_, _, _, rfl, HBN.out, HBD.out.trans HRB.out.below, fun k hk => by rw [← inB_some hk]; first | exact Nat.le_refl _ | exact HWS.out⟩

set_option maxRecDepth 100000 in
set_option maxHeartbeats 2000000 in
theorem natMulF_ge (a1 a2 : Option Addr) (n1 n2 c1 c2 N1 N2 : Nat) (w : World) (hK : Thr w) (h1 : BigN 151 w a1 n1 c1 N1) (h2 : BigN 151 w a2 n2 c2 N2) (hb1 : n1 ≤ 300000) (hb2 : n2 < 40) (hge : n2 ≤ n1) (p : Value) :
    Calls Tryz.prog 190 #[.slice none 0 0, p, .slice a1 n1 c1, .slice a2 n2 c2] w (GivesF 151 (N1 * N2) w) := by
  have hm1 := h1.num.cm
  have hm2 := h2.num.cm
  have hc1 := h1.num.nc
  have hc2 := h2.num.nc
  unfold maxLen at hm1 hm2
  have HK := Lib.hid hK
  clear hK
  by_cases z2 : n2 = 0
  · subst z2
    have e2 : N2 = 0 := by have := h2.num.lt; simpa using this
    subst e2
    clear h1 h2
    by_cases z1 : n1 = 0
    · subst z1
      go_enter Tryz.func190, Tryz.ntmps190
      go_wp2
      go_ret
      exact ⟨_, _, _, rfl, BigN.nil _ _, Below.refl _ _, fun k h => (inB_none h).elim⟩
    · have hz1 : ((n1 : Int) == 0) = false := by simpa using z1
      go_enter Tryz.func190, Tryz.ntmps190
      go_wp2
      go_ret
      exact ⟨_, _, _, rfl, BigN.nil _ _, Below.refl _ _, fun k h => (inB_none h).elim⟩
  have hz1 : ((n1 : Int) == 0) = false := by simp; omega
  have hz2 : ((n2 : Int) == 0) = false := by simpa using z2
  obtain ⟨b1, o1, rfl, hl1⟩ := h1.num.form (by omega)
  obtain ⟨b2, o2, rfl, hl2⟩ := h2.num.form (by omega)
  have HB1 := Lib.hid h1
  have HB2 := Lib.hid h2
  by_cases z3 : n2 = 1
  · subst z3
    have e2 := h2.num.cell (i := 0) (by omega)
    rw [Nat.add_zero] at e2
    have hlt2 := h2.num.lt
    have htop := h2.num.top
    rw [Nat.pow_one] at hlt2
    have hd : dg W64 N2 0 = N2 := by unfold dg; rw [Nat.pow_zero, Nat.div_one, Nat.mod_eq_of_lt hlt2]
    rw [hd] at e2
    have h20 : 0 < N2 := by rcases htop with h | h <;> simp at h; omega
    have HL2 := Lib.hid hlt2
    clear h1 h2 hlt2 htop hd
    go_enter Tryz.func190, Tryz.ntmps190
    go_wp2_with fail
    refine (natMulWF _ n1 c1 N1 N2 _ HB1.out (by omega) HL2.out).mono ?_
    rintro e w1 ⟨a, n, c, rfl, hN, hB, hf⟩
    go_wp2
    go_ret
    exact ⟨_, _, _, rfl, hN, hB, hf⟩
  · have hz3 : ((n2 : Int) == 1) = false := by simp; omega
    clear h1 h2
    go_enter Tryz.func190, Tryz.ntmps190
    go_wp2_with fail
    refine (alias_nil _ n1 c1 _).mono ?_
    rintro e w1 ⟨rfl, q1, rfl⟩
    go_wp2_with fail
    refine (alias_nil _ n2 c2 _).mono ?_
    rintro e w2 ⟨rfl, q2, rfl⟩
    obtain ⟨W2, hW2⟩ : ∃ W2, W2 = w.drewN (q1 + q2) := ⟨_, rfl⟩
    have hbq : Below w.heap.size w W2 := by rw [hW2]; exact below_drewN (Below.refl _ _) _
    go_wp2_with fail
    rw [← hW2]
    refine (make_nil (n1 + n2) (by omega) _).mono ?_
    rintro e w3 (⟨h, _⟩ | ⟨c, hc0, hcn1, hcn2, rfl, hw⟩)
    case inl => omega
    have hb : BlkAt w3 W2.heap.size (Array.replicate c (.int .u64 0)) 151 := by rw [hw]; exact BlkAt.new _ _ _
    have hB3 : Below W2.heap.size W2 w3 := by rw [hw]; exact (Below.refl _ _).alloc (Nat.le_refl _) _
    have hbd := Below.then hbq (Nat.le_refl _) hB3
    clear hw hW2
    have HD1 := Lib.hid (HB1.out.num.keep hbd)
    have HD2 := Lib.hid (HB2.out.num.keep hbd)
    have hk := HK.out.keep hbd
    unfold Thr at hk
    have hsz : (Array.replicate c (Value.int .u64 0)).size = c := by simp
    have HBK := Lib.hid hb
    have HBD := Lib.hid hbd
    have HLT := Lib.hid (show N1 * N2 < W64 ^ (n1 + n2) from by
      rw [Nat.pow_add]
      exact Nat.mul_lt_mul_of_lt_of_le HB1.out.num.lt (Nat.le_of_lt HB2.out.num.lt) (Nat.pow_pos W64_pos))
    have HG1 := Lib.hid (show b1 ≠ W2.heap.size from Nat.ne_of_lt (Nat.lt_of_lt_of_le hl1 hbq.size))
    have HG2 := Lib.hid (show b2 ≠ W2.heap.size from Nat.ne_of_lt (Nat.lt_of_lt_of_le hl2 hbq.size))
    have HWS := Lib.hid hbq.size
    clear hb hbd hbq hB3
    have hcast : ((n1 + n2 : Nat) : Int) = (n1 : Int) + n2 := by omega
    go_wp2_with fail
    refine (basicMul_any W2.heap.size (n1 + n2) c b1 o1 n1 c1 b2 o2 n2 c2 _ N1 N2 _ HBK.out hsz hcn1 (Nat.le_refl _) (by unfold maxLen; omega) (by omega) (by omega) (by omega) (by omega) (HD1.out.wcells0 (Nat.le_refl _)) (by omega) (by unfold maxLen; omega) (HD2.out.wcells0 (Nat.le_refl _)) (by omega) (by unfold maxLen; omega) HG1.out HG2.out HB1.out.num.lt HB2.out.num.lt).mono ?_
    rintro e w4 ⟨rfl, hR⟩
    have HRB := Lib.hid (hR.toB (B := w.heap.size) HWS.out HBD.out.size)
    obtain ⟨cur3, hk1, hk2, hk3, hk4⟩ := hR.blk
    obtain ⟨hcl, hbn⟩ := bigN_row (c := c) (m := n1 + n2) hk1 (by rw [hk2, hsz]) (fun i hi => by have := hk3 i hi; simpa using this) hcn1 (by unfold maxLen; omega) HLT.out
    have HCL := Lib.hid hcl
    have HBN := Lib.hid hbn
    clear hk1 hk2 hk3 hk4 hcl hbn hR hsz hk
    go_wp2_with fail
    refine (norm_any (some ⟨W2.heap.size, 0, none⟩) (n1 + n2) c (dg W64 (N1 * N2)) _ (by omega) (by omega) (by unfold maxLen; omega) (by simp) HCL.out).mono ?_
    rintro e w5 ⟨rfl, rfl⟩
    go_wp2
    go_ret
    exact ⟨_, _, _, rfl, HBN.out, HBD.out.trans HRB.out.below, fun k hk => by rw [← inB_some hk]; first | exact Nat.le_refl _ | exact HWS.out⟩

set_option maxRecDepth 100000 in
set_option maxHeartbeats 2000000 in
theorem natMulF (a1 a2 : Option Addr) (n1 n2 c1 c2 N1 N2 : Nat) (w : World) (hK : Thr w) (h1 : BigN 151 w a1 n1 c1 N1) (h2 : BigN 151 w a2 n2 c2 N2) (hb1 : n1 ≤ 300000) (hb2 : n2 ≤ 300000) (hb : n1 < 40 ∨ n2 < 40) (p : Value) :
    Calls Tryz.prog 190 #[.slice none 0 0, p, .slice a1 n1 c1, .slice a2 n2 c2] w (GivesF 151 (N1 * N2) w) := by
  by_cases hge : n2 ≤ n1
  · exact natMulF_ge a1 a2 n1 n2 c1 c2 N1 N2 w hK h1 h2 hb1 (by omega) hge p
  · have hlt : n1 < n2 := by omega
    have HS := Lib.hid (natMulF_ge a2 a1 n2 n1 c2 c1 N2 N1 w hK h2 h1 hb2 (by omega) (by omega) p)
    have hm1 := h1.num.cm
    have hm2 := h2.num.cm
    unfold maxLen at hm1 hm2
    have hc1 := h1.num.nc
    have hc2 := h2.num.nc
    clear h1 h2 hge
    go_enter Tryz.func190, Tryz.ntmps190
    go_wp2_with fail
    refine HS.out.mono ?_
    rintro e w1 ⟨a, n, c, rfl, hN, hB, hf⟩
    rw [Nat.mul_comm N2 N1] at hN
    go_wp2
    go_ret
    exact ⟨_, _, _, rfl, hN, hB, hf⟩

end Go.Proofs.YtdkipndepkblhaaGreatDoor

set_option linter.unusedSimpArgs false
set_option linter.unusedVariables false
namespace Go.Bg
open Go.RowKit Dg
/-- the Int at b has been given new words: those that were there in w1 -/
def IntFr (T : TypeId) (b o : Nat) (s : Bool) (R : Nat) (w w' : World) : Prop :=
  ∃ a n c w1, BigN T w1 a n c R ∧ Below w.heap.size w w1 ∧ (∀ k, InB a k → w.heap.size ≤ k) ∧ (s = true → 0 < R) ∧
    Below ((w1.setCell ⟨b, o + 1, none⟩ (.slice a n c)).setCell ⟨b, o, none⟩ (.bool s)).heap.size ((w1.setCell ⟨b, o + 1, none⟩ (.slice a n c)).setCell ⟨b, o, none⟩ (.bool s)) w'
theorem IntFr.then {T : TypeId} {b o : Nat} {s : Bool} {R : Nat} {w w' w'' : World} (h : IntFr T b o s R w w') (hb : Below w'.heap.size w' w'') : IntFr T b o s R w w'' := by
  obtain ⟨a, n, c, w1, h1, h2, h3, h4, h5⟩ := h
  exact ⟨a, n, c, w1, h1, h2, h3, h4, Below.then h5 (Nat.le_refl _) hb⟩
end Go.Bg
namespace Go.Proofs.YtdkipndepkblhaaGreatDoor
open Go.RowKit Go.Bg Dg

def IntFrE (b o : Nat) (s : Bool) (R : Nat) (w : World) (e : Ending) (w' : World) : Prop := e = .returned (.pointer (some ⟨b, o, none⟩)) ∧ IntFr 151 b o s R w w'
theorem NewInt.madeF {w w1 : World} {b o : Nat} (h : NewInt w b o) (hb : Below w.heap.size w w1) {a : Option Addr} {n c N : Nat} {s : Bool} (hN : BigN 151 w1 a n c N) (hf : ∀ k, InB a k → w.heap.size ≤ k) (hz : s = true → 0 < N) :
    IntFrE b o s N w (.returned (.pointer (some ⟨b, o, none⟩))) ((w1.setCell ⟨b, o + 1, none⟩ (.slice a n c)).setCell ⟨b, o, none⟩ (.bool s)) :=
  ⟨rfl, a, n, c, w1, hN, hb, hf, hz, Below.refl _ _⟩
theorem intFr_z {b o : Nat} {s : Bool} {R : Nat} {z : Int} {w : World} {e : Ending} {w' : World} (h : IntFrE b o s R w e w') (hz : sg s R = z) : IntFrE b o (decide (z < 0)) z.natAbs w e w' := by
  obtain ⟨_, _, _, _, _, _, _, h4, _⟩ := h.2
  obtain ⟨e1, e2⟩ := sg_abs h4
  rw [hz] at e1 e2
  rw [e1, e2]; exact h
theorem intFr_set {b o : Nat} {s : Bool} {R : Nat} {z : Int} {w : World} {e : Ending} {w' : World} (h : IntFrE b o s R w e w') (hz : sg s R = z) : (Ending.returned (.tuple #[]) = .returned (.tuple #[])) ∧ IntFr 151 b o (decide (z < 0)) z.natAbs w w'.drew :=
  ⟨rfl, (intFr_z h hz).2.then ((Below.refl _ _).drew)⟩
/-- the Int at b, and where its words lie -/
theorem IntFr.own {b o : Nat} {s : Bool} {R : Nat} {w w' : World} (h : IntFr 151 b o s R w w') (hn : NewInt w b o) : (∃ a n c, OwnI 151 w' b o s a n c R ∧ ∀ k, InB a k → w.heap.size ≤ k) ∧ Upd (· = b) w w' ∧ (s = true → 0 < R) := by
  obtain ⟨a, n, c, w1, h1, h2, h3, h4, h5⟩ := h
  have h' := hn.keep h2
  exact ⟨⟨a, n, c, (OwnI.stored h'.blk h'.c0 ⟨_, h'.c1⟩ h1).keep h5, h3⟩, (((Upd.of_below (S := (· = b)) h2).setCell (p := ⟨b, o + 1, none⟩) rfl _).setCell (p := ⟨b, o, none⟩) rfl _).then h5, h4⟩
/-- a fraction's numerator, its words new -/
theorem IntFr.frac {zb : Nat} {s : Bool} {R : Nat} {w w' : World} (h : IntFr 151 zb 0 s R w w') (hn : NewRat w zb) : ∃ a n c, FracUp w zb s R 0 w' a n c none 0 0 := by
  obtain ⟨a, n, c, w1, h1, h2, h3, h4, h5⟩ := h
  exact ⟨a, n, c, (((FracUp.start hn).setA (Below.refl _ _) (Upd.of_below h2) h1 (fun k hk => .inr (h3 k hk))).neg s).keep h5⟩

set_option maxRecDepth 100000 in
set_option maxHeartbeats 2000000 in
theorem scaleDenomF (d p b o : Nat) (s : Bool) (N : Nat) (af : Option Addr) (nf cf F : Nat) (q : Value) (w : World) (hK : Thr w) (h : NewInt w d p) (h1 : BigAt 151 w b o s N) (h2 : BigN 151 w af nf cf F) (hF : 0 < F) (hne : b ≠ d) (L : Nat) (hL : L < 40) (hN : N < W64 ^ L) (hFL : F < W64 ^ L) :
    Calls Tryz.prog 142 #[.pointer (some ⟨d, p, none⟩), q, .pointer (some ⟨b, o, none⟩), .slice af nf cf] w fun e w' => e = .returned (.tuple #[]) ∧ IntFr 151 d p s (N * F) w w' := by
  obtain ⟨a, n, c, p0, p1, hNN⟩ := h1.val
  have hn : n ≤ L := len_le W64_gt hNN.num.top hN
  have hnf : nf ≤ L := len_le W64_gt h2.num.top hFL
  have hnf0 : ((nf : Int) == 0) = false := by
    have hp := natAt_pos_len h2.num
    have : 0 < nf := by simpa [hF] using hp
    simp; omega
  have hcm := h2.num.cm
  have hnc := h2.num.nc
  have HZ := Lib.hid (show s = true → 0 < N * F from fun hs => Nat.mul_pos (h1.zero hs) hF)
  have HH := Lib.hid h
  have HN := Lib.hid hNN
  have H2 := Lib.hid h2
  have HK := Lib.hid hK
  have HP0 := Lib.hid p0
  have k1 := h.c1
  clear h h1 hNN hN p0 h2 hK
  go_enter Tryz.func142, Tryz.ntmps142
  go_upto_region 2 with fail
  have hd0 : ∀ q, Below w.heap.size w (w.drewN q) := fun q => below_drewN (Below.refl w.heap.size w) q
  go_region_with
    ((go_at_call 190; (with_reducible refine (natMulF a af n nf c cf N F _ ?_ ?_ ?_ (by omega) (by omega) (.inl (by omega)) q).mono ?_); exact HK.out.keep (hd0 _); exact HN.out.keep (hd0 _); exact H2.out.keep (hd0 _); rintro e w1 ⟨a2, n2, c2, rfl, hN2, hB, hf⟩; have hB1 := Below.then (hd0 _) (Nat.le_refl _) hB; have hf1 := (fun k hk => Nat.le_trans (hd0 _).size (hf k hk) : ∀ k, InB a2 k → w.heap.size ≤ k); have HF := Lib.hid (HH.out.madeF hB1 (s := s) hN2 hf1 HZ.out); have h' := HH.out.keep hB1; obtain ⟨u0, k0⟩ := h'.c0; have k1' := h'.c1; have f0 := h'.blk.frozen p; have f1 := h'.blk.frozen (p + 1); have k0' : ∀ v, (w1.setCell ⟨d, p + 1, none⟩ v).cell? ⟨d, p, none⟩ = some u0 := (fun v => by rw [World.cell?_setCell_other _ _ _ _ (fun hh => by injection hh with _ hh _; omega)]; exact k0); have x0' : ∀ v, (w1.setCell ⟨d, p + 1, none⟩ v).cell? ⟨b, o, none⟩ = some (.bool s) := (fun v => by rw [World.cell?_setCell_other _ _ _ _ (fun hh => by injection hh with hh _ _; exact hne hh.symm)]; exact cell_keep HP0.out hB1); clear hN2 h' hf hf1))
  all_goals
    clear p1 k1
    go_wp2
    go_end0
    exact ⟨rfl, HF.out.2⟩

end Go.Proofs.YtdkipndepkblhaaGreatDoor

set_option linter.unusedSimpArgs false
set_option linter.unusedVariables false
namespace Go.Proofs.YtdkipndepkblhaaGreatDoor
open Go.RowKit Go.Bg Dg

set_option maxRecDepth 100000 in
set_option maxHeartbeats 1000000 in
theorem mulDenomF (p : Value) (a1 a2 : Option Addr) (n1 n2 c1 c2 D E : Nat) (w : World) (hK : Thr w) (h1 : BigN 151 w a1 n1 c1 D) (h2 : BigN 151 w a2 n2 c2 E) (hD : 0 < D) (hE : 0 < E) (hn1 : n1 < 40) (hn2 : n2 < 40) :
    Calls Tryz.prog 143 #[p, .slice none 0 0, .slice a1 n1 c1, .slice a2 n2 c2] w (GivesF 151 (D * E) w) := by
  have z1 : ((n1 : Int) == 0) = false := by
    have := natAt_pos_len h1.num
    have : 0 < n1 := by simpa [hD] using this
    simp; omega
  have z2 : ((n2 : Int) == 0) = false := by
    have := natAt_pos_len h2.num
    have : 0 < n2 := by simpa [hE] using this
    simp; omega
  have hm1 := h1.num.cm
  have hc1 := h1.num.nc
  have hm2 := h2.num.cm
  have hc2 := h2.num.nc
  unfold maxLen at hm1 hm2
  have HM := Lib.hid (natMulF a1 a2 n1 n2 c1 c2 D E w hK h1 h2 (by omega) (by omega) (.inl hn1) p)
  clear h1 h2 hK
  go_enter Tryz.func143, Tryz.ntmps143
  go_wp2_with fail
  refine HM.out.mono ?_
  rintro e w1 ⟨a, n, c, rfl, hN, hB, hf⟩
  go_wp2
  go_ret
  exact ⟨_, _, _, rfl, hN, hB, hf⟩

/-- the two products, each in an Int of one's own with new words -/
structure TwoS (w : World) (s t : Bool) (X Y : Nat) (wx : World) (a1 : Option Addr) (n1 c1 : Nat) (a2 : Option Addr) (n2 c2 : Nat) : Prop where
  a : OwnI 151 wx (w.heap.size + 1) 0 s a1 n1 c1 X
  d : OwnI 151 wx (w.heap.size + 1 + 1) 0 t a2 n2 c2 Y
  f1 : ∀ k, InB a1 k → w.heap.size ≤ k
  f2 : ∀ k, InB a2 k → w.heap.size ≤ k
  off : ∀ k, InB a1 k → ¬ InB a2 k
  stk : BlkAt wx w.heap.size #[.pointer none] 214
  bel : Below w.heap.size w wx
theorem two_done {w W3 w4 w5 : World} {s t : Bool} {X Y : Nat} (hW : W3 = ((w.alloc (.cells #[.pointer none] 214)).alloc (.cells #[.bool false, .slice none 0 0] 143)).alloc (.cells #[.bool false, .slice none 0 0] 143))
    (h4 : IntFr 151 (w.heap.size + 1) 0 s X W3.drew w4) (h5 : IntFr 151 (w.heap.size + 1 + 1) 0 t Y w4.drew w5) :
    ∃ a1 n1 c1 a2 n2 c2, TwoS w s t X Y w5 a1 n1 c1 a2 n2 c2 ∧ (s = true → 0 < X) ∧ (t = true → 0 < Y) := by
  have hB3 : Below w.heap.size w W3 := by rw [hW]; exact Below.alloc' (Below.alloc' (Below.alloc' (Below.refl _ _) _) _) _
  have hS3 : W3.heap.size = w.heap.size + 1 + 1 + 1 := by rw [hW]; simp
  have A3 : NewInt W3 (w.heap.size + 1) 0 := by rw [hW]; have := newInt_is (w.alloc (.cells #[.pointer none] 214)); simp at this; exact this.keep (Below.alloc' (Below.refl _ _) _)
  have B3 : NewInt W3 (w.heap.size + 1 + 1) 0 := by rw [hW]; simpa using newInt_is ((w.alloc (.cells #[.pointer none] 214)).alloc (.cells #[.bool false, .slice none 0 0] 143))
  have S3 : BlkAt W3 w.heap.size #[.pointer none] 214 := by rw [hW]; exact BlkAt.keep (BlkAt.new _ _ _) (Below.alloc' (Below.alloc' (Below.refl _ _) _) _)
  have hd3 : Below W3.heap.size W3 W3.drew := (Below.refl _ _).drew
  obtain ⟨⟨a1, n1, c1, hA, hf1⟩, hU4, z4⟩ := IntFr.own h4 (A3.keep hd3)
  have hd4 : Below w4.heap.size w4 w4.drew := (Below.refl _ _).drew
  have B4 : NewInt w4 (w.heap.size + 1 + 1) 0 := NewInt.updU (B3.keep hd3) hU4 (Nat.succ_ne_self _)
  obtain ⟨⟨a2, n2, c2, hD, hf2⟩, hU5, z5⟩ := IntFr.own h5 (B4.keep hd4)
  have s3 := hd3.size
  have s4 := hU4.size
  have s5 := hd4.size
  have la := hA.num.inLt
  have hp5 : ∀ k, InB a1 k → ¬ k = w.heap.size + 1 + 1 := fun k hk e => by
    subst e
    exact (B4.blk.notIn hA.num) hk
  refine ⟨a1, n1, c1, a2, n2, c2, ⟨(hA.keep hd4).apart hU5 (by omega) hp5, hD, fun k hk => by have := hf1 k hk; omega, fun k hk => by have := hf2 k hk; omega, fun k hk hk' => by have := la k hk; have := hf2 k hk'; omega, ?_, ?_⟩, z4, z5⟩
  · exact hU5.blk (BlkAt.keep (hU4.blk (BlkAt.keep S3 hd3) (by omega)) hd4) (by omega)
  · exact hU5.below (Below.then (hU4.below (Below.then hB3 (Nat.le_refl _) hd3) (by omega) (fun k _ e => by omega)) (Nat.le_refl _) hd4) (by omega) (fun k _ e => by omega)
end Go.Proofs.YtdkipndepkblhaaGreatDoor
