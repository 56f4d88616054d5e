/-
  In place: nat.rsh, nat.add of one.
  nat.add onto a number, in place or into new words.
-/
import Derived.Test.YtdkipndepkblhaaGreatDoorBuZ
import Derived.Test.YtdkipndepkblhaaGreatDoorBuX
set_option linter.unusedSimpArgs false
set_option linter.unusedVariables false
namespace Go.Proofs.YtdkipndepkblhaaGreatDoor
open Go.RowKit Go.Bg Dg

set_option maxRecDepth 100000 in
set_option maxHeartbeats 1000000 in
theorem make_self (g nz cz n : Nat) (w : World) (hn : n ≤ cz) (hnz : nz ≤ cz) (hcm : cz ≤ 9223372036854775807) :
    Calls Tryz.prog 184 #[.slice (some ⟨g, 0, none⟩) nz cz, .int .i64 n] w fun e w' => e = .returned (.slice (some ⟨g, 0, none⟩) n cz) ∧ w = w' := by
  have hle : (n : Int) ≤ cz := by omega
  go_enter Tryz.func184, Tryz.ntmps184
  go_wp2
  go_ret
  exact ⟨rfl, rfl⟩

/-- a number in the block g, which may have turned; and nothing below B has -/
def InPlace (T : TypeId) (g c N B : Nat) (w0 : World) (e : Ending) (w' : World) : Prop :=
  ∃ n, e = .returned (.slice (some ⟨g, 0, none⟩) n c) ∧ BigN T w' (some ⟨g, 0, none⟩) n c N ∧ Below B w0 w'

end Go.Proofs.YtdkipndepkblhaaGreatDoor

set_option linter.unusedSimpArgs false
set_option linter.unusedVariables false
namespace Go.Proofs.YtdkipndepkblhaaGreatDoor
open Go.RowKit Go.Bg Dg

set_option maxRecDepth 100000 in
set_option maxHeartbeats 2000000 in
theorem natAdd_newO (az : Option Addr) (nz cz : Nat) (hncz : nz ≤ cz) (hnilz : az = none → cz = 0) (a1 a2 : Option Addr) (n1 n2 c1 c2 N1 N2 : Nat) (w : World) (h1 : BigN 151 w a1 n1 c1 N1) (h2 : BigN 151 w a2 n2 c2 N2) (hb1 : n1 ≤ 900000) (hge : n2 ≤ n1) (h20 : 0 < n2) (hcz : cz < n1 + 1) :
    Calls Tryz.prog 124 #[.slice az nz cz, .slice a1 n1 c1, .slice a2 n2 c2] w (GivesO 151 (N1 + N2) w) := by
  have hm1 := h1.num.cm
  have hm2 := h2.num.cm
  have hc1 := h1.num.nc
  have hc2 := h2.num.nc
  unfold maxLen at hm1 hm2
  by_cases z1 : n1 = 0
  · omega
  · have hz1 : ((n1 : Int) == 0) = false := by simpa using z1
    by_cases z2 : n2 = 0
    · omega
    · have hz2 : ((n2 : Int) == 0) = false := by simpa using z2
      obtain ⟨b1, o1, rfl, hl1⟩ := h1.num.form (by omega)
      obtain ⟨b2, o2, rfl, hl2⟩ := h2.num.form (by omega)
      have HB1 := Lib.hid h1
      have HB2 := Lib.hid h2
      have HMK := Lib.hid (fun w => make_new az nz cz (n1 + 1) w (by omega) (by omega) (by omega) hncz hnilz)
      have hci : ((n1 + 1 : Nat) : Int) = (n1 : Int) + 1 := by omega
      rw [hci] at HMK
      clear h1 h2 hci
      go_enter Tryz.func124, Tryz.ntmps124
      go_wp2_with fail
      refine (HMK.out _).mono ?_
      rintro e w1 (⟨h, _⟩ | ⟨c, hc0, hcn1, hcn2, rfl, hw⟩)
      case inl => omega
      have hb : BlkAt w1 w.heap.size (Array.replicate c (.int .u64 0)) 151 := by rw [hw]; exact BlkAt.new _ _ _
      have hB1 : Below w.heap.size w w1 := by rw [hw]; exact (Below.refl _ _).alloc (Nat.le_refl _) _
      have HS1 := Lib.hid (show w1.heap.size = w.heap.size + 1 from by rw [hw]; simp)
      clear hw
      have hbd : Below w1.heap.size w1 w1.drew := (Below.refl _ _).drew
      have hg2 := hb.keep hbd
      have HD1 := Lib.hid (HB1.out.num.keep (hB1.trans (hbd.mono hB1.size)))
      have HD2 := Lib.hid (HB2.out.num.keep (hB1.trans (hbd.mono hB1.size)))
      have hsz : (Array.replicate c (Value.int .u64 0)).size = c := by simp
      have hca := add_carry_le W64_pos N1 N2 n2
      have HH := Lib.hid (add_high HB1.out.num.lt HB2.out.num.lt hge)
      have HLT := Lib.hid (add_fits HB1.out.num.lt HB2.out.num.lt hge)
      have hx1 : (n2 : Int) ≤ c := by omega
      have hx2 : (n2 : Int) ≤ c1 := by omega
      have hx3 : (n2 : Int) ≤ c2 := by omega
      have HBD := Lib.hid (hB1.trans (hbd.mono hB1.size))
      have HBK := Lib.hid hg2
      clear hb hg2 hbd hB1
      generalize hcar : (N1 % W64 ^ n2 + N2 % W64 ^ n2) / W64 ^ n2 = cr at *
      go_upto_region 10 with fail
      go_region_held3 (fun _ => True) (exact trivial) ((go_at_call 185; (with_reducible refine (addVV_any w.heap.size 0 n2 c b1 o1 c1 b2 o2 c2 _ N1 N2 _ HBK.out ?_ ?_ ?_ ?_ ?_ ?_ ?_ ?_ ?_ ?_ ?_ ?_).mono ?_); omega; (rw [hsz]; omega); omega; (unfold maxLen; omega); exact HD1.out.wcells0 hge; omega; (unfold maxLen; omega); exact HD2.out.wcells0 (Nat.le_refl _); omega; (unfold maxLen; omega); exact .inl (Nat.ne_of_lt hl1); exact .inl (Nat.ne_of_lt hl2); rintro e w2 ⟨rfl, hR2⟩; rw [hcar]))
      have HB3 := Lib.hid (hR2.toB (B := w.heap.size) (Nat.le_refl _) HBD.out.size)
      clear hx1 hx2 hx3
      by_cases hgt : n2 < n1
      · have hd : decide (n2 < n1) = true := by simpa using hgt
        have hx1 : (n2 : Int) ≤ n1 := by omega
        have hx2 : (n1 : Int) ≤ c := by omega
        have hx3 : (n2 : Int) ≤ c1 := by omega
        have hn1 : ¬ c = n2 := by omega
        have hn2 : ¬ c1 = n2 := by omega
        obtain ⟨cur2, hk1, hk2, hk3, hk4⟩ := hR2.blk
        obtain ⟨cur1, e1, hq1⟩ : ∃ cur1 e1, BlkAt w2 b1 cur1 e1 := by
          rcases HB1.out.buf with ⟨hh, _⟩ | ⟨g', cur1, hh, hg', _⟩
          · cases hh
          · injection hh with hh
            injection hh with hh _ _
            subst hh
            exact ⟨cur1, _, (hR2.upd.blk (hg'.keep HBD.out) (Nat.ne_of_lt hl1))⟩
        have HE1 := Lib.hid (HB1.out.num.keep (HBD.out.trans (Below.refl _ _)))
        have HW1 := Lib.hid (show WCells w2 b1 (o1 + n2) (n1 - n2) (dg W64 (N1 / W64 ^ n2)) from fun i hi => by
          have := (HD1.out.wcells (k := n2) (m := n1 - n2) (by omega)) i hi
          rw [hR2.upd.cell (p := ⟨b1, o1 + n2 + i, none⟩) (block_lt this) (Nat.ne_of_lt hl1)]
          exact this)
        have HK := Lib.hid (show cur2.size = c from by rw [hk2, hsz])
        have HSZ2 := Lib.hid hR2.upd.size
        have HK1 := Lib.hid hk1
        have HK3 := Lib.hid hk3
        have HQ1 := Lib.hid hq1
        clear hk1 hk2 hk3 hk4 hq1 hR2 hsz
        go_upto_region 12 with fail
        go_region_held3 (fun _ => True) (exact trivial) ((go_at_call 186; (with_reducible refine (addVW_any w.heap.size w.heap.size n2 (n1 - n2) (c - n2) b1 (o1 + n2) (c1 - n2) cur2 cur1 e1 (N1 / W64 ^ n2) cr _ ?_ ?_ ?_ ?_ ?_ ?_ ?_ ?_ ?_ ?_ ?_ ?_ ?_ ?_).mono ?_); exact HK1.out; exact HQ1.out; exact Nat.le_refl _; (exact Nat.le_trans HBD.out.size HSZ2.out); omega; omega; (rw [HK.out]; omega); omega; (unfold maxLen; omega); exact HW1.out; omega; (unfold maxLen; omega); exact Nat.ne_of_lt hl1; (unfold W64; omega); rintro e w3 ⟨rfl, hR3⟩; rw [← HH.out.2]))
        obtain ⟨cur3, hk1, hk2, hk3, hk4⟩ := hR3.blk
        have hsz3 : cur3.size = c := by rw [hk2, HK.out]
        obtain ⟨u0, p0⟩ : ∃ u0, w3.cell? ⟨w.heap.size, n1, none⟩ = some u0 := ⟨_, by rw [hk1.cell n1, Array.getElem?_eq_getElem (by omega)]⟩
        have f0 := hk1.frozen n1
        obtain ⟨W4, hW4⟩ : ∃ W4, W4 = w3.setCell ⟨w.heap.size, n1, none⟩ (.int .u64 (dg W64 (N1 + N2) n1 : Nat)) := ⟨_, rfl⟩
        have hset := hk1.set n1 (.int .u64 (dg W64 (N1 + N2) n1 : Nat))
        rw [← hW4] at hset
        have HBf := Lib.hid (show Below w.heap.size w W4 from by
          rw [hW4]
          exact ((HBD.out.trans HB3.out.below).trans ((below_drew' w2 _).trans hR3.below)).setCell (Nat.le_refl _) _)
        obtain ⟨hcl, hbn⟩ := bigN_row (c := c) (m := n1 + 1) (N := N1 + N2) hset (by simpa using hsz3) (fun i hi => by
          rw [Array.getElem?_setIfInBounds]
          by_cases e : n1 = i
          · subst e; rw [if_pos rfl, if_pos (by omega)]
          · rw [if_neg e]
            by_cases hlo : i < n2
            · rw [hk4 i (.inl hlo)]
              have := HK3.out i hlo
              simpa using this
            · have := hk3 (i - n2) (by omega)
              rw [show n2 + (i - n2) = i from by omega] at this
              rw [this, ← HH.out.1, dg_div, show n2 + (i - n2) = i from by omega]) hcn1 (by unfold maxLen; omega) HLT.out
        have HCL := Lib.hid hcl
        have HBN := Lib.hid hbn
        have HW4 := Lib.hid hW4
        clear hk1 hk2 hk3 hk4 hcl hbn hW4 hset hR3 hsz3
        go_wp2_with fail
        rw [← HW4.out]
        refine (norm_any (some ⟨w.heap.size, 0, none⟩) (n1 + 1) c (dg W64 (N1 + N2)) _ (by omega) (by omega) (by unfold maxLen; omega) (by simp) HCL.out).mono ?_
        rintro e w5 ⟨rfl, rfl⟩
        go_wp2
        go_ret
        exact ⟨_, _, rfl, by omega, HBN.out, HBf.out⟩
      · have hd : decide (n2 < n1) = false := by simpa using hgt
        obtain rfl : n1 = n2 := by omega
        have hroom := hR2.room (j := n1) (by rw [hsz]; omega)
        obtain ⟨⟨u0, p0⟩, f0⟩ := hroom
        have hcr : cr = dg W64 (N1 + N2) n1 := by
          rw [HH.out.2]; simp [Nat.mod_one]
        obtain ⟨W3, hW3⟩ : ∃ W3, W3 = w2.setCell ⟨w.heap.size, n1, none⟩ (.int .u64 (cr : Nat)) := ⟨_, rfl⟩
        have HR3 := Lib.hid (hR2.step (by rw [hsz]; omega) hcr)
        have HW3 := Lib.hid hW3
        simp only [Nat.zero_add] at HR3
        rw [← hW3] at HR3
        have HRB := Lib.hid (HR3.out.toB (B := w.heap.size) (Nat.le_refl _) HBD.out.size)
        obtain ⟨cur3, hk1, hk2, hk3, hk4⟩ := HR3.out.blk
        obtain ⟨hcl, hbn⟩ := bigN_row (c := c) (m := n1 + 1) hk1 (by rw [hk2, hsz]) (fun i hi => by have := hk3 i hi; simpa using this) hcn1 (by unfold maxLen; omega) HLT.out
        have HCL := Lib.hid hcl
        have HBN := Lib.hid hbn
        clear hk1 hk2 hk3 hk4 hcl hbn hR2 hW3 hsz hcr hgt
        go_wp2_with fail
        rw [← HW3.out]
        refine (norm_any (some ⟨w.heap.size, 0, none⟩) (n1 + 1) c (dg W64 (N1 + N2)) _ (by omega) (by omega) (by unfold maxLen; omega) (by simp) HCL.out).mono ?_
        rintro e w4 ⟨rfl, rfl⟩
        go_wp2
        go_ret
        exact ⟨_, _, rfl, by omega, HBN.out, HBD.out.trans HRB.out.below⟩

theorem natAdd_new (az : Option Addr) (nz cz : Nat) (hncz : nz ≤ cz) (hnilz : az = none → cz = 0) (a1 a2 : Option Addr) (n1 n2 c1 c2 N1 N2 : Nat) (w : World) (h1 : BigN 151 w a1 n1 c1 N1) (h2 : BigN 151 w a2 n2 c2 N2) (hb1 : n1 ≤ 900000) (hge : n2 ≤ n1) (h20 : 0 < n2) (hcz : cz < n1 + 1) :
    Calls Tryz.prog 124 #[.slice az nz cz, .slice a1 n1 c1, .slice a2 n2 c2] w (GivesN 151 (N1 + N2) w) :=
  (natAdd_newO az nz cz hncz hnilz a1 a2 n1 n2 c1 c2 N1 N2 w h1 h2 hb1 hge h20 hcz).mono fun e w' ⟨n, c, he, _, hN, hB⟩ => ⟨_, n, c, he, hN, hB⟩

set_option maxRecDepth 100000 in
set_option maxHeartbeats 2000000 in
theorem natAdd_self (g n1 c N1 : Nat) (a2 : Option Addr) (n2 c2 N2 B : Nat) (w0 w : World) (hB0 : Below B w0 w) (hBg : B ≤ g) (h1 : BigN 151 w (some ⟨g, 0, none⟩) n1 c N1) (h2 : BigN 151 w a2 n2 c2 N2) (hb1 : n1 ≤ 900000) (hge : n2 ≤ n1) (h20 : 0 < n2) (hcr : n1 + 1 ≤ c) (hne2 : ∀ p, a2 = some p → p.block ≠ g) :
    Calls Tryz.prog 124 #[.slice (some ⟨g, 0, none⟩) n1 c, .slice (some ⟨g, 0, none⟩) n1 c, .slice a2 n2 c2] w (InPlace 151 g c (N1 + N2) B w0) := by
  have hm1 := h1.num.cm
  have hm2 := h2.num.cm
  have hc1 := h1.num.nc
  have hc2 := h2.num.nc
  unfold maxLen at hm1 hm2
  obtain ⟨cur, hk, hsz⟩ : ∃ cur, BlkAt w g cur 151 ∧ cur.size = c := by
    rcases h1.buf with ⟨h, _⟩ | ⟨g', cur, h, hg, hsz⟩
    · cases h
    · injection h with h
      injection h with h _ _
      subst h
      exact ⟨cur, hg, hsz⟩
  have hgl := hk.lt
  have hz1 : ((n1 : Int) == 0) = false := by simp; omega
  have hz2 : ((n2 : Int) == 0) = false := by simp; omega
  obtain ⟨b2, o2, rfl, hl2⟩ := h2.num.form (by omega)
  have hb2g : b2 ≠ g := hne2 _ rfl
  have HB1 := Lib.hid h1
  have HB2 := Lib.hid h2
  have HMK := Lib.hid (fun w => make_self g n1 c (n1 + 1) w (by omega) (by omega) (by omega))
  have hci : ((n1 + 1 : Nat) : Int) = (n1 : Int) + 1 := by omega
  rw [hci] at HMK
  have HB0 := Lib.hid hB0
  have HNE := Lib.hid hb2g
  clear h1 h2 hci hB0 hne2 hb2g
  go_enter Tryz.func124, Tryz.ntmps124
  go_wp2_with fail
  refine (HMK.out _).mono ?_
  rintro e w1 ⟨rfl, rfl⟩
  have hbd : Below w.heap.size w w.drew := (Below.refl _ _).drew
  have hg2 := hk.keep hbd
  have HD1 := Lib.hid (HB1.out.num.keep hbd)
  have HD2 := Lib.hid (HB2.out.num.keep hbd)
  have hca := add_carry_le W64_pos N1 N2 n2
  have HH := Lib.hid (add_high HB1.out.num.lt HB2.out.num.lt hge)
  have HLT := Lib.hid (add_fits HB1.out.num.lt HB2.out.num.lt hge)
  have hx1 : (n2 : Int) ≤ c := by omega
  have hx3 : (n2 : Int) ≤ c2 := by omega
  have HBD := Lib.hid (HB0.out.trans (hbd.mono (by omega : B ≤ w.heap.size)))
  have HBK := Lib.hid hg2
  have HSZ := Lib.hid hsz
  clear hk hg2 hbd hsz
  generalize hcar : (N1 % W64 ^ n2 + N2 % W64 ^ n2) / W64 ^ n2 = cr at *
  go_upto_region 10 with fail
  go_region_held3 (fun _ => True) (exact trivial) ((go_at_call 185; (with_reducible refine (addVV_any g 0 n2 c g 0 c b2 o2 c2 _ N1 N2 _ HBK.out ?_ ?_ ?_ ?_ ?_ ?_ ?_ ?_ ?_ ?_ ?_ ?_).mono ?_); omega; (rw [HSZ.out]; omega); omega; (unfold maxLen; omega); exact HD1.out.wcells0 hge; omega; (unfold maxLen; omega); exact HD2.out.wcells0 (Nat.le_refl _); omega; (unfold maxLen; omega); exact .inr (Nat.le_refl _); exact .inl HNE.out; rintro e w2 ⟨rfl, hR2⟩; rw [hcar]))
  have HB3 := Lib.hid (hR2.upd.below HBD.out (show B ≤ w.drew.heap.size from by have := hgl; show B ≤ w.heap.size; omega) (fun k _ e => by subst e; exact hBg))
  clear hx1 hx3
  by_cases hgt : n2 < n1
  · have hd : decide (n2 < n1) = true := by simpa using hgt
    have hx1 : (n2 : Int) ≤ n1 := by omega
    have hx2 : (n1 : Int) ≤ c := by omega
    have hx3 : (n2 : Int) ≤ c := by omega
    have hn1 : ¬ c = n2 := by omega
    obtain ⟨cur2, hk1, hk2, hk3, hk4⟩ := hR2.blk
    have HW1 := Lib.hid (show WCells w2 g n2 (n1 - n2) (dg W64 (N1 / W64 ^ n2)) from fun i hi => by
      have := (HD1.out.wcells (k := n2) (m := n1 - n2) (by omega)) i hi
      rw [Nat.zero_add] at this
      rw [hk1.cell, hk4 _ (by omega), ← HBK.out.cell]
      exact this)
    have HK := Lib.hid (show cur2.size = c from by rw [hk2, HSZ.out])
    have HSZ2 := Lib.hid hR2.upd.size
    have HK1 := Lib.hid hk1
    have HK3 := Lib.hid hk3
    clear hk1 hk2 hk3 hk4 hR2
    go_upto_region 12 with fail
    have hd2 : Below w2.heap.size w2 w2.drew := (Below.refl _ _).drew
    go_region_held3 (fun _ => True) (exact trivial) ((go_at_call 186; (with_reducible refine (addVW_self g n2 (n1 - n2) (c - n2) cur2 (N1 / W64 ^ n2) cr _ ?_ ?_ ?_ ?_ ?_ ?_ ?_ ?_).mono ?_); exact HK1.out.keep (by assumption); omega; omega; (rw [HK.out]; omega); omega; (unfold maxLen; omega); (intro j hj; exact cell_keep (HW1.out j hj) (by assumption)); (unfold W64; omega); rintro e w3 ⟨rfl, hR3⟩; rw [← HH.out.2]))
    obtain ⟨cur3, hk1, hk2, hk3, hk4⟩ := hR3.blk
    have hsz3 : cur3.size = c := by rw [hk2, HK.out]
    obtain ⟨u0, p0⟩ : ∃ u0, w3.cell? ⟨g, n1, none⟩ = some u0 := ⟨_, by rw [hk1.cell n1, Array.getElem?_eq_getElem (by omega)]⟩
    have f0 := hk1.frozen n1
    obtain ⟨W4, hW4⟩ : ∃ W4, W4 = w3.setCell ⟨g, n1, none⟩ (.int .u64 (dg W64 (N1 + N2) n1 : Nat)) := ⟨_, rfl⟩
    have hset := hk1.set n1 (.int .u64 (dg W64 (N1 + N2) n1 : Nat))
    rw [← hW4] at hset
    have HBf := Lib.hid (show Below B w0 W4 from by
      rw [hW4]
      have hs2 : B ≤ w2.heap.size := by have := HSZ2.out; have h3 : w.drew.heap.size = w.heap.size := rfl; omega
      exact (hR3.upd.below (HB3.out.trans (hd2.mono hs2)) hs2 (fun k _ e => by subst e; exact hBg)).setCell hBg _)
    obtain ⟨hcl, hbn⟩ := bigN_row (c := c) (m := n1 + 1) (N := N1 + N2) hset (by simpa using hsz3) (fun i hi => by
      rw [Array.getElem?_setIfInBounds]
      by_cases e : n1 = i
      · subst e; rw [if_pos rfl, if_pos (by omega)]
      · rw [if_neg e]
        by_cases hlo : i < n2
        · rw [hk4 i (.inl hlo)]
          have := HK3.out i hlo
          simpa using this
        · have := hk3 (i - n2) (by omega)
          rw [show n2 + (i - n2) = i from by omega] at this
          rw [this, ← HH.out.1, dg_div, show n2 + (i - n2) = i from by omega]) hcr (by unfold maxLen; omega) HLT.out
    have HCL := Lib.hid hcl
    have HBN := Lib.hid hbn
    have HW4 := Lib.hid hW4
    clear hk1 hk2 hk3 hk4 hcl hbn hW4 hset hR3 hsz3
    go_wp2_with fail
    rw [← HW4.out]
    refine (norm_any (some ⟨g, 0, none⟩) (n1 + 1) c (dg W64 (N1 + N2)) _ (by omega) (by omega) (by unfold maxLen; omega) (by simp) HCL.out).mono ?_
    rintro e w5 ⟨rfl, rfl⟩
    go_wp2
    go_ret
    exact ⟨_, rfl, HBN.out, HBf.out⟩
  · have hd : decide (n2 < n1) = false := by simpa using hgt
    obtain rfl : n1 = n2 := by omega
    have hroom := hR2.room (j := n1) (by rw [HSZ.out]; omega)
    obtain ⟨⟨u0, p0⟩, f0⟩ := hroom
    have hcr2 : cr = dg W64 (N1 + N2) n1 := by
      rw [HH.out.2]; simp [Nat.mod_one]
    obtain ⟨W3, hW3⟩ : ∃ W3, W3 = w2.setCell ⟨g, n1, none⟩ (.int .u64 (cr : Nat)) := ⟨_, rfl⟩
    have HR3 := Lib.hid (hR2.step (by rw [HSZ.out]; omega) hcr2)
    have HW3 := Lib.hid hW3
    simp only [Nat.zero_add] at HR3
    rw [← hW3] at HR3
    have HRB := Lib.hid (show Below B w0 W3 from by rw [hW3]; exact HB3.out.setCell hBg _)
    obtain ⟨cur3, hk1, hk2, hk3, hk4⟩ := HR3.out.blk
    obtain ⟨hcl, hbn⟩ := bigN_row (c := c) (m := n1 + 1) hk1 (by rw [hk2, HSZ.out]) (fun i hi => by have := hk3 i hi; simpa using this) hcr (by unfold maxLen; omega) HLT.out
    have HCL := Lib.hid hcl
    have HBN := Lib.hid hbn
    clear hk1 hk2 hk3 hk4 hcl hbn hR2 hW3 hcr2 hgt
    go_wp2_with fail
    rw [← HW3.out]
    refine (norm_any (some ⟨g, 0, none⟩) (n1 + 1) c (dg W64 (N1 + N2)) _ (by omega) (by omega) (by unfold maxLen; omega) (by simp) HCL.out).mono ?_
    rintro e w4 ⟨rfl, rfl⟩
    go_wp2
    go_ret
    exact ⟨_, rfl, HBN.out, HRB.out⟩
end Go.Proofs.YtdkipndepkblhaaGreatDoor
