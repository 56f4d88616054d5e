/-
  Contracts and lemmas: OwnS IntA LehI LehQ.
-/
import Derived.Test.YtgmienggfaahlaaGreatDoorK20
import Derived.Test.YtgmienggfaahlaaGreatDoorK23
import Derived.Test.YtgmienggfaahlaaGreatDoorK11
import Derived.BigRegion
import Derived.Deep.CutRange
set_option linter.unusedSimpArgs false
set_option linter.unusedVariables false
set_option maxRecDepth 100000
set_option maxHeartbeats 8000000
namespace Go.Proofs.YtgmienggfaahlaaGreatDoor
open Go.RowKit Go.Bg Dg
theorem natSub_apart (g : Nat) (az : Option Addr) (nz cz : Nat) (b1 o1 b2 o2 n1 n2 c1 c2 N1 N2 : Nat) (w : World) (hgg : InB az g ∨ w.heap.size ≤ g) (hmk : Calls Tryz.prog 194 #[.slice az nz cz, .int .i64 n1] w (MadeG 155 g n1 w))
    (h1 : BigN 155 w (some ⟨b1, o1, none⟩) n1 c1 N1) (h2 : BigN 155 w (some ⟨b2, o2, none⟩) n2 c2 N2) (hb1 : n1 ≤ 900000) (hle : N2 ≤ N1) (h0 : 0 < n2) (hge : n2 ≤ n1) (hne : b1 ≠ g) :
    Calls Tryz.prog 138 #[.slice az nz cz, .slice (some ⟨b1, o1, none⟩) n1 c1, .slice (some ⟨b2, o2, none⟩) n2 c2] w (GivesI 155 az (N1 - N2) w) := by
  have hm1 := h1.num.cm
  have hm2 := h2.num.cm
  have hc1 := h1.num.nc
  have hc2 := h2.num.nc
  unfold maxLen at hm1 hm2
  obtain ⟨-, curA, hA, -⟩ := h1.start
  have hz1 : ((n1 : Int) == 0) = false := by simp; omega
  have hz2 : ((n2 : Int) == 0) = false := by simp; omega
  have HB1 := Lib.hid h1
  have HB2 := Lib.hid h2
  have HM := Lib.hid hmk
  have HG := Lib.hid hgg
  clear h1 h2 hmk hgg
  go_enter Tryz.func138, Tryz.ntmps138
  go_wp2_with fail
  refine HM.out.mono ?_
  rintro e w1 ⟨c, cur, rfl, hK, hsz, hcn1, hcn2, hB1⟩
  have hbd : Below w1.heap.size w1 w1.drew := (Below.refl _ _).drew
  have hg2 := hK.keep hbd
  have hbw := hB1.trans (hbd.mono hB1.size)
  have HD1 := Lib.hid (HB1.out.num.keep hbw)
  have HD2 := Lib.hid (HB2.out.num.keep hbw)
  have hA1 := hA.keep hbw
  clear hA
  have hca := bor_le N1 N2 n2
  have HH := Lib.hid (sub_high hle HB1.out.num.lt HB2.out.num.lt hge)
  have HLT := Lib.hid (show N1 - N2 < W64 ^ n1 from Nat.lt_of_le_of_lt (Nat.sub_le _ _) HB1.out.num.lt)
  have hx1 : (n2 : Int) ≤ c := by omega
  have hx2 : (n2 : Int) ≤ c1 := by omega
  have hx3 : (n2 : Int) ≤ c2 := by omega
  have HBD := Lib.hid hbw
  have HBK := Lib.hid hg2
  have hcm2 := hcn2
  unfold maxLen at hcm2
  clear hK hg2 hbd hB1 hbw
  have HLE := Lib.hid hle
  generalize hcar : bor N1 N2 n2 = cr at *
  go_upto_region 10 with fail
  go_region_held3 (fun _ => True) (exact trivial) ((go_at_call 197; (with_reducible refine (subVV_any g 0 n2 c b1 o1 c1 b2 o2 c2 _ N1 N2 HLE.out _ HBK.out ?_ ?_ ?_ ?_ ?_ ?_ ?_ ?_ ?_ ?_ ?_ ?_).mono ?_); omega; omega; omega; exact hcn2; exact HD1.out.wcells0 hge; omega; (unfold maxLen; omega); exact HD2.out.wcells0 (Nat.le_refl _); omega; (unfold maxLen; omega); exact .inr (Nat.zero_le _); exact .inr (Nat.zero_le _); rintro e w2 ⟨rfl, hR2⟩; rw [hcar]))
  clear hx1 hx2 hx3
  by_cases hgt : n2 < n1
  · have hd : decide (n2 < n1) = true := by simpa using hgt
    have hx1 : (n2 : Int) ≤ n1 := by omega
    have hx2 : (n2 : Int) ≤ c := by omega
    have hx3 : (n2 : Int) ≤ c1 := by omega
    have hn1 : ¬ c = n2 := by omega
    have hn2 : ¬ c1 = n2 := by omega
    have HU2 := Lib.hid hR2.upd
    obtain ⟨cur2, hk1, hk2, hk3, hk4⟩ := hR2.blk
    have HSZ := Lib.hid hsz
    have HK4 := Lib.hid hk4
    have HQ1 := Lib.hid (hR2.upd.blk hA1 hne)
    have HW1 := Lib.hid (show WCells w2 b1 (o1 + n2) (n1 - n2) (dg W64 (N1 / W64 ^ n2)) from fun i hi => by
      have := (HD1.out.wcells (k := n2) (m := n1 - n2) (by omega)) i hi
      rw [hR2.upd.cell (p := ⟨b1, o1 + n2 + i, none⟩) (block_lt this) hne]
      exact this)
    clear hA1
    have HK := Lib.hid (show cur2.size = c from by rw [hk2, hsz])
    have HK1 := Lib.hid hk1
    have HK3 := Lib.hid hk3
    clear hk1 hk2 hk3 hk4 hR2 hsz
    go_upto_region 12 with fail
    have hd2 : Below w2.heap.size w2 w2.drew := (Below.refl _ _).drew
    go_region_held3 (fun _ => True) (exact trivial) ((go_at_call 198; (with_reducible refine (subVW_upd g n2 (n1 - n2) (c - n2) b1 (o1 + n2) (c1 - n2) cur2 curA 155 (N1 / W64 ^ n2) cr _ ?_ ?_ ?_ ?_ ?_ ?_ ?_ ?_ ?_ ?_ ?_ ?_ HH.out.2.1).mono ?_); exact HK1.out.keep (by assumption); exact HQ1.out.keep (by assumption); omega; omega; (rw [HK.out]; omega); omega; (unfold maxLen; omega); (intro j hj; exact cell_keep (HW1.out j hj) (by assumption)); omega; (unfold maxLen; omega); exact hne; (unfold W64; omega); rintro e w3 ⟨rfl, hR3⟩; rw [HH.out.2.2.1]))
    have hR : RowUp 155 w1.drew w3 g 0 n1 cur (dg W64 (N1 - N2)) := by
      obtain ⟨cur3, q1, q2, q3, q4⟩ := hR3.blk
      refine ⟨(HU2.out.then hd2).trans hR3.upd, cur3, q1, q2.trans (HK.out.trans HSZ.out.symm), fun i hi => ?_, fun j hj => ?_⟩
      · by_cases hlo : i < n2
        · rw [Nat.zero_add, q4 i (.inl hlo)]
          have := HK3.out i hlo
          simpa using this
        · have := q3 (i - n2) (by omega)
          rw [show n2 + (i - n2) = i from by omega] at this
          rw [Nat.zero_add, this, ← HH.out.1, Dg.dg_div, show n2 + (i - n2) = i from by omega]
      · rw [q4 j (by omega)]
        exact HK4.out j (by omega)
    have hEE := givesI_row HBD.out HG.out HSZ.out hR hcn1 hcn2 HLT.out
    have HCL := Lib.hid hEE.1
    have HEE := Lib.hid hEE.2
    clear hEE hR hR3
    go_wp2_with fail
    refine (norm_any (some ⟨g, 0, none⟩) n1 c (dg W64 (N1 - N2)) _ (by omega) (by omega) hcn2 (by simp) HCL.out).mono ?_
    rintro e w5 ⟨rfl, rfl⟩
    go_wp2
    go_ret
    exact HEE.out
  · have hd : decide (n2 < n1) = false := by simpa using hgt
    obtain rfl : n1 = n2 := by omega
    have hcr : cr = 0 := HH.out.2.2.2 rfl
    subst hcr
    have hEE := givesI_row HBD.out HG.out hsz hR2 hcn1 hcn2 HLT.out
    have HCL := Lib.hid hEE.1
    have HEE := Lib.hid hEE.2
    clear hEE hR2 hgt hsz
    go_wp2_with fail
    refine (norm_any (some ⟨g, 0, none⟩) n1 c (dg W64 (N1 - N2)) _ (by omega) (by omega) hcn2 (by simp) HCL.out).mono ?_
    rintro e w4 ⟨rfl, rfl⟩
    go_wp2
    go_ret
    exact HEE.out
theorem natSub_same (g : Nat) (az : Option Addr) (nz cz : Nat) (b1 o1 b2 o2 n1 n2 c1 c2 N1 N2 : Nat) (w : World) (hgg : InB az g ∨ w.heap.size ≤ g) (hmk : Calls Tryz.prog 194 #[.slice az nz cz, .int .i64 n1] w (MadeG 155 g n1 w))
    (h1 : BigN 155 w (some ⟨b1, o1, none⟩) n1 c1 N1) (h2 : BigN 155 w (some ⟨b2, o2, none⟩) n2 c2 N2) (hb1 : n1 ≤ 900000) (hle : N2 ≤ N1) (h0 : 0 < n2) (hge : n2 ≤ n1) (hne : b1 = g) :
    Calls Tryz.prog 138 #[.slice az nz cz, .slice (some ⟨b1, o1, none⟩) n1 c1, .slice (some ⟨b2, o2, none⟩) n2 c2] w (GivesI 155 az (N1 - N2) w) := by
  have hm1 := h1.num.cm
  have hm2 := h2.num.cm
  have hc1 := h1.num.nc
  have hc2 := h2.num.nc
  unfold maxLen at hm1 hm2
  obtain ⟨ho1, curA, hA, hAs⟩ := h1.start
  subst ho1
  subst hne
  have hz1 : ((n1 : Int) == 0) = false := by simp; omega
  have hz2 : ((n2 : Int) == 0) = false := by simp; omega
  have HB1 := Lib.hid h1
  have HB2 := Lib.hid h2
  have HM := Lib.hid hmk
  have HG := Lib.hid hgg
  clear h1 h2 hmk hgg
  go_enter Tryz.func138, Tryz.ntmps138
  go_wp2_with fail
  refine HM.out.mono ?_
  rintro e w1 ⟨c, cur, rfl, hK, hsz, hcn1, hcn2, hB1⟩
  have hbd : Below w1.heap.size w1 w1.drew := (Below.refl _ _).drew
  have hg2 := hK.keep hbd
  have hbw := hB1.trans (hbd.mono hB1.size)
  have HD1 := Lib.hid (HB1.out.num.keep hbw)
  have HD2 := Lib.hid (HB2.out.num.keep hbw)
  obtain rfl : c = c1 := by
    have h2 := hA.keep hB1
    unfold BlkAt at h2 hK
    rw [h2] at hK
    injection hK with hK
    injection hK with hK _ _
    rw [← hsz, ← hAs, hK]
  clear hA hAs
  have hca := bor_le N1 N2 n2
  have HH := Lib.hid (sub_high hle HB1.out.num.lt HB2.out.num.lt hge)
  have HLT := Lib.hid (show N1 - N2 < W64 ^ n1 from Nat.lt_of_le_of_lt (Nat.sub_le _ _) HB1.out.num.lt)
  have hx1 : (n2 : Int) ≤ c := by omega
  have hx2 : (n2 : Int) ≤ c := by omega
  have hx3 : (n2 : Int) ≤ c2 := by omega
  have HBD := Lib.hid hbw
  have HBK := Lib.hid hg2
  have hcm2 := hcn2
  unfold maxLen at hcm2
  clear hK hg2 hbd hB1 hbw
  have HLE := Lib.hid hle
  generalize hcar : bor N1 N2 n2 = cr at *
  go_upto_region 10 with fail
  go_region_held3 (fun _ => True) (exact trivial) ((go_at_call 197; (with_reducible refine (subVV_any b1 0 n2 c b1 0 c b2 o2 c2 _ N1 N2 HLE.out _ HBK.out ?_ ?_ ?_ ?_ ?_ ?_ ?_ ?_ ?_ ?_ ?_ ?_).mono ?_); omega; omega; omega; exact hcn2; exact HD1.out.wcells0 hge; omega; (unfold maxLen; omega); exact HD2.out.wcells0 (Nat.le_refl _); omega; (unfold maxLen; omega); exact .inr (Nat.zero_le _); exact .inr (Nat.zero_le _); rintro e w2 ⟨rfl, hR2⟩; rw [hcar]))
  clear hx1 hx2 hx3
  by_cases hgt : n2 < n1
  · have hd : decide (n2 < n1) = true := by simpa using hgt
    have hx1 : (n2 : Int) ≤ n1 := by omega
    have hx2 : (n2 : Int) ≤ c := by omega
    have hx3 : (n2 : Int) ≤ c := by omega
    have hn1 : ¬ c = n2 := by omega
    have hn2 : ¬ c = n2 := by omega
    have HU2 := Lib.hid hR2.upd
    obtain ⟨cur2, hk1, hk2, hk3, hk4⟩ := hR2.blk
    have HSZ := Lib.hid hsz
    have HK4 := Lib.hid hk4
    have HW1 := Lib.hid (show WCells w2 b1 n2 (n1 - n2) (dg W64 (N1 / W64 ^ n2)) from fun i hi => by
      have := (HD1.out.wcells (k := n2) (m := n1 - n2) (by omega)) i hi
      rw [Nat.zero_add] at this
      rw [hk1.cell, hk4 _ (by omega), ← HBK.out.cell]
      exact this)
    have HK := Lib.hid (show cur2.size = c from by rw [hk2, hsz])
    have HK1 := Lib.hid hk1
    have HK3 := Lib.hid hk3
    clear hk1 hk2 hk3 hk4 hR2 hsz
    go_upto_region 12 with fail
    have hd2 : Below w2.heap.size w2 w2.drew := (Below.refl _ _).drew
    go_region_held3 (fun _ => True) (exact trivial) ((go_at_call 198; (with_reducible refine (subVW_self b1 n2 (n1 - n2) (c - n2) cur2 (N1 / W64 ^ n2) cr _ ?_ ?_ ?_ ?_ ?_ ?_ ?_ ?_ HH.out.2.1).mono ?_); exact HK1.out.keep (by assumption); omega; omega; (rw [HK.out]; omega); omega; (unfold maxLen; omega); (intro j hj; exact cell_keep (HW1.out j hj) (by assumption)); (unfold W64; omega); rintro e w3 ⟨rfl, hR3⟩; rw [HH.out.2.2.1]))
    have hR : RowUp 155 w1.drew w3 b1 0 n1 cur (dg W64 (N1 - N2)) := by
      obtain ⟨cur3, q1, q2, q3, q4⟩ := hR3.blk
      refine ⟨(HU2.out.then hd2).trans hR3.upd, cur3, q1, q2.trans (HK.out.trans HSZ.out.symm), fun i hi => ?_, fun j hj => ?_⟩
      · by_cases hlo : i < n2
        · rw [Nat.zero_add, q4 i (.inl hlo)]
          have := HK3.out i hlo
          simpa using this
        · have := q3 (i - n2) (by omega)
          rw [show n2 + (i - n2) = i from by omega] at this
          rw [Nat.zero_add, this, ← HH.out.1, Dg.dg_div, show n2 + (i - n2) = i from by omega]
      · rw [q4 j (by omega)]
        exact HK4.out j (by omega)
    have hEE := givesI_row HBD.out HG.out HSZ.out hR hcn1 hcn2 HLT.out
    have HCL := Lib.hid hEE.1
    have HEE := Lib.hid hEE.2
    clear hEE hR hR3
    go_wp2_with fail
    refine (norm_any (some ⟨b1, 0, none⟩) n1 c (dg W64 (N1 - N2)) _ (by omega) (by omega) hcn2 (by simp) HCL.out).mono ?_
    rintro e w5 ⟨rfl, rfl⟩
    go_wp2
    go_ret
    exact HEE.out
  · have hd : decide (n2 < n1) = false := by simpa using hgt
    obtain rfl : n1 = n2 := by omega
    have hcr : cr = 0 := HH.out.2.2.2 rfl
    subst hcr
    have hEE := givesI_row HBD.out HG.out hsz hR2 hcn1 hcn2 HLT.out
    have HCL := Lib.hid hEE.1
    have HEE := Lib.hid hEE.2
    clear hEE hR2 hgt hsz
    go_wp2_with fail
    refine (norm_any (some ⟨b1, 0, none⟩) n1 c (dg W64 (N1 - N2)) _ (by omega) (by omega) hcn2 (by simp) HCL.out).mono ?_
    rintro e w4 ⟨rfl, rfl⟩
    go_wp2
    go_ret
    exact HEE.out
theorem natSub_into (az : Option Addr) (nz cz Z : Nat) (a1 a2 : Option Addr) (n1 n2 c1 c2 N1 N2 : Nat) (w : World) (h0 : BigN 155 w az nz cz Z) (h1 : BigN 155 w a1 n1 c1 N1) (h2 : BigN 155 w a2 n2 c2 N2) (hb1 : n1 ≤ 900000) (hle : N2 ≤ N1) (h20 : 0 < n2) :
    Calls Tryz.prog 138 #[.slice az nz cz, .slice a1 n1 c1, .slice a2 n2 c2] w (GivesI 155 az (N1 - N2) w) := by
  have hge : n2 ≤ n1 := len_le W64_gt h2.num.top (Nat.lt_of_le_of_lt hle h1.num.lt)
  obtain ⟨g, hg, hmk⟩ := make_into az nz cz Z n1 w h0 (by omega) (by omega)
  obtain ⟨b1, o1, rfl, hl1⟩ := h1.num.form (by omega)
  obtain ⟨b2, o2, rfl, hl2⟩ := h2.num.form (by omega)
  by_cases hne : b1 = g
  · exact natSub_same g az nz cz b1 o1 b2 o2 n1 n2 c1 c2 N1 N2 w hg hmk h1 h2 hb1 hle h20 hge hne
  · exact natSub_apart g az nz cz b1 o1 b2 o2 n1 n2 c1 c2 N1 N2 w hg hmk h1 h2 hb1 hle h20 hge hne
theorem natSub0_into (az : Option Addr) (nz cz Z : Nat) (a1 a2 : Option Addr) (n1 c1 c2 N1 : Nat) (w : World) (h0 : BigN 155 w az nz cz Z) (h1 : BigN 155 w a1 n1 c1 N1) (hb1 : n1 ≤ 900000) (h10 : 0 < n1) (hd : ∀ k, InB a1 k → ¬ InB az k) :
    Calls Tryz.prog 138 #[.slice az nz cz, .slice a1 n1 c1, .slice a2 0 c2] w (GivesI 155 az N1 w) := by
  have HS := Lib.hid (natSet_into az nz cz Z a1 n1 c1 N1 w h0 h1.num h10 (by omega) hd)
  have hz1 : ((n1 : Int) == 0) = false := by simp; omega
  clear h0 h1 hd
  go_enter Tryz.func138, Tryz.ntmps138
  go_wp2_with fail
  refine HS.out.mono ?_
  rintro e w1 ⟨a, n, c, rfl, hE⟩
  have HE := Lib.hid hE
  clear hE
  go_wp2
  go_ret
  exact ⟨_, _, _, rfl, HE.out⟩
theorem mulW_any (z x : Rg) (neg : Bool) (y : Nat) (w : World) (hz : RA w z) (hx : RA w x) (hy : y < W64) (hn : x.n ≤ 900000) :
    Calls Tryz.prog 240 #[.pointer (some ⟨z.b, 0, none⟩), .pointer (some ⟨x.b, 0, none⟩), .bool neg, .int .u64 y] w fun e w' => e = .returned (.tuple #[]) ∧ ∃ z', RTo z z' w w' ∧ z'.s = (x.s != neg) ∧ z'.N = x.N * y := by
  have HZ := Lib.hid hz
  have HX := Lib.hid hx
  have HY := Lib.hid hy
  have p1 := hz.c1
  have q1 := hx.c1
  have hzz := hz.notIn hz
  have hxz := hx.notIn hz
  clear hz hx hy
  go_enter Tryz.func240, Tryz.ntmps240
  have hd0 : ∀ q, Below w.heap.size w (w.drewN q) := fun q => below_drewN (Below.refl w.heap.size w) q
  go_upto_region 0 with fail
  go_region_with
    ((go_at_call 230; (with_reducible refine (natMulW_into z.a z.n z.c z.N x.a x.n x.c x.N y _ ?_ ?_ hn HY.out).mono ?_); exact HZ.out.num.keep (hd0 _); exact HX.out.num.keep (hd0 _); rintro e w1 ⟨a2, n2, c2, rfl, hN2, hU2, hP2⟩; have HF := Lib.hid (HZ.out.done (hd0 _) hU2 hN2 hP2 (x.s != neg)); have h' := (HZ.out.blk.keep (hd0 _)).upd hU2 hzz; have k0 : w1.cell? ⟨z.b, 0, none⟩ = some (.bool z.s) := (by rw [hU2.cell (p := ⟨z.b, 0, none⟩) (Nat.lt_of_lt_of_le HZ.out.blk.lt (hd0 _).size) hzz]; exact cell_keep HZ.out.c0 (hd0 _)); have k1 : w1.cell? ⟨z.b, 1, none⟩ = some (.slice z.a z.n z.c) := (by rw [hU2.cell (p := ⟨z.b, 1, none⟩) (Nat.lt_of_lt_of_le HZ.out.blk.lt (hd0 _).size) hzz]; exact cell_keep HZ.out.c1 (hd0 _)); have x0 : w1.cell? ⟨x.b, 0, none⟩ = some (.bool x.s) := (by rw [hU2.cell (p := ⟨x.b, 0, none⟩) (Nat.lt_of_lt_of_le HX.out.blk.lt (hd0 _).size) hxz]; exact cell_keep HX.out.c0 (hd0 _)); have f0 := h'.frozen 0; have f1 := h'.frozen 1; have k0' : ∀ v, (w1.setCell ⟨z.b, 1, none⟩ v).cell? ⟨z.b, 0, none⟩ = some (.bool z.s) := (fun v => by rw [World.cell?_setCell_other _ _ _ _ (fun hh => by injection hh with _ hh _; omega)]; exact k0); have x0' : ∀ v, (w1.setCell ⟨z.b, 1, none⟩ v).cell? ⟨x.b, 0, none⟩ = some (.bool x.s) := (fun v => by rw [World.cell?_setCell_other _ _ _ _ (fun hh => by injection hh with _ hh _; omega)]; exact x0); clear hN2 h' k0 x0 hU2 hP2))
  all_goals
    clear p1 q1
    go_wp2
    go_end0
    exact ⟨rfl, _, HF.out, rfl, rfl⟩
theorem natSub_all (az : Option Addr) (nz cz Z : Nat) (a1 a2 : Option Addr) (n1 n2 c1 c2 N1 N2 : Nat) (w : World) (h0 : BigN 155 w az nz cz Z) (h1 : BigN 155 w a1 n1 c1 N1) (h2 : BigN 155 w a2 n2 c2 N2) (hb1 : n1 ≤ 900000) (hle : N2 ≤ N1) (hd : n2 = 0 → 0 < n1 ∧ ∀ k, InB a1 k → ¬ InB az k) :
    Calls Tryz.prog 138 #[.slice az nz cz, .slice a1 n1 c1, .slice a2 n2 c2] w (GivesI 155 az (N1 - N2) w) := by
  rcases Nat.eq_zero_or_pos n2 with h | h
  · subst h
    have e : N2 = 0 := by have := h2.num.lt; simpa using this
    subst e
    exact natSub0_into az nz cz Z a1 a2 n1 c1 c2 N1 w h0 h1 hb1 (hd rfl).1 (hd rfl).2
  · exact natSub_into az nz cz Z a1 a2 n1 n2 c1 c2 N1 N2 w h0 h1 h2 hb1 hle h
theorem intAdd_reg (z y : Rg) (w : World) (hz : RA w z) (hy : RA w y) (ho : y.Off z) (hs : z.s ≠ y.s) (hy0 : 0 < y.N) (hn : z.n ≤ 900000) (hn' : y.n ≤ 900000) :
    Calls Tryz.prog 61 #[.pointer (some ⟨z.b, 0, none⟩), .pointer (some ⟨z.b, 0, none⟩), .pointer (some ⟨y.b, 0, none⟩)] w fun e w' => e = .returned (.pointer (some ⟨z.b, 0, none⟩)) ∧ ∃ z', RTo z z' w w' ∧ sg z'.s z'.N = sg z.s z.N + sg y.s y.N ∧ (z'.s = true → 0 < z'.N) := by
  have HZ := Lib.hid hz
  have HY := Lib.hid hy
  have HO := Lib.hid ho
  have p0 := hz.c0
  have p1 := hz.c1
  have q0 := hy.c0
  have q1 := hy.c1
  have hzz := hz.notIn hz
  have hsb : (z.s == y.s) = false := by
    cases h1 : z.s <;> cases h2 : y.s <;> simp_all
  have HS := Lib.hid hs
  have hy00 : 0 < y.n := by have := natAt_pos_len hy.num.num; simpa [hy0] using this
  clear hz hy ho hs
  have hd0 : ∀ q, Below w.heap.size w (w.drewN q) := fun q => below_drewN (Below.refl w.heap.size w) q
  by_cases hle : y.N ≤ z.N
  · have hc := cmpK_ge hle
    have HD := Lib.hid (sum_other HS.out hle)
    go_enter Tryz.func61, Tryz.ntmps61
    go_upto_region 2 with fail
    go_quiet (fail)
    go_upto_region 4 with fail
    go_quiet (first | (go_at_call 137; refine quiet_of2 (natCmp_any _ _ _ _ _ _ z.N y.N _ (HZ.out.num.num.drewN _) (HY.out.num.num.drewN _))))
    generalize cmpI z.N y.N = k at *
    go_upto_region 5 with fail
    go_region_with
      ((go_at_call 138; (with_reducible refine (natSub_all z.a z.n z.c z.N z.a y.a z.n y.n z.c y.c z.N y.N _ ?_ ?_ ?_ hn hle (fun h => absurd h (by omega))).mono ?_); exact HZ.out.num.keep (hd0 _); exact HZ.out.num.keep (hd0 _); exact HY.out.num.keep (hd0 _); rintro e w1 ⟨a2, n2, c2, rfl, hN2, hU2, hP2⟩; have HP := Lib.hid (natAt_pos_len hN2.num); have hcm2 := hN2.num.cm; have hnc2 := hN2.num.nc; have HF := Lib.hid (fun s' => HZ.out.done (hd0 _) hU2 hN2 hP2 s'); have h' := (HZ.out.blk.keep (hd0 _)).upd hU2 hzz; have k0 : w1.cell? ⟨z.b, 0, none⟩ = some (.bool z.s) := (by rw [hU2.cell (p := ⟨z.b, 0, none⟩) (Nat.lt_of_lt_of_le HZ.out.blk.lt (hd0 _).size) hzz]; exact cell_keep HZ.out.c0 (hd0 _)); have k1 : w1.cell? ⟨z.b, 1, none⟩ = some (.slice z.a z.n z.c) := (by rw [hU2.cell (p := ⟨z.b, 1, none⟩) (Nat.lt_of_lt_of_le HZ.out.blk.lt (hd0 _).size) hzz]; exact cell_keep HZ.out.c1 (hd0 _)); have f0 := h'.frozen 0; have f1 := h'.frozen 1; have k0' : ∀ v, (w1.setCell ⟨z.b, 1, none⟩ v).cell? ⟨z.b, 0, none⟩ = some (.bool z.s) := (fun v => by rw [World.cell?_setCell_other _ _ _ _ (fun hh => by injection hh with _ hh _; omega)]; exact k0); clear hN2 h' k0 hU2 hP2))
    all_goals
      clear p0 p1 q0 q1
      by_cases hr : 0 < n2
      · go_wp2
        go_ret
        have hp : 0 < (z.N - y.N) := by have := HP.out; simpa [hr] using this.symm
        refine ⟨rfl, _, HF.out _, ?_, fun _ => hp⟩
        have := HD.out
        simpa [hp] using this
      · go_wp2
        go_ret
        have hp : ¬ 0 < (z.N - y.N) := by have := HP.out; simpa [hr] using this
        refine ⟨rfl, _, HF.out false, ?_, fun h => by cases h⟩
        have := HD.out
        simpa [hp] using this
  · have hlt : z.N < y.N := by omega
    have hc := cmpK_lt hlt
    have HD := Lib.hid (sum_other' HS.out hlt)
    go_enter Tryz.func61, Tryz.ntmps61
    go_upto_region 2 with fail
    go_quiet (fail)
    go_upto_region 4 with fail
    go_quiet (first | (go_at_call 137; refine quiet_of2 (natCmp_any _ _ _ _ _ _ z.N y.N _ (HZ.out.num.num.drewN _) (HY.out.num.num.drewN _))))
    generalize cmpI z.N y.N = k at *
    go_upto_region 7 with fail
    go_region_with
      ((go_at_call 138; (with_reducible refine (natSub_all z.a z.n z.c z.N y.a z.a y.n z.n y.c z.c y.N z.N _ ?_ ?_ ?_ hn' (Nat.le_of_lt hlt) (fun _ => ⟨hy00, HO.out.dat⟩)).mono ?_); exact HZ.out.num.keep (hd0 _); exact HY.out.num.keep (hd0 _); exact HZ.out.num.keep (hd0 _); rintro e w1 ⟨a2, n2, c2, rfl, hN2, hU2, hP2⟩; have HP := Lib.hid (natAt_pos_len hN2.num); have hcm2 := hN2.num.cm; have hnc2 := hN2.num.nc; have HF := Lib.hid (fun s' => HZ.out.done (hd0 _) hU2 hN2 hP2 s'); have h' := (HZ.out.blk.keep (hd0 _)).upd hU2 hzz; have k0 : w1.cell? ⟨z.b, 0, none⟩ = some (.bool z.s) := (by rw [hU2.cell (p := ⟨z.b, 0, none⟩) (Nat.lt_of_lt_of_le HZ.out.blk.lt (hd0 _).size) hzz]; exact cell_keep HZ.out.c0 (hd0 _)); have k1 : w1.cell? ⟨z.b, 1, none⟩ = some (.slice z.a z.n z.c) := (by rw [hU2.cell (p := ⟨z.b, 1, none⟩) (Nat.lt_of_lt_of_le HZ.out.blk.lt (hd0 _).size) hzz]; exact cell_keep HZ.out.c1 (hd0 _)); have f0 := h'.frozen 0; have f1 := h'.frozen 1; have k0' : ∀ v, (w1.setCell ⟨z.b, 1, none⟩ v).cell? ⟨z.b, 0, none⟩ = some (.bool z.s) := (fun v => by rw [World.cell?_setCell_other _ _ _ _ (fun hh => by injection hh with _ hh _; omega)]; exact k0); clear hN2 h' k0 hU2 hP2))
    all_goals
      clear p0 p1 q0 q1
      by_cases hr : 0 < n2
      · go_wp2
        go_ret
        have hp : 0 < (y.N - z.N) := by have := HP.out; simpa [hr] using this.symm
        refine ⟨rfl, _, HF.out _, ?_, fun _ => hp⟩
        have := HD.out
        simpa [hp] using this
      · go_wp2
        go_ret
        have hp : ¬ 0 < (y.N - z.N) := by have := HP.out; simpa [hr] using this
        refine ⟨rfl, _, HF.out false, ?_, fun h => by cases h⟩
        have := HD.out
        simpa [hp] using this
theorem intSet_own (b b1 o1 : Nat) (s : Bool) (N : Nat) (w : World) (h : NewInt w b 0) (h1 : BigAt 155 w b1 o1 s N) (hne : b ≠ b1) (h0 : 0 < N) (L : Nat) (hL : L ≤ 1000000) (hN : N < W64 ^ L) :
    Calls Tryz.prog 205 #[.pointer (some ⟨b, 0, none⟩), .pointer (some ⟨b1, o1, none⟩)] w (IntOwn b 0 s N w) := by
  obtain ⟨j, hj, hj2⟩ := Option.map_eq_some_iff.1 infoBigIntSize
  obtain ⟨cur1, e1, k1, _⟩ := h.blk
  obtain ⟨cur2, e2, k2, _⟩ := h1.blk
  have hq := run_neq_ptr_other (P := Tryz.prog) (a := ⟨b, 0, none⟩) (b := ⟨b1, o1, none⟩) w Tryz.underlying90 hj (by rw [hj2]; decide) (by intro h; injection h with h h' _; omega) k1 k2
  obtain ⟨a, n, c, p0, p1, hNN⟩ := h1.val
  have hn : n ≤ 1000000 := Nat.le_trans (len_le W64_gt hNN.num.top hN) hL
  have hn0 : 0 < n := by have := natAt_pos_len hNN.num; simpa [h0] using this
  have HH := Lib.hid h
  have HN := Lib.hid hNN
  have q1 := h.c1
  clear h h1 hNN hN k1 k2 hj2
  have hd0 : Below w.heap.size w w.drew := (Below.refl _ _).drew
  go_enter Tryz.func205, Tryz.ntmps205
  go_upto_region 2 with fail
  go_region_with
    ((go_at_call 143; (with_reducible refine (natSet_into none 0 0 0 a n c N _ (BigN.nil _ _) ?_ hn0 hn (fun k _ h => inB_none h)).mono ?_); exact (HN.out.keep hd0).num; rintro e w1 ⟨a2, n2, c2, rfl, hN2, hU2, hP2⟩; have hB := hU2.toBelow (fun k _ h => inB_none h); have hB1 := Below.then hd0 (Nat.le_refl _) hB; have HF := Lib.hid (HH.out.madeO hB1 hN2 (fun k hk => (hP2 k hk).imp id (Nat.le_trans hd0.size)) h0 (s := s)); have h' := HH.out.keep hB1; obtain ⟨u0, k0⟩ := h'.c0; have k1 := h'.c1; have f0 := h'.blk.frozen 0; have f1 := h'.blk.frozen 1; have p0' : w1.cell? ⟨b1, o1, none⟩ = some (.bool s) := cell_keep p0 hB1; have p0'' : ∀ v, (w1.setCell ⟨b, 1, none⟩ v).cell? ⟨b1, o1, none⟩ = some (.bool s) := (fun v => by
      rw [World.cell?_setCell_other _ _ _ _ (fun hh => by injection hh with hb _ _; exact hne hb)]
      exact p0'); have k0' : ∀ v, (w1.setCell ⟨b, 1, none⟩ v).cell? ⟨b, 0, none⟩ = some u0 := (fun v => by rw [World.cell?_setCell_other _ _ _ _ (fun hh => by injection hh with _ hh _; omega)]; exact k0); clear h' p0' hN2 hU2 hP2 hB hB1))
  all_goals
    clear p0 p1 q1
    go_wp2
    go_ret
    exact HF.out
theorem intAbs_own (b b1 o1 : Nat) (s : Bool) (N : Nat) (w : World) (h : NewInt w b 0) (h1 : BigAt 155 w b1 o1 s N) (hne : b ≠ b1) (h0 : 0 < N) (L : Nat) (hL : L ≤ 1000000) (hN : N < W64 ^ L) :
    Calls Tryz.prog 236 #[.pointer (some ⟨b, 0, none⟩), .pointer (some ⟨b1, o1, none⟩)] w fun e w' => e = .returned (.pointer (some ⟨b, 0, none⟩)) ∧ Upd (· = b) w w' ∧ ∃ g n c, RA w' ⟨b, false, some ⟨g, 0, none⟩, n, c, N⟩ ∧ w.heap.size ≤ g := by
  have HS := Lib.hid (intSet_own b b1 o1 s N w h h1 hne h0 L hL hN)
  clear h h1
  go_enter Tryz.func236, Tryz.ntmps236
  go_wp2_with fail
  refine HS.out.mono ?_
  rintro e w1 ⟨rfl, hU, g, n, c, hO, hg⟩
  have f0 := hO.blk.frozen 0
  have c0 := hO.c0
  have HR := Lib.hid (show RA (w1.setCell ⟨b, 0, none⟩ (.bool false)) ⟨b, false, some ⟨g, 0, none⟩, n, c, N⟩ from
    ⟨hO.blk.set _ _, World.cell?_setCell_same _ _ _ hO.c0, by rw [World.cell?_setCell_other _ _ _ _ (fun hh => by injection hh with _ hh _; omega)]; exact hO.c1, hO.num.set hO.blk _ _⟩)
  have HU := Lib.hid (hU.trans (Upd.set1 w1 b 0 (.bool false)))
  have HG := Lib.hid hg
  clear hO hU hg
  go_wp2
  go_ret
  exact ⟨rfl, HU.out, g, n, c, HR.out, HG.out⟩
structure QR (z r z' r' : Rg) (w w' : World) : Prop where
  bz : z'.b = z.b
  br : r'.b = r.b
  az : RA w' z'
  ar : RA w' r'
  upd : Upd (fun k => z.S k ∨ r.S k) w w'
  rz : ∀ k, InB z'.a k → InB z.a k ∨ w.heap.size ≤ k
  rr : ∀ k, InB r'.a k → InB r.a k ∨ w.heap.size ≤ k
  off : z'.Off r'
theorem QR.keep {z r z' r' : Rg} {w w' w'' : World} (h : QR z r z' r' w w') (hb : Below w'.heap.size w' w'') : QR z r z' r' w w'' :=
  ⟨h.bz, h.br, h.az.keep hb, h.ar.keep hb, h.upd.then hb, h.rz, h.rr, h.off⟩
theorem qr_done {z r : Rg} {w w0 w1 : World} (hz : RA w z) (hr : RA w r) (hne : z.b ≠ r.b) (hb : Below w.heap.size w w0) (hU : Upd (fun k => InB z.a k ∨ InB r.a k) w0 w1) {a a' : Option Addr} {n c n' c' Q R : Nat}
    (hQ : BigN 155 w1 a n c Q) (hR : BigN 155 w1 a' n' c' R) (h1 : ∀ k, InB a k → (InB z.a k ∨ w0.heap.size ≤ k) ∧ ¬ InB a' k) (h2 : ∀ k, InB a' k → InB r.a k ∨ w0.heap.size ≤ k) :
    QR z r ⟨z.b, false, a, n, c, Q⟩ ⟨r.b, false, a', n', c', R⟩ w ((((w1.setCell ⟨z.b, 1, none⟩ (.slice a n c)).setCell ⟨r.b, 1, none⟩ (.slice a' n' c')).setCell ⟨z.b, 0, none⟩ (.bool false)).setCell ⟨r.b, 0, none⟩ (.bool false)) := by
  have hz0 := hz.keep hb
  have hr0 := hr.keep hb
  have nz : ¬ (InB z.a z.b ∨ InB r.a z.b) := by rintro (h | h); exact hz0.notIn hz0 h; exact hz0.notIn hr0 h
  have nr : ¬ (InB z.a r.b ∨ InB r.a r.b) := by rintro (h | h); exact hr0.notIn hz0 h; exact hr0.notIn hr0 h
  have sz := hz0.blk.upd hU nz
  have sr := hr0.blk.upd hU nr
  have z0 : w1.cell? ⟨z.b, 0, none⟩ = some (.bool z.s) := by rw [hU.cell (p := ⟨z.b, 0, none⟩) hz0.blk.lt nz]; exact hz0.c0
  have z1 : w1.cell? ⟨z.b, 1, none⟩ = some (.slice z.a z.n z.c) := by rw [hU.cell (p := ⟨z.b, 1, none⟩) hz0.blk.lt nz]; exact hz0.c1
  have r0 : w1.cell? ⟨r.b, 0, none⟩ = some (.bool r.s) := by rw [hU.cell (p := ⟨r.b, 0, none⟩) hr0.blk.lt nr]; exact hr0.c0
  have r1 : w1.cell? ⟨r.b, 1, none⟩ = some (.slice r.a r.n r.c) := by rw [hU.cell (p := ⟨r.b, 1, none⟩) hr0.blk.lt nr]; exact hr0.c1
  have eb : ∀ (i j : Nat) (v : Value) (w : World), (w.setCell ⟨z.b, i, none⟩ v).cell? ⟨r.b, j, none⟩ = w.cell? ⟨r.b, j, none⟩ := fun i j v w => World.cell?_setCell_other _ _ _ _ (fun hh => by injection hh with hh _ _; exact hne hh)
  have eb' : ∀ (i j : Nat) (v : Value) (w : World), (w.setCell ⟨r.b, i, none⟩ v).cell? ⟨z.b, j, none⟩ = w.cell? ⟨z.b, j, none⟩ := fun i j v w => World.cell?_setCell_other _ _ _ _ (fun hh => by injection hh with hh _ _; exact hne hh.symm)
  have ei : ∀ (b i j : Nat) (v : Value) (w : World), i ≠ j → (w.setCell ⟨b, i, none⟩ v).cell? ⟨b, j, none⟩ = w.cell? ⟨b, j, none⟩ := fun b i j v w h => World.cell?_setCell_other _ _ _ _ (fun hh => by injection hh with _ hh _; exact h hh)
  have az : RA ((((w1.setCell ⟨z.b, 1, none⟩ (.slice a n c)).setCell ⟨r.b, 1, none⟩ (.slice a' n' c')).setCell ⟨z.b, 0, none⟩ (.bool false)).setCell ⟨r.b, 0, none⟩ (.bool false)) ⟨z.b, false, a, n, c, Q⟩ := by
    refine ⟨(((sz.set _ _).set _ _).set _ _).set _ _, ?_, ?_, (((hQ.set sz _ _).set (sr.set _ _) _ _).set ((sz.set _ _).set _ _) _ _).set (((sr.set _ _).set _ _).set _ _) _ _⟩
    · rw [eb']
      refine World.cell?_setCell_same _ _ _ (u := .bool z.s) ?_
      rw [eb', ei _ _ _ _ _ (by decide)]; exact z0
    · rw [eb', ei _ _ _ _ _ (by decide), eb']
      exact World.cell?_setCell_same _ _ _ z1
  have ar : RA ((((w1.setCell ⟨z.b, 1, none⟩ (.slice a n c)).setCell ⟨r.b, 1, none⟩ (.slice a' n' c')).setCell ⟨z.b, 0, none⟩ (.bool false)).setCell ⟨r.b, 0, none⟩ (.bool false)) ⟨r.b, false, a', n', c', R⟩ := by
    refine ⟨(((sr.set _ _).set _ _).set _ _).set _ _, ?_, ?_, (((hR.set sz _ _).set (sr.set _ _) _ _).set ((sz.set _ _).set _ _) _ _).set (((sr.set _ _).set _ _).set _ _) _ _⟩
    · refine World.cell?_setCell_same _ _ _ (u := .bool r.s) ?_
      rw [eb, ei _ _ _ _ _ (by decide), eb]; exact r0
    · rw [ei _ _ _ _ _ (by decide), eb]
      refine World.cell?_setCell_same _ _ _ (u := .slice r.a r.n r.c) ?_
      rw [eb]; exact r1
  refine ⟨rfl, rfl, az, ar, ?_, fun k hk => (h1 k hk).1.imp id (Nat.le_trans hb.size), fun k hk => (h2 k hk).imp id (Nat.le_trans hb.size), ?_⟩
  · exact ((((((Upd.of_below hb).trans (hU.mono (fun k _ hk => hk.imp .inr .inr))).setCell (p := ⟨z.b, 1, none⟩) (.inl (.inl rfl)) _).setCell (p := ⟨r.b, 1, none⟩) (.inr (.inl rfl)) _).setCell (p := ⟨z.b, 0, none⟩) (.inl (.inl rfl)) _).setCell (p := ⟨r.b, 0, none⟩) (.inr (.inl rfl)) _)
  · rintro k (rfl | hk) (hk' | hk')
    · exact hne hk'
    · exact az.notIn ar hk'
    · subst hk'; exact ar.notIn az hk
    · exact (h1 k hk).2 hk'
def QRMid (z r x y : Rg) (w wx : World) : Prop :=
  ∃ a2 n2 c2 a3 n3 c3, wx.cell? ⟨z.b, 1, none⟩ = some (.slice a2 n2 c2) ∧ wx.cell? ⟨r.b, 1, none⟩ = some (.slice a3 n3 c3) ∧ wx.cell? ⟨z.b, 0, none⟩ = some (.bool z.s) ∧ wx.cell? ⟨r.b, 0, none⟩ = some (.bool r.s) ∧ wx.cell? ⟨x.b, 0, none⟩ = some (.bool false) ∧ wx.cell? ⟨y.b, 0, none⟩ = some (.bool false) ∧
    wx.frozen? ⟨z.b, 0, none⟩ = false ∧ wx.frozen? ⟨r.b, 0, none⟩ = false ∧ n2 ≤ c2 ∧ c2 ≤ maxLen ∧ n3 ≤ c3 ∧ c3 ≤ maxLen ∧ 0 < n2 ∧
    QR z r ⟨z.b, false, a2, n2, c2, x.N / y.N⟩ ⟨r.b, false, a3, n3, c3, x.N % y.N⟩ w ((wx.setCell ⟨z.b, 0, none⟩ (.bool false)).setCell ⟨r.b, 0, none⟩ (.bool false))
theorem qr_mid {z r x y : Rg} {w w0 w1 : World} (hz : RA w z) (hr : RA w r) (hx : RA w x) (hy : RA w y) (xs : x.s = false) (ys : y.s = false) (hzr : z.b ≠ r.b) (hxz : x.b ≠ z.b) (hxr : x.b ≠ r.b) (hyz : y.b ≠ z.b) (hyr : y.b ≠ r.b) (hb : Below w.heap.size w w0) (hU : Upd (fun k => InB z.a k ∨ InB r.a k) w0 w1) {a a' : Option Addr} {n c n' c' : Nat}
    (hQ : BigN 155 w1 a n c (x.N / y.N)) (hR : BigN 155 w1 a' n' c' (x.N % y.N)) (h1 : ∀ k, InB a k → (InB z.a k ∨ w0.heap.size ≤ k) ∧ ¬ InB a' k) (h2 : ∀ k, InB a' k → InB r.a k ∨ w0.heap.size ≤ k) (hq0 : 0 < x.N / y.N) :
    QRMid z r x y w ((w1.setCell ⟨z.b, 1, none⟩ (.slice a n c)).setCell ⟨r.b, 1, none⟩ (.slice a' n' c')) := by
  have hcl : ∀ (u : Rg) (i : Nat) (v : Value), RA w u → w.cell? ⟨u.b, i, none⟩ = some v → w1.cell? ⟨u.b, i, none⟩ = some v := fun u i v hu hv => by
    rw [hU.cell (p := ⟨u.b, i, none⟩) (Nat.lt_of_lt_of_le hu.blk.lt hb.size) (fun h => by rcases h with h | h; exact hu.notIn hz h; exact hu.notIn hr h)]
    exact cell_keep hv hb
  have fz : ∀ (u : Rg), RA w u → w1.frozen? ⟨u.b, 0, none⟩ = false := fun u hu => ((hu.blk.keep hb).upd hU (fun h => by rcases h with h | h; exact hu.notIn hz h; exact hu.notIn hr h)).frozen 0
  have k1 := hcl z 1 _ hz hz.c1
  have l1 := hcl r 1 _ hr hr.c1
  have kz0 := hcl z 0 _ hz hz.c0
  have kr0 := hcl r 0 _ hr hr.c0
  have kx0 := hcl x 0 _ hx (xs ▸ hx.c0)
  have ky0 := hcl y 0 _ hy (ys ▸ hy.c0)
  have eb : ∀ (i j : Nat) (v : Value) (w : World), (w.setCell ⟨z.b, i, none⟩ v).cell? ⟨r.b, j, none⟩ = w.cell? ⟨r.b, j, none⟩ := fun i j v w => World.cell?_setCell_other _ _ _ _ (fun hh => by injection hh with hh _ _; exact hzr hh)
  have eb' : ∀ (i j : Nat) (v : Value) (w : World), (w.setCell ⟨r.b, i, none⟩ v).cell? ⟨z.b, j, none⟩ = w.cell? ⟨z.b, j, none⟩ := fun i j v w => World.cell?_setCell_other _ _ _ _ (fun hh => by injection hh with hh _ _; exact hzr hh.symm)
  have ei : ∀ (b i j : Nat) (v : Value) (w : World), i ≠ j → (w.setCell ⟨b, i, none⟩ v).cell? ⟨b, j, none⟩ = w.cell? ⟨b, j, none⟩ := fun b i j v w h => World.cell?_setCell_other _ _ _ _ (fun hh => by injection hh with _ hh _; exact h hh)
  refine ⟨a, n, c, a', n', c', ?_, ?_, ?_, ?_, ?_, ?_, ?_, ?_, hQ.num.nc, hQ.num.cm, hR.num.nc, hR.num.cm, ?_, qr_done hz hr hzr hb hU hQ hR h1 h2⟩
  · rw [eb']; exact World.cell?_setCell_same _ _ _ k1
  · refine World.cell?_setCell_same _ _ _ (u := .slice r.a r.n r.c) ?_
    rw [eb]; exact l1
  · rw [eb', ei _ _ _ _ _ (by decide)]; exact kz0
  · rw [ei _ _ _ _ _ (by decide), eb]; exact kr0
  · rw [World.cell?_setCell_other _ _ _ _ (fun hh => by injection hh with hh _ _; exact hxr hh.symm), World.cell?_setCell_other _ _ _ _ (fun hh => by injection hh with hh _ _; exact hxz hh.symm)]; exact kx0
  · rw [World.cell?_setCell_other _ _ _ _ (fun hh => by injection hh with hh _ _; exact hyr hh.symm), World.cell?_setCell_other _ _ _ _ (fun hh => by injection hh with hh _ _; exact hyz hh.symm)]; exact ky0
  · rw [World.frozen?_setCell, World.frozen?_setCell]; exact fz z hz
  · rw [World.frozen?_setCell, World.frozen?_setCell]; exact fz r hr
  · have := natAt_pos_len hQ.num; simpa [hq0] using this
theorem intQuoRem_reg (z x y r : Rg) (w : World) (hK : ThrD w) (hz : RA w z) (hx : RA w x) (hy : RA w y) (hr : RA w r) (hzr : z.Off r) (hxz : x.Off z) (hxr : x.Off r) (hyz : y.Off z) (hyr : y.Off r) (xs : x.s = false) (ys : y.s = false) (hy0 : 0 < y.N) (hle : y.N ≤ x.N) (hn1 : x.n ≤ 900) (hn40 : y.n < 40)
    (hv : ¬ z.S 3 ∧ ¬ r.S 3) :
    Calls Tryz.prog 272 #[.pointer (some ⟨z.b, 0, none⟩), .pointer (some ⟨x.b, 0, none⟩), .pointer (some ⟨y.b, 0, none⟩), .pointer (some ⟨r.b, 0, none⟩)] w fun e w' => e = .returned (.tuple #[.pointer (some ⟨z.b, 0, none⟩), .pointer (some ⟨r.b, 0, none⟩)]) ∧ ∃ z' r', QR z r z' r' w w' ∧ z'.s = false ∧ r'.s = false ∧ z'.N = x.N / y.N ∧ r'.N = x.N % y.N := by
  have HZ := Lib.hid hz
  have HX := Lib.hid hx
  have HY := Lib.hid hy
  have HR := Lib.hid hr
  have hnzr := hzr.ne
  have hnrz : r.b ≠ z.b := fun e => hnzr e.symm
  have hnzx : z.b ≠ x.b := fun e => hxz.ne e.symm
  have hnzy : z.b ≠ y.b := fun e => hyz.ne e.symm
  have hnrx : r.b ≠ x.b := fun e => hxr.ne e.symm
  have hnry : r.b ≠ y.b := fun e => hyr.ne e.symm
  have HD := Lib.hid (show ∀ w', Below w.heap.size w w' → Calls Tryz.prog 145 #[.slice z.a z.n z.c, .pointer none, .slice r.a r.n r.c, .slice x.a x.n x.c, .slice y.a y.n y.c] w' (GivesDI z.a r.a (x.N / y.N) (x.N % y.N) w') from fun w' hb =>
    natDiv_into z.a r.a z.n z.c z.N r.n r.c r.N x.a y.a x.n y.n x.c y.c x.N y.N w' (hK.keep hb) (hz.keep hb).num (hr.keep hb).num (hx.keep hb).num (hy.keep hb).num hy0 hn1 hn40 hle
      (fun k hk => ⟨fun h => hzr k (.inr h) (.inr hk), fun h => hxr k (.inr h) (.inr hk), fun h => hyr k (.inr h) (.inr hk)⟩) (fun k hk h => hxz k (.inr hk) (.inr h)) ⟨fun h => hv.1 (.inr h), fun h => hv.2 (.inr h)⟩)
  have p1 := hz.c1
  have q1 := hr.c1
  have x1 := hx.c1
  have y1 := hy.c1
  have NI := Lib.hid (show (∀ u : Rg, RA w u → ¬ (InB z.a u.b ∨ InB r.a u.b)) from fun u hu h => by rcases h with h | h; exact hu.notIn hz h; exact hu.notIn hr h)
  have HMD := Lib.hid (fun (w0 w1 : World) (a a' : Option Addr) (n c n' c' : Nat) hb hU hQ hR h1 h2 => qr_mid (w0 := w0) (w1 := w1) (a := a) (n := n) (c := c) (a' := a') (n' := n') (c' := c') hz hr hx hy xs ys hzr.ne hxz.ne hxr.ne hyz.ne hyr.ne hb hU hQ hR h1 h2 (Nat.div_pos hle hy0))
  clear hz hx hy hr hzr hxz hxr hyz hyr xs ys hK hv hle hnrz hnzx hnzy hnrx hnry
  have hd1 : Below w.heap.size w w.drew := (Below.refl _ _).drew
  go_enter Tryz.func272, Tryz.ntmps272
  go_upto_region 1 with fail
  go_cut [] from 10 to 35 (fun wx => QRMid z r x y w wx)
  case first =>
    go_region_with
      ((go_at_call 145; (with_reducible refine (HD.out _ hd1).mono ?_); rintro e w1 ⟨a2, n2, c2, a3, n3, c3, rfl, hN2, hN3, hU, hP2, hP3⟩; have HF := Lib.hid (HMD.out _ w1 a2 a3 n2 c2 n3 c3 hd1 hU hN2 hN3 hP2 hP3); have hcl : ∀ (u : Rg) (i : Nat) (v : Value), RA w u → w.cell? ⟨u.b, i, none⟩ = some v → w1.cell? ⟨u.b, i, none⟩ = some v := (fun u i v hu hv => by rw [hU.cell (p := ⟨u.b, i, none⟩) (Nat.lt_of_lt_of_le hu.blk.lt hd1.size) (NI.out _ hu)]; exact cell_keep hv hd1); have sz := (HZ.out.blk.keep hd1).upd hU (NI.out _ HZ.out); have sr := (HR.out.blk.keep hd1).upd hU (NI.out _ HR.out); have k1 := hcl z 1 _ HZ.out HZ.out.c1; have l1 := hcl r 1 _ HR.out HR.out.c1; have f1 := sz.frozen 1; have g1 := sr.frozen 1; have l1' : ∀ v, (w1.setCell ⟨z.b, 1, none⟩ v).cell? ⟨r.b, 1, none⟩ = some (.slice r.a r.n r.c) := (fun v => by rw [World.cell?_setCell_other _ _ _ _ (fun hh => by injection hh with hh _ _; exact hnzr hh)]; exact l1); clear hN2 hN3 hU hP2 hP3 hcl sz sr))
    all_goals
      go_wp2_with fail
      go_meet
      exact HF.out
  case rest =>
    obtain ⟨a2, n2, c2, a3, n3, c3, cz1, cr1, cz0, cr0, cx0, cy0, fz0, fr0, m1, m2, m3, m4, m5, hF⟩ := hcut
    have HF := Lib.hid hF
    have cr0' : ∀ v, (wc.setCell ⟨z.b, 0, none⟩ v).cell? ⟨r.b, 0, none⟩ = some (.bool r.s) := fun v => by rw [World.cell?_setCell_other _ _ _ _ (fun hh => by injection hh with hh _ _; exact hnzr hh)]; exact cr0
    unfold maxLen at m2 m4
    have hdd : decide (0 < n2) = true := by simpa using m5
    clear hF p1 q1 x1 y1
    by_cases hr3 : 0 < n3
    · have hde : decide (0 < n3) = true := by simpa using hr3
      go_upto_region 2 with fail
      go_region
      all_goals
        go_wp2
        refine bodyPost_ret (v := .tuple #[.pointer (some ⟨z.b, 0, none⟩), .pointer (some ⟨r.b, 0, none⟩)]) (by simp [results, Tryz.results272, go_sem]) rfl ⟨rfl, _, _, HF.out.keep ((Below.refl _ _).drew), rfl, rfl, rfl, rfl⟩
    · have hde : decide (0 < n3) = false := by simpa using hr3
      go_upto_region 2 with fail
      go_region
      all_goals
        go_wp2
        refine bodyPost_ret (v := .tuple #[.pointer (some ⟨z.b, 0, none⟩), .pointer (some ⟨r.b, 0, none⟩)]) (by simp [results, Tryz.results272, go_sem]) rfl ⟨rfl, _, _, HF.out.keep ((Below.refl _ _).drew), rfl, rfl, rfl, rfl⟩
end Go.Proofs.YtgmienggfaahlaaGreatDoor
