/-
  Contracts and lemmas: OwnS IntA LehI.
-/
import Derived.Test.YtececkbcinmmpaaGreatDoorM19
import Derived.Test.YtececkbcinmmpaaGreatDoorM26
import Derived.Test.YtececkbcinmmpaaGreatDoorM20
set_option linter.unusedSimpArgs false
set_option linter.unusedVariables false
set_option maxRecDepth 100000
set_option maxHeartbeats 8000000
namespace Go.Proofs.YtececkbcinmmpaaGreatDoor
open Go.RowKit Go.Bg Dg
theorem natSub_apart (g : Nat) (az : Option Addr) (nz cz : Nat) (b1 o1 b2 o2 n1 n2 c1 c2 N1 N2 : Nat) (w : World) (hgg : InB az g ∨ w.heap.size ≤ g) (hmk : Calls Tryz.prog 204 #[.slice az nz cz, .int .i64 n1] w (MadeG 139 g n1 w))
    (h1 : BigN 139 w (some ⟨b1, o1, none⟩) n1 c1 N1) (h2 : BigN 139 w (some ⟨b2, o2, none⟩) n2 c2 N2) (hb1 : n1 ≤ 900000) (hle : N2 ≤ N1) (h0 : 0 < n2) (hge : n2 ≤ n1) (hne : b1 ≠ g) :
    Calls Tryz.prog 146 #[.slice az nz cz, .slice (some ⟨b1, o1, none⟩) n1 c1, .slice (some ⟨b2, o2, none⟩) n2 c2] w (GivesI 139 az (N1 - N2) w) := by
  have hm1 := h1.num.cm
  have hm2 := h2.num.cm
  have hc1 := h1.num.nc
  have hc2 := h2.num.nc
  unfold maxLen at hm1 hm2
  obtain ⟨-, curA, hA, -⟩ := h1.start
  have hz1 : ((n1 : Int) == 0) = false := by simp; omega
  have hz2 : ((n2 : Int) == 0) = false := by simp; omega
  have HB1 := Lib.hid h1
  have HB2 := Lib.hid h2
  have HM := Lib.hid hmk
  have HG := Lib.hid hgg
  clear h1 h2 hmk hgg
  go_enter Tryz.func146, Tryz.ntmps146
  go_wp2_with fail
  refine HM.out.mono ?_
  rintro e w1 ⟨c, cur, rfl, hK, hsz, hcn1, hcn2, hB1⟩
  have hbd : Below w1.heap.size w1 w1.drew := (Below.refl _ _).drew
  have hg2 := hK.keep hbd
  have hbw := hB1.trans (hbd.mono hB1.size)
  have HD1 := Lib.hid (HB1.out.num.keep hbw)
  have HD2 := Lib.hid (HB2.out.num.keep hbw)
  have hA1 := hA.keep hbw
  clear hA
  have hca := bor_le N1 N2 n2
  have HH := Lib.hid (sub_high hle HB1.out.num.lt HB2.out.num.lt hge)
  have HLT := Lib.hid (show N1 - N2 < W64 ^ n1 from Nat.lt_of_le_of_lt (Nat.sub_le _ _) HB1.out.num.lt)
  have hx1 : (n2 : Int) ≤ c := by omega
  have hx2 : (n2 : Int) ≤ c1 := by omega
  have hx3 : (n2 : Int) ≤ c2 := by omega
  have HBD := Lib.hid hbw
  have HBK := Lib.hid hg2
  have hcm2 := hcn2
  unfold maxLen at hcm2
  clear hK hg2 hbd hB1 hbw
  have HLE := Lib.hid hle
  generalize hcar : bor N1 N2 n2 = cr at *
  go_upto_region 10 with fail
  go_region_held3 (fun _ => True) (exact trivial) ((go_at_call 207; (with_reducible refine (subVV_any g 0 n2 c b1 o1 c1 b2 o2 c2 _ N1 N2 HLE.out _ HBK.out ?_ ?_ ?_ ?_ ?_ ?_ ?_ ?_ ?_ ?_ ?_ ?_).mono ?_); omega; omega; omega; exact hcn2; exact HD1.out.wcells0 hge; omega; (unfold maxLen; omega); exact HD2.out.wcells0 (Nat.le_refl _); omega; (unfold maxLen; omega); exact .inr (Nat.zero_le _); exact .inr (Nat.zero_le _); rintro e w2 ⟨rfl, hR2⟩; rw [hcar]))
  clear hx1 hx2 hx3
  by_cases hgt : n2 < n1
  · have hd : decide (n2 < n1) = true := by simpa using hgt
    have hx1 : (n2 : Int) ≤ n1 := by omega
    have hx2 : (n2 : Int) ≤ c := by omega
    have hx3 : (n2 : Int) ≤ c1 := by omega
    have hn1 : ¬ c = n2 := by omega
    have hn2 : ¬ c1 = n2 := by omega
    have HU2 := Lib.hid hR2.upd
    obtain ⟨cur2, hk1, hk2, hk3, hk4⟩ := hR2.blk
    have HSZ := Lib.hid hsz
    have HK4 := Lib.hid hk4
    have HQ1 := Lib.hid (hR2.upd.blk hA1 hne)
    have HW1 := Lib.hid (show WCells w2 b1 (o1 + n2) (n1 - n2) (dg W64 (N1 / W64 ^ n2)) from fun i hi => by
      have := (HD1.out.wcells (k := n2) (m := n1 - n2) (by omega)) i hi
      rw [hR2.upd.cell (p := ⟨b1, o1 + n2 + i, none⟩) (block_lt this) hne]
      exact this)
    clear hA1
    have HK := Lib.hid (show cur2.size = c from by rw [hk2, hsz])
    have HK1 := Lib.hid hk1
    have HK3 := Lib.hid hk3
    clear hk1 hk2 hk3 hk4 hR2 hsz
    go_upto_region 12 with fail
    have hd2 : Below w2.heap.size w2 w2.drew := (Below.refl _ _).drew
    go_region_held3 (fun _ => True) (exact trivial) ((go_at_call 208; (with_reducible refine (subVW_upd g n2 (n1 - n2) (c - n2) b1 (o1 + n2) (c1 - n2) cur2 curA 139 (N1 / W64 ^ n2) cr _ ?_ ?_ ?_ ?_ ?_ ?_ ?_ ?_ ?_ ?_ ?_ ?_ HH.out.2.1).mono ?_); exact HK1.out.keep (by assumption); exact HQ1.out.keep (by assumption); omega; omega; (rw [HK.out]; omega); omega; (unfold maxLen; omega); (intro j hj; exact cell_keep (HW1.out j hj) (by assumption)); omega; (unfold maxLen; omega); exact hne; (unfold W64; omega); rintro e w3 ⟨rfl, hR3⟩; rw [HH.out.2.2.1]))
    have hR : RowUp 139 w1.drew w3 g 0 n1 cur (dg W64 (N1 - N2)) := by
      obtain ⟨cur3, q1, q2, q3, q4⟩ := hR3.blk
      refine ⟨(HU2.out.then hd2).trans hR3.upd, cur3, q1, q2.trans (HK.out.trans HSZ.out.symm), fun i hi => ?_, fun j hj => ?_⟩
      · by_cases hlo : i < n2
        · rw [Nat.zero_add, q4 i (.inl hlo)]
          have := HK3.out i hlo
          simpa using this
        · have := q3 (i - n2) (by omega)
          rw [show n2 + (i - n2) = i from by omega] at this
          rw [Nat.zero_add, this, ← HH.out.1, Dg.dg_div, show n2 + (i - n2) = i from by omega]
      · rw [q4 j (by omega)]
        exact HK4.out j (by omega)
    have hEE := givesI_row HBD.out HG.out HSZ.out hR hcn1 hcn2 HLT.out
    have HCL := Lib.hid hEE.1
    have HEE := Lib.hid hEE.2
    clear hEE hR hR3
    go_wp2_with fail
    refine (norm_any (some ⟨g, 0, none⟩) n1 c (dg W64 (N1 - N2)) _ (by omega) (by omega) hcn2 (by simp) HCL.out).mono ?_
    rintro e w5 ⟨rfl, rfl⟩
    go_wp2
    go_ret
    exact HEE.out
  · have hd : decide (n2 < n1) = false := by simpa using hgt
    obtain rfl : n1 = n2 := by omega
    have hcr : cr = 0 := HH.out.2.2.2 rfl
    subst hcr
    have hEE := givesI_row HBD.out HG.out hsz hR2 hcn1 hcn2 HLT.out
    have HCL := Lib.hid hEE.1
    have HEE := Lib.hid hEE.2
    clear hEE hR2 hgt hsz
    go_wp2_with fail
    refine (norm_any (some ⟨g, 0, none⟩) n1 c (dg W64 (N1 - N2)) _ (by omega) (by omega) hcn2 (by simp) HCL.out).mono ?_
    rintro e w4 ⟨rfl, rfl⟩
    go_wp2
    go_ret
    exact HEE.out
theorem natSub_same (g : Nat) (az : Option Addr) (nz cz : Nat) (b1 o1 b2 o2 n1 n2 c1 c2 N1 N2 : Nat) (w : World) (hgg : InB az g ∨ w.heap.size ≤ g) (hmk : Calls Tryz.prog 204 #[.slice az nz cz, .int .i64 n1] w (MadeG 139 g n1 w))
    (h1 : BigN 139 w (some ⟨b1, o1, none⟩) n1 c1 N1) (h2 : BigN 139 w (some ⟨b2, o2, none⟩) n2 c2 N2) (hb1 : n1 ≤ 900000) (hle : N2 ≤ N1) (h0 : 0 < n2) (hge : n2 ≤ n1) (hne : b1 = g) :
    Calls Tryz.prog 146 #[.slice az nz cz, .slice (some ⟨b1, o1, none⟩) n1 c1, .slice (some ⟨b2, o2, none⟩) n2 c2] w (GivesI 139 az (N1 - N2) w) := by
  have hm1 := h1.num.cm
  have hm2 := h2.num.cm
  have hc1 := h1.num.nc
  have hc2 := h2.num.nc
  unfold maxLen at hm1 hm2
  obtain ⟨ho1, curA, hA, hAs⟩ := h1.start
  subst ho1
  subst hne
  have hz1 : ((n1 : Int) == 0) = false := by simp; omega
  have hz2 : ((n2 : Int) == 0) = false := by simp; omega
  have HB1 := Lib.hid h1
  have HB2 := Lib.hid h2
  have HM := Lib.hid hmk
  have HG := Lib.hid hgg
  clear h1 h2 hmk hgg
  go_enter Tryz.func146, Tryz.ntmps146
  go_wp2_with fail
  refine HM.out.mono ?_
  rintro e w1 ⟨c, cur, rfl, hK, hsz, hcn1, hcn2, hB1⟩
  have hbd : Below w1.heap.size w1 w1.drew := (Below.refl _ _).drew
  have hg2 := hK.keep hbd
  have hbw := hB1.trans (hbd.mono hB1.size)
  have HD1 := Lib.hid (HB1.out.num.keep hbw)
  have HD2 := Lib.hid (HB2.out.num.keep hbw)
  obtain rfl : c = c1 := by
    have h2 := hA.keep hB1
    unfold BlkAt at h2 hK
    rw [h2] at hK
    injection hK with hK
    injection hK with hK _ _
    rw [← hsz, ← hAs, hK]
  clear hA hAs
  have hca := bor_le N1 N2 n2
  have HH := Lib.hid (sub_high hle HB1.out.num.lt HB2.out.num.lt hge)
  have HLT := Lib.hid (show N1 - N2 < W64 ^ n1 from Nat.lt_of_le_of_lt (Nat.sub_le _ _) HB1.out.num.lt)
  have hx1 : (n2 : Int) ≤ c := by omega
  have hx2 : (n2 : Int) ≤ c := by omega
  have hx3 : (n2 : Int) ≤ c2 := by omega
  have HBD := Lib.hid hbw
  have HBK := Lib.hid hg2
  have hcm2 := hcn2
  unfold maxLen at hcm2
  clear hK hg2 hbd hB1 hbw
  have HLE := Lib.hid hle
  generalize hcar : bor N1 N2 n2 = cr at *
  go_upto_region 10 with fail
  go_region_held3 (fun _ => True) (exact trivial) ((go_at_call 207; (with_reducible refine (subVV_any b1 0 n2 c b1 0 c b2 o2 c2 _ N1 N2 HLE.out _ HBK.out ?_ ?_ ?_ ?_ ?_ ?_ ?_ ?_ ?_ ?_ ?_ ?_).mono ?_); omega; omega; omega; exact hcn2; exact HD1.out.wcells0 hge; omega; (unfold maxLen; omega); exact HD2.out.wcells0 (Nat.le_refl _); omega; (unfold maxLen; omega); exact .inr (Nat.zero_le _); exact .inr (Nat.zero_le _); rintro e w2 ⟨rfl, hR2⟩; rw [hcar]))
  clear hx1 hx2 hx3
  by_cases hgt : n2 < n1
  · have hd : decide (n2 < n1) = true := by simpa using hgt
    have hx1 : (n2 : Int) ≤ n1 := by omega
    have hx2 : (n2 : Int) ≤ c := by omega
    have hx3 : (n2 : Int) ≤ c := by omega
    have hn1 : ¬ c = n2 := by omega
    have hn2 : ¬ c = n2 := by omega
    have HU2 := Lib.hid hR2.upd
    obtain ⟨cur2, hk1, hk2, hk3, hk4⟩ := hR2.blk
    have HSZ := Lib.hid hsz
    have HK4 := Lib.hid hk4
    have HW1 := Lib.hid (show WCells w2 b1 n2 (n1 - n2) (dg W64 (N1 / W64 ^ n2)) from fun i hi => by
      have := (HD1.out.wcells (k := n2) (m := n1 - n2) (by omega)) i hi
      rw [Nat.zero_add] at this
      rw [hk1.cell, hk4 _ (by omega), ← HBK.out.cell]
      exact this)
    have HK := Lib.hid (show cur2.size = c from by rw [hk2, hsz])
    have HK1 := Lib.hid hk1
    have HK3 := Lib.hid hk3
    clear hk1 hk2 hk3 hk4 hR2 hsz
    go_upto_region 12 with fail
    have hd2 : Below w2.heap.size w2 w2.drew := (Below.refl _ _).drew
    go_region_held3 (fun _ => True) (exact trivial) ((go_at_call 208; (with_reducible refine (subVW_self b1 n2 (n1 - n2) (c - n2) cur2 (N1 / W64 ^ n2) cr _ ?_ ?_ ?_ ?_ ?_ ?_ ?_ ?_ HH.out.2.1).mono ?_); exact HK1.out.keep (by assumption); omega; omega; (rw [HK.out]; omega); omega; (unfold maxLen; omega); (intro j hj; exact cell_keep (HW1.out j hj) (by assumption)); (unfold W64; omega); rintro e w3 ⟨rfl, hR3⟩; rw [HH.out.2.2.1]))
    have hR : RowUp 139 w1.drew w3 b1 0 n1 cur (dg W64 (N1 - N2)) := by
      obtain ⟨cur3, q1, q2, q3, q4⟩ := hR3.blk
      refine ⟨(HU2.out.then hd2).trans hR3.upd, cur3, q1, q2.trans (HK.out.trans HSZ.out.symm), fun i hi => ?_, fun j hj => ?_⟩
      · by_cases hlo : i < n2
        · rw [Nat.zero_add, q4 i (.inl hlo)]
          have := HK3.out i hlo
          simpa using this
        · have := q3 (i - n2) (by omega)
          rw [show n2 + (i - n2) = i from by omega] at this
          rw [Nat.zero_add, this, ← HH.out.1, Dg.dg_div, show n2 + (i - n2) = i from by omega]
      · rw [q4 j (by omega)]
        exact HK4.out j (by omega)
    have hEE := givesI_row HBD.out HG.out HSZ.out hR hcn1 hcn2 HLT.out
    have HCL := Lib.hid hEE.1
    have HEE := Lib.hid hEE.2
    clear hEE hR hR3
    go_wp2_with fail
    refine (norm_any (some ⟨b1, 0, none⟩) n1 c (dg W64 (N1 - N2)) _ (by omega) (by omega) hcn2 (by simp) HCL.out).mono ?_
    rintro e w5 ⟨rfl, rfl⟩
    go_wp2
    go_ret
    exact HEE.out
  · have hd : decide (n2 < n1) = false := by simpa using hgt
    obtain rfl : n1 = n2 := by omega
    have hcr : cr = 0 := HH.out.2.2.2 rfl
    subst hcr
    have hEE := givesI_row HBD.out HG.out hsz hR2 hcn1 hcn2 HLT.out
    have HCL := Lib.hid hEE.1
    have HEE := Lib.hid hEE.2
    clear hEE hR2 hgt hsz
    go_wp2_with fail
    refine (norm_any (some ⟨b1, 0, none⟩) n1 c (dg W64 (N1 - N2)) _ (by omega) (by omega) hcn2 (by simp) HCL.out).mono ?_
    rintro e w4 ⟨rfl, rfl⟩
    go_wp2
    go_ret
    exact HEE.out
theorem natSub_into (az : Option Addr) (nz cz Z : Nat) (a1 a2 : Option Addr) (n1 n2 c1 c2 N1 N2 : Nat) (w : World) (h0 : BigN 139 w az nz cz Z) (h1 : BigN 139 w a1 n1 c1 N1) (h2 : BigN 139 w a2 n2 c2 N2) (hb1 : n1 ≤ 900000) (hle : N2 ≤ N1) (h20 : 0 < n2) :
    Calls Tryz.prog 146 #[.slice az nz cz, .slice a1 n1 c1, .slice a2 n2 c2] w (GivesI 139 az (N1 - N2) w) := by
  have hge : n2 ≤ n1 := len_le W64_gt h2.num.top (Nat.lt_of_le_of_lt hle h1.num.lt)
  obtain ⟨g, hg, hmk⟩ := make_into az nz cz Z n1 w h0 (by omega) (by omega)
  obtain ⟨b1, o1, rfl, hl1⟩ := h1.num.form (by omega)
  obtain ⟨b2, o2, rfl, hl2⟩ := h2.num.form (by omega)
  by_cases hne : b1 = g
  · exact natSub_same g az nz cz b1 o1 b2 o2 n1 n2 c1 c2 N1 N2 w hg hmk h1 h2 hb1 hle h20 hge hne
  · exact natSub_apart g az nz cz b1 o1 b2 o2 n1 n2 c1 c2 N1 N2 w hg hmk h1 h2 hb1 hle h20 hge hne
theorem natSub0_into (az : Option Addr) (nz cz Z : Nat) (a1 a2 : Option Addr) (n1 c1 c2 N1 : Nat) (w : World) (h0 : BigN 139 w az nz cz Z) (h1 : BigN 139 w a1 n1 c1 N1) (hb1 : n1 ≤ 900000) (h10 : 0 < n1) (hd : ∀ k, InB a1 k → ¬ InB az k) :
    Calls Tryz.prog 146 #[.slice az nz cz, .slice a1 n1 c1, .slice a2 0 c2] w (GivesI 139 az N1 w) := by
  have HS := Lib.hid (natSet_into az nz cz Z a1 n1 c1 N1 w h0 h1.num h10 (by omega) hd)
  have hz1 : ((n1 : Int) == 0) = false := by simp; omega
  clear h0 h1 hd
  go_enter Tryz.func146, Tryz.ntmps146
  go_wp2_with fail
  refine HS.out.mono ?_
  rintro e w1 ⟨a, n, c, rfl, hE⟩
  have HE := Lib.hid hE
  clear hE
  go_wp2
  go_ret
  exact ⟨_, _, _, rfl, HE.out⟩
theorem mulW_any (z x : Rg) (neg : Bool) (y : Nat) (w : World) (hz : RA w z) (hx : RA w x) (hy : y < W64) (hn : x.n ≤ 900000) :
    Calls Tryz.prog 248 #[.pointer (some ⟨z.b, 0, none⟩), .pointer (some ⟨x.b, 0, none⟩), .bool neg, .int .u64 y] w fun e w' => e = .returned (.tuple #[]) ∧ ∃ z', RTo z z' w w' ∧ z'.s = (x.s != neg) ∧ z'.N = x.N * y := by
  have HZ := Lib.hid hz
  have HX := Lib.hid hx
  have HY := Lib.hid hy
  have p1 := hz.c1
  have q1 := hx.c1
  have hzz := hz.notIn hz
  have hxz := hx.notIn hz
  clear hz hx hy
  go_enter Tryz.func248, Tryz.ntmps248
  have hd0 : ∀ q, Below w.heap.size w (w.drewN q) := fun q => below_drewN (Below.refl w.heap.size w) q
  go_upto_region 0 with fail
  go_region_with
    ((go_at_call 237; (with_reducible refine (natMulW_into z.a z.n z.c z.N x.a x.n x.c x.N y _ ?_ ?_ hn HY.out).mono ?_); exact HZ.out.num.keep (hd0 _); exact HX.out.num.keep (hd0 _); rintro e w1 ⟨a2, n2, c2, rfl, hN2, hU2, hP2⟩; have HF := Lib.hid (HZ.out.done (hd0 _) hU2 hN2 hP2 (x.s != neg)); have h' := (HZ.out.blk.keep (hd0 _)).upd hU2 hzz; have k0 : w1.cell? ⟨z.b, 0, none⟩ = some (.bool z.s) := (by rw [hU2.cell (p := ⟨z.b, 0, none⟩) (Nat.lt_of_lt_of_le HZ.out.blk.lt (hd0 _).size) hzz]; exact cell_keep HZ.out.c0 (hd0 _)); have k1 : w1.cell? ⟨z.b, 1, none⟩ = some (.slice z.a z.n z.c) := (by rw [hU2.cell (p := ⟨z.b, 1, none⟩) (Nat.lt_of_lt_of_le HZ.out.blk.lt (hd0 _).size) hzz]; exact cell_keep HZ.out.c1 (hd0 _)); have x0 : w1.cell? ⟨x.b, 0, none⟩ = some (.bool x.s) := (by rw [hU2.cell (p := ⟨x.b, 0, none⟩) (Nat.lt_of_lt_of_le HX.out.blk.lt (hd0 _).size) hxz]; exact cell_keep HX.out.c0 (hd0 _)); have f0 := h'.frozen 0; have f1 := h'.frozen 1; have k0' : ∀ v, (w1.setCell ⟨z.b, 1, none⟩ v).cell? ⟨z.b, 0, none⟩ = some (.bool z.s) := (fun v => by rw [World.cell?_setCell_other _ _ _ _ (fun hh => by injection hh with _ hh _; omega)]; exact k0); have x0' : ∀ v, (w1.setCell ⟨z.b, 1, none⟩ v).cell? ⟨x.b, 0, none⟩ = some (.bool x.s) := (fun v => by rw [World.cell?_setCell_other _ _ _ _ (fun hh => by injection hh with _ hh _; omega)]; exact x0); clear hN2 h' k0 x0 hU2 hP2))
  all_goals
    clear p1 q1
    go_wp2
    go_end0
    exact ⟨rfl, _, HF.out, rfl, rfl⟩
theorem natSub_all (az : Option Addr) (nz cz Z : Nat) (a1 a2 : Option Addr) (n1 n2 c1 c2 N1 N2 : Nat) (w : World) (h0 : BigN 139 w az nz cz Z) (h1 : BigN 139 w a1 n1 c1 N1) (h2 : BigN 139 w a2 n2 c2 N2) (hb1 : n1 ≤ 900000) (hle : N2 ≤ N1) (hd : n2 = 0 → 0 < n1 ∧ ∀ k, InB a1 k → ¬ InB az k) :
    Calls Tryz.prog 146 #[.slice az nz cz, .slice a1 n1 c1, .slice a2 n2 c2] w (GivesI 139 az (N1 - N2) w) := by
  rcases Nat.eq_zero_or_pos n2 with h | h
  · subst h
    have e : N2 = 0 := by have := h2.num.lt; simpa using this
    subst e
    exact natSub0_into az nz cz Z a1 a2 n1 c1 c2 N1 w h0 h1 hb1 (hd rfl).1 (hd rfl).2
  · exact natSub_into az nz cz Z a1 a2 n1 n2 c1 c2 N1 N2 w h0 h1 h2 hb1 hle h
theorem intAdd_reg (z y : Rg) (w : World) (hz : RA w z) (hy : RA w y) (ho : y.Off z) (hs : z.s ≠ y.s) (hy0 : 0 < y.N) (hn : z.n ≤ 900000) (hn' : y.n ≤ 900000) :
    Calls Tryz.prog 77 #[.pointer (some ⟨z.b, 0, none⟩), .pointer (some ⟨z.b, 0, none⟩), .pointer (some ⟨y.b, 0, none⟩)] w fun e w' => e = .returned (.pointer (some ⟨z.b, 0, none⟩)) ∧ ∃ z', RTo z z' w w' ∧ sg z'.s z'.N = sg z.s z.N + sg y.s y.N ∧ (z'.s = true → 0 < z'.N) := by
  have HZ := Lib.hid hz
  have HY := Lib.hid hy
  have HO := Lib.hid ho
  have p0 := hz.c0
  have p1 := hz.c1
  have q0 := hy.c0
  have q1 := hy.c1
  have hzz := hz.notIn hz
  have hsb : (z.s == y.s) = false := by
    cases h1 : z.s <;> cases h2 : y.s <;> simp_all
  have HS := Lib.hid hs
  have hy00 : 0 < y.n := by have := natAt_pos_len hy.num.num; simpa [hy0] using this
  clear hz hy ho hs
  have hd0 : ∀ q, Below w.heap.size w (w.drewN q) := fun q => below_drewN (Below.refl w.heap.size w) q
  by_cases hle : y.N ≤ z.N
  · have hc := cmpK_ge hle
    have HD := Lib.hid (sum_other HS.out hle)
    go_enter Tryz.func77, Tryz.ntmps77
    go_upto_region 2 with fail
    go_quiet (fail)
    go_upto_region 4 with fail
    go_quiet (first | (go_at_call 145; refine quiet_of2 (natCmp_any _ _ _ _ _ _ z.N y.N _ (HZ.out.num.num.drewN _) (HY.out.num.num.drewN _))))
    generalize cmpI z.N y.N = k at *
    go_upto_region 5 with fail
    go_region_with
      ((go_at_call 146; (with_reducible refine (natSub_all z.a z.n z.c z.N z.a y.a z.n y.n z.c y.c z.N y.N _ ?_ ?_ ?_ hn hle (fun h => absurd h (by omega))).mono ?_); exact HZ.out.num.keep (hd0 _); exact HZ.out.num.keep (hd0 _); exact HY.out.num.keep (hd0 _); rintro e w1 ⟨a2, n2, c2, rfl, hN2, hU2, hP2⟩; have HP := Lib.hid (natAt_pos_len hN2.num); have hcm2 := hN2.num.cm; have hnc2 := hN2.num.nc; have HF := Lib.hid (fun s' => HZ.out.done (hd0 _) hU2 hN2 hP2 s'); have h' := (HZ.out.blk.keep (hd0 _)).upd hU2 hzz; have k0 : w1.cell? ⟨z.b, 0, none⟩ = some (.bool z.s) := (by rw [hU2.cell (p := ⟨z.b, 0, none⟩) (Nat.lt_of_lt_of_le HZ.out.blk.lt (hd0 _).size) hzz]; exact cell_keep HZ.out.c0 (hd0 _)); have k1 : w1.cell? ⟨z.b, 1, none⟩ = some (.slice z.a z.n z.c) := (by rw [hU2.cell (p := ⟨z.b, 1, none⟩) (Nat.lt_of_lt_of_le HZ.out.blk.lt (hd0 _).size) hzz]; exact cell_keep HZ.out.c1 (hd0 _)); have f0 := h'.frozen 0; have f1 := h'.frozen 1; have k0' : ∀ v, (w1.setCell ⟨z.b, 1, none⟩ v).cell? ⟨z.b, 0, none⟩ = some (.bool z.s) := (fun v => by rw [World.cell?_setCell_other _ _ _ _ (fun hh => by injection hh with _ hh _; omega)]; exact k0); clear hN2 h' k0 hU2 hP2))
    all_goals
      clear p0 p1 q0 q1
      by_cases hr : 0 < n2
      · go_wp2
        go_ret
        have hp : 0 < (z.N - y.N) := by have := HP.out; simpa [hr] using this.symm
        refine ⟨rfl, _, HF.out _, ?_, fun _ => hp⟩
        have := HD.out
        simpa [hp] using this
      · go_wp2
        go_ret
        have hp : ¬ 0 < (z.N - y.N) := by have := HP.out; simpa [hr] using this
        refine ⟨rfl, _, HF.out false, ?_, fun h => by cases h⟩
        have := HD.out
        simpa [hp] using this
  · have hlt : z.N < y.N := by omega
    have hc := cmpK_lt hlt
    have HD := Lib.hid (sum_other' HS.out hlt)
    go_enter Tryz.func77, Tryz.ntmps77
    go_upto_region 2 with fail
    go_quiet (fail)
    go_upto_region 4 with fail
    go_quiet (first | (go_at_call 145; refine quiet_of2 (natCmp_any _ _ _ _ _ _ z.N y.N _ (HZ.out.num.num.drewN _) (HY.out.num.num.drewN _))))
    generalize cmpI z.N y.N = k at *
    go_upto_region 7 with fail
    go_region_with
      ((go_at_call 146; (with_reducible refine (natSub_all z.a z.n z.c z.N y.a z.a y.n z.n y.c z.c y.N z.N _ ?_ ?_ ?_ hn' (Nat.le_of_lt hlt) (fun _ => ⟨hy00, HO.out.dat⟩)).mono ?_); exact HZ.out.num.keep (hd0 _); exact HY.out.num.keep (hd0 _); exact HZ.out.num.keep (hd0 _); rintro e w1 ⟨a2, n2, c2, rfl, hN2, hU2, hP2⟩; have HP := Lib.hid (natAt_pos_len hN2.num); have hcm2 := hN2.num.cm; have hnc2 := hN2.num.nc; have HF := Lib.hid (fun s' => HZ.out.done (hd0 _) hU2 hN2 hP2 s'); have h' := (HZ.out.blk.keep (hd0 _)).upd hU2 hzz; have k0 : w1.cell? ⟨z.b, 0, none⟩ = some (.bool z.s) := (by rw [hU2.cell (p := ⟨z.b, 0, none⟩) (Nat.lt_of_lt_of_le HZ.out.blk.lt (hd0 _).size) hzz]; exact cell_keep HZ.out.c0 (hd0 _)); have k1 : w1.cell? ⟨z.b, 1, none⟩ = some (.slice z.a z.n z.c) := (by rw [hU2.cell (p := ⟨z.b, 1, none⟩) (Nat.lt_of_lt_of_le HZ.out.blk.lt (hd0 _).size) hzz]; exact cell_keep HZ.out.c1 (hd0 _)); have f0 := h'.frozen 0; have f1 := h'.frozen 1; have k0' : ∀ v, (w1.setCell ⟨z.b, 1, none⟩ v).cell? ⟨z.b, 0, none⟩ = some (.bool z.s) := (fun v => by rw [World.cell?_setCell_other _ _ _ _ (fun hh => by injection hh with _ hh _; omega)]; exact k0); clear hN2 h' k0 hU2 hP2))
    all_goals
      clear p0 p1 q0 q1
      by_cases hr : 0 < n2
      · go_wp2
        go_ret
        have hp : 0 < (y.N - z.N) := by have := HP.out; simpa [hr] using this.symm
        refine ⟨rfl, _, HF.out _, ?_, fun _ => hp⟩
        have := HD.out
        simpa [hp] using this
      · go_wp2
        go_ret
        have hp : ¬ 0 < (y.N - z.N) := by have := HP.out; simpa [hr] using this
        refine ⟨rfl, _, HF.out false, ?_, fun h => by cases h⟩
        have := HD.out
        simpa [hp] using this
end Go.Proofs.YtececkbcinmmpaaGreatDoor
