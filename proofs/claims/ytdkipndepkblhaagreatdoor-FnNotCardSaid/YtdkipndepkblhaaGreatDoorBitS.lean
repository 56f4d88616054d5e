/-
  nat.andNot into words that make finds; into words of its own. PRINTED BY wip/gen_bits.py.
-/
import Derived.Test.YtdkipndepkblhaaGreatDoorBuHH
import Derived.Test.YtdkipndepkblhaaGreatDoorBuBB
set_option linter.unusedSimpArgs false
set_option linter.unusedVariables false
namespace Go.Proofs.YtdkipndepkblhaaGreatDoor
open Go.RowKit Go.Bg Dg

/-- words in the block g, of a world in which nothing old has turned -/
def MadeIn (T : TypeId) (g n B : Nat) (w0 w : World) (e : Ending) (w' : World) : Prop :=
  ∃ c cur, e = .returned (.slice (some ⟨g, 0, none⟩) n c) ∧ BlkAt w' g cur T ∧ cur.size = c ∧ n ≤ c ∧ c ≤ 9223372036854775807 ∧ Below B w0 w' ∧ Below w.heap.size w w'

set_option maxRecDepth 100000 in
set_option maxHeartbeats 600000 in
theorem natAndNot_geM (g B : Nat) (a0 : Option Addr) (nz cz : Nat) (w0 : World) (a1 a2 : Option Addr) (n1 n2 c1 c2 N1 N2 : Nat) (w : World) (h1 : BigN 151 w a1 n1 c1 N1) (h2 : BigN 151 w a2 n2 c2 N2) (hb1 : n1 ≤ 900000) (hge : n2 ≤ n1) (hz2 : 0 < n2) (hmk : Calls Tryz.prog 184 #[.slice a0 nz cz, .int .i64 n1] w (MadeIn 151 g n1 B w0 w)) (hBg : B ≤ g) (hp1 : ∀ p, a1 = some p → p.block ≠ g) (hp2 : ∀ p, a2 = some p → p.block ≠ g) :
    Calls Tryz.prog 138 #[.slice a0 nz cz, .slice a1 n1 c1, .slice a2 n2 c2] w (GivesB 151 (andn N1 N2) B w0) := by
  have hm1 := h1.num.cm
  have hm2 := h2.num.cm
  have hc1 := h1.num.nc
  have hc2 := h2.num.nc
  unfold maxLen at hm1 hm2
  have HLT := Lib.hid (andn_lt h1.num.lt N2)
  have HHI := Lib.hid (show ∀ i, n2 ≤ i → i < n1 → dg W64 (andn N1 N2) i = dg W64 N1 i from fun i hi _ => by
    have hz : dg W64 N2 i = 0 := by
      unfold dg; rw [Nat.div_eq_of_lt (Nat.lt_of_lt_of_le h2.num.lt (Nat.pow_le_pow_right W64_pos hi)), Nat.zero_mod]
    rw [dg_andn, hz, andn_zero])
  obtain ⟨b1, o1, rfl, -⟩ := h1.num.form (by omega)
  have hl1 : b1 ≠ g := hp1 _ rfl
  obtain ⟨b2, o2, rfl, -⟩ := h2.num.form (by omega)
  have hl2 : b2 ≠ g := hp2 _ rfl
  have HB1 := Lib.hid h1
  have HB2 := Lib.hid h2
  clear h1 h2
  have hd : decide (n1 < n2) = false := by simp; omega
  have hlt : ¬ ((n1 : Int) < n2) := by omega
  have HMK := Lib.hid hmk
  have HBG := Lib.hid hBg
  clear hmk hBg hp1 hp2
  go_enter Tryz.func138, Tryz.ntmps138
  go_wp2_with fail
  refine HMK.out.mono ?_
  rintro e w1 ⟨c, cur0, rfl, hb, hsz, hcn1, hcn2, hBD, hbd⟩
  have HD1 := Lib.hid (HB1.out.num.keep hbd)
  have HD2 := Lib.hid (HB2.out.num.keep hbd)
  have HBK := Lib.hid hb
  have HBD := Lib.hid hBD
  clear hb hbd hBD
  go_wp2
  go_loopw [9] (fun i wr => ∃ k : Nat, k ≤ n2 ∧ i = .int .i64 k ∧ RowUp 151 w1 wr g 0 k cur0 (dg W64 (andn N1 N2)))
    (fun i _ => n2 - (intOf i).toNat)
  case atStart => exact ⟨0, Nat.zero_le _, rfl, RowUp.start HBK.out _ _⟩
  case round =>
    obtain ⟨k, hk, rfl, hR⟩ := hrel
    by_cases k1 : k < n2
    · have e1 := hR.read HBK.out (HD1.out.cell (i := k) (by omega)) (.inl hl1) (Nat.le_refl _)
      have e2 := hR.read HBK.out (HD2.out.cell (i := k) (by omega)) (.inl hl2) (Nat.le_refl _)
      have d1 : dg W64 N1 k < 18446744073709551616 := W64_lt (dg_lt W64_pos _ _)
      have d2 : dg W64 N2 k < 18446744073709551616 := W64_lt (dg_lt W64_pos _ _)
      have HE := Lib.hid (dg_andn N1 N2 k)
      have HR := Lib.hid hR
      have hroom := hR.room (j := k) (by rw [hsz]; omega)
      obtain ⟨⟨u0, p0⟩, f0⟩ := hroom
      clear hR
      generalize dg W64 N1 k = x at *
      generalize dg W64 N2 k = y at *
      have hbt := bits_andNot64 x y d1 d2
      have kl1 : (k : Int) < n1 := by omega
      go_upto_region 9 with fail
      go_region
      all_goals
        go_wp2
        try rw [hbt]
        go_roundw
        case rel => exact ⟨k + 1, by omega, by go_num, by have := ((HR.out.step (x := andn x y) (by rw [hsz]; omega) HE.out.symm).drewN 1); rw [Nat.zero_add] at this; exact this⟩
        case measure => simp [intOf]; omega
    · obtain rfl : k = n2 := by omega
      have HR := Lib.hid hR
      obtain ⟨cur', hk1, hk2, hk3, hk4⟩ := hR.blk
      clear hR
      have hx1 : (k : Int) ≤ n1 := by omega
      have hx2 : (n1 : Int) ≤ c := by omega
      have hx3 : (n1 : Int) ≤ c1 := by omega
      go_upto_region 10 with fail
      have hbd : Below wr.heap.size wr wr.drew := (Below.refl _ _).drew
      have hk1' := hk1.keep hbd
      have HG2 := Lib.hid (show wr.drew.heap[g]? = some (.cells cur'.toList.toArray 151 (0, 0)) from by unfold BlkAt at hk1'; simpa using hk1')
      have HSRC := Lib.hid (show ∀ j v, (wlf N1 k (n1 - k))[j]? = some v → wr.drew.cell? ((⟨b1, o1 + k, none⟩ : Addr).add j) = some v from by
        intro j v hjv
        have hjn : j < n1 - k := by
          have := (List.getElem?_eq_some_iff.1 hjv).1
          rwa [wlf_len] at this
        rw [wlf_get hjn] at hjv
        rw [← hjv, Addr.add_lit, show o1 + k + j = o1 + (k + j) from by omega]
        exact cell_keep (HR.out.read HBK.out (HD1.out.cell (i := k + j) (by omega)) (.inl hl1) (by omega)) hbd)
      have HB2' := Lib.hid ((HBD.out.trans (HR.out.toB (B := B) HBG.out (Nat.le_trans HBG.out (Nat.le_of_lt HBK.out.lt))).below).trans ((below_drew' wr B)))
      have HT := Lib.hid (show k + (wlf N1 k (n1 - k)).length ≤ cur'.toList.length from by rw [wlf_len]; simp; omega)
      have HL := Lib.hid (wlf_len N1 k (n1 - k))
      clear hbd hk1'
      go_region_law (refine step_copy_splice rfl (.tmp 41) (.tmp 45) 141 141 rfl 151 Tryz.underlying141 infoWordSize (if c = k then some ⟨g, 0, none⟩ else some ⟨g, k, none⟩) (if c1 = k then some ⟨b1, o1, none⟩ else some ⟨b1, o1 + k, none⟩) (n1 - k) (c - k) (n1 - k) (c1 - k) (by simp [Act.eval, Act.put]) (by simp [Act.eval, Act.put]) g k cur'.toList 151 HG2.out (wlf N1 k (n1 - k)) (by rw [HL.out]; exact (Nat.min_self _).symm) (fun h0 => by rw [HL.out] at h0; exact ⟨if_neg (by omega), ⟨b1, o1 + k, none⟩, if_neg (by omega), HSRC.out⟩) HT.out (wlf_one _ _ _) B w0 HB2'.out HBG.out ?_; intro w4 hg4 hb4)
      all_goals go_wp2_with fail
      all_goals
        have hq := rowB_spliced (k := k) (n := n1) (h := dg W64 (andn N1 N2)) (X := N1) (by omega) hk2 (by rw [hsz]; omega) hk3 hk4 (by rw [Nat.zero_add]; exact hg4) hb4 (fun i h1 h2 => HHI.out i h1 h2)
        have HBel := Lib.hid hq.below
        obtain ⟨cur3, l1, l2, l3, l4⟩ := hq.blk
        obtain ⟨hcl, hbn⟩ := bigN_row (c := c) (m := n1) (N := andn N1 N2) l1 (by rw [l2, hsz]) (fun i hi => by have := l3 i hi; simpa using this) hcn1 (by unfold maxLen; omega) HLT.out
        have HCL := Lib.hid hcl
        have HBN := Lib.hid hbn
        clear l1 l2 l3 l4 hcl hbn hq hk1 hk2 hk3 hk4 hsz
        have HCK := Lib.hid (show ∀ j : Nat, c = j → BigN 151 w4 (some ⟨g, 0, none⟩) (tlen (dg W64 (andn N1 N2)) n1) j (andn N1 N2) from fun j e => e ▸ HBN.out)
        first
          | with_reducible refine (norm_any (some ⟨g, 0, none⟩) n1 k (dg W64 (andn N1 N2)) _ (by omega) (by omega) (by unfold maxLen; omega) (by simp) HCL.out).mono ?_
          | with_reducible refine (norm_any (some ⟨g, 0, none⟩) n1 c (dg W64 (andn N1 N2)) _ (by omega) (by omega) (by unfold maxLen; omega) (by simp) HCL.out).mono ?_
        rintro e w5 ⟨rfl, rfl⟩
        go_wp2
        go_ret
        exact ⟨_, _, _, rfl, HCK.out _ (by first | rfl | assumption), HBel.out⟩
set_option maxRecDepth 100000 in
set_option maxHeartbeats 600000 in
theorem natAndNot_z2M (g B : Nat) (a0 : Option Addr) (nz cz : Nat) (w0 : World) (a1 a2 : Option Addr) (n1 n2 c1 c2 N1 N2 : Nat) (w : World) (h1 : BigN 151 w a1 n1 c1 N1) (h2 : BigN 151 w a2 n2 c2 N2) (hb1 : n1 ≤ 900000) (hz2 : n2 = 0) (hz1 : 0 < n1) (hmk : Calls Tryz.prog 184 #[.slice a0 nz cz, .int .i64 n1] w (MadeIn 151 g n1 B w0 w)) (hBg : B ≤ g) (hp1 : ∀ p, a1 = some p → p.block ≠ g) :
    Calls Tryz.prog 138 #[.slice a0 nz cz, .slice a1 n1 c1, .slice a2 n2 c2] w (GivesB 151 (andn N1 N2) B w0) := by
  have hge : n2 ≤ n1 := by omega
  have HZ := Lib.hid hz2
  clear hz2
  have hm1 := h1.num.cm
  have hm2 := h2.num.cm
  have hc1 := h1.num.nc
  have hc2 := h2.num.nc
  unfold maxLen at hm1 hm2
  have HLT := Lib.hid (andn_lt h1.num.lt N2)
  have HHI := Lib.hid (show ∀ i, n2 ≤ i → i < n1 → dg W64 (andn N1 N2) i = dg W64 N1 i from fun i hi _ => by
    have hz : dg W64 N2 i = 0 := by
      unfold dg; rw [Nat.div_eq_of_lt (Nat.lt_of_lt_of_le h2.num.lt (Nat.pow_le_pow_right W64_pos hi)), Nat.zero_mod]
    rw [dg_andn, hz, andn_zero])
  obtain ⟨b1, o1, rfl, -⟩ := h1.num.form (by omega)
  have hl1 : b1 ≠ g := hp1 _ rfl
  have HB1 := Lib.hid h1
  clear h1 h2
  have hd : decide (n1 < n2) = false := by simp; omega
  have hlt : ¬ ((n1 : Int) < n2) := by omega
  have HMK := Lib.hid hmk
  have HBG := Lib.hid hBg
  clear hmk hBg hp1
  go_enter Tryz.func138, Tryz.ntmps138
  go_wp2_with fail
  refine HMK.out.mono ?_
  rintro e w1 ⟨c, cur0, rfl, hb, hsz, hcn1, hcn2, hBD, hbd⟩
  have HD1 := Lib.hid (HB1.out.num.keep hbd)
  have HBK := Lib.hid hb
  have HBD := Lib.hid hBD
  clear hb hbd hBD
  go_wp2
  go_loopw [9] (fun i wr => ∃ k : Nat, k ≤ n2 ∧ i = .int .i64 k ∧ RowUp 151 w1 wr g 0 k cur0 (dg W64 (andn N1 N2)))
    (fun i _ => n2 - (intOf i).toNat)
  case atStart => exact ⟨0, Nat.zero_le _, rfl, RowUp.start HBK.out _ _⟩
  case round =>
    obtain ⟨k, hk, rfl, hR⟩ := hrel
    by_cases k1 : k < n2
    · exact absurd k1 (by have := HZ.out; omega)
    · obtain rfl : k = n2 := by omega
      have HR := Lib.hid hR
      obtain ⟨cur', hk1, hk2, hk3, hk4⟩ := hR.blk
      clear hR
      have hx1 : (k : Int) ≤ n1 := by omega
      have hx2 : (n1 : Int) ≤ c := by omega
      have hx3 : (n1 : Int) ≤ c1 := by omega
      go_upto_region 10 with fail
      have hbd : Below wr.heap.size wr wr.drew := (Below.refl _ _).drew
      have hk1' := hk1.keep hbd
      have HG2 := Lib.hid (show wr.drew.heap[g]? = some (.cells cur'.toList.toArray 151 (0, 0)) from by unfold BlkAt at hk1'; simpa using hk1')
      have HSRC := Lib.hid (show ∀ j v, (wlf N1 k (n1 - k))[j]? = some v → wr.drew.cell? ((⟨b1, o1 + k, none⟩ : Addr).add j) = some v from by
        intro j v hjv
        have hjn : j < n1 - k := by
          have := (List.getElem?_eq_some_iff.1 hjv).1
          rwa [wlf_len] at this
        rw [wlf_get hjn] at hjv
        rw [← hjv, Addr.add_lit, show o1 + k + j = o1 + (k + j) from by omega]
        exact cell_keep (HR.out.read HBK.out (HD1.out.cell (i := k + j) (by omega)) (.inl hl1) (by omega)) hbd)
      have HB2' := Lib.hid ((HBD.out.trans (HR.out.toB (B := B) HBG.out (Nat.le_trans HBG.out (Nat.le_of_lt HBK.out.lt))).below).trans ((below_drew' wr B)))
      have HT := Lib.hid (show k + (wlf N1 k (n1 - k)).length ≤ cur'.toList.length from by rw [wlf_len]; simp; omega)
      have HL := Lib.hid (wlf_len N1 k (n1 - k))
      clear hbd hk1'
      go_region_law (refine step_copy_splice rfl (.tmp 41) (.tmp 45) 141 141 rfl 151 Tryz.underlying141 infoWordSize (if c = k then some ⟨g, 0, none⟩ else some ⟨g, k, none⟩) (if c1 = k then some ⟨b1, o1, none⟩ else some ⟨b1, o1 + k, none⟩) (n1 - k) (c - k) (n1 - k) (c1 - k) (by simp [Act.eval, Act.put]) (by simp [Act.eval, Act.put]) g k cur'.toList 151 HG2.out (wlf N1 k (n1 - k)) (by rw [HL.out]; exact (Nat.min_self _).symm) (fun h0 => by rw [HL.out] at h0; exact ⟨if_neg (by omega), ⟨b1, o1 + k, none⟩, if_neg (by omega), HSRC.out⟩) HT.out (wlf_one _ _ _) B w0 HB2'.out HBG.out ?_; intro w4 hg4 hb4)
      all_goals go_wp2_with fail
      all_goals
        have hq := rowB_spliced (k := k) (n := n1) (h := dg W64 (andn N1 N2)) (X := N1) (by omega) hk2 (by rw [hsz]; omega) hk3 hk4 (by rw [Nat.zero_add]; exact hg4) hb4 (fun i h1 h2 => HHI.out i h1 h2)
        have HBel := Lib.hid hq.below
        obtain ⟨cur3, l1, l2, l3, l4⟩ := hq.blk
        obtain ⟨hcl, hbn⟩ := bigN_row (c := c) (m := n1) (N := andn N1 N2) l1 (by rw [l2, hsz]) (fun i hi => by have := l3 i hi; simpa using this) hcn1 (by unfold maxLen; omega) HLT.out
        have HCL := Lib.hid hcl
        have HBN := Lib.hid hbn
        clear l1 l2 l3 l4 hcl hbn hq hk1 hk2 hk3 hk4 hsz
        have HCK := Lib.hid (show ∀ j : Nat, c = j → BigN 151 w4 (some ⟨g, 0, none⟩) (tlen (dg W64 (andn N1 N2)) n1) j (andn N1 N2) from fun j e => e ▸ HBN.out)
        first
          | with_reducible refine (norm_any (some ⟨g, 0, none⟩) n1 k (dg W64 (andn N1 N2)) _ (by omega) (by omega) (by unfold maxLen; omega) (by simp) HCL.out).mono ?_
          | with_reducible refine (norm_any (some ⟨g, 0, none⟩) n1 c (dg W64 (andn N1 N2)) _ (by omega) (by omega) (by unfold maxLen; omega) (by simp) HCL.out).mono ?_
        rintro e w5 ⟨rfl, rfl⟩
        go_wp2
        go_ret
        exact ⟨_, _, _, rfl, HCK.out _ (by first | rfl | assumption), HBel.out⟩

theorem natAndNot_own (g nz cz : Nat) (NZ B : Nat) (a1 a2 : Option Addr) (n1 n2 c1 c2 N1 N2 : Nat) (w0 w : World) (hB0 : Below B w0 w) (hBg : B ≤ g) (h0 : BigN 151 w (some ⟨g, 0, none⟩) nz cz NZ) (hc : 0 < cz) (hc2 : cz ≤ 9223372036854775807) (h1 : BigN 151 w a1 n1 c1 N1) (h2 : BigN 151 w a2 n2 c2 N2) (hb1 : n1 ≤ 900000) (hz1 : 0 < n1) (hge : n2 ≤ n1) (hp1 : ∀ p, a1 = some p → p.block ≠ g) (hp2 : ∀ p, a2 = some p → p.block ≠ g) :
    Calls Tryz.prog 138 #[.slice (some ⟨g, 0, none⟩) nz cz, .slice a1 n1 c1, .slice a2 n2 c2] w (GivesB 151 (andn N1 N2) B w0) := by
  obtain ⟨cur, hk, hks⟩ : ∃ cur, BlkAt w g cur 151 ∧ cur.size = cz := by
    rcases h0.buf with ⟨h, _⟩ | ⟨g', cur, h, hg, hsz⟩
    · cases h
    · injection h with h
      injection h with h _ _
      subst h
      exact ⟨cur, hg, hsz⟩
  have hnz := h0.num.nc
  by_cases hr : n1 ≤ cz
  · have hmk : Calls Tryz.prog 184 #[.slice (some ⟨g, 0, none⟩) nz cz, .int .i64 n1] w (MadeIn 151 g n1 B w0 w) := by
      refine (make_self g nz cz n1 w hr hnz (by omega)).mono ?_
      rintro e w1 ⟨rfl, rfl⟩
      exact ⟨cz, cur, rfl, hk, hks, hr, by omega, hB0, Below.refl _ _⟩
    by_cases hz : n2 = 0
    · exact natAndNot_z2M g B _ nz cz w0 a1 a2 n1 n2 c1 c2 N1 N2 w h1 h2 hb1 hz hz1 hmk hBg hp1
    · exact natAndNot_geM g B _ nz cz w0 a1 a2 n1 n2 c1 c2 N1 N2 w h1 h2 hb1 hge (by omega) hmk hBg hp1 hp2
  · have hmk : Calls Tryz.prog 184 #[.slice (some ⟨g, 0, none⟩) nz cz, .int .i64 n1] w (MadeIn 151 w.heap.size n1 B w0 w) := by
      refine (make_new _ nz cz n1 w (by omega) (by omega) (by omega) hnz (fun h => by cases h)).mono ?_
      rintro e w1 (⟨h, _⟩ | ⟨c, hc0, hcn1, hcn2, rfl, rfl⟩)
      · omega
      · exact ⟨c, _, rfl, BlkAt.new _ _ _, by simp, hcn1, by omega, hB0.alloc (Nat.le_trans hBg (Nat.le_of_lt hk.lt)) _, (Below.refl _ _).alloc (Nat.le_refl _) _⟩
    have hq1 : ∀ p, a1 = some p → p.block ≠ w.heap.size := fun p hp => by
      subst hp
      obtain ⟨b, o, h, hl⟩ := h1.num.form hz1
      injection h with h
      subst h
      exact Nat.ne_of_lt hl
    by_cases hz : n2 = 0
    · exact natAndNot_z2M _ B _ nz cz w0 a1 a2 n1 n2 c1 c2 N1 N2 w h1 h2 hb1 hz hz1 hmk (Nat.le_trans hBg (Nat.le_of_lt hk.lt)) hq1
    · have hq2 : ∀ p, a2 = some p → p.block ≠ w.heap.size := fun p hp => by
        subst hp
        obtain ⟨b, o, h, hl⟩ := h2.num.form (by omega)
        injection h with h
        subst h
        exact Nat.ne_of_lt hl
      exact natAndNot_geM _ B _ nz cz w0 a1 a2 n1 n2 c1 c2 N1 N2 w h1 h2 hb1 hge (by omega) hmk (Nat.le_trans hBg (Nat.le_of_lt hk.lt)) hq1 hq2
end Go.Proofs.YtdkipndepkblhaaGreatDoor
