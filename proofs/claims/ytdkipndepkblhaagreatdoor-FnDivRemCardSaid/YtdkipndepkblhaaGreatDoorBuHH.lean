/-
  nat.or into nothing (tried).
  nat.or, nat.xor into nothing, both lengths positive. PRINTED BY wip/gen_bito.py.
  nat.or, nat.xor into nothing, one length 0. PRINTED BY wip/gen_bito.py.
  nat.andNot into nothing, its first length positive. PRINTED BY wip/gen_bitn.py.
  nat.or into nothing, both lengths 0.
  nat.xor, nat.andNot into nothing, the first length 0.
  nat.or, nat.xor, nat.andNot into nothing.
-/
import Derived.Test.YtdkipndepkblhaaGreatDoorBuY
import Derived.Test.YtdkipndepkblhaaGreatDoorBuO
set_option linter.unusedSimpArgs false
set_option linter.unusedVariables false
namespace Go.Proofs.YtdkipndepkblhaaGreatDoor
open Go.RowKit Go.Bg Dg

theorem bits_or64 (a b : Nat) (ha : a < 18446744073709551616) (hb : b < 18446744073709551616) : bits .or .u64 (a : Int) (b : Int) = ((a ||| b : Nat) : Int) := by
  have hx : a ||| b < 2 ^ 64 := Nat.or_lt_two_pow (by omega) (by omega)
  have h1 : (BitVec.ofInt 64 (a : Int)).toNat = a := by
    rw [BitVec.ofInt_natCast, BitVec.toNat_ofNat]; exact Nat.mod_eq_of_lt (by omega)
  have h2 : (BitVec.ofInt 64 (b : Int)).toNat = b := by
    rw [BitVec.ofInt_natCast, BitVec.toNat_ofNat]; exact Nat.mod_eq_of_lt (by omega)
  show IntKind.u64.wrap ((BitVec.ofInt 64 (a : Int) ||| BitVec.ofInt 64 (b : Int)).toNat : Int) = _
  rw [BitVec.toNat_or, h1, h2, IntKind.wrap_u64]
  omega

set_option maxRecDepth 100000 in
set_option maxHeartbeats 600000 in
theorem natOr_ge (a1 a2 : Option Addr) (n1 n2 c1 c2 N1 N2 : Nat) (w : World) (h1 : BigN 151 w a1 n1 c1 N1) (h2 : BigN 151 w a2 n2 c2 N2) (hb1 : n1 ≤ 900000) (hge : n2 ≤ n1) (hz2 : 0 < n2) :
    Calls Tryz.prog 136 #[.slice none 0 0, .slice a1 n1 c1, .slice a2 n2 c2] w (GivesN 151 (N1 ||| N2) w) := by
  have hm1 := h1.num.cm
  have hm2 := h2.num.cm
  have hc1 := h1.num.nc
  have hc2 := h2.num.nc
  unfold maxLen at hm1 hm2
  have HLT := Lib.hid (or_lt h1.num.lt h2.num.lt hge)
  have HHI := Lib.hid (show ∀ i, n2 ≤ i → i < n1 → dg W64 (N1 ||| N2) i = dg W64 N1 i from fun i hi _ => by
    have hz : dg W64 N2 i = 0 := by
      unfold dg; rw [Nat.div_eq_of_lt (Nat.lt_of_lt_of_le h2.num.lt (Nat.pow_le_pow_right W64_pos hi)), Nat.zero_mod]
    rw [dg_or, hz, Nat.or_zero])
  obtain ⟨b1, o1, rfl, hl1⟩ := h1.num.form (by omega)
  obtain ⟨b2, o2, rfl, hl2⟩ := h2.num.form (by omega)
  have HB1 := Lib.hid h1
  have HB2 := Lib.hid h2
  clear h1 h2
  have hd : decide (n1 < n2) = false := by simp; omega
  have hlt : ¬ ((n1 : Int) < n2) := by omega
  go_enter Tryz.func136, Tryz.ntmps136
  go_wp2_with fail
  refine (make_nil n1 (by omega) _).mono ?_
  rintro e w1 (⟨h, _⟩ | ⟨c, hc0, hcn1, hcn2, rfl, hw⟩)
  case inl => omega
  have hb : BlkAt w1 w.heap.size (Array.replicate c (.int .u64 0)) 151 := by rw [hw]; exact BlkAt.new _ _ _
  have hbd : Below w.heap.size w w1 := by rw [hw]; exact (Below.refl _ _).alloc (Nat.le_refl _) _
  clear hw
  have HD1 := Lib.hid (HB1.out.num.keep hbd)
  have HD2 := Lib.hid (HB2.out.num.keep hbd)
  have hsz : (Array.replicate c (Value.int .u64 0)).size = c := by simp
  have HBK := Lib.hid hb
  have HBD := Lib.hid hbd
  clear hb hbd
  go_wp2
  go_loopw [10] (fun i wr => ∃ k : Nat, k ≤ n2 ∧ i = .int .i64 k ∧ RowUp 151 w1 wr w.heap.size 0 k (Array.replicate c (.int .u64 0)) (dg W64 (N1 ||| N2)))
    (fun i _ => n2 - (intOf i).toNat)
  case atStart => exact ⟨0, Nat.zero_le _, rfl, RowUp.start HBK.out _ _⟩
  case round =>
    obtain ⟨k, hk, rfl, hR⟩ := hrel
    by_cases k1 : k < n2
    · have e1 := hR.read HBK.out (HD1.out.cell (i := k) (by omega)) (.inl (Nat.ne_of_lt hl1)) (Nat.le_refl _)
      have e2 := hR.read HBK.out (HD2.out.cell (i := k) (by omega)) (.inl (Nat.ne_of_lt hl2)) (Nat.le_refl _)
      have d1 : dg W64 N1 k < 18446744073709551616 := W64_lt (dg_lt W64_pos _ _)
      have d2 : dg W64 N2 k < 18446744073709551616 := W64_lt (dg_lt W64_pos _ _)
      have HE := Lib.hid (dg_or N1 N2 k)
      have HR := Lib.hid hR
      have hroom := hR.room (j := k) (by rw [hsz]; omega)
      obtain ⟨⟨u0, p0⟩, f0⟩ := hroom
      clear hR
      generalize dg W64 N1 k = x at *
      generalize dg W64 N2 k = y at *
      have hbt := bits_or64 x y d1 d2
      have kl1 : (k : Int) < n1 := by omega
      go_upto_region 11 with fail
      go_region
      all_goals
        go_wp2
        try rw [hbt]
        go_roundw
        case rel => exact ⟨k + 1, by omega, by go_num, by have := ((HR.out.step (x := x ||| y) (by rw [hsz]; omega) HE.out.symm).drewN 1); rw [Nat.zero_add] at this; exact this⟩
        case measure => simp [intOf]; omega
    · obtain rfl : k = n2 := by omega
      have HR := Lib.hid hR
      obtain ⟨cur', hk1, hk2, hk3, hk4⟩ := hR.blk
      clear hR
      have hx1 : (k : Int) ≤ n1 := by omega
      have hx2 : (n1 : Int) ≤ c := by omega
      have hx3 : (n1 : Int) ≤ c1 := by omega
      go_upto_region 12 with fail
      have hbd : Below wr.heap.size wr wr.drew := (Below.refl _ _).drew
      have hk1' := hk1.keep hbd
      have HG2 := Lib.hid (show wr.drew.heap[w.heap.size]? = some (.cells cur'.toList.toArray 151 (0, 0)) from by unfold BlkAt at hk1'; simpa using hk1')
      have HSRC := Lib.hid (show ∀ j v, (wlf N1 k (n1 - k))[j]? = some v → wr.drew.cell? ((⟨b1, o1 + k, none⟩ : Addr).add j) = some v from by
        intro j v hjv
        have hjn : j < n1 - k := by
          have := (List.getElem?_eq_some_iff.1 hjv).1
          rwa [wlf_len] at this
        rw [wlf_get hjn] at hjv
        rw [← hjv, Addr.add_lit, show o1 + k + j = o1 + (k + j) from by omega]
        exact cell_keep (HR.out.read HBK.out (HD1.out.cell (i := k + j) (by omega)) (.inl (Nat.ne_of_lt hl1)) (by omega)) hbd)
      have HB2' := Lib.hid ((HBD.out.trans (HR.out.toB (B := w.heap.size) (Nat.le_refl _) HBD.out.size).below).trans ((below_drew' wr w.heap.size)))
      have HT := Lib.hid (show k + (wlf N1 k (n1 - k)).length ≤ cur'.toList.length from by rw [wlf_len]; simp; omega)
      have HL := Lib.hid (wlf_len N1 k (n1 - k))
      clear hbd hk1'
      go_region_law (refine step_copy_splice rfl (.tmp 45) (.tmp 49) 141 141 rfl 151 Tryz.underlying141 infoWordSize (if c = k then some ⟨w.heap.size, 0, none⟩ else some ⟨w.heap.size, k, none⟩) (if c1 = k then some ⟨b1, o1, none⟩ else some ⟨b1, o1 + k, none⟩) (n1 - k) (c - k) (n1 - k) (c1 - k) (by simp [Act.eval, Act.put]) (by simp [Act.eval, Act.put]) w.heap.size k cur'.toList 151 HG2.out (wlf N1 k (n1 - k)) (by rw [HL.out]; exact (Nat.min_self _).symm) (fun h0 => by rw [HL.out] at h0; exact ⟨if_neg (by omega), ⟨b1, o1 + k, none⟩, if_neg (by omega), HSRC.out⟩) HT.out (wlf_one _ _ _) w.heap.size w HB2'.out (Nat.le_refl _) ?_; intro w4 hg4 hb4)
      all_goals go_wp2_with fail
      all_goals
        have hq := rowB_spliced (k := k) (n := n1) (h := dg W64 (N1 ||| N2)) (X := N1) (by omega) hk2 (by rw [hsz]; omega) hk3 hk4 (by rw [Nat.zero_add]; exact hg4) hb4 (fun i h1 h2 => HHI.out i h1 h2)
        have HBel := Lib.hid hq.below
        obtain ⟨cur3, l1, l2, l3, l4⟩ := hq.blk
        obtain ⟨hcl, hbn⟩ := bigN_row (c := c) (m := n1) (N := N1 ||| N2) l1 (by rw [l2, hsz]) (fun i hi => by have := l3 i hi; simpa using this) hcn1 (by unfold maxLen; omega) HLT.out
        have HCL := Lib.hid hcl
        have HBN := Lib.hid hbn
        clear l1 l2 l3 l4 hcl hbn hq hk1 hk2 hk3 hk4 hsz
        have HCK := Lib.hid (show ∀ j : Nat, c = j → BigN 151 w4 (some ⟨w.heap.size, 0, none⟩) (tlen (dg W64 (N1 ||| N2)) n1) j (N1 ||| N2) from fun j e => e ▸ HBN.out)
        first
          | with_reducible refine (norm_any (some ⟨w.heap.size, 0, none⟩) n1 k (dg W64 (N1 ||| N2)) _ (by omega) (by omega) (by unfold maxLen; omega) (by simp) HCL.out).mono ?_
          | with_reducible refine (norm_any (some ⟨w.heap.size, 0, none⟩) n1 c (dg W64 (N1 ||| N2)) _ (by omega) (by omega) (by unfold maxLen; omega) (by simp) HCL.out).mono ?_
        rintro e w5 ⟨rfl, rfl⟩
        go_wp2
        go_ret
        exact ⟨_, _, _, rfl, HCK.out _ (by first | rfl | assumption), HBel.out⟩
end Go.Proofs.YtdkipndepkblhaaGreatDoor

set_option linter.unusedSimpArgs false
set_option linter.unusedVariables false
namespace Go.Proofs.YtdkipndepkblhaaGreatDoor
open Go.RowKit Go.Bg Dg

set_option maxRecDepth 100000 in
set_option maxHeartbeats 600000 in
theorem natOr_lt (a1 a2 : Option Addr) (n1 n2 c1 c2 N1 N2 : Nat) (w : World) (h1 : BigN 151 w a1 n1 c1 N1) (h2 : BigN 151 w a2 n2 c2 N2) (hb2 : n2 ≤ 900000) (hlt : n1 < n2) (hz1 : 0 < n1) :
    Calls Tryz.prog 136 #[.slice none 0 0, .slice a1 n1 c1, .slice a2 n2 c2] w (GivesN 151 (N1 ||| N2) w) := by
  have hm1 := h1.num.cm
  have hm2 := h2.num.cm
  have hc1 := h1.num.nc
  have hc2 := h2.num.nc
  unfold maxLen at hm1 hm2
  have HLT := Lib.hid (show (N1 ||| N2) < W64 ^ n2 from by rw [Nat.or_comm]; exact or_lt h2.num.lt h1.num.lt (Nat.le_of_lt hlt))
  have HHI := Lib.hid (show ∀ i, n1 ≤ i → i < n2 → dg W64 (N1 ||| N2) i = dg W64 N2 i from fun i hi _ => by
    have hz : dg W64 N1 i = 0 := by
      unfold dg; rw [Nat.div_eq_of_lt (Nat.lt_of_lt_of_le h1.num.lt (Nat.pow_le_pow_right W64_pos hi)), Nat.zero_mod]
    rw [dg_or, hz, Nat.zero_or])
  obtain ⟨b1, o1, rfl, hl1⟩ := h1.num.form (by omega)
  obtain ⟨b2, o2, rfl, hl2⟩ := h2.num.form (by omega)
  have HB1 := Lib.hid h1
  have HB2 := Lib.hid h2
  clear h1 h2
  have hd : decide (n1 < n2) = true := by simp; omega
  have hlt' : ((n1 : Int) < n2) := by omega
  go_enter Tryz.func136, Tryz.ntmps136
  go_wp2_with fail
  refine (make_nil n2 (by omega) _).mono ?_
  rintro e w1 (⟨h, _⟩ | ⟨c, hc0, hcn1, hcn2, rfl, hw⟩)
  case inl => omega
  have hb : BlkAt w1 w.heap.size (Array.replicate c (.int .u64 0)) 151 := by rw [hw]; exact BlkAt.new _ _ _
  have hbd : Below w.heap.size w w1 := by rw [hw]; exact (Below.refl _ _).alloc (Nat.le_refl _) _
  clear hw
  have HD1 := Lib.hid (HB1.out.num.keep hbd)
  have HD2 := Lib.hid (HB2.out.num.keep hbd)
  have hsz : (Array.replicate c (Value.int .u64 0)).size = c := by simp
  have HBK := Lib.hid hb
  have HBD := Lib.hid hbd
  clear hb hbd
  go_wp2
  go_loopw [10] (fun i wr => ∃ k : Nat, k ≤ n1 ∧ i = .int .i64 k ∧ RowUp 151 w1 wr w.heap.size 0 k (Array.replicate c (.int .u64 0)) (dg W64 (N1 ||| N2)))
    (fun i _ => n1 - (intOf i).toNat)
  case atStart => exact ⟨0, Nat.zero_le _, rfl, RowUp.start HBK.out _ _⟩
  case round =>
    obtain ⟨k, hk, rfl, hR⟩ := hrel
    by_cases k1 : k < n1
    · have e1 := hR.read HBK.out (HD1.out.cell (i := k) (by omega)) (.inl (Nat.ne_of_lt hl1)) (Nat.le_refl _)
      have e2 := hR.read HBK.out (HD2.out.cell (i := k) (by omega)) (.inl (Nat.ne_of_lt hl2)) (Nat.le_refl _)
      have d1 : dg W64 N1 k < 18446744073709551616 := W64_lt (dg_lt W64_pos _ _)
      have d2 : dg W64 N2 k < 18446744073709551616 := W64_lt (dg_lt W64_pos _ _)
      have HE := Lib.hid (dg_or N1 N2 k)
      have HR := Lib.hid hR
      have hroom := hR.room (j := k) (by rw [hsz]; omega)
      obtain ⟨⟨u0, p0⟩, f0⟩ := hroom
      clear hR
      generalize dg W64 N1 k = x at *
      generalize dg W64 N2 k = y at *
      have hbt := bits_or64 x y d1 d2
      have kl1 : (k : Int) < n2 := by omega
      go_upto_region 11 with fail
      go_region
      all_goals
        go_wp2
        try rw [hbt]
        go_roundw
        case rel => exact ⟨k + 1, by omega, by go_num, by have := ((HR.out.step (x := x ||| y) (by rw [hsz]; omega) HE.out.symm).drewN 1); rw [Nat.zero_add] at this; exact this⟩
        case measure => simp [intOf]; omega
    · obtain rfl : k = n1 := by omega
      have HR := Lib.hid hR
      obtain ⟨cur', hk1, hk2, hk3, hk4⟩ := hR.blk
      clear hR
      have hx1 : (k : Int) ≤ n2 := by omega
      have hx2 : (n2 : Int) ≤ c := by omega
      have hx3 : (n2 : Int) ≤ c2 := by omega
      go_upto_region 12 with fail
      have hbd : Below wr.heap.size wr wr.drew := (Below.refl _ _).drew
      have hk1' := hk1.keep hbd
      have HG2 := Lib.hid (show wr.drew.heap[w.heap.size]? = some (.cells cur'.toList.toArray 151 (0, 0)) from by unfold BlkAt at hk1'; simpa using hk1')
      have HSRC := Lib.hid (show ∀ j v, (wlf N2 k (n2 - k))[j]? = some v → wr.drew.cell? ((⟨b2, o2 + k, none⟩ : Addr).add j) = some v from by
        intro j v hjv
        have hjn : j < n2 - k := by
          have := (List.getElem?_eq_some_iff.1 hjv).1
          rwa [wlf_len] at this
        rw [wlf_get hjn] at hjv
        rw [← hjv, Addr.add_lit, show o2 + k + j = o2 + (k + j) from by omega]
        exact cell_keep (HR.out.read HBK.out (HD2.out.cell (i := k + j) (by omega)) (.inl (Nat.ne_of_lt hl2)) (by omega)) hbd)
      have HB2' := Lib.hid ((HBD.out.trans (HR.out.toB (B := w.heap.size) (Nat.le_refl _) HBD.out.size).below).trans ((below_drew' wr w.heap.size)))
      have HT := Lib.hid (show k + (wlf N2 k (n2 - k)).length ≤ cur'.toList.length from by rw [wlf_len]; simp; omega)
      have HL := Lib.hid (wlf_len N2 k (n2 - k))
      clear hbd hk1'
      go_region_law (refine step_copy_splice rfl (.tmp 45) (.tmp 49) 141 141 rfl 151 Tryz.underlying141 infoWordSize (if c = k then some ⟨w.heap.size, 0, none⟩ else some ⟨w.heap.size, k, none⟩) (if c2 = k then some ⟨b2, o2, none⟩ else some ⟨b2, o2 + k, none⟩) (n2 - k) (c - k) (n2 - k) (c2 - k) (by simp [Act.eval, Act.put]) (by simp [Act.eval, Act.put]) w.heap.size k cur'.toList 151 HG2.out (wlf N2 k (n2 - k)) (by rw [HL.out]; exact (Nat.min_self _).symm) (fun h0 => by rw [HL.out] at h0; exact ⟨if_neg (by omega), ⟨b2, o2 + k, none⟩, if_neg (by omega), HSRC.out⟩) HT.out (wlf_one _ _ _) w.heap.size w HB2'.out (Nat.le_refl _) ?_; intro w4 hg4 hb4)
      all_goals go_wp2_with fail
      all_goals
        have hq := rowB_spliced (k := k) (n := n2) (h := dg W64 (N1 ||| N2)) (X := N2) (by omega) hk2 (by rw [hsz]; omega) hk3 hk4 (by rw [Nat.zero_add]; exact hg4) hb4 (fun i h1 h2 => HHI.out i h1 h2)
        have HBel := Lib.hid hq.below
        obtain ⟨cur3, l1, l2, l3, l4⟩ := hq.blk
        obtain ⟨hcl, hbn⟩ := bigN_row (c := c) (m := n2) (N := N1 ||| N2) l1 (by rw [l2, hsz]) (fun i hi => by have := l3 i hi; simpa using this) hcn1 (by unfold maxLen; omega) HLT.out
        have HCL := Lib.hid hcl
        have HBN := Lib.hid hbn
        clear l1 l2 l3 l4 hcl hbn hq hk1 hk2 hk3 hk4 hsz
        have HCK := Lib.hid (show ∀ j : Nat, c = j → BigN 151 w4 (some ⟨w.heap.size, 0, none⟩) (tlen (dg W64 (N1 ||| N2)) n2) j (N1 ||| N2) from fun j e => e ▸ HBN.out)
        first
          | with_reducible refine (norm_any (some ⟨w.heap.size, 0, none⟩) n2 k (dg W64 (N1 ||| N2)) _ (by omega) (by omega) (by unfold maxLen; omega) (by simp) HCL.out).mono ?_
          | with_reducible refine (norm_any (some ⟨w.heap.size, 0, none⟩) n2 c (dg W64 (N1 ||| N2)) _ (by omega) (by omega) (by unfold maxLen; omega) (by simp) HCL.out).mono ?_
        rintro e w5 ⟨rfl, rfl⟩
        go_wp2
        go_ret
        exact ⟨_, _, _, rfl, HCK.out _ (by first | rfl | assumption), HBel.out⟩
theorem bits_xor64 (a b : Nat) (ha : a < 18446744073709551616) (hb : b < 18446744073709551616) : bits .xor .u64 (a : Int) (b : Int) = ((a ^^^ b : Nat) : Int) := by
  have hx : a ^^^ b < 2 ^ 64 := Nat.xor_lt_two_pow (by omega) (by omega)
  have h1 : (BitVec.ofInt 64 (a : Int)).toNat = a := by
    rw [BitVec.ofInt_natCast, BitVec.toNat_ofNat]; exact Nat.mod_eq_of_lt (by omega)
  have h2 : (BitVec.ofInt 64 (b : Int)).toNat = b := by
    rw [BitVec.ofInt_natCast, BitVec.toNat_ofNat]; exact Nat.mod_eq_of_lt (by omega)
  show IntKind.u64.wrap ((BitVec.ofInt 64 (a : Int) ^^^ BitVec.ofInt 64 (b : Int)).toNat : Int) = _
  rw [BitVec.toNat_xor, h1, h2, IntKind.wrap_u64]
  omega

set_option maxRecDepth 100000 in
set_option maxHeartbeats 600000 in
theorem natXor_ge (a1 a2 : Option Addr) (n1 n2 c1 c2 N1 N2 : Nat) (w : World) (h1 : BigN 151 w a1 n1 c1 N1) (h2 : BigN 151 w a2 n2 c2 N2) (hb1 : n1 ≤ 900000) (hge : n2 ≤ n1) (hz2 : 0 < n2) :
    Calls Tryz.prog 139 #[.slice none 0 0, .slice a1 n1 c1, .slice a2 n2 c2] w (GivesN 151 (N1 ^^^ N2) w) := by
  have hm1 := h1.num.cm
  have hm2 := h2.num.cm
  have hc1 := h1.num.nc
  have hc2 := h2.num.nc
  unfold maxLen at hm1 hm2
  have HLT := Lib.hid (xor_lt h1.num.lt h2.num.lt hge)
  have HHI := Lib.hid (show ∀ i, n2 ≤ i → i < n1 → dg W64 (N1 ^^^ N2) i = dg W64 N1 i from fun i hi _ => by
    have hz : dg W64 N2 i = 0 := by
      unfold dg; rw [Nat.div_eq_of_lt (Nat.lt_of_lt_of_le h2.num.lt (Nat.pow_le_pow_right W64_pos hi)), Nat.zero_mod]
    rw [dg_xor, hz, Nat.xor_zero])
  obtain ⟨b1, o1, rfl, hl1⟩ := h1.num.form (by omega)
  obtain ⟨b2, o2, rfl, hl2⟩ := h2.num.form (by omega)
  have HB1 := Lib.hid h1
  have HB2 := Lib.hid h2
  clear h1 h2
  have hd : decide (n1 < n2) = false := by simp; omega
  have hlt : ¬ ((n1 : Int) < n2) := by omega
  go_enter Tryz.func139, Tryz.ntmps139
  go_wp2_with fail
  refine (make_nil n1 (by omega) _).mono ?_
  rintro e w1 (⟨h, _⟩ | ⟨c, hc0, hcn1, hcn2, rfl, hw⟩)
  case inl => omega
  have hb : BlkAt w1 w.heap.size (Array.replicate c (.int .u64 0)) 151 := by rw [hw]; exact BlkAt.new _ _ _
  have hbd : Below w.heap.size w w1 := by rw [hw]; exact (Below.refl _ _).alloc (Nat.le_refl _) _
  clear hw
  have HD1 := Lib.hid (HB1.out.num.keep hbd)
  have HD2 := Lib.hid (HB2.out.num.keep hbd)
  have hsz : (Array.replicate c (Value.int .u64 0)).size = c := by simp
  have HBK := Lib.hid hb
  have HBD := Lib.hid hbd
  clear hb hbd
  go_wp2
  go_loopw [10] (fun i wr => ∃ k : Nat, k ≤ n2 ∧ i = .int .i64 k ∧ RowUp 151 w1 wr w.heap.size 0 k (Array.replicate c (.int .u64 0)) (dg W64 (N1 ^^^ N2)))
    (fun i _ => n2 - (intOf i).toNat)
  case atStart => exact ⟨0, Nat.zero_le _, rfl, RowUp.start HBK.out _ _⟩
  case round =>
    obtain ⟨k, hk, rfl, hR⟩ := hrel
    by_cases k1 : k < n2
    · have e1 := hR.read HBK.out (HD1.out.cell (i := k) (by omega)) (.inl (Nat.ne_of_lt hl1)) (Nat.le_refl _)
      have e2 := hR.read HBK.out (HD2.out.cell (i := k) (by omega)) (.inl (Nat.ne_of_lt hl2)) (Nat.le_refl _)
      have d1 : dg W64 N1 k < 18446744073709551616 := W64_lt (dg_lt W64_pos _ _)
      have d2 : dg W64 N2 k < 18446744073709551616 := W64_lt (dg_lt W64_pos _ _)
      have HE := Lib.hid (dg_xor N1 N2 k)
      have HR := Lib.hid hR
      have hroom := hR.room (j := k) (by rw [hsz]; omega)
      obtain ⟨⟨u0, p0⟩, f0⟩ := hroom
      clear hR
      generalize dg W64 N1 k = x at *
      generalize dg W64 N2 k = y at *
      have hbt := bits_xor64 x y d1 d2
      have kl1 : (k : Int) < n1 := by omega
      go_upto_region 11 with fail
      go_region
      all_goals
        go_wp2
        try rw [hbt]
        go_roundw
        case rel => exact ⟨k + 1, by omega, by go_num, by have := ((HR.out.step (x := x ^^^ y) (by rw [hsz]; omega) HE.out.symm).drewN 1); rw [Nat.zero_add] at this; exact this⟩
        case measure => simp [intOf]; omega
    · obtain rfl : k = n2 := by omega
      have HR := Lib.hid hR
      obtain ⟨cur', hk1, hk2, hk3, hk4⟩ := hR.blk
      clear hR
      have hx1 : (k : Int) ≤ n1 := by omega
      have hx2 : (n1 : Int) ≤ c := by omega
      have hx3 : (n1 : Int) ≤ c1 := by omega
      go_upto_region 12 with fail
      have hbd : Below wr.heap.size wr wr.drew := (Below.refl _ _).drew
      have hk1' := hk1.keep hbd
      have HG2 := Lib.hid (show wr.drew.heap[w.heap.size]? = some (.cells cur'.toList.toArray 151 (0, 0)) from by unfold BlkAt at hk1'; simpa using hk1')
      have HSRC := Lib.hid (show ∀ j v, (wlf N1 k (n1 - k))[j]? = some v → wr.drew.cell? ((⟨b1, o1 + k, none⟩ : Addr).add j) = some v from by
        intro j v hjv
        have hjn : j < n1 - k := by
          have := (List.getElem?_eq_some_iff.1 hjv).1
          rwa [wlf_len] at this
        rw [wlf_get hjn] at hjv
        rw [← hjv, Addr.add_lit, show o1 + k + j = o1 + (k + j) from by omega]
        exact cell_keep (HR.out.read HBK.out (HD1.out.cell (i := k + j) (by omega)) (.inl (Nat.ne_of_lt hl1)) (by omega)) hbd)
      have HB2' := Lib.hid ((HBD.out.trans (HR.out.toB (B := w.heap.size) (Nat.le_refl _) HBD.out.size).below).trans ((below_drew' wr w.heap.size)))
      have HT := Lib.hid (show k + (wlf N1 k (n1 - k)).length ≤ cur'.toList.length from by rw [wlf_len]; simp; omega)
      have HL := Lib.hid (wlf_len N1 k (n1 - k))
      clear hbd hk1'
      go_region_law (refine step_copy_splice rfl (.tmp 45) (.tmp 49) 141 141 rfl 151 Tryz.underlying141 infoWordSize (if c = k then some ⟨w.heap.size, 0, none⟩ else some ⟨w.heap.size, k, none⟩) (if c1 = k then some ⟨b1, o1, none⟩ else some ⟨b1, o1 + k, none⟩) (n1 - k) (c - k) (n1 - k) (c1 - k) (by simp [Act.eval, Act.put]) (by simp [Act.eval, Act.put]) w.heap.size k cur'.toList 151 HG2.out (wlf N1 k (n1 - k)) (by rw [HL.out]; exact (Nat.min_self _).symm) (fun h0 => by rw [HL.out] at h0; exact ⟨if_neg (by omega), ⟨b1, o1 + k, none⟩, if_neg (by omega), HSRC.out⟩) HT.out (wlf_one _ _ _) w.heap.size w HB2'.out (Nat.le_refl _) ?_; intro w4 hg4 hb4)
      all_goals go_wp2_with fail
      all_goals
        have hq := rowB_spliced (k := k) (n := n1) (h := dg W64 (N1 ^^^ N2)) (X := N1) (by omega) hk2 (by rw [hsz]; omega) hk3 hk4 (by rw [Nat.zero_add]; exact hg4) hb4 (fun i h1 h2 => HHI.out i h1 h2)
        have HBel := Lib.hid hq.below
        obtain ⟨cur3, l1, l2, l3, l4⟩ := hq.blk
        obtain ⟨hcl, hbn⟩ := bigN_row (c := c) (m := n1) (N := N1 ^^^ N2) l1 (by rw [l2, hsz]) (fun i hi => by have := l3 i hi; simpa using this) hcn1 (by unfold maxLen; omega) HLT.out
        have HCL := Lib.hid hcl
        have HBN := Lib.hid hbn
        clear l1 l2 l3 l4 hcl hbn hq hk1 hk2 hk3 hk4 hsz
        have HCK := Lib.hid (show ∀ j : Nat, c = j → BigN 151 w4 (some ⟨w.heap.size, 0, none⟩) (tlen (dg W64 (N1 ^^^ N2)) n1) j (N1 ^^^ N2) from fun j e => e ▸ HBN.out)
        first
          | with_reducible refine (norm_any (some ⟨w.heap.size, 0, none⟩) n1 k (dg W64 (N1 ^^^ N2)) _ (by omega) (by omega) (by unfold maxLen; omega) (by simp) HCL.out).mono ?_
          | with_reducible refine (norm_any (some ⟨w.heap.size, 0, none⟩) n1 c (dg W64 (N1 ^^^ N2)) _ (by omega) (by omega) (by unfold maxLen; omega) (by simp) HCL.out).mono ?_
        rintro e w5 ⟨rfl, rfl⟩
        go_wp2
        go_ret
        exact ⟨_, _, _, rfl, HCK.out _ (by first | rfl | assumption), HBel.out⟩
set_option maxRecDepth 100000 in
set_option maxHeartbeats 600000 in
theorem natXor_lt (a1 a2 : Option Addr) (n1 n2 c1 c2 N1 N2 : Nat) (w : World) (h1 : BigN 151 w a1 n1 c1 N1) (h2 : BigN 151 w a2 n2 c2 N2) (hb2 : n2 ≤ 900000) (hlt : n1 < n2) (hz1 : 0 < n1) :
    Calls Tryz.prog 139 #[.slice none 0 0, .slice a1 n1 c1, .slice a2 n2 c2] w (GivesN 151 (N1 ^^^ N2) w) := by
  have hm1 := h1.num.cm
  have hm2 := h2.num.cm
  have hc1 := h1.num.nc
  have hc2 := h2.num.nc
  unfold maxLen at hm1 hm2
  have HLT := Lib.hid (show (N1 ^^^ N2) < W64 ^ n2 from by rw [Nat.xor_comm]; exact xor_lt h2.num.lt h1.num.lt (Nat.le_of_lt hlt))
  have HHI := Lib.hid (show ∀ i, n1 ≤ i → i < n2 → dg W64 (N1 ^^^ N2) i = dg W64 N2 i from fun i hi _ => by
    have hz : dg W64 N1 i = 0 := by
      unfold dg; rw [Nat.div_eq_of_lt (Nat.lt_of_lt_of_le h1.num.lt (Nat.pow_le_pow_right W64_pos hi)), Nat.zero_mod]
    rw [dg_xor, hz, Nat.zero_xor])
  obtain ⟨b1, o1, rfl, hl1⟩ := h1.num.form (by omega)
  obtain ⟨b2, o2, rfl, hl2⟩ := h2.num.form (by omega)
  have HB1 := Lib.hid h1
  have HB2 := Lib.hid h2
  clear h1 h2
  have hd : decide (n1 < n2) = true := by simp; omega
  have hlt' : ((n1 : Int) < n2) := by omega
  go_enter Tryz.func139, Tryz.ntmps139
  go_wp2_with fail
  refine (make_nil n2 (by omega) _).mono ?_
  rintro e w1 (⟨h, _⟩ | ⟨c, hc0, hcn1, hcn2, rfl, hw⟩)
  case inl => omega
  have hb : BlkAt w1 w.heap.size (Array.replicate c (.int .u64 0)) 151 := by rw [hw]; exact BlkAt.new _ _ _
  have hbd : Below w.heap.size w w1 := by rw [hw]; exact (Below.refl _ _).alloc (Nat.le_refl _) _
  clear hw
  have HD1 := Lib.hid (HB1.out.num.keep hbd)
  have HD2 := Lib.hid (HB2.out.num.keep hbd)
  have hsz : (Array.replicate c (Value.int .u64 0)).size = c := by simp
  have HBK := Lib.hid hb
  have HBD := Lib.hid hbd
  clear hb hbd
  go_wp2
  go_loopw [10] (fun i wr => ∃ k : Nat, k ≤ n1 ∧ i = .int .i64 k ∧ RowUp 151 w1 wr w.heap.size 0 k (Array.replicate c (.int .u64 0)) (dg W64 (N1 ^^^ N2)))
    (fun i _ => n1 - (intOf i).toNat)
  case atStart => exact ⟨0, Nat.zero_le _, rfl, RowUp.start HBK.out _ _⟩
  case round =>
    obtain ⟨k, hk, rfl, hR⟩ := hrel
    by_cases k1 : k < n1
    · have e1 := hR.read HBK.out (HD1.out.cell (i := k) (by omega)) (.inl (Nat.ne_of_lt hl1)) (Nat.le_refl _)
      have e2 := hR.read HBK.out (HD2.out.cell (i := k) (by omega)) (.inl (Nat.ne_of_lt hl2)) (Nat.le_refl _)
      have d1 : dg W64 N1 k < 18446744073709551616 := W64_lt (dg_lt W64_pos _ _)
      have d2 : dg W64 N2 k < 18446744073709551616 := W64_lt (dg_lt W64_pos _ _)
      have HE := Lib.hid (dg_xor N1 N2 k)
      have HR := Lib.hid hR
      have hroom := hR.room (j := k) (by rw [hsz]; omega)
      obtain ⟨⟨u0, p0⟩, f0⟩ := hroom
      clear hR
      generalize dg W64 N1 k = x at *
      generalize dg W64 N2 k = y at *
      have hbt := bits_xor64 x y d1 d2
      have kl1 : (k : Int) < n2 := by omega
      go_upto_region 11 with fail
      go_region
      all_goals
        go_wp2
        try rw [hbt]
        go_roundw
        case rel => exact ⟨k + 1, by omega, by go_num, by have := ((HR.out.step (x := x ^^^ y) (by rw [hsz]; omega) HE.out.symm).drewN 1); rw [Nat.zero_add] at this; exact this⟩
        case measure => simp [intOf]; omega
    · obtain rfl : k = n1 := by omega
      have HR := Lib.hid hR
      obtain ⟨cur', hk1, hk2, hk3, hk4⟩ := hR.blk
      clear hR
      have hx1 : (k : Int) ≤ n2 := by omega
      have hx2 : (n2 : Int) ≤ c := by omega
      have hx3 : (n2 : Int) ≤ c2 := by omega
      go_upto_region 12 with fail
      have hbd : Below wr.heap.size wr wr.drew := (Below.refl _ _).drew
      have hk1' := hk1.keep hbd
      have HG2 := Lib.hid (show wr.drew.heap[w.heap.size]? = some (.cells cur'.toList.toArray 151 (0, 0)) from by unfold BlkAt at hk1'; simpa using hk1')
      have HSRC := Lib.hid (show ∀ j v, (wlf N2 k (n2 - k))[j]? = some v → wr.drew.cell? ((⟨b2, o2 + k, none⟩ : Addr).add j) = some v from by
        intro j v hjv
        have hjn : j < n2 - k := by
          have := (List.getElem?_eq_some_iff.1 hjv).1
          rwa [wlf_len] at this
        rw [wlf_get hjn] at hjv
        rw [← hjv, Addr.add_lit, show o2 + k + j = o2 + (k + j) from by omega]
        exact cell_keep (HR.out.read HBK.out (HD2.out.cell (i := k + j) (by omega)) (.inl (Nat.ne_of_lt hl2)) (by omega)) hbd)
      have HB2' := Lib.hid ((HBD.out.trans (HR.out.toB (B := w.heap.size) (Nat.le_refl _) HBD.out.size).below).trans ((below_drew' wr w.heap.size)))
      have HT := Lib.hid (show k + (wlf N2 k (n2 - k)).length ≤ cur'.toList.length from by rw [wlf_len]; simp; omega)
      have HL := Lib.hid (wlf_len N2 k (n2 - k))
      clear hbd hk1'
      go_region_law (refine step_copy_splice rfl (.tmp 45) (.tmp 49) 141 141 rfl 151 Tryz.underlying141 infoWordSize (if c = k then some ⟨w.heap.size, 0, none⟩ else some ⟨w.heap.size, k, none⟩) (if c2 = k then some ⟨b2, o2, none⟩ else some ⟨b2, o2 + k, none⟩) (n2 - k) (c - k) (n2 - k) (c2 - k) (by simp [Act.eval, Act.put]) (by simp [Act.eval, Act.put]) w.heap.size k cur'.toList 151 HG2.out (wlf N2 k (n2 - k)) (by rw [HL.out]; exact (Nat.min_self _).symm) (fun h0 => by rw [HL.out] at h0; exact ⟨if_neg (by omega), ⟨b2, o2 + k, none⟩, if_neg (by omega), HSRC.out⟩) HT.out (wlf_one _ _ _) w.heap.size w HB2'.out (Nat.le_refl _) ?_; intro w4 hg4 hb4)
      all_goals go_wp2_with fail
      all_goals
        have hq := rowB_spliced (k := k) (n := n2) (h := dg W64 (N1 ^^^ N2)) (X := N2) (by omega) hk2 (by rw [hsz]; omega) hk3 hk4 (by rw [Nat.zero_add]; exact hg4) hb4 (fun i h1 h2 => HHI.out i h1 h2)
        have HBel := Lib.hid hq.below
        obtain ⟨cur3, l1, l2, l3, l4⟩ := hq.blk
        obtain ⟨hcl, hbn⟩ := bigN_row (c := c) (m := n2) (N := N1 ^^^ N2) l1 (by rw [l2, hsz]) (fun i hi => by have := l3 i hi; simpa using this) hcn1 (by unfold maxLen; omega) HLT.out
        have HCL := Lib.hid hcl
        have HBN := Lib.hid hbn
        clear l1 l2 l3 l4 hcl hbn hq hk1 hk2 hk3 hk4 hsz
        have HCK := Lib.hid (show ∀ j : Nat, c = j → BigN 151 w4 (some ⟨w.heap.size, 0, none⟩) (tlen (dg W64 (N1 ^^^ N2)) n2) j (N1 ^^^ N2) from fun j e => e ▸ HBN.out)
        first
          | with_reducible refine (norm_any (some ⟨w.heap.size, 0, none⟩) n2 k (dg W64 (N1 ^^^ N2)) _ (by omega) (by omega) (by unfold maxLen; omega) (by simp) HCL.out).mono ?_
          | with_reducible refine (norm_any (some ⟨w.heap.size, 0, none⟩) n2 c (dg W64 (N1 ^^^ N2)) _ (by omega) (by omega) (by unfold maxLen; omega) (by simp) HCL.out).mono ?_
        rintro e w5 ⟨rfl, rfl⟩
        go_wp2
        go_ret
        exact ⟨_, _, _, rfl, HCK.out _ (by first | rfl | assumption), HBel.out⟩
end Go.Proofs.YtdkipndepkblhaaGreatDoor

set_option linter.unusedSimpArgs false
set_option linter.unusedVariables false
namespace Go.Proofs.YtdkipndepkblhaaGreatDoor
open Go.RowKit Go.Bg Dg

set_option maxRecDepth 100000 in
set_option maxHeartbeats 600000 in
theorem natOr_z2 (a1 a2 : Option Addr) (n1 n2 c1 c2 N1 N2 : Nat) (w : World) (h1 : BigN 151 w a1 n1 c1 N1) (h2 : BigN 151 w a2 n2 c2 N2) (hb1 : n1 ≤ 900000) (hz2 : n2 = 0) (hz1 : 0 < n1) :
    Calls Tryz.prog 136 #[.slice none 0 0, .slice a1 n1 c1, .slice a2 n2 c2] w (GivesN 151 (N1 ||| N2) w) := by
  have hge : n2 ≤ n1 := by omega
  have HZ := Lib.hid hz2
  clear hz2
  have hm1 := h1.num.cm
  have hm2 := h2.num.cm
  have hc1 := h1.num.nc
  have hc2 := h2.num.nc
  unfold maxLen at hm1 hm2
  have HLT := Lib.hid (or_lt h1.num.lt h2.num.lt hge)
  have HHI := Lib.hid (show ∀ i, n2 ≤ i → i < n1 → dg W64 (N1 ||| N2) i = dg W64 N1 i from fun i hi _ => by
    have hz : dg W64 N2 i = 0 := by
      unfold dg; rw [Nat.div_eq_of_lt (Nat.lt_of_lt_of_le h2.num.lt (Nat.pow_le_pow_right W64_pos hi)), Nat.zero_mod]
    rw [dg_or, hz, Nat.or_zero])
  obtain ⟨b1, o1, rfl, hl1⟩ := h1.num.form (by omega)
  have HB1 := Lib.hid h1
  clear h1 h2
  have hd : decide (n1 < n2) = false := by simp; omega
  have hlt : ¬ ((n1 : Int) < n2) := by omega
  go_enter Tryz.func136, Tryz.ntmps136
  go_wp2_with fail
  refine (make_nil n1 (by omega) _).mono ?_
  rintro e w1 (⟨h, _⟩ | ⟨c, hc0, hcn1, hcn2, rfl, hw⟩)
  case inl => omega
  have hb : BlkAt w1 w.heap.size (Array.replicate c (.int .u64 0)) 151 := by rw [hw]; exact BlkAt.new _ _ _
  have hbd : Below w.heap.size w w1 := by rw [hw]; exact (Below.refl _ _).alloc (Nat.le_refl _) _
  clear hw
  have HD1 := Lib.hid (HB1.out.num.keep hbd)
  have hsz : (Array.replicate c (Value.int .u64 0)).size = c := by simp
  have HBK := Lib.hid hb
  have HBD := Lib.hid hbd
  clear hb hbd
  go_wp2
  go_loopw [10] (fun i wr => ∃ k : Nat, k ≤ n2 ∧ i = .int .i64 k ∧ RowUp 151 w1 wr w.heap.size 0 k (Array.replicate c (.int .u64 0)) (dg W64 (N1 ||| N2)))
    (fun i _ => n2 - (intOf i).toNat)
  case atStart => exact ⟨0, Nat.zero_le _, rfl, RowUp.start HBK.out _ _⟩
  case round =>
    obtain ⟨k, hk, rfl, hR⟩ := hrel
    by_cases k1 : k < n2
    · exact absurd k1 (by have := HZ.out; omega)
    · obtain rfl : k = n2 := by omega
      have HR := Lib.hid hR
      obtain ⟨cur', hk1, hk2, hk3, hk4⟩ := hR.blk
      clear hR
      have hx1 : (k : Int) ≤ n1 := by omega
      have hx2 : (n1 : Int) ≤ c := by omega
      have hx3 : (n1 : Int) ≤ c1 := by omega
      go_upto_region 12 with fail
      have hbd : Below wr.heap.size wr wr.drew := (Below.refl _ _).drew
      have hk1' := hk1.keep hbd
      have HG2 := Lib.hid (show wr.drew.heap[w.heap.size]? = some (.cells cur'.toList.toArray 151 (0, 0)) from by unfold BlkAt at hk1'; simpa using hk1')
      have HSRC := Lib.hid (show ∀ j v, (wlf N1 k (n1 - k))[j]? = some v → wr.drew.cell? ((⟨b1, o1 + k, none⟩ : Addr).add j) = some v from by
        intro j v hjv
        have hjn : j < n1 - k := by
          have := (List.getElem?_eq_some_iff.1 hjv).1
          rwa [wlf_len] at this
        rw [wlf_get hjn] at hjv
        rw [← hjv, Addr.add_lit, show o1 + k + j = o1 + (k + j) from by omega]
        exact cell_keep (HR.out.read HBK.out (HD1.out.cell (i := k + j) (by omega)) (.inl (Nat.ne_of_lt hl1)) (by omega)) hbd)
      have HB2' := Lib.hid ((HBD.out.trans (HR.out.toB (B := w.heap.size) (Nat.le_refl _) HBD.out.size).below).trans ((below_drew' wr w.heap.size)))
      have HT := Lib.hid (show k + (wlf N1 k (n1 - k)).length ≤ cur'.toList.length from by rw [wlf_len]; simp; omega)
      have HL := Lib.hid (wlf_len N1 k (n1 - k))
      clear hbd hk1'
      go_region_law (refine step_copy_splice rfl (.tmp 45) (.tmp 49) 141 141 rfl 151 Tryz.underlying141 infoWordSize (if c = k then some ⟨w.heap.size, 0, none⟩ else some ⟨w.heap.size, k, none⟩) (if c1 = k then some ⟨b1, o1, none⟩ else some ⟨b1, o1 + k, none⟩) (n1 - k) (c - k) (n1 - k) (c1 - k) (by simp [Act.eval, Act.put]) (by simp [Act.eval, Act.put]) w.heap.size k cur'.toList 151 HG2.out (wlf N1 k (n1 - k)) (by rw [HL.out]; exact (Nat.min_self _).symm) (fun h0 => by rw [HL.out] at h0; exact ⟨if_neg (by omega), ⟨b1, o1 + k, none⟩, if_neg (by omega), HSRC.out⟩) HT.out (wlf_one _ _ _) w.heap.size w HB2'.out (Nat.le_refl _) ?_; intro w4 hg4 hb4)
      all_goals go_wp2_with fail
      all_goals
        have hq := rowB_spliced (k := k) (n := n1) (h := dg W64 (N1 ||| N2)) (X := N1) (by omega) hk2 (by rw [hsz]; omega) hk3 hk4 (by rw [Nat.zero_add]; exact hg4) hb4 (fun i h1 h2 => HHI.out i h1 h2)
        have HBel := Lib.hid hq.below
        obtain ⟨cur3, l1, l2, l3, l4⟩ := hq.blk
        obtain ⟨hcl, hbn⟩ := bigN_row (c := c) (m := n1) (N := N1 ||| N2) l1 (by rw [l2, hsz]) (fun i hi => by have := l3 i hi; simpa using this) hcn1 (by unfold maxLen; omega) HLT.out
        have HCL := Lib.hid hcl
        have HBN := Lib.hid hbn
        clear l1 l2 l3 l4 hcl hbn hq hk1 hk2 hk3 hk4 hsz
        have HCK := Lib.hid (show ∀ j : Nat, c = j → BigN 151 w4 (some ⟨w.heap.size, 0, none⟩) (tlen (dg W64 (N1 ||| N2)) n1) j (N1 ||| N2) from fun j e => e ▸ HBN.out)
        first
          | with_reducible refine (norm_any (some ⟨w.heap.size, 0, none⟩) n1 k (dg W64 (N1 ||| N2)) _ (by omega) (by omega) (by unfold maxLen; omega) (by simp) HCL.out).mono ?_
          | with_reducible refine (norm_any (some ⟨w.heap.size, 0, none⟩) n1 c (dg W64 (N1 ||| N2)) _ (by omega) (by omega) (by unfold maxLen; omega) (by simp) HCL.out).mono ?_
        rintro e w5 ⟨rfl, rfl⟩
        go_wp2
        go_ret
        exact ⟨_, _, _, rfl, HCK.out _ (by first | rfl | assumption), HBel.out⟩
set_option maxRecDepth 100000 in
set_option maxHeartbeats 600000 in
theorem natOr_z1 (a1 a2 : Option Addr) (n1 n2 c1 c2 N1 N2 : Nat) (w : World) (h1 : BigN 151 w a1 n1 c1 N1) (h2 : BigN 151 w a2 n2 c2 N2) (hb2 : n2 ≤ 900000) (hz1 : n1 = 0) (hz2 : 0 < n2) :
    Calls Tryz.prog 136 #[.slice none 0 0, .slice a1 n1 c1, .slice a2 n2 c2] w (GivesN 151 (N1 ||| N2) w) := by
  have hlt : n1 < n2 := by omega
  have HZ := Lib.hid hz1
  clear hz1
  have hm1 := h1.num.cm
  have hm2 := h2.num.cm
  have hc1 := h1.num.nc
  have hc2 := h2.num.nc
  unfold maxLen at hm1 hm2
  have HLT := Lib.hid (show (N1 ||| N2) < W64 ^ n2 from by rw [Nat.or_comm]; exact or_lt h2.num.lt h1.num.lt (Nat.le_of_lt hlt))
  have HHI := Lib.hid (show ∀ i, n1 ≤ i → i < n2 → dg W64 (N1 ||| N2) i = dg W64 N2 i from fun i hi _ => by
    have hz : dg W64 N1 i = 0 := by
      unfold dg; rw [Nat.div_eq_of_lt (Nat.lt_of_lt_of_le h1.num.lt (Nat.pow_le_pow_right W64_pos hi)), Nat.zero_mod]
    rw [dg_or, hz, Nat.zero_or])
  obtain ⟨b2, o2, rfl, hl2⟩ := h2.num.form (by omega)
  have HB2 := Lib.hid h2
  clear h1 h2
  have hd : decide (n1 < n2) = true := by simp; omega
  have hlt' : ((n1 : Int) < n2) := by omega
  go_enter Tryz.func136, Tryz.ntmps136
  go_wp2_with fail
  refine (make_nil n2 (by omega) _).mono ?_
  rintro e w1 (⟨h, _⟩ | ⟨c, hc0, hcn1, hcn2, rfl, hw⟩)
  case inl => omega
  have hb : BlkAt w1 w.heap.size (Array.replicate c (.int .u64 0)) 151 := by rw [hw]; exact BlkAt.new _ _ _
  have hbd : Below w.heap.size w w1 := by rw [hw]; exact (Below.refl _ _).alloc (Nat.le_refl _) _
  clear hw
  have HD2 := Lib.hid (HB2.out.num.keep hbd)
  have hsz : (Array.replicate c (Value.int .u64 0)).size = c := by simp
  have HBK := Lib.hid hb
  have HBD := Lib.hid hbd
  clear hb hbd
  go_wp2
  go_loopw [10] (fun i wr => ∃ k : Nat, k ≤ n1 ∧ i = .int .i64 k ∧ RowUp 151 w1 wr w.heap.size 0 k (Array.replicate c (.int .u64 0)) (dg W64 (N1 ||| N2)))
    (fun i _ => n1 - (intOf i).toNat)
  case atStart => exact ⟨0, Nat.zero_le _, rfl, RowUp.start HBK.out _ _⟩
  case round =>
    obtain ⟨k, hk, rfl, hR⟩ := hrel
    by_cases k1 : k < n1
    · exact absurd k1 (by have := HZ.out; omega)
    · obtain rfl : k = n1 := by omega
      have HR := Lib.hid hR
      obtain ⟨cur', hk1, hk2, hk3, hk4⟩ := hR.blk
      clear hR
      have hx1 : (k : Int) ≤ n2 := by omega
      have hx2 : (n2 : Int) ≤ c := by omega
      have hx3 : (n2 : Int) ≤ c2 := by omega
      go_upto_region 12 with fail
      have hbd : Below wr.heap.size wr wr.drew := (Below.refl _ _).drew
      have hk1' := hk1.keep hbd
      have HG2 := Lib.hid (show wr.drew.heap[w.heap.size]? = some (.cells cur'.toList.toArray 151 (0, 0)) from by unfold BlkAt at hk1'; simpa using hk1')
      have HSRC := Lib.hid (show ∀ j v, (wlf N2 k (n2 - k))[j]? = some v → wr.drew.cell? ((⟨b2, o2 + k, none⟩ : Addr).add j) = some v from by
        intro j v hjv
        have hjn : j < n2 - k := by
          have := (List.getElem?_eq_some_iff.1 hjv).1
          rwa [wlf_len] at this
        rw [wlf_get hjn] at hjv
        rw [← hjv, Addr.add_lit, show o2 + k + j = o2 + (k + j) from by omega]
        exact cell_keep (HR.out.read HBK.out (HD2.out.cell (i := k + j) (by omega)) (.inl (Nat.ne_of_lt hl2)) (by omega)) hbd)
      have HB2' := Lib.hid ((HBD.out.trans (HR.out.toB (B := w.heap.size) (Nat.le_refl _) HBD.out.size).below).trans ((below_drew' wr w.heap.size)))
      have HT := Lib.hid (show k + (wlf N2 k (n2 - k)).length ≤ cur'.toList.length from by rw [wlf_len]; simp; omega)
      have HL := Lib.hid (wlf_len N2 k (n2 - k))
      clear hbd hk1'
      go_region_law (refine step_copy_splice rfl (.tmp 45) (.tmp 49) 141 141 rfl 151 Tryz.underlying141 infoWordSize (if c = k then some ⟨w.heap.size, 0, none⟩ else some ⟨w.heap.size, k, none⟩) (if c2 = k then some ⟨b2, o2, none⟩ else some ⟨b2, o2 + k, none⟩) (n2 - k) (c - k) (n2 - k) (c2 - k) (by simp [Act.eval, Act.put]) (by simp [Act.eval, Act.put]) w.heap.size k cur'.toList 151 HG2.out (wlf N2 k (n2 - k)) (by rw [HL.out]; exact (Nat.min_self _).symm) (fun h0 => by rw [HL.out] at h0; exact ⟨if_neg (by omega), ⟨b2, o2 + k, none⟩, if_neg (by omega), HSRC.out⟩) HT.out (wlf_one _ _ _) w.heap.size w HB2'.out (Nat.le_refl _) ?_; intro w4 hg4 hb4)
      all_goals go_wp2_with fail
      all_goals
        have hq := rowB_spliced (k := k) (n := n2) (h := dg W64 (N1 ||| N2)) (X := N2) (by omega) hk2 (by rw [hsz]; omega) hk3 hk4 (by rw [Nat.zero_add]; exact hg4) hb4 (fun i h1 h2 => HHI.out i h1 h2)
        have HBel := Lib.hid hq.below
        obtain ⟨cur3, l1, l2, l3, l4⟩ := hq.blk
        obtain ⟨hcl, hbn⟩ := bigN_row (c := c) (m := n2) (N := N1 ||| N2) l1 (by rw [l2, hsz]) (fun i hi => by have := l3 i hi; simpa using this) hcn1 (by unfold maxLen; omega) HLT.out
        have HCL := Lib.hid hcl
        have HBN := Lib.hid hbn
        clear l1 l2 l3 l4 hcl hbn hq hk1 hk2 hk3 hk4 hsz
        have HCK := Lib.hid (show ∀ j : Nat, c = j → BigN 151 w4 (some ⟨w.heap.size, 0, none⟩) (tlen (dg W64 (N1 ||| N2)) n2) j (N1 ||| N2) from fun j e => e ▸ HBN.out)
        first
          | with_reducible refine (norm_any (some ⟨w.heap.size, 0, none⟩) n2 k (dg W64 (N1 ||| N2)) _ (by omega) (by omega) (by unfold maxLen; omega) (by simp) HCL.out).mono ?_
          | with_reducible refine (norm_any (some ⟨w.heap.size, 0, none⟩) n2 c (dg W64 (N1 ||| N2)) _ (by omega) (by omega) (by unfold maxLen; omega) (by simp) HCL.out).mono ?_
        rintro e w5 ⟨rfl, rfl⟩
        go_wp2
        go_ret
        exact ⟨_, _, _, rfl, HCK.out _ (by first | rfl | assumption), HBel.out⟩
set_option maxRecDepth 100000 in
set_option maxHeartbeats 600000 in
theorem natXor_z2 (a1 a2 : Option Addr) (n1 n2 c1 c2 N1 N2 : Nat) (w : World) (h1 : BigN 151 w a1 n1 c1 N1) (h2 : BigN 151 w a2 n2 c2 N2) (hb1 : n1 ≤ 900000) (hz2 : n2 = 0) (hz1 : 0 < n1) :
    Calls Tryz.prog 139 #[.slice none 0 0, .slice a1 n1 c1, .slice a2 n2 c2] w (GivesN 151 (N1 ^^^ N2) w) := by
  have hge : n2 ≤ n1 := by omega
  have HZ := Lib.hid hz2
  clear hz2
  have hm1 := h1.num.cm
  have hm2 := h2.num.cm
  have hc1 := h1.num.nc
  have hc2 := h2.num.nc
  unfold maxLen at hm1 hm2
  have HLT := Lib.hid (xor_lt h1.num.lt h2.num.lt hge)
  have HHI := Lib.hid (show ∀ i, n2 ≤ i → i < n1 → dg W64 (N1 ^^^ N2) i = dg W64 N1 i from fun i hi _ => by
    have hz : dg W64 N2 i = 0 := by
      unfold dg; rw [Nat.div_eq_of_lt (Nat.lt_of_lt_of_le h2.num.lt (Nat.pow_le_pow_right W64_pos hi)), Nat.zero_mod]
    rw [dg_xor, hz, Nat.xor_zero])
  obtain ⟨b1, o1, rfl, hl1⟩ := h1.num.form (by omega)
  have HB1 := Lib.hid h1
  clear h1 h2
  have hd : decide (n1 < n2) = false := by simp; omega
  have hlt : ¬ ((n1 : Int) < n2) := by omega
  go_enter Tryz.func139, Tryz.ntmps139
  go_wp2_with fail
  refine (make_nil n1 (by omega) _).mono ?_
  rintro e w1 (⟨h, _⟩ | ⟨c, hc0, hcn1, hcn2, rfl, hw⟩)
  case inl => omega
  have hb : BlkAt w1 w.heap.size (Array.replicate c (.int .u64 0)) 151 := by rw [hw]; exact BlkAt.new _ _ _
  have hbd : Below w.heap.size w w1 := by rw [hw]; exact (Below.refl _ _).alloc (Nat.le_refl _) _
  clear hw
  have HD1 := Lib.hid (HB1.out.num.keep hbd)
  have hsz : (Array.replicate c (Value.int .u64 0)).size = c := by simp
  have HBK := Lib.hid hb
  have HBD := Lib.hid hbd
  clear hb hbd
  go_wp2
  go_loopw [10] (fun i wr => ∃ k : Nat, k ≤ n2 ∧ i = .int .i64 k ∧ RowUp 151 w1 wr w.heap.size 0 k (Array.replicate c (.int .u64 0)) (dg W64 (N1 ^^^ N2)))
    (fun i _ => n2 - (intOf i).toNat)
  case atStart => exact ⟨0, Nat.zero_le _, rfl, RowUp.start HBK.out _ _⟩
  case round =>
    obtain ⟨k, hk, rfl, hR⟩ := hrel
    by_cases k1 : k < n2
    · exact absurd k1 (by have := HZ.out; omega)
    · obtain rfl : k = n2 := by omega
      have HR := Lib.hid hR
      obtain ⟨cur', hk1, hk2, hk3, hk4⟩ := hR.blk
      clear hR
      have hx1 : (k : Int) ≤ n1 := by omega
      have hx2 : (n1 : Int) ≤ c := by omega
      have hx3 : (n1 : Int) ≤ c1 := by omega
      go_upto_region 12 with fail
      have hbd : Below wr.heap.size wr wr.drew := (Below.refl _ _).drew
      have hk1' := hk1.keep hbd
      have HG2 := Lib.hid (show wr.drew.heap[w.heap.size]? = some (.cells cur'.toList.toArray 151 (0, 0)) from by unfold BlkAt at hk1'; simpa using hk1')
      have HSRC := Lib.hid (show ∀ j v, (wlf N1 k (n1 - k))[j]? = some v → wr.drew.cell? ((⟨b1, o1 + k, none⟩ : Addr).add j) = some v from by
        intro j v hjv
        have hjn : j < n1 - k := by
          have := (List.getElem?_eq_some_iff.1 hjv).1
          rwa [wlf_len] at this
        rw [wlf_get hjn] at hjv
        rw [← hjv, Addr.add_lit, show o1 + k + j = o1 + (k + j) from by omega]
        exact cell_keep (HR.out.read HBK.out (HD1.out.cell (i := k + j) (by omega)) (.inl (Nat.ne_of_lt hl1)) (by omega)) hbd)
      have HB2' := Lib.hid ((HBD.out.trans (HR.out.toB (B := w.heap.size) (Nat.le_refl _) HBD.out.size).below).trans ((below_drew' wr w.heap.size)))
      have HT := Lib.hid (show k + (wlf N1 k (n1 - k)).length ≤ cur'.toList.length from by rw [wlf_len]; simp; omega)
      have HL := Lib.hid (wlf_len N1 k (n1 - k))
      clear hbd hk1'
      go_region_law (refine step_copy_splice rfl (.tmp 45) (.tmp 49) 141 141 rfl 151 Tryz.underlying141 infoWordSize (if c = k then some ⟨w.heap.size, 0, none⟩ else some ⟨w.heap.size, k, none⟩) (if c1 = k then some ⟨b1, o1, none⟩ else some ⟨b1, o1 + k, none⟩) (n1 - k) (c - k) (n1 - k) (c1 - k) (by simp [Act.eval, Act.put]) (by simp [Act.eval, Act.put]) w.heap.size k cur'.toList 151 HG2.out (wlf N1 k (n1 - k)) (by rw [HL.out]; exact (Nat.min_self _).symm) (fun h0 => by rw [HL.out] at h0; exact ⟨if_neg (by omega), ⟨b1, o1 + k, none⟩, if_neg (by omega), HSRC.out⟩) HT.out (wlf_one _ _ _) w.heap.size w HB2'.out (Nat.le_refl _) ?_; intro w4 hg4 hb4)
      all_goals go_wp2_with fail
      all_goals
        have hq := rowB_spliced (k := k) (n := n1) (h := dg W64 (N1 ^^^ N2)) (X := N1) (by omega) hk2 (by rw [hsz]; omega) hk3 hk4 (by rw [Nat.zero_add]; exact hg4) hb4 (fun i h1 h2 => HHI.out i h1 h2)
        have HBel := Lib.hid hq.below
        obtain ⟨cur3, l1, l2, l3, l4⟩ := hq.blk
        obtain ⟨hcl, hbn⟩ := bigN_row (c := c) (m := n1) (N := N1 ^^^ N2) l1 (by rw [l2, hsz]) (fun i hi => by have := l3 i hi; simpa using this) hcn1 (by unfold maxLen; omega) HLT.out
        have HCL := Lib.hid hcl
        have HBN := Lib.hid hbn
        clear l1 l2 l3 l4 hcl hbn hq hk1 hk2 hk3 hk4 hsz
        have HCK := Lib.hid (show ∀ j : Nat, c = j → BigN 151 w4 (some ⟨w.heap.size, 0, none⟩) (tlen (dg W64 (N1 ^^^ N2)) n1) j (N1 ^^^ N2) from fun j e => e ▸ HBN.out)
        first
          | with_reducible refine (norm_any (some ⟨w.heap.size, 0, none⟩) n1 k (dg W64 (N1 ^^^ N2)) _ (by omega) (by omega) (by unfold maxLen; omega) (by simp) HCL.out).mono ?_
          | with_reducible refine (norm_any (some ⟨w.heap.size, 0, none⟩) n1 c (dg W64 (N1 ^^^ N2)) _ (by omega) (by omega) (by unfold maxLen; omega) (by simp) HCL.out).mono ?_
        rintro e w5 ⟨rfl, rfl⟩
        go_wp2
        go_ret
        exact ⟨_, _, _, rfl, HCK.out _ (by first | rfl | assumption), HBel.out⟩
set_option maxRecDepth 100000 in
set_option maxHeartbeats 600000 in
theorem natXor_z1 (a1 a2 : Option Addr) (n1 n2 c1 c2 N1 N2 : Nat) (w : World) (h1 : BigN 151 w a1 n1 c1 N1) (h2 : BigN 151 w a2 n2 c2 N2) (hb2 : n2 ≤ 900000) (hz1 : n1 = 0) (hz2 : 0 < n2) :
    Calls Tryz.prog 139 #[.slice none 0 0, .slice a1 n1 c1, .slice a2 n2 c2] w (GivesN 151 (N1 ^^^ N2) w) := by
  have hlt : n1 < n2 := by omega
  have HZ := Lib.hid hz1
  clear hz1
  have hm1 := h1.num.cm
  have hm2 := h2.num.cm
  have hc1 := h1.num.nc
  have hc2 := h2.num.nc
  unfold maxLen at hm1 hm2
  have HLT := Lib.hid (show (N1 ^^^ N2) < W64 ^ n2 from by rw [Nat.xor_comm]; exact xor_lt h2.num.lt h1.num.lt (Nat.le_of_lt hlt))
  have HHI := Lib.hid (show ∀ i, n1 ≤ i → i < n2 → dg W64 (N1 ^^^ N2) i = dg W64 N2 i from fun i hi _ => by
    have hz : dg W64 N1 i = 0 := by
      unfold dg; rw [Nat.div_eq_of_lt (Nat.lt_of_lt_of_le h1.num.lt (Nat.pow_le_pow_right W64_pos hi)), Nat.zero_mod]
    rw [dg_xor, hz, Nat.zero_xor])
  obtain ⟨b2, o2, rfl, hl2⟩ := h2.num.form (by omega)
  have HB2 := Lib.hid h2
  clear h1 h2
  have hd : decide (n1 < n2) = true := by simp; omega
  have hlt' : ((n1 : Int) < n2) := by omega
  go_enter Tryz.func139, Tryz.ntmps139
  go_wp2_with fail
  refine (make_nil n2 (by omega) _).mono ?_
  rintro e w1 (⟨h, _⟩ | ⟨c, hc0, hcn1, hcn2, rfl, hw⟩)
  case inl => omega
  have hb : BlkAt w1 w.heap.size (Array.replicate c (.int .u64 0)) 151 := by rw [hw]; exact BlkAt.new _ _ _
  have hbd : Below w.heap.size w w1 := by rw [hw]; exact (Below.refl _ _).alloc (Nat.le_refl _) _
  clear hw
  have HD2 := Lib.hid (HB2.out.num.keep hbd)
  have hsz : (Array.replicate c (Value.int .u64 0)).size = c := by simp
  have HBK := Lib.hid hb
  have HBD := Lib.hid hbd
  clear hb hbd
  go_wp2
  go_loopw [10] (fun i wr => ∃ k : Nat, k ≤ n1 ∧ i = .int .i64 k ∧ RowUp 151 w1 wr w.heap.size 0 k (Array.replicate c (.int .u64 0)) (dg W64 (N1 ^^^ N2)))
    (fun i _ => n1 - (intOf i).toNat)
  case atStart => exact ⟨0, Nat.zero_le _, rfl, RowUp.start HBK.out _ _⟩
  case round =>
    obtain ⟨k, hk, rfl, hR⟩ := hrel
    by_cases k1 : k < n1
    · exact absurd k1 (by have := HZ.out; omega)
    · obtain rfl : k = n1 := by omega
      have HR := Lib.hid hR
      obtain ⟨cur', hk1, hk2, hk3, hk4⟩ := hR.blk
      clear hR
      have hx1 : (k : Int) ≤ n2 := by omega
      have hx2 : (n2 : Int) ≤ c := by omega
      have hx3 : (n2 : Int) ≤ c2 := by omega
      go_upto_region 12 with fail
      have hbd : Below wr.heap.size wr wr.drew := (Below.refl _ _).drew
      have hk1' := hk1.keep hbd
      have HG2 := Lib.hid (show wr.drew.heap[w.heap.size]? = some (.cells cur'.toList.toArray 151 (0, 0)) from by unfold BlkAt at hk1'; simpa using hk1')
      have HSRC := Lib.hid (show ∀ j v, (wlf N2 k (n2 - k))[j]? = some v → wr.drew.cell? ((⟨b2, o2 + k, none⟩ : Addr).add j) = some v from by
        intro j v hjv
        have hjn : j < n2 - k := by
          have := (List.getElem?_eq_some_iff.1 hjv).1
          rwa [wlf_len] at this
        rw [wlf_get hjn] at hjv
        rw [← hjv, Addr.add_lit, show o2 + k + j = o2 + (k + j) from by omega]
        exact cell_keep (HR.out.read HBK.out (HD2.out.cell (i := k + j) (by omega)) (.inl (Nat.ne_of_lt hl2)) (by omega)) hbd)
      have HB2' := Lib.hid ((HBD.out.trans (HR.out.toB (B := w.heap.size) (Nat.le_refl _) HBD.out.size).below).trans ((below_drew' wr w.heap.size)))
      have HT := Lib.hid (show k + (wlf N2 k (n2 - k)).length ≤ cur'.toList.length from by rw [wlf_len]; simp; omega)
      have HL := Lib.hid (wlf_len N2 k (n2 - k))
      clear hbd hk1'
      go_region_law (refine step_copy_splice rfl (.tmp 45) (.tmp 49) 141 141 rfl 151 Tryz.underlying141 infoWordSize (if c = k then some ⟨w.heap.size, 0, none⟩ else some ⟨w.heap.size, k, none⟩) (if c2 = k then some ⟨b2, o2, none⟩ else some ⟨b2, o2 + k, none⟩) (n2 - k) (c - k) (n2 - k) (c2 - k) (by simp [Act.eval, Act.put]) (by simp [Act.eval, Act.put]) w.heap.size k cur'.toList 151 HG2.out (wlf N2 k (n2 - k)) (by rw [HL.out]; exact (Nat.min_self _).symm) (fun h0 => by rw [HL.out] at h0; exact ⟨if_neg (by omega), ⟨b2, o2 + k, none⟩, if_neg (by omega), HSRC.out⟩) HT.out (wlf_one _ _ _) w.heap.size w HB2'.out (Nat.le_refl _) ?_; intro w4 hg4 hb4)
      all_goals go_wp2_with fail
      all_goals
        have hq := rowB_spliced (k := k) (n := n2) (h := dg W64 (N1 ^^^ N2)) (X := N2) (by omega) hk2 (by rw [hsz]; omega) hk3 hk4 (by rw [Nat.zero_add]; exact hg4) hb4 (fun i h1 h2 => HHI.out i h1 h2)
        have HBel := Lib.hid hq.below
        obtain ⟨cur3, l1, l2, l3, l4⟩ := hq.blk
        obtain ⟨hcl, hbn⟩ := bigN_row (c := c) (m := n2) (N := N1 ^^^ N2) l1 (by rw [l2, hsz]) (fun i hi => by have := l3 i hi; simpa using this) hcn1 (by unfold maxLen; omega) HLT.out
        have HCL := Lib.hid hcl
        have HBN := Lib.hid hbn
        clear l1 l2 l3 l4 hcl hbn hq hk1 hk2 hk3 hk4 hsz
        have HCK := Lib.hid (show ∀ j : Nat, c = j → BigN 151 w4 (some ⟨w.heap.size, 0, none⟩) (tlen (dg W64 (N1 ^^^ N2)) n2) j (N1 ^^^ N2) from fun j e => e ▸ HBN.out)
        first
          | with_reducible refine (norm_any (some ⟨w.heap.size, 0, none⟩) n2 k (dg W64 (N1 ^^^ N2)) _ (by omega) (by omega) (by unfold maxLen; omega) (by simp) HCL.out).mono ?_
          | with_reducible refine (norm_any (some ⟨w.heap.size, 0, none⟩) n2 c (dg W64 (N1 ^^^ N2)) _ (by omega) (by omega) (by unfold maxLen; omega) (by simp) HCL.out).mono ?_
        rintro e w5 ⟨rfl, rfl⟩
        go_wp2
        go_ret
        exact ⟨_, _, _, rfl, HCK.out _ (by first | rfl | assumption), HBel.out⟩
end Go.Proofs.YtdkipndepkblhaaGreatDoor

set_option linter.unusedSimpArgs false
set_option linter.unusedVariables false
namespace Go.Bg
open Go.RowKit Dg
/-- the bits of a that b has not -/
def andn (a b : Nat) : Nat := a ^^^ (a &&& b)
theorem bv_andNot (x y : BitVec 64) : x &&& ~~~y = x ^^^ (x &&& y) := by
  apply BitVec.eq_of_getLsbD_eq
  intro i hi
  simp [hi]
  cases x[i] <;> cases y[i] <;> rfl
theorem andn_zero (a : Nat) : andn a 0 = a := by unfold andn; rw [Nat.and_zero, Nat.xor_zero]
theorem dg_andn (a b i : Nat) : dg W64 (andn a b) i = andn (dg W64 a i) (dg W64 b i) := by unfold andn; rw [dg_xor, dg_and]
theorem andn_lt {a n : Nat} (h : a < W64 ^ n) (b : Nat) : andn a b < W64 ^ n := xor_lt h (Nat.lt_of_le_of_lt Nat.and_le_left h) (Nat.le_refl _)
end Go.Bg

namespace Go.Proofs.YtdkipndepkblhaaGreatDoor
open Go.RowKit Go.Bg Dg

theorem bits_andNot64 (a b : Nat) (ha : a < 18446744073709551616) (hb : b < 18446744073709551616) : bits .andNot .u64 (a : Int) (b : Int) = ((andn a b : Nat) : Int) := by
  have hx : andn a b < 2 ^ 64 := Nat.xor_lt_two_pow (by omega) (Nat.lt_of_le_of_lt Nat.and_le_left (by omega))
  have h1 : (BitVec.ofInt 64 (a : Int)).toNat = a := by
    rw [BitVec.ofInt_natCast, BitVec.toNat_ofNat]; exact Nat.mod_eq_of_lt (by omega)
  have h2 : (BitVec.ofInt 64 (b : Int)).toNat = b := by
    rw [BitVec.ofInt_natCast, BitVec.toNat_ofNat]; exact Nat.mod_eq_of_lt (by omega)
  show IntKind.u64.wrap ((BitVec.ofInt 64 (a : Int) &&& ~~~ BitVec.ofInt 64 (b : Int)).toNat : Int) = _
  rw [bv_andNot, BitVec.toNat_xor, BitVec.toNat_and, h1, h2, IntKind.wrap_u64]
  unfold andn at *
  omega

set_option maxRecDepth 100000 in
set_option maxHeartbeats 600000 in
theorem natAndNot_ge (a1 a2 : Option Addr) (n1 n2 c1 c2 N1 N2 : Nat) (w : World) (h1 : BigN 151 w a1 n1 c1 N1) (h2 : BigN 151 w a2 n2 c2 N2) (hb1 : n1 ≤ 900000) (hge : n2 ≤ n1) (hz2 : 0 < n2) :
    Calls Tryz.prog 138 #[.slice none 0 0, .slice a1 n1 c1, .slice a2 n2 c2] w (GivesN 151 (andn N1 N2) w) := by
  have hm1 := h1.num.cm
  have hm2 := h2.num.cm
  have hc1 := h1.num.nc
  have hc2 := h2.num.nc
  unfold maxLen at hm1 hm2
  have HLT := Lib.hid (andn_lt h1.num.lt N2)
  have HHI := Lib.hid (show ∀ i, n2 ≤ i → i < n1 → dg W64 (andn N1 N2) i = dg W64 N1 i from fun i hi _ => by
    have hz : dg W64 N2 i = 0 := by
      unfold dg; rw [Nat.div_eq_of_lt (Nat.lt_of_lt_of_le h2.num.lt (Nat.pow_le_pow_right W64_pos hi)), Nat.zero_mod]
    rw [dg_andn, hz, andn_zero])
  obtain ⟨b1, o1, rfl, hl1⟩ := h1.num.form (by omega)
  obtain ⟨b2, o2, rfl, hl2⟩ := h2.num.form (by omega)
  have HB1 := Lib.hid h1
  have HB2 := Lib.hid h2
  clear h1 h2
  have hd : decide (n1 < n2) = false := by simp; omega
  have hlt : ¬ ((n1 : Int) < n2) := by omega
  go_enter Tryz.func138, Tryz.ntmps138
  go_wp2_with fail
  refine (make_nil n1 (by omega) _).mono ?_
  rintro e w1 (⟨h, _⟩ | ⟨c, hc0, hcn1, hcn2, rfl, hw⟩)
  case inl => omega
  have hb : BlkAt w1 w.heap.size (Array.replicate c (.int .u64 0)) 151 := by rw [hw]; exact BlkAt.new _ _ _
  have hbd : Below w.heap.size w w1 := by rw [hw]; exact (Below.refl _ _).alloc (Nat.le_refl _) _
  clear hw
  have HD1 := Lib.hid (HB1.out.num.keep hbd)
  have HD2 := Lib.hid (HB2.out.num.keep hbd)
  have hsz : (Array.replicate c (Value.int .u64 0)).size = c := by simp
  have HBK := Lib.hid hb
  have HBD := Lib.hid hbd
  clear hb hbd
  go_wp2
  go_loopw [9] (fun i wr => ∃ k : Nat, k ≤ n2 ∧ i = .int .i64 k ∧ RowUp 151 w1 wr w.heap.size 0 k (Array.replicate c (.int .u64 0)) (dg W64 (andn N1 N2)))
    (fun i _ => n2 - (intOf i).toNat)
  case atStart => exact ⟨0, Nat.zero_le _, rfl, RowUp.start HBK.out _ _⟩
  case round =>
    obtain ⟨k, hk, rfl, hR⟩ := hrel
    by_cases k1 : k < n2
    · have e1 := hR.read HBK.out (HD1.out.cell (i := k) (by omega)) (.inl (Nat.ne_of_lt hl1)) (Nat.le_refl _)
      have e2 := hR.read HBK.out (HD2.out.cell (i := k) (by omega)) (.inl (Nat.ne_of_lt hl2)) (Nat.le_refl _)
      have d1 : dg W64 N1 k < 18446744073709551616 := W64_lt (dg_lt W64_pos _ _)
      have d2 : dg W64 N2 k < 18446744073709551616 := W64_lt (dg_lt W64_pos _ _)
      have HE := Lib.hid (dg_andn N1 N2 k)
      have HR := Lib.hid hR
      have hroom := hR.room (j := k) (by rw [hsz]; omega)
      obtain ⟨⟨u0, p0⟩, f0⟩ := hroom
      clear hR
      generalize dg W64 N1 k = x at *
      generalize dg W64 N2 k = y at *
      have hbt := bits_andNot64 x y d1 d2
      have kl1 : (k : Int) < n1 := by omega
      go_upto_region 9 with fail
      go_region
      all_goals
        go_wp2
        try rw [hbt]
        go_roundw
        case rel => exact ⟨k + 1, by omega, by go_num, by have := ((HR.out.step (x := andn x y) (by rw [hsz]; omega) HE.out.symm).drewN 1); rw [Nat.zero_add] at this; exact this⟩
        case measure => simp [intOf]; omega
    · obtain rfl : k = n2 := by omega
      have HR := Lib.hid hR
      obtain ⟨cur', hk1, hk2, hk3, hk4⟩ := hR.blk
      clear hR
      have hx1 : (k : Int) ≤ n1 := by omega
      have hx2 : (n1 : Int) ≤ c := by omega
      have hx3 : (n1 : Int) ≤ c1 := by omega
      go_upto_region 10 with fail
      have hbd : Below wr.heap.size wr wr.drew := (Below.refl _ _).drew
      have hk1' := hk1.keep hbd
      have HG2 := Lib.hid (show wr.drew.heap[w.heap.size]? = some (.cells cur'.toList.toArray 151 (0, 0)) from by unfold BlkAt at hk1'; simpa using hk1')
      have HSRC := Lib.hid (show ∀ j v, (wlf N1 k (n1 - k))[j]? = some v → wr.drew.cell? ((⟨b1, o1 + k, none⟩ : Addr).add j) = some v from by
        intro j v hjv
        have hjn : j < n1 - k := by
          have := (List.getElem?_eq_some_iff.1 hjv).1
          rwa [wlf_len] at this
        rw [wlf_get hjn] at hjv
        rw [← hjv, Addr.add_lit, show o1 + k + j = o1 + (k + j) from by omega]
        exact cell_keep (HR.out.read HBK.out (HD1.out.cell (i := k + j) (by omega)) (.inl (Nat.ne_of_lt hl1)) (by omega)) hbd)
      have HB2' := Lib.hid ((HBD.out.trans (HR.out.toB (B := w.heap.size) (Nat.le_refl _) HBD.out.size).below).trans ((below_drew' wr w.heap.size)))
      have HT := Lib.hid (show k + (wlf N1 k (n1 - k)).length ≤ cur'.toList.length from by rw [wlf_len]; simp; omega)
      have HL := Lib.hid (wlf_len N1 k (n1 - k))
      clear hbd hk1'
      go_region_law (refine step_copy_splice rfl (.tmp 41) (.tmp 45) 141 141 rfl 151 Tryz.underlying141 infoWordSize (if c = k then some ⟨w.heap.size, 0, none⟩ else some ⟨w.heap.size, k, none⟩) (if c1 = k then some ⟨b1, o1, none⟩ else some ⟨b1, o1 + k, none⟩) (n1 - k) (c - k) (n1 - k) (c1 - k) (by simp [Act.eval, Act.put]) (by simp [Act.eval, Act.put]) w.heap.size k cur'.toList 151 HG2.out (wlf N1 k (n1 - k)) (by rw [HL.out]; exact (Nat.min_self _).symm) (fun h0 => by rw [HL.out] at h0; exact ⟨if_neg (by omega), ⟨b1, o1 + k, none⟩, if_neg (by omega), HSRC.out⟩) HT.out (wlf_one _ _ _) w.heap.size w HB2'.out (Nat.le_refl _) ?_; intro w4 hg4 hb4)
      all_goals go_wp2_with fail
      all_goals
        have hq := rowB_spliced (k := k) (n := n1) (h := dg W64 (andn N1 N2)) (X := N1) (by omega) hk2 (by rw [hsz]; omega) hk3 hk4 (by rw [Nat.zero_add]; exact hg4) hb4 (fun i h1 h2 => HHI.out i h1 h2)
        have HBel := Lib.hid hq.below
        obtain ⟨cur3, l1, l2, l3, l4⟩ := hq.blk
        obtain ⟨hcl, hbn⟩ := bigN_row (c := c) (m := n1) (N := andn N1 N2) l1 (by rw [l2, hsz]) (fun i hi => by have := l3 i hi; simpa using this) hcn1 (by unfold maxLen; omega) HLT.out
        have HCL := Lib.hid hcl
        have HBN := Lib.hid hbn
        clear l1 l2 l3 l4 hcl hbn hq hk1 hk2 hk3 hk4 hsz
        have HCK := Lib.hid (show ∀ j : Nat, c = j → BigN 151 w4 (some ⟨w.heap.size, 0, none⟩) (tlen (dg W64 (andn N1 N2)) n1) j (andn N1 N2) from fun j e => e ▸ HBN.out)
        first
          | with_reducible refine (norm_any (some ⟨w.heap.size, 0, none⟩) n1 k (dg W64 (andn N1 N2)) _ (by omega) (by omega) (by unfold maxLen; omega) (by simp) HCL.out).mono ?_
          | with_reducible refine (norm_any (some ⟨w.heap.size, 0, none⟩) n1 c (dg W64 (andn N1 N2)) _ (by omega) (by omega) (by unfold maxLen; omega) (by simp) HCL.out).mono ?_
        rintro e w5 ⟨rfl, rfl⟩
        go_wp2
        go_ret
        exact ⟨_, _, _, rfl, HCK.out _ (by first | rfl | assumption), HBel.out⟩
set_option maxRecDepth 100000 in
set_option maxHeartbeats 600000 in
theorem natAndNot_lt (a1 a2 : Option Addr) (n1 n2 c1 c2 N1 N2 : Nat) (w : World) (h1 : BigN 151 w a1 n1 c1 N1) (h2 : BigN 151 w a2 n2 c2 N2) (hb1 : n1 ≤ 900000) (hlt0 : n1 < n2) (hz1 : 0 < n1) :
    Calls Tryz.prog 138 #[.slice none 0 0, .slice a1 n1 c1, .slice a2 n2 c2] w (GivesN 151 (andn N1 N2) w) := by
  have hm1 := h1.num.cm
  have hm2 := h2.num.cm
  have hc1 := h1.num.nc
  have hc2 := h2.num.nc
  unfold maxLen at hm1 hm2
  have HLT := Lib.hid (andn_lt h1.num.lt N2)
  have HHI := Lib.hid (show ∀ i, n1 ≤ i → i < n1 → dg W64 (andn N1 N2) i = dg W64 N1 i from fun i h1 h2 => absurd h1 (by omega))
  obtain ⟨b1, o1, rfl, hl1⟩ := h1.num.form (by omega)
  obtain ⟨b2, o2, rfl, hl2⟩ := h2.num.form (by omega)
  have HB1 := Lib.hid h1
  have HB2 := Lib.hid h2
  clear h1 h2
  have hd : decide (n1 < n2) = true := by simp; omega
  have hlt' : ((n1 : Int) < n2) := by omega
  go_enter Tryz.func138, Tryz.ntmps138
  go_wp2_with fail
  refine (make_nil n1 (by omega) _).mono ?_
  rintro e w1 (⟨h, _⟩ | ⟨c, hc0, hcn1, hcn2, rfl, hw⟩)
  case inl => omega
  have hb : BlkAt w1 w.heap.size (Array.replicate c (.int .u64 0)) 151 := by rw [hw]; exact BlkAt.new _ _ _
  have hbd : Below w.heap.size w w1 := by rw [hw]; exact (Below.refl _ _).alloc (Nat.le_refl _) _
  clear hw
  have HD1 := Lib.hid (HB1.out.num.keep hbd)
  have HD2 := Lib.hid (HB2.out.num.keep hbd)
  have hsz : (Array.replicate c (Value.int .u64 0)).size = c := by simp
  have HBK := Lib.hid hb
  have HBD := Lib.hid hbd
  clear hb hbd
  go_wp2
  go_loopw [9] (fun i wr => ∃ k : Nat, k ≤ n1 ∧ i = .int .i64 k ∧ RowUp 151 w1 wr w.heap.size 0 k (Array.replicate c (.int .u64 0)) (dg W64 (andn N1 N2)))
    (fun i _ => n1 - (intOf i).toNat)
  case atStart => exact ⟨0, Nat.zero_le _, rfl, RowUp.start HBK.out _ _⟩
  case round =>
    obtain ⟨k, hk, rfl, hR⟩ := hrel
    by_cases k1 : k < n1
    · have e1 := hR.read HBK.out (HD1.out.cell (i := k) (by omega)) (.inl (Nat.ne_of_lt hl1)) (Nat.le_refl _)
      have e2 := hR.read HBK.out (HD2.out.cell (i := k) (by omega)) (.inl (Nat.ne_of_lt hl2)) (Nat.le_refl _)
      have d1 : dg W64 N1 k < 18446744073709551616 := W64_lt (dg_lt W64_pos _ _)
      have d2 : dg W64 N2 k < 18446744073709551616 := W64_lt (dg_lt W64_pos _ _)
      have HE := Lib.hid (dg_andn N1 N2 k)
      have HR := Lib.hid hR
      have hroom := hR.room (j := k) (by rw [hsz]; omega)
      obtain ⟨⟨u0, p0⟩, f0⟩ := hroom
      clear hR
      generalize dg W64 N1 k = x at *
      generalize dg W64 N2 k = y at *
      have hbt := bits_andNot64 x y d1 d2
      have kl1 : (k : Int) < n2 := by omega
      go_upto_region 9 with fail
      go_region
      all_goals
        go_wp2
        try rw [hbt]
        go_roundw
        case rel => exact ⟨k + 1, by omega, by go_num, by have := ((HR.out.step (x := andn x y) (by rw [hsz]; omega) HE.out.symm).drewN 1); rw [Nat.zero_add] at this; exact this⟩
        case measure => simp [intOf]; omega
    · obtain rfl : k = n1 := by omega
      have HR := Lib.hid hR
      obtain ⟨cur', hk1, hk2, hk3, hk4⟩ := hR.blk
      clear hR
      have hx1 : (k : Int) ≤ k := by omega
      have hx2 : (k : Int) ≤ c := by omega
      have hx3 : (k : Int) ≤ c1 := by omega
      go_upto_region 10 with fail
      have hbd : Below wr.heap.size wr wr.drew := (Below.refl _ _).drew
      have hk1' := hk1.keep hbd
      have HG2 := Lib.hid (show wr.drew.heap[w.heap.size]? = some (.cells cur'.toList.toArray 151 (0, 0)) from by unfold BlkAt at hk1'; simpa using hk1')
      have HSRC := Lib.hid (show ∀ j v, (wlf N1 k (k - k))[j]? = some v → wr.drew.cell? ((⟨b1, o1 + k, none⟩ : Addr).add j) = some v from by
        intro j v hjv
        have hjn : j < k - k := by
          have := (List.getElem?_eq_some_iff.1 hjv).1
          rwa [wlf_len] at this
        rw [wlf_get hjn] at hjv
        rw [← hjv, Addr.add_lit, show o1 + k + j = o1 + (k + j) from by omega]
        exact cell_keep (HR.out.read HBK.out (HD1.out.cell (i := k + j) (by omega)) (.inl (Nat.ne_of_lt hl1)) (by omega)) hbd)
      have HB2' := Lib.hid ((HBD.out.trans (HR.out.toB (B := w.heap.size) (Nat.le_refl _) HBD.out.size).below).trans ((below_drew' wr w.heap.size)))
      have HT := Lib.hid (show k + (wlf N1 k (k - k)).length ≤ cur'.toList.length from by rw [wlf_len]; simp; omega)
      have HL := Lib.hid (wlf_len N1 k (k - k))
      clear hbd hk1'
      go_region_law (refine step_copy_splice rfl (.tmp 41) (.tmp 45) 141 141 rfl 151 Tryz.underlying141 infoWordSize (if c = k then some ⟨w.heap.size, 0, none⟩ else some ⟨w.heap.size, k, none⟩) (if c1 = k then some ⟨b1, o1, none⟩ else some ⟨b1, o1 + k, none⟩) (k - k) (c - k) (k - k) (c1 - k) (by simp [Act.eval, Act.put]) (by simp [Act.eval, Act.put]) w.heap.size k cur'.toList 151 HG2.out (wlf N1 k (k - k)) (by rw [HL.out]; exact (Nat.min_self _).symm) (fun h0 => by rw [HL.out] at h0; exact ⟨if_neg (by omega), ⟨b1, o1 + k, none⟩, if_neg (by omega), HSRC.out⟩) HT.out (wlf_one _ _ _) w.heap.size w HB2'.out (Nat.le_refl _) ?_; intro w4 hg4 hb4)
      all_goals go_wp2_with fail
      all_goals
        have hq := rowB_spliced (k := k) (n := k) (h := dg W64 (andn N1 N2)) (X := N1) (by omega) hk2 (by rw [hsz]; omega) hk3 hk4 (by rw [Nat.zero_add]; exact hg4) hb4 (fun i h1 h2 => HHI.out i h1 h2)
        have HBel := Lib.hid hq.below
        obtain ⟨cur3, l1, l2, l3, l4⟩ := hq.blk
        obtain ⟨hcl, hbn⟩ := bigN_row (c := c) (m := k) (N := andn N1 N2) l1 (by rw [l2, hsz]) (fun i hi => by have := l3 i hi; simpa using this) hcn1 (by unfold maxLen; omega) HLT.out
        have HCL := Lib.hid hcl
        have HBN := Lib.hid hbn
        clear l1 l2 l3 l4 hcl hbn hq hk1 hk2 hk3 hk4 hsz
        have HCK := Lib.hid (show ∀ j : Nat, c = j → BigN 151 w4 (some ⟨w.heap.size, 0, none⟩) (tlen (dg W64 (andn N1 N2)) k) j (andn N1 N2) from fun j e => e ▸ HBN.out)
        first
          | with_reducible refine (norm_any (some ⟨w.heap.size, 0, none⟩) k k (dg W64 (andn N1 N2)) _ (by omega) (by omega) (by unfold maxLen; omega) (by simp) HCL.out).mono ?_
          | with_reducible refine (norm_any (some ⟨w.heap.size, 0, none⟩) k c (dg W64 (andn N1 N2)) _ (by omega) (by omega) (by unfold maxLen; omega) (by simp) HCL.out).mono ?_
        rintro e w5 ⟨rfl, rfl⟩
        go_wp2
        go_ret
        exact ⟨_, _, _, rfl, HCK.out _ (by first | rfl | assumption), HBel.out⟩
set_option maxRecDepth 100000 in
set_option maxHeartbeats 600000 in
theorem natAndNot_z2 (a1 a2 : Option Addr) (n1 n2 c1 c2 N1 N2 : Nat) (w : World) (h1 : BigN 151 w a1 n1 c1 N1) (h2 : BigN 151 w a2 n2 c2 N2) (hb1 : n1 ≤ 900000) (hz2 : n2 = 0) (hz1 : 0 < n1) :
    Calls Tryz.prog 138 #[.slice none 0 0, .slice a1 n1 c1, .slice a2 n2 c2] w (GivesN 151 (andn N1 N2) w) := by
  have hge : n2 ≤ n1 := by omega
  have HZ := Lib.hid hz2
  clear hz2
  have hm1 := h1.num.cm
  have hm2 := h2.num.cm
  have hc1 := h1.num.nc
  have hc2 := h2.num.nc
  unfold maxLen at hm1 hm2
  have HLT := Lib.hid (andn_lt h1.num.lt N2)
  have HHI := Lib.hid (show ∀ i, n2 ≤ i → i < n1 → dg W64 (andn N1 N2) i = dg W64 N1 i from fun i hi _ => by
    have hz : dg W64 N2 i = 0 := by
      unfold dg; rw [Nat.div_eq_of_lt (Nat.lt_of_lt_of_le h2.num.lt (Nat.pow_le_pow_right W64_pos hi)), Nat.zero_mod]
    rw [dg_andn, hz, andn_zero])
  obtain ⟨b1, o1, rfl, hl1⟩ := h1.num.form (by omega)
  have HB1 := Lib.hid h1
  clear h1 h2
  have hd : decide (n1 < n2) = false := by simp; omega
  have hlt : ¬ ((n1 : Int) < n2) := by omega
  go_enter Tryz.func138, Tryz.ntmps138
  go_wp2_with fail
  refine (make_nil n1 (by omega) _).mono ?_
  rintro e w1 (⟨h, _⟩ | ⟨c, hc0, hcn1, hcn2, rfl, hw⟩)
  case inl => omega
  have hb : BlkAt w1 w.heap.size (Array.replicate c (.int .u64 0)) 151 := by rw [hw]; exact BlkAt.new _ _ _
  have hbd : Below w.heap.size w w1 := by rw [hw]; exact (Below.refl _ _).alloc (Nat.le_refl _) _
  clear hw
  have HD1 := Lib.hid (HB1.out.num.keep hbd)
  have hsz : (Array.replicate c (Value.int .u64 0)).size = c := by simp
  have HBK := Lib.hid hb
  have HBD := Lib.hid hbd
  clear hb hbd
  go_wp2
  go_loopw [9] (fun i wr => ∃ k : Nat, k ≤ n2 ∧ i = .int .i64 k ∧ RowUp 151 w1 wr w.heap.size 0 k (Array.replicate c (.int .u64 0)) (dg W64 (andn N1 N2)))
    (fun i _ => n2 - (intOf i).toNat)
  case atStart => exact ⟨0, Nat.zero_le _, rfl, RowUp.start HBK.out _ _⟩
  case round =>
    obtain ⟨k, hk, rfl, hR⟩ := hrel
    by_cases k1 : k < n2
    · exact absurd k1 (by have := HZ.out; omega)
    · obtain rfl : k = n2 := by omega
      have HR := Lib.hid hR
      obtain ⟨cur', hk1, hk2, hk3, hk4⟩ := hR.blk
      clear hR
      have hx1 : (k : Int) ≤ n1 := by omega
      have hx2 : (n1 : Int) ≤ c := by omega
      have hx3 : (n1 : Int) ≤ c1 := by omega
      go_upto_region 10 with fail
      have hbd : Below wr.heap.size wr wr.drew := (Below.refl _ _).drew
      have hk1' := hk1.keep hbd
      have HG2 := Lib.hid (show wr.drew.heap[w.heap.size]? = some (.cells cur'.toList.toArray 151 (0, 0)) from by unfold BlkAt at hk1'; simpa using hk1')
      have HSRC := Lib.hid (show ∀ j v, (wlf N1 k (n1 - k))[j]? = some v → wr.drew.cell? ((⟨b1, o1 + k, none⟩ : Addr).add j) = some v from by
        intro j v hjv
        have hjn : j < n1 - k := by
          have := (List.getElem?_eq_some_iff.1 hjv).1
          rwa [wlf_len] at this
        rw [wlf_get hjn] at hjv
        rw [← hjv, Addr.add_lit, show o1 + k + j = o1 + (k + j) from by omega]
        exact cell_keep (HR.out.read HBK.out (HD1.out.cell (i := k + j) (by omega)) (.inl (Nat.ne_of_lt hl1)) (by omega)) hbd)
      have HB2' := Lib.hid ((HBD.out.trans (HR.out.toB (B := w.heap.size) (Nat.le_refl _) HBD.out.size).below).trans ((below_drew' wr w.heap.size)))
      have HT := Lib.hid (show k + (wlf N1 k (n1 - k)).length ≤ cur'.toList.length from by rw [wlf_len]; simp; omega)
      have HL := Lib.hid (wlf_len N1 k (n1 - k))
      clear hbd hk1'
      go_region_law (refine step_copy_splice rfl (.tmp 41) (.tmp 45) 141 141 rfl 151 Tryz.underlying141 infoWordSize (if c = k then some ⟨w.heap.size, 0, none⟩ else some ⟨w.heap.size, k, none⟩) (if c1 = k then some ⟨b1, o1, none⟩ else some ⟨b1, o1 + k, none⟩) (n1 - k) (c - k) (n1 - k) (c1 - k) (by simp [Act.eval, Act.put]) (by simp [Act.eval, Act.put]) w.heap.size k cur'.toList 151 HG2.out (wlf N1 k (n1 - k)) (by rw [HL.out]; exact (Nat.min_self _).symm) (fun h0 => by rw [HL.out] at h0; exact ⟨if_neg (by omega), ⟨b1, o1 + k, none⟩, if_neg (by omega), HSRC.out⟩) HT.out (wlf_one _ _ _) w.heap.size w HB2'.out (Nat.le_refl _) ?_; intro w4 hg4 hb4)
      all_goals go_wp2_with fail
      all_goals
        have hq := rowB_spliced (k := k) (n := n1) (h := dg W64 (andn N1 N2)) (X := N1) (by omega) hk2 (by rw [hsz]; omega) hk3 hk4 (by rw [Nat.zero_add]; exact hg4) hb4 (fun i h1 h2 => HHI.out i h1 h2)
        have HBel := Lib.hid hq.below
        obtain ⟨cur3, l1, l2, l3, l4⟩ := hq.blk
        obtain ⟨hcl, hbn⟩ := bigN_row (c := c) (m := n1) (N := andn N1 N2) l1 (by rw [l2, hsz]) (fun i hi => by have := l3 i hi; simpa using this) hcn1 (by unfold maxLen; omega) HLT.out
        have HCL := Lib.hid hcl
        have HBN := Lib.hid hbn
        clear l1 l2 l3 l4 hcl hbn hq hk1 hk2 hk3 hk4 hsz
        have HCK := Lib.hid (show ∀ j : Nat, c = j → BigN 151 w4 (some ⟨w.heap.size, 0, none⟩) (tlen (dg W64 (andn N1 N2)) n1) j (andn N1 N2) from fun j e => e ▸ HBN.out)
        first
          | with_reducible refine (norm_any (some ⟨w.heap.size, 0, none⟩) n1 k (dg W64 (andn N1 N2)) _ (by omega) (by omega) (by unfold maxLen; omega) (by simp) HCL.out).mono ?_
          | with_reducible refine (norm_any (some ⟨w.heap.size, 0, none⟩) n1 c (dg W64 (andn N1 N2)) _ (by omega) (by omega) (by unfold maxLen; omega) (by simp) HCL.out).mono ?_
        rintro e w5 ⟨rfl, rfl⟩
        go_wp2
        go_ret
        exact ⟨_, _, _, rfl, HCK.out _ (by first | rfl | assumption), HBel.out⟩
end Go.Proofs.YtdkipndepkblhaaGreatDoor

set_option linter.unusedSimpArgs false
set_option linter.unusedVariables false
namespace Go.Bg
open Go.RowKit
theorem step_copy_none {P : Program} {ops : Array Oper} {o : Oper} {a : Act} {w : World} {K : Act → World → Prop} {Q : Exit → Act → World → Prop} {E : Prop} (hgd : o.guard = none) (d s : Operand) (dT sT : TypeId)
    (ho : o.op = .call { callee := .builtin .copy, args := #[d, s], argTypes := #[dT, sT] }) (elem : TypeId) (hu : P.underlying dT = some (.slice elem)) (hsz : (P.info? elem).map (·.size) = some 1)
    (dp sp : Option Addr) (dLen dCap sLen sCap : Nat) (hd : a.eval d = .slice dp dLen dCap) (hs : a.eval s = .slice sp sLen sCap) (hn : Nat.min sLen dLen = 0)
    (h : K (a.put o.dst (goInt 0)) w) : if Region.wanted o (yielded ops a.tmps) = true then Oper.wp P o a w K Q else E := by
  have hw : Region.wanted o (yielded ops a.tmps) = true := by simp [Region.wanted, hgd]
  rw [if_pos hw]
  have hrun := run_copy_none (P := P) w dT sT o.type elem dp sp dLen dCap sLen sCap hu hsz hn
  unfold Oper.wp
  simp [execOp, ho, resolve, invoke, builtin, hd, hs, hrun, Result.andThen]
  exact h
end Go.Bg

namespace Go.Proofs.YtdkipndepkblhaaGreatDoor
open Go.RowKit Go.Bg Dg

set_option maxRecDepth 100000 in
set_option maxHeartbeats 600000 in
theorem natOr_zz (a1 a2 : Option Addr) (c1 c2 N1 N2 : Nat) (w : World) (h1 : BigN 151 w a1 0 c1 N1) (h2 : BigN 151 w a2 0 c2 N2) :
    Calls Tryz.prog 136 #[.slice none 0 0, .slice a1 0 c1, .slice a2 0 c2] w (GivesN 151 (N1 ||| N2) w) := by
  have e1 : N1 = 0 := by have := h1.num.lt; simpa using this
  have e2 : N2 = 0 := by have := h2.num.lt; simpa using this
  subst e1 e2
  have HE := Lib.hid (show (0 ||| 0 : Nat) = 0 from rfl)
  rw [HE.out]
  have hm1 := h1.num.cm
  unfold maxLen at hm1
  have hbuf := h1.buf
  clear h1 h2
  have hcz : a1 = none → c1 = 0 := by
    rintro rfl
    rcases hbuf with ⟨_, h⟩ | ⟨g, cur, h, _⟩
    · exact h
    · cases h
  clear hbuf
  cases a1 with
  | none =>
    obtain rfl : c1 = 0 := hcz rfl
    clear hcz
    have HC := Lib.hid (fun (w : World) => (show Cells w none 0 (fun i => .int .u64 ((fun _ => 0 : Nat → Nat) i : Nat)) from fun h => absurd h (Nat.lt_irrefl _)))
    go_enter Tryz.func136, Tryz.ntmps136
    go_wp2_with fail
    refine (make_nil 0 (by omega) _).mono ?_
    rintro e w1 (⟨-, rfl, hw⟩ | ⟨c, hc0, _⟩)
    case inr => omega
    have HBW := Lib.hid (show Below w.heap.size w w1 from by rw [hw]; exact Below.refl _ _)
    clear hw
    go_wp2
    go_loopw [10] (fun i wr => i = .int .i64 0 ∧ Below w.heap.size w wr) (fun _ _ => 0)
    case atStart => exact ⟨rfl, HBW.out⟩
    case round =>
      obtain ⟨rfl, hb⟩ := hrel
      have HB := Lib.hid (hb.drew)
      clear hb
      go_upto_region 12 with fail
      go_region_law (refine step_copy_none rfl (.tmp 45) (.tmp 49) 141 141 rfl 151 Tryz.underlying141 infoWordSize none none 0 0 0 0 (by simp [Act.eval, Act.put]) (by simp [Act.eval, Act.put]) (by simp) ?_)
      all_goals go_wp2_with fail
      all_goals
        refine (norm_any none 0 0 (fun _ => 0) _ (by omega) (by omega) (by unfold maxLen; omega) (fun _ => rfl) (HC.out _)).mono ?_
        rintro e w2 ⟨rfl, rfl⟩
        go_wp2
        go_ret
        exact ⟨_, _, _, rfl, BigN.nil _ _, HB.out⟩
  | some ad =>
    clear hcz
    obtain ⟨b, o, sp⟩ := ad
    have HC := Lib.hid (fun (w : World) => (show Cells w none 0 (fun i => .int .u64 ((fun _ => 0 : Nat → Nat) i : Nat)) from fun h => absurd h (Nat.lt_irrefl _)))
    go_enter Tryz.func136, Tryz.ntmps136
    go_wp2_with fail
    refine (make_nil 0 (by omega) _).mono ?_
    rintro e w1 (⟨-, rfl, hw⟩ | ⟨c, hc0, _⟩)
    case inr => omega
    have HBW := Lib.hid (show Below w.heap.size w w1 from by rw [hw]; exact Below.refl _ _)
    clear hw
    go_wp2
    go_loopw [10] (fun i wr => i = .int .i64 0 ∧ Below w.heap.size w wr) (fun _ _ => 0)
    case atStart => exact ⟨rfl, HBW.out⟩
    case round =>
      obtain ⟨rfl, hb⟩ := hrel
      have HB := Lib.hid (hb.drew)
      clear hb
      go_upto_region 12 with fail
      go_region_law (refine step_copy_none rfl (.tmp 45) (.tmp 49) 141 141 rfl 151 Tryz.underlying141 infoWordSize none (some ⟨b, o, sp⟩) 0 0 0 c1 (by simp [Act.eval, Act.put]) (by simp [Act.eval, Act.put]) (by simp) ?_)
      all_goals go_wp2_with fail
      all_goals
        refine (norm_any none 0 0 (fun _ => 0) _ (by omega) (by omega) (by unfold maxLen; omega) (fun _ => rfl) (HC.out _)).mono ?_
        rintro e w2 ⟨rfl, rfl⟩
        go_wp2
        go_ret
        exact ⟨_, _, _, rfl, BigN.nil _ _, HB.out⟩
end Go.Proofs.YtdkipndepkblhaaGreatDoor

set_option linter.unusedSimpArgs false
set_option linter.unusedVariables false
namespace Go.Proofs.YtdkipndepkblhaaGreatDoor
open Go.RowKit Go.Bg Dg

set_option maxRecDepth 100000 in
set_option maxHeartbeats 600000 in
theorem natXor_zz (a1 a2 : Option Addr) (c1 c2 N1 N2 : Nat) (w : World) (h1 : BigN 151 w a1 0 c1 N1) (h2 : BigN 151 w a2 0 c2 N2) :
    Calls Tryz.prog 139 #[.slice none 0 0, .slice a1 0 c1, .slice a2 0 c2] w (GivesN 151 (N1 ^^^ N2) w) := by
  have e1 : N1 = 0 := by have := h1.num.lt; simpa using this
  have e2 : N2 = 0 := by have := h2.num.lt; simpa using this
  subst e1 e2
  have HE := Lib.hid (show (0 ^^^ 0 : Nat) = 0 from rfl)
  rw [HE.out]
  have hm1 := h1.num.cm
  unfold maxLen at hm1
  have hbuf := h1.buf
  clear h1 h2
  have hcz : a1 = none → c1 = 0 := by
    rintro rfl
    rcases hbuf with ⟨_, h⟩ | ⟨g, cur, h, _⟩
    · exact h
    · cases h
  clear hbuf
  cases a1 with
  | none =>
    obtain rfl : c1 = 0 := hcz rfl
    clear hcz
    have HC := Lib.hid (fun (w : World) => (show Cells w none 0 (fun i => .int .u64 ((fun _ => 0 : Nat → Nat) i : Nat)) from fun h => absurd h (Nat.lt_irrefl _)))
    go_enter Tryz.func139, Tryz.ntmps139
    go_wp2_with fail
    refine (make_nil 0 (by omega) _).mono ?_
    rintro e w1 (⟨-, rfl, hw⟩ | ⟨c, hc0, _⟩)
    case inr => omega
    have HBW := Lib.hid (show Below w.heap.size w w1 from by rw [hw]; exact Below.refl _ _)
    clear hw
    go_wp2
    go_loopw [10] (fun i wr => i = .int .i64 0 ∧ Below w.heap.size w wr) (fun _ _ => 0)
    case atStart => exact ⟨rfl, HBW.out⟩
    case round =>
      obtain ⟨rfl, hb⟩ := hrel
      have HB := Lib.hid (hb.drew)
      clear hb
      go_upto_region 12 with fail
      go_region_law (refine step_copy_none rfl (.tmp 45) (.tmp 49) 141 141 rfl 151 Tryz.underlying141 infoWordSize none none 0 0 0 0 (by simp [Act.eval, Act.put]) (by simp [Act.eval, Act.put]) (by simp) ?_)
      all_goals go_wp2_with fail
      all_goals
        refine (norm_any none 0 0 (fun _ => 0) _ (by omega) (by omega) (by unfold maxLen; omega) (fun _ => rfl) (HC.out _)).mono ?_
        rintro e w2 ⟨rfl, rfl⟩
        go_wp2
        go_ret
        exact ⟨_, _, _, rfl, BigN.nil _ _, HB.out⟩
  | some ad =>
    clear hcz
    obtain ⟨b, o, sp⟩ := ad
    have HC := Lib.hid (fun (w : World) => (show Cells w none 0 (fun i => .int .u64 ((fun _ => 0 : Nat → Nat) i : Nat)) from fun h => absurd h (Nat.lt_irrefl _)))
    go_enter Tryz.func139, Tryz.ntmps139
    go_wp2_with fail
    refine (make_nil 0 (by omega) _).mono ?_
    rintro e w1 (⟨-, rfl, hw⟩ | ⟨c, hc0, _⟩)
    case inr => omega
    have HBW := Lib.hid (show Below w.heap.size w w1 from by rw [hw]; exact Below.refl _ _)
    clear hw
    go_wp2
    go_loopw [10] (fun i wr => i = .int .i64 0 ∧ Below w.heap.size w wr) (fun _ _ => 0)
    case atStart => exact ⟨rfl, HBW.out⟩
    case round =>
      obtain ⟨rfl, hb⟩ := hrel
      have HB := Lib.hid (hb.drew)
      clear hb
      go_upto_region 12 with fail
      go_region_law (refine step_copy_none rfl (.tmp 45) (.tmp 49) 141 141 rfl 151 Tryz.underlying141 infoWordSize none (some ⟨b, o, sp⟩) 0 0 0 c1 (by simp [Act.eval, Act.put]) (by simp [Act.eval, Act.put]) (by simp) ?_)
      all_goals go_wp2_with fail
      all_goals
        refine (norm_any none 0 0 (fun _ => 0) _ (by omega) (by omega) (by unfold maxLen; omega) (fun _ => rfl) (HC.out _)).mono ?_
        rintro e w2 ⟨rfl, rfl⟩
        go_wp2
        go_ret
        exact ⟨_, _, _, rfl, BigN.nil _ _, HB.out⟩
set_option maxRecDepth 100000 in
set_option maxHeartbeats 600000 in
theorem natAndNot_z1 (a1 a2 : Option Addr) (n2 c1 c2 N1 N2 : Nat) (w : World) (h1 : BigN 151 w a1 0 c1 N1) (h2 : BigN 151 w a2 n2 c2 N2) :
    Calls Tryz.prog 138 #[.slice none 0 0, .slice a1 0 c1, .slice a2 n2 c2] w (GivesN 151 (andn N1 N2) w) := by
  have e1 : N1 = 0 := by have := h1.num.lt; simpa using this
  subst e1
  have HE := Lib.hid (show andn 0 N2 = 0 from by unfold andn; rw [Nat.zero_and, Nat.xor_zero])
  have hc2 := h2.num.nc
  have hm2 := h2.num.cm
  unfold maxLen at hm2
  rw [HE.out]
  have hm1 := h1.num.cm
  unfold maxLen at hm1
  have hbuf := h1.buf
  clear h1 h2
  have hcz : a1 = none → c1 = 0 := by
    rintro rfl
    rcases hbuf with ⟨_, h⟩ | ⟨g, cur, h, _⟩
    · exact h
    · cases h
  clear hbuf
  by_cases hz2 : n2 = 0
  · subst hz2
    cases a1 with
    | none =>
      obtain rfl : c1 = 0 := hcz rfl
      clear hcz
      have HC := Lib.hid (fun (w : World) => (show Cells w none 0 (fun i => .int .u64 ((fun _ => 0 : Nat → Nat) i : Nat)) from fun h => absurd h (Nat.lt_irrefl _)))
      go_enter Tryz.func138, Tryz.ntmps138
      go_wp2_with fail
      refine (make_nil 0 (by omega) _).mono ?_
      rintro e w1 (⟨-, rfl, hw⟩ | ⟨c, hc0, _⟩)
      case inr => omega
      have HBW := Lib.hid (show Below w.heap.size w w1 from by rw [hw]; exact Below.refl _ _)
      clear hw
      go_wp2
      go_loopw [9] (fun i wr => i = .int .i64 0 ∧ Below w.heap.size w wr) (fun _ _ => 0)
      case atStart => exact ⟨rfl, HBW.out⟩
      case round =>
        obtain ⟨rfl, hb⟩ := hrel
        have HB := Lib.hid (hb.drew)
        clear hb
        go_upto_region 10 with fail
        go_region_law (refine step_copy_none rfl (.tmp 41) (.tmp 45) 141 141 rfl 151 Tryz.underlying141 infoWordSize none none 0 0 0 0 (by simp [Act.eval, Act.put]) (by simp [Act.eval, Act.put]) (by simp) ?_)
        all_goals go_wp2_with fail
        all_goals
          refine (norm_any none 0 0 (fun _ => 0) _ (by omega) (by omega) (by unfold maxLen; omega) (fun _ => rfl) (HC.out _)).mono ?_
          rintro e w2 ⟨rfl, rfl⟩
          go_wp2
          go_ret
          exact ⟨_, _, _, rfl, BigN.nil _ _, HB.out⟩
    | some ad =>
      clear hcz
      obtain ⟨b, o, sp⟩ := ad
      have HC := Lib.hid (fun (w : World) => (show Cells w none 0 (fun i => .int .u64 ((fun _ => 0 : Nat → Nat) i : Nat)) from fun h => absurd h (Nat.lt_irrefl _)))
      go_enter Tryz.func138, Tryz.ntmps138
      go_wp2_with fail
      refine (make_nil 0 (by omega) _).mono ?_
      rintro e w1 (⟨-, rfl, hw⟩ | ⟨c, hc0, _⟩)
      case inr => omega
      have HBW := Lib.hid (show Below w.heap.size w w1 from by rw [hw]; exact Below.refl _ _)
      clear hw
      go_wp2
      go_loopw [9] (fun i wr => i = .int .i64 0 ∧ Below w.heap.size w wr) (fun _ _ => 0)
      case atStart => exact ⟨rfl, HBW.out⟩
      case round =>
        obtain ⟨rfl, hb⟩ := hrel
        have HB := Lib.hid (hb.drew)
        clear hb
        go_upto_region 10 with fail
        go_region_law (refine step_copy_none rfl (.tmp 41) (.tmp 45) 141 141 rfl 151 Tryz.underlying141 infoWordSize none (some ⟨b, o, sp⟩) 0 0 0 c1 (by simp [Act.eval, Act.put]) (by simp [Act.eval, Act.put]) (by simp) ?_)
        all_goals go_wp2_with fail
        all_goals
          refine (norm_any none 0 0 (fun _ => 0) _ (by omega) (by omega) (by unfold maxLen; omega) (fun _ => rfl) (HC.out _)).mono ?_
          rintro e w2 ⟨rfl, rfl⟩
          go_wp2
          go_ret
          exact ⟨_, _, _, rfl, BigN.nil _ _, HB.out⟩
  · have hd : decide (0 < n2) = true := by simp; omega
    have hd' : (0 : Int) < n2 := by omega
    clear hz2
    cases a1 with
    | none =>
      obtain rfl : c1 = 0 := hcz rfl
      clear hcz
      have HC := Lib.hid (fun (w : World) => (show Cells w none 0 (fun i => .int .u64 ((fun _ => 0 : Nat → Nat) i : Nat)) from fun h => absurd h (Nat.lt_irrefl _)))
      go_enter Tryz.func138, Tryz.ntmps138
      go_wp2_with fail
      refine (make_nil 0 (by omega) _).mono ?_
      rintro e w1 (⟨-, rfl, hw⟩ | ⟨c, hc0, _⟩)
      case inr => omega
      have HBW := Lib.hid (show Below w.heap.size w w1 from by rw [hw]; exact Below.refl _ _)
      clear hw
      go_wp2
      go_loopw [9] (fun i wr => i = .int .i64 0 ∧ Below w.heap.size w wr) (fun _ _ => 0)
      case atStart => exact ⟨rfl, HBW.out⟩
      case round =>
        obtain ⟨rfl, hb⟩ := hrel
        have HB := Lib.hid (hb.drew)
        clear hb
        go_upto_region 10 with fail
        go_region_law (refine step_copy_none rfl (.tmp 41) (.tmp 45) 141 141 rfl 151 Tryz.underlying141 infoWordSize none none 0 0 0 0 (by simp [Act.eval, Act.put]) (by simp [Act.eval, Act.put]) (by simp) ?_)
        all_goals go_wp2_with fail
        all_goals
          refine (norm_any none 0 0 (fun _ => 0) _ (by omega) (by omega) (by unfold maxLen; omega) (fun _ => rfl) (HC.out _)).mono ?_
          rintro e w2 ⟨rfl, rfl⟩
          go_wp2
          go_ret
          exact ⟨_, _, _, rfl, BigN.nil _ _, HB.out⟩
    | some ad =>
      clear hcz
      obtain ⟨b, o, sp⟩ := ad
      have HC := Lib.hid (fun (w : World) => (show Cells w none 0 (fun i => .int .u64 ((fun _ => 0 : Nat → Nat) i : Nat)) from fun h => absurd h (Nat.lt_irrefl _)))
      go_enter Tryz.func138, Tryz.ntmps138
      go_wp2_with fail
      refine (make_nil 0 (by omega) _).mono ?_
      rintro e w1 (⟨-, rfl, hw⟩ | ⟨c, hc0, _⟩)
      case inr => omega
      have HBW := Lib.hid (show Below w.heap.size w w1 from by rw [hw]; exact Below.refl _ _)
      clear hw
      go_wp2
      go_loopw [9] (fun i wr => i = .int .i64 0 ∧ Below w.heap.size w wr) (fun _ _ => 0)
      case atStart => exact ⟨rfl, HBW.out⟩
      case round =>
        obtain ⟨rfl, hb⟩ := hrel
        have HB := Lib.hid (hb.drew)
        clear hb
        go_upto_region 10 with fail
        go_region_law (refine step_copy_none rfl (.tmp 41) (.tmp 45) 141 141 rfl 151 Tryz.underlying141 infoWordSize none (some ⟨b, o, sp⟩) 0 0 0 c1 (by simp [Act.eval, Act.put]) (by simp [Act.eval, Act.put]) (by simp) ?_)
        all_goals go_wp2_with fail
        all_goals
          refine (norm_any none 0 0 (fun _ => 0) _ (by omega) (by omega) (by unfold maxLen; omega) (fun _ => rfl) (HC.out _)).mono ?_
          rintro e w2 ⟨rfl, rfl⟩
          go_wp2
          go_ret
          exact ⟨_, _, _, rfl, BigN.nil _ _, HB.out⟩
end Go.Proofs.YtdkipndepkblhaaGreatDoor

set_option linter.unusedSimpArgs false
set_option linter.unusedVariables false
namespace Go.Proofs.YtdkipndepkblhaaGreatDoor
open Go.RowKit Go.Bg Dg

theorem natOr_nil (a1 a2 : Option Addr) (n1 n2 c1 c2 N1 N2 : Nat) (w : World) (h1 : BigN 151 w a1 n1 c1 N1) (h2 : BigN 151 w a2 n2 c2 N2) (hb1 : n1 ≤ 900000) (hb2 : n2 ≤ 900000) :
    Calls Tryz.prog 136 #[.slice none 0 0, .slice a1 n1 c1, .slice a2 n2 c2] w (GivesN 151 (N1 ||| N2) w) := by
  by_cases z1 : n1 = 0
  · by_cases z2 : n2 = 0
    · subst z1 z2
      exact natOr_zz a1 a2 c1 c2 N1 N2 w h1 h2
    · exact natOr_z1 a1 a2 n1 n2 c1 c2 N1 N2 w h1 h2 hb2 z1 (by omega)
  · by_cases z2 : n2 = 0
    · exact natOr_z2 a1 a2 n1 n2 c1 c2 N1 N2 w h1 h2 hb1 z2 (by omega)
    · by_cases h : n2 ≤ n1
      · exact natOr_ge a1 a2 n1 n2 c1 c2 N1 N2 w h1 h2 hb1 h (by omega)
      · exact natOr_lt a1 a2 n1 n2 c1 c2 N1 N2 w h1 h2 hb2 (by omega) (by omega)

theorem natXor_nil (a1 a2 : Option Addr) (n1 n2 c1 c2 N1 N2 : Nat) (w : World) (h1 : BigN 151 w a1 n1 c1 N1) (h2 : BigN 151 w a2 n2 c2 N2) (hb1 : n1 ≤ 900000) (hb2 : n2 ≤ 900000) :
    Calls Tryz.prog 139 #[.slice none 0 0, .slice a1 n1 c1, .slice a2 n2 c2] w (GivesN 151 (N1 ^^^ N2) w) := by
  by_cases z1 : n1 = 0
  · by_cases z2 : n2 = 0
    · subst z1 z2
      exact natXor_zz a1 a2 c1 c2 N1 N2 w h1 h2
    · exact natXor_z1 a1 a2 n1 n2 c1 c2 N1 N2 w h1 h2 hb2 z1 (by omega)
  · by_cases z2 : n2 = 0
    · exact natXor_z2 a1 a2 n1 n2 c1 c2 N1 N2 w h1 h2 hb1 z2 (by omega)
    · by_cases h : n2 ≤ n1
      · exact natXor_ge a1 a2 n1 n2 c1 c2 N1 N2 w h1 h2 hb1 h (by omega)
      · exact natXor_lt a1 a2 n1 n2 c1 c2 N1 N2 w h1 h2 hb2 (by omega) (by omega)

theorem natAndNot_nil (a1 a2 : Option Addr) (n1 n2 c1 c2 N1 N2 : Nat) (w : World) (h1 : BigN 151 w a1 n1 c1 N1) (h2 : BigN 151 w a2 n2 c2 N2) (hb1 : n1 ≤ 900000) :
    Calls Tryz.prog 138 #[.slice none 0 0, .slice a1 n1 c1, .slice a2 n2 c2] w (GivesN 151 (andn N1 N2) w) := by
  by_cases z1 : n1 = 0
  · subst z1
    exact natAndNot_z1 a1 a2 n2 c1 c2 N1 N2 w h1 h2
  · by_cases z2 : n2 = 0
    · exact natAndNot_z2 a1 a2 n1 n2 c1 c2 N1 N2 w h1 h2 hb1 z2 (by omega)
    · by_cases h : n2 ≤ n1
      · exact natAndNot_ge a1 a2 n1 n2 c1 c2 N1 N2 w h1 h2 hb1 h (by omega)
      · exact natAndNot_lt a1 a2 n1 n2 c1 c2 N1 N2 w h1 h2 hb1 (by omega) (by omega)
end Go.Proofs.YtdkipndepkblhaaGreatDoor
