/-
  nat.lsh into new words.
  nat.rsh into new words, and in its own.
  In place: nat.sub into a block of its own, addVW onto itself.
  In place: addVW onto itself.
-/
import Derived.Test.YtdkipndepkblhaaGreatDoorBuY
import Derived.Test.YtdkipndepkblhaaGreatDoorBuS
import Derived.Test.YtdkipndepkblhaaGreatDoorBuP
set_option linter.unusedSimpArgs false
set_option linter.unusedVariables false
namespace Go.Bg
open Go.RowKit Dg
theorem mulpow_lo {Y q i : Nat} (h : i < q) : dg W64 (Y * W64 ^ q) i = 0 := by
  obtain ⟨d, rfl⟩ : ∃ d, q = i + (d + 1) := ⟨q - i - 1, by omega⟩
  unfold dg
  have e : Y * W64 ^ (i + (d + 1)) = W64 ^ i * (W64 * (Y * W64 ^ d)) := by
    rw [Nat.pow_add, Nat.pow_succ, Nat.mul_left_comm, Nat.mul_comm (W64 ^ d), Nat.mul_left_comm Y]
  rw [e, Nat.mul_div_cancel_left _ (Nat.pow_pos W64_pos), Nat.mul_mod_right]
theorem mulpow_hi (Y q j : Nat) : dg W64 (Y * W64 ^ q) (q + j) = dg W64 Y j := by
  unfold dg
  rw [Nat.pow_add, ← Nat.div_div_eq_div_mul, Nat.mul_div_cancel _ (Nat.pow_pos W64_pos)]
theorem shl_parts (X s : Nat) : X * 2 ^ s = X * 2 ^ (s % 64) * W64 ^ (s / 64) := by
  have e : W64 ^ (s / 64) = 2 ^ (64 * (s / 64)) := by rw [Nat.pow_mul]; rfl
  rw [e, Nat.mul_assoc, ← Nat.pow_add, show s % 64 + 64 * (s / 64) = s from by omega]
theorem shl_room {X m : Nat} (hX : X < W64 ^ m) (s : Nat) : X * 2 ^ s < W64 ^ (m + s / 64 + 1) := by
  have h1 : (2 : Nat) ^ s ≤ W64 ^ (s / 64 + 1) := by
    have e : W64 ^ (s / 64 + 1) = 2 ^ (64 * (s / 64 + 1)) := by rw [Nat.pow_mul]; rfl
    rw [e]
    exact Nat.pow_le_pow_right (by decide) (by omega)
  rw [Nat.add_assoc, Nat.pow_add]
  exact Nat.lt_of_lt_of_le (Nat.mul_lt_mul_of_pos_right hX (Nat.pow_pos (by decide))) (Nat.mul_le_mul_left _ h1)
theorem shr_parts (X s : Nat) : X / 2 ^ s = X / W64 ^ (s / 64) / 2 ^ (s % 64) := by
  have e : W64 ^ (s / 64) = 2 ^ (64 * (s / 64)) := by rw [Nat.pow_mul]; rfl
  rw [e, Nat.div_div_eq_div_mul, ← Nat.pow_add, show 64 * (s / 64) + s % 64 = s from by omega]
theorem shr_room {X m : Nat} (hX : X < W64 ^ m) (s : Nat) : X / W64 ^ (s / 64) < W64 ^ (m - s / 64) := by
  by_cases h : s / 64 ≤ m
  · refine (Nat.div_lt_iff_lt_mul (Nat.pow_pos W64_pos)).2 ?_
    rw [← Nat.pow_add, show m - s / 64 + s / 64 = m from by omega]; exact hX
  · rw [Nat.div_eq_of_lt (Nat.lt_of_lt_of_le hX (Nat.pow_le_pow_right W64_pos (by omega)))]
    exact Nat.pow_pos W64_pos
theorem run_clear_none {P : Program} (w : World) (t e ty : TypeId) (ht : P.underlying t = some (.slice e)) (p : Option Addr) (c : Nat) :
    (Builtin.clear_ #[t] ty #[.slice p 0 c]).run P w = .ok (.tuple #[]) w := by
  cases p <;> simp [Builtin.clear_, run_underlying ht]
theorem setCells_nil (w : World) (g o : Nat) (v : Value) : w.setCells g o (List.replicate 0 v) = w := rfl

/-- zeros that are laid over a block's first cells -/
theorem blk_wipe {T : TypeId} {w : World} {g : Nat} {cur : Array Value} (hg : BlkAt w g cur T) (q : Nat) (hq : q ≤ cur.size) :
    RowUp T w (w.setCells g 0 (List.replicate q (.int .u64 0))) g 0 q cur (fun _ => 0) := by
  have := RowUp.wipe (T := T) (w := w) (g := g) (o := 0) (cur := cur) (h := fun _ => 0) (fun _ => rfl) q 0 w (RowUp.start hg 0 _) (by omega)
  simpa using this
end Go.Bg
namespace Go.Proofs.YtdkipndepkblhaaGreatDoor
open Go.RowKit Go.Bg Dg

set_option maxRecDepth 100000 in
set_option maxHeartbeats 1000000 in
theorem make_new (az : Option Addr) (nz cz n : Nat) (w : World) (hc : cz < n) (hn2 : 2 ≤ n) (hn : n ≤ 1000000) (hnz : nz ≤ cz) (hnil : az = none → cz = 0) :
    Calls Tryz.prog 184 #[.slice az nz cz, .int .i64 n] w (MadeIs 151 n w) := by
  have hz : ((n : Int) == 1) = false := by simp; omega
  have hmk : ∀ w : World, (Instr.makeSlice 141 (.int .i64 (n : Int)) (.int .i64 ((n : Int) + 4))).run Tryz.prog w = .ok (.slice (some ⟨w.heap.size, 0, none⟩) n (n + 4)) (w.alloc (.cells (Array.replicate (n + 4) (.int .u64 0)) 151)) :=
    run_make_nat 141 151 Tryz.underlying141 infoWord n (n + 4) (by omega) (by omega)
  have hle : ¬ ((n : Int) ≤ cz) := by omega
  go_enter Tryz.func184, Tryz.ntmps184
  go_wp2
  go_ret
  exact .inr ⟨n + 4, by omega, by omega, by omega, rfl, rfl⟩

set_option maxRecDepth 100000 in
set_option maxHeartbeats 2000000 in
theorem natLsh_new (az : Option Addr) (nz cz Z : Nat) (a1 : Option Addr) (n1 c1 N1 s : Nat) (w : World) (hz : BigN 151 w az nz cz Z) (hcz : cz ≤ n1) (h1 : BigN 151 w a1 n1 c1 N1) (hb1 : n1 ≤ 300000) (hs0 : 0 < s) (hs : s ≤ 1000000) :
    Calls Tryz.prog 162 #[.slice az nz cz, .slice a1 n1 c1, .int .u64 s] w (GivesN 151 (N1 * 2 ^ s) w) := by
  have hm1 := h1.num.cm
  have hc1 := h1.num.nc
  have hncz := hz.num.nc
  have hnilz : az = none → cz = 0 := by
    rcases hz.buf with ⟨_, h⟩ | ⟨_, _, h, _⟩
    · exact fun _ => h
    · intro e; rw [e] at h; cases h
  unfold maxLen at hm1
  have hs00 : ((s : Int) == 0) = false := by simp; omega
  by_cases z1 : n1 = 0
  · subst z1
    have e1 : N1 = 0 := by have := h1.num.lt; simpa using this
    subst e1
    obtain rfl : cz = 0 := by omega
    obtain rfl : nz = 0 := by omega
    have eZ : Z = 0 := by have := hz.num.lt; simpa using this
    subst eZ
    have HZ := Lib.hid hz
    rcases hz.buf with ⟨rfl, _⟩ | ⟨g, cur, rfl, hg, hsz⟩
    · clear h1 hz
      go_enter Tryz.func162, Tryz.ntmps162
      go_wp2
      go_ret
      exact ⟨_, _, _, rfl, by first | exact HZ.out | (rw [Nat.zero_mul]; exact HZ.out), Below.refl _ _⟩
    · clear h1 hz hg hsz
      go_enter Tryz.func162, Tryz.ntmps162
      go_wp2
      go_ret
      exact ⟨_, _, _, rfl, by first | exact HZ.out | (rw [Nat.zero_mul]; exact HZ.out), Below.refl _ _⟩
  · have hz1 : ((n1 : Int) == 0) = false := by simpa using z1
    obtain ⟨b1, o1, rfl, hl1⟩ := h1.num.form (by omega)
    have HB1 := Lib.hid h1
    obtain ⟨q, hq⟩ : ∃ q, q = s / 64 := ⟨_, rfl⟩
    obtain ⟨r, hr⟩ : ∃ r, r = s % 64 := ⟨_, rfl⟩
    have hqi : (s : Int) / 64 = q := by omega
    have hri : (s : Int) % 64 = r := by omega
    have hq1 : q ≤ 20000 := by omega
    have hr1 : r < 64 := by omega
    have HP := Lib.hid (show N1 * 2 ^ s = N1 * 2 ^ r * W64 ^ q from by rw [hq, hr]; exact shl_parts N1 s)
    have HLT := Lib.hid (show N1 * 2 ^ s < W64 ^ (n1 + q + 1) from by rw [hq]; exact shl_room h1.num.lt s)
    have HMK := Lib.hid (fun w => make_new az nz cz (n1 + q + 1) w (by omega) (by omega) (by omega) hncz hnilz)
    have hci : ((n1 + q + 1 : Nat) : Int) = (n1 : Int) + q + 1 := by omega
    rw [hci] at HMK
    clear hz h1 hnilz hq hr
    go_enter Tryz.func162, Tryz.ntmps162
    go_wp2_with fail
    refine (HMK.out _).mono ?_
    rintro e w1 (⟨h, _⟩ | ⟨c, hc0, hcn1, hcn2, rfl, hw⟩)
    case inl => omega
    have hb : BlkAt w1 w.heap.size (Array.replicate c (.int .u64 0)) 151 := by rw [hw]; exact BlkAt.new _ _ _
    have hbd : Below w.heap.size w w1 := by rw [hw]; exact (Below.refl _ _).alloc (Nat.le_refl _) _
    clear hw
    have HD1 := Lib.hid (HB1.out.num.keep hbd)
    have HSZ := Lib.hid (show (Array.replicate c (Value.int .u64 0)).size = c from by simp)
    have HBK := Lib.hid hb
    have HBD := Lib.hid hbd
    have HG1 := Lib.hid (show b1 ≠ w.heap.size from Nat.ne_of_lt hl1)
    clear hb hbd
    have s1 : IntKind.i64.wrap ((n1 : Int) + q - n1) = q := by rw [show (n1 : Int) + q - n1 = q from by omega]; exact IntWalk.i64_in _ (by omega)
    have s2 : (n1 : Int) + q - n1 = q := by omega
    have s3 : (0 : Int) ≤ (n1 : Int) + q := by omega
    have s4 : (n1 : Int) + q ≤ c := by omega
    have s5 : ((n1 : Int) + q).toNat = n1 + q := by omega
    have s6 : (q : Int) ≤ (n1 : Int) + q := by omega
    have s7 : (n1 : Int) + q < (n1 : Int) + q + 1 := by omega
    have s8 : n1 + q - q = n1 := by omega
    have hqc : ¬ c = q := by omega
    by_cases r0 : r = 0
    · subst r0
      have HG := Lib.hid (show w1.heap[w.heap.size]? = some (.cells (Array.replicate c (Value.int .u64 0)).toList.toArray 151 (0, 0)) from by have := HBK.out; unfold BlkAt at this; simpa using this)
      have HL := Lib.hid (wlf_len N1 0 n1)
      have HM := Lib.hid (show (wlf N1 0 n1).length = Nat.min n1 n1 from by rw [wlf_len]; exact (Nat.min_self _).symm)
      have HC := Lib.hid (show ∃ ad, (some ⟨b1, o1, none⟩ : Option Addr) = some ad ∧ ∀ j v, (wlf N1 0 n1)[j]? = some v → w1.cell? (ad.add j) = some v from by
        refine ⟨_, rfl, fun j v hj => ?_⟩
        have hjn : j < n1 := by
          have := (List.getElem?_eq_some_iff.1 hj).1
          rwa [wlf_len] at this
        rw [wlf_get hjn] at hj
        rw [← hj, Addr.add_lit, Nat.zero_add]
        exact HD1.out.cell hjn)
      have HT := Lib.hid (show q + (wlf N1 0 n1).length ≤ (Array.replicate c (Value.int .u64 0)).toList.length from by rw [wlf_len]; simp; omega)
      have HO := Lib.hid (wlf_one N1 0 n1)
      go_upto_region 16 with ((with_reducible refine wpList_copy_splice (o := ⟨some 48, _, _, _, _, _⟩) rfl (.tmp 46) (.tmp 47) 141 141 rfl 151 Tryz.underlying141 infoWordSize _ _ _ _ _ _ rfl rfl w.heap.size q _ _ HG.out (wlf N1 0 n1) HM.out (fun _ => ⟨rfl, HC.out⟩) HT.out HO.out w.heap.size w HBD.out (Nat.le_refl _) ?_); intro w2 hg2 hb2; have hRB := rowB_spliced (k := 0) (T := 151) (o := q) (n := n1) (X := N1) (cur := Array.replicate c (Value.int .u64 0)) (h := dg W64 N1) (Nat.zero_le _) rfl (by rw [HSZ.out]; omega) (fun i hi => absurd hi (Nat.not_lt_zero _)) (fun j _ => rfl) hg2 hb2 (fun i _ _ => rfl); obtain ⟨c2, hk2, hs2, hd2, ho2⟩ := hRB.blk; rw [HSZ.out] at hs2; (obtain ⟨u0, p0⟩ : ∃ u0, w2.cell? ⟨w.heap.size, n1 + q, none⟩ = some u0 := ⟨_, by rw [hk2.cell, Array.getElem?_eq_getElem (by omega)]⟩); have f0 := hk2.frozen (n1 + q))
      obtain ⟨W3, hW3⟩ : ∃ W3, W3 = w2.setCell ⟨w.heap.size, n1 + q, none⟩ (.int .u64 0) := ⟨_, rfl⟩
      have hk3 := hk2.set (n1 + q) (.int .u64 0)
      have HB3 := Lib.hid (show Below w.heap.size w W3 from by rw [hW3]; exact hRB.below.setCell (Nat.le_refl _) _)
      rw [← hW3] at hk3
      have hsz3 : (c2.setIfInBounds (n1 + q) (Value.int .u64 0)).size = c := by simpa using hs2
      have hd3 : ∀ i, q ≤ i → i < n1 + q + 1 → (c2.setIfInBounds (n1 + q) (Value.int .u64 0))[i]? = some (.int .u64 (dg W64 (N1 * 2 ^ s) i : Nat)) := by
        intro i hi hi2
        rw [HP.out, Nat.pow_zero, Nat.mul_one, show i = q + (i - q) from by omega, mulpow_hi, Array.getElem?_setIfInBounds]
        by_cases e : n1 + q = q + (i - q)
        · rw [if_pos e, if_pos (by omega), show i - q = n1 from by omega]
          have : dg W64 N1 n1 = 0 := by unfold dg; rw [Nat.div_eq_of_lt HB1.out.num.lt, Nat.zero_mod]
          rw [this]; rfl
        · rw [if_neg e]
          exact hd2 (i - q) (by omega)
      have HW3 := Lib.hid hW3
      generalize c2.setIfInBounds (n1 + q) (Value.int .u64 0) = c3 at *
      clear hW3 hRB hk2 hs2 hd2 ho2
      rw [← HW3.out]
      clear p0 f0
      have hq3 : q ≤ c3.size := by rw [hsz3]; omega
      have hcl : ∀ ty, (Builtin.clear_ #[141] ty #[.slice (some ⟨w.heap.size, 0, none⟩) q c]).run Tryz.prog W3 = .ok (.tuple #[]) (W3.setCells w.heap.size 0 (List.replicate q (.int .u64 0))) :=
        fun ty => by
          rcases Nat.eq_zero_or_pos q with h | h
          · rw [h, setCells_nil]
            exact run_clear_none W3 _ _ ty Tryz.underlying141 _ _
          · exact Lib.run_clear_slice W3 _ _ ty (.int .u64 0) Tryz.underlying141 zeroWord rfl rfl w.heap.size 0 q c h (fun j hj => by rw [hk3.cell, Array.getElem?_eq_getElem (by have := hq3; omega)]; rfl) (fun j hj => hk3.frozen _)
      obtain ⟨W4, hW4⟩ : ∃ W4, W4 = W3.setCells w.heap.size 0 (List.replicate q (.int .u64 0)) := ⟨_, rfl⟩
      have hwp := blk_wipe hk3 q (by omega)
      rw [← hW4] at hcl hwp
      have HB4 := Lib.hid ((hwp.toB (B := w.heap.size) (Nat.le_refl _) HB3.out.size).below)
      obtain ⟨c4, hk4, hs4, hd4, ho4⟩ := hwp.blk
      have HD4 := Lib.hid (show ∀ i, i < n1 + q + 1 → c4[i]? = some (.int .u64 (dg W64 (N1 * 2 ^ s) i : Nat)) from by
        intro i hi
        by_cases hiq : i < q
        · have := hd4 i hiq
          rw [Nat.zero_add] at this
          rw [this, HP.out, mulpow_lo hiq]
        · rw [ho4 i (.inr (by omega))]
          exact hd3 i (by omega) hi)
      obtain ⟨hcl4, hbn⟩ := bigN_row (c := c) (m := n1 + q + 1) hk4 (by rw [hs4, hsz3]) HD4.out (by omega) (by unfold maxLen; omega) HLT.out
      have HCL := Lib.hid hcl4
      have HBN := Lib.hid hbn
      clear hW4 hwp hk4 hs4 hd4 ho4 hcl4 hbn hk3 hd3 hsz3
      have t1 : (0 : Int) ≤ (q : Int) := by omega
      have t2 : (q : Int) ≤ c := by omega
      go_wp2_with (simp only [hcl])
      clear hcl
      go_wp2_with fail
      refine (norm_any (some ⟨w.heap.size, 0, none⟩) (n1 + q + 1) c (dg W64 (N1 * 2 ^ s)) _ (by omega) (by omega) (by unfold maxLen; omega) (by simp) HCL.out).mono ?_
      rintro e w5 ⟨rfl, rfl⟩
      go_wp2
      go_ret
      exact ⟨_, _, _, rfl, HBN.out, HB3.out.trans HB4.out⟩
    · have hr0 : ((r : Int) == 0) = false := by simpa using r0
      obtain ⟨l, hl⟩ : ∃ l, r + l = 64 := ⟨64 - r, by omega⟩
      go_upto_region 15 with fail
      go_wp2_with fail
      refine (lshVU_any w.heap.size q n1 (c - q) b1 o1 c1 _ N1 r l _ HBK.out (by omega) (by omega) (by rw [HSZ.out]; omega) (by omega) (by unfold maxLen; omega) (HD1.out.wcells0 (Nat.le_refl _)) (by omega) (by unfold maxLen; omega) (.inl HG1.out) hl (by omega) (by omega)).mono ?_
      rintro e w2 ⟨rfl, hR⟩
      have HBR := Lib.hid (hR.toB (B := w.heap.size) (Nat.le_refl _) HBD.out.size).below
      obtain ⟨c2, hk2, hs2, hd2, ho2⟩ := hR.blk
      rw [HSZ.out] at hs2
      obtain ⟨ot, hot⟩ : ∃ ot, ot = dg W64 N1 (n1 - 1) / 2 ^ l := ⟨_, rfl⟩
      rw [← hot]
      have hout : dg W64 (N1 * 2 ^ r) n1 = ot := by
        have h1 := shl_out (n := n1 - 1) hl (X := N1) (by rw [show n1 - 1 + 1 = n1 from by omega]; exact HB1.out.num.lt)
        rw [show n1 - 1 + 1 = n1 from by omega] at h1
        unfold dg
        rw [h1, ← hot]
        refine Nat.mod_eq_of_lt ?_
        rw [hot]
        exact Nat.lt_of_le_of_lt (Nat.div_le_self _ _) (dg_lt W64_pos _ _)
      obtain ⟨W3, hW3⟩ : ∃ W3, W3 = w2.setCell ⟨w.heap.size, n1 + q, none⟩ (.int .u64 (ot : Nat)) := ⟨_, rfl⟩
      have hk3 := hk2.set (n1 + q) (.int .u64 (ot : Nat))
      have HB3 := Lib.hid (show Below w.heap.size w W3 from by rw [hW3]; exact (HBD.out.trans HBR.out).setCell (Nat.le_refl _) _)
      rw [← hW3] at hk3
      have hsz3 : (c2.setIfInBounds (n1 + q) (Value.int .u64 (ot : Nat))).size = c := by simpa using hs2
      have hd3 : ∀ i, q ≤ i → i < n1 + q + 1 → (c2.setIfInBounds (n1 + q) (Value.int .u64 (ot : Nat)))[i]? = some (.int .u64 (dg W64 (N1 * 2 ^ s) i : Nat)) := by
        intro i hi hi2
        rw [HP.out, show i = q + (i - q) from by omega, mulpow_hi, Array.getElem?_setIfInBounds]
        by_cases e : n1 + q = q + (i - q)
        · rw [if_pos e, if_pos (by omega), show i - q = n1 from by omega, hout]
        · rw [if_neg e]
          exact hd2 (i - q) (by omega)
      obtain ⟨u0, p0⟩ : ∃ u0, w2.cell? ⟨w.heap.size, n1 + q, none⟩ = some u0 := ⟨_, by rw [hk2.cell, Array.getElem?_eq_getElem (by omega)]⟩
      have f0 := hk2.frozen (n1 + q)
      have HW3 := Lib.hid hW3
      generalize c2.setIfInBounds (n1 + q) (Value.int .u64 (ot : Nat)) = c3 at *
      clear hW3 hR hk2 hs2 hd2 ho2 hout hot
      go_upto_region 16 with fail
      rw [← HW3.out]
      clear p0 f0
      have hq3 : q ≤ c3.size := by rw [hsz3]; omega
      have hcl : ∀ ty, (Builtin.clear_ #[141] ty #[.slice (some ⟨w.heap.size, 0, none⟩) q c]).run Tryz.prog W3 = .ok (.tuple #[]) (W3.setCells w.heap.size 0 (List.replicate q (.int .u64 0))) :=
        fun ty => by
          rcases Nat.eq_zero_or_pos q with h | h
          · rw [h, setCells_nil]
            exact run_clear_none W3 _ _ ty Tryz.underlying141 _ _
          · exact Lib.run_clear_slice W3 _ _ ty (.int .u64 0) Tryz.underlying141 zeroWord rfl rfl w.heap.size 0 q c h (fun j hj => by rw [hk3.cell, Array.getElem?_eq_getElem (by have := hq3; omega)]; rfl) (fun j hj => hk3.frozen _)
      obtain ⟨W4, hW4⟩ : ∃ W4, W4 = W3.setCells w.heap.size 0 (List.replicate q (.int .u64 0)) := ⟨_, rfl⟩
      have hwp := blk_wipe hk3 q (by omega)
      rw [← hW4] at hcl hwp
      have HB4 := Lib.hid ((hwp.toB (B := w.heap.size) (Nat.le_refl _) HB3.out.size).below)
      obtain ⟨c4, hk4, hs4, hd4, ho4⟩ := hwp.blk
      have HD4 := Lib.hid (show ∀ i, i < n1 + q + 1 → c4[i]? = some (.int .u64 (dg W64 (N1 * 2 ^ s) i : Nat)) from by
        intro i hi
        by_cases hiq : i < q
        · have := hd4 i hiq
          rw [Nat.zero_add] at this
          rw [this, HP.out, mulpow_lo hiq]
        · rw [ho4 i (.inr (by omega))]
          exact hd3 i (by omega) hi)
      obtain ⟨hcl4, hbn⟩ := bigN_row (c := c) (m := n1 + q + 1) hk4 (by rw [hs4, hsz3]) HD4.out (by omega) (by unfold maxLen; omega) HLT.out
      have HCL := Lib.hid hcl4
      have HBN := Lib.hid hbn
      clear hW4 hwp hk4 hs4 hd4 ho4 hcl4 hbn hk3 hd3 hsz3
      have t1 : (0 : Int) ≤ (q : Int) := by omega
      have t2 : (q : Int) ≤ c := by omega
      go_wp2_with (simp only [hcl])
      clear hcl
      go_wp2_with fail
      refine (norm_any (some ⟨w.heap.size, 0, none⟩) (n1 + q + 1) c (dg W64 (N1 * 2 ^ s)) _ (by omega) (by omega) (by unfold maxLen; omega) (by simp) HCL.out).mono ?_
      rintro e w5 ⟨rfl, rfl⟩
      go_wp2
      go_ret
      exact ⟨_, _, _, rfl, HBN.out, HB3.out.trans HB4.out⟩
end Go.Proofs.YtdkipndepkblhaaGreatDoor

set_option linter.unusedSimpArgs false
set_option linter.unusedVariables false
namespace Go.Bg
open Go.RowKit Dg
theorem dg_zero (i : Nat) : dg W64 0 i = 0 := by simp [dg]
theorem shr_len {X m s : Nat} (hX : X < W64 ^ m) : X / 2 ^ s < W64 ^ (m - s / 64) := by
  rw [shr_parts]
  exact Nat.lt_of_le_of_lt (Nat.div_le_self _ _) (shr_room hX s)
end Go.Bg
namespace Go.Proofs.YtdkipndepkblhaaGreatDoor
open Go.RowKit Go.Bg Dg

end Go.Proofs.YtdkipndepkblhaaGreatDoor

set_option linter.unusedSimpArgs false
set_option linter.unusedVariables false
namespace Go.Bg
open Go.RowKit Dg
/-- a number in a new block, the first one that was free -/
def GivesO (T : TypeId) (N : Nat) (w : World) (e : Ending) (w' : World) : Prop :=
  ∃ n c, e = .returned (.slice (some ⟨w.heap.size, 0, none⟩) n c) ∧ 0 < c ∧ BigN T w' (some ⟨w.heap.size, 0, none⟩) n c N ∧ Below w.heap.size w w'
/-- what has not turned reads as it shall -/
theorem RowUp.rest {T : TypeId} {w w' : World} {g o k n : Nat} {cur : Array Value} {h : Nat → Nat} (r : RowUp T w w' g o k cur h) (hk : k ≤ n) (hr : ∀ i, k ≤ i → i < n → cur[o + i]? = some (.int .u64 (h i : Nat))) : RowUp T w w' g o n cur h := by
  obtain ⟨cur', h1, h2, h3, h4⟩ := r.blk
  refine ⟨r.upd, cur', h1, h2, fun i hi => ?_, fun j hj => h4 j (by omega)⟩
  by_cases hik : i < k
  · exact h3 i hik
  · rw [h4 _ (by omega)]
    exact hr i (by omega) hi
end Go.Bg
namespace Go.Proofs.YtdkipndepkblhaaGreatDoor
open Go.RowKit Go.Bg Dg

set_option maxRecDepth 100000 in
set_option maxHeartbeats 2000000 in
theorem natSub_own (a1 a2 : Option Addr) (n1 n2 c1 c2 N1 N2 : Nat) (w : World) (h1 : BigN 151 w a1 n1 c1 N1) (h2 : BigN 151 w a2 n2 c2 N2) (hb1 : n1 ≤ 900000) (hle : N2 ≤ N1) (h0 : 0 < n2) :
    Calls Tryz.prog 126 #[.slice none 0 0, .slice a1 n1 c1, .slice a2 n2 c2] w (GivesO 151 (N1 - N2) w) := by
  have hge : n2 ≤ n1 := len_le W64_gt h2.num.top (Nat.lt_of_le_of_lt hle h1.num.lt)
  have hm1 := h1.num.cm
  have hm2 := h2.num.cm
  have hc1 := h1.num.nc
  have hc2 := h2.num.nc
  unfold maxLen at hm1 hm2
  by_cases z1 : n1 = 0
  · omega
  · have hz1 : ((n1 : Int) == 0) = false := by simpa using z1
    by_cases z2 : n2 = 0
    · omega
    · have hz2 : ((n2 : Int) == 0) = false := by simpa using z2
      obtain ⟨b1, o1, rfl, hl1⟩ := h1.num.form (by omega)
      obtain ⟨b2, o2, rfl, hl2⟩ := h2.num.form (by omega)
      have HB1 := Lib.hid h1
      have HB2 := Lib.hid h2
      clear h1 h2
      go_enter Tryz.func126, Tryz.ntmps126
      go_wp2_with fail
      refine (make_nil n1 (by omega) _).mono ?_
      rintro e w1 (⟨h, _⟩ | ⟨c, hc0, hcn1, hcn2, rfl, hw⟩)
      case inl => omega
      have hb : BlkAt w1 w.heap.size (Array.replicate c (.int .u64 0)) 151 := by rw [hw]; exact BlkAt.new _ _ _
      have hB1 : Below w.heap.size w w1 := by rw [hw]; exact (Below.refl _ _).alloc (Nat.le_refl _) _
      have HS1 := Lib.hid (show w1.heap.size = w.heap.size + 1 from by rw [hw]; simp)
      clear hw
      have hbd : Below w1.heap.size w1 w1.drew := (Below.refl _ _).drew
      have hg2 := hb.keep hbd
      have HD1 := Lib.hid (HB1.out.num.keep (hB1.trans (hbd.mono hB1.size)))
      have HD2 := Lib.hid (HB2.out.num.keep (hB1.trans (hbd.mono hB1.size)))
      have hsz : (Array.replicate c (Value.int .u64 0)).size = c := by simp
      have hca := bor_le N1 N2 n2
      have HH := Lib.hid (sub_high hle HB1.out.num.lt HB2.out.num.lt hge)
      have HLT := Lib.hid (show N1 - N2 < W64 ^ n1 from Nat.lt_of_le_of_lt (Nat.sub_le _ _) HB1.out.num.lt)
      have hx1 : (n2 : Int) ≤ c := by omega
      have hx2 : (n2 : Int) ≤ c1 := by omega
      have hx3 : (n2 : Int) ≤ c2 := by omega
      have HBD := Lib.hid (hB1.trans (hbd.mono hB1.size))
      have HBK := Lib.hid hg2
      clear hb hg2 hbd hB1
      have HLE := Lib.hid hle
      generalize hcar : bor N1 N2 n2 = cr at *
      go_upto_region 10 with fail
      go_region_held3 (fun _ => True) (exact trivial) ((go_at_call 188; (with_reducible refine (subVV_any w.heap.size 0 n2 c b1 o1 c1 b2 o2 c2 _ N1 N2 HLE.out _ HBK.out ?_ ?_ ?_ ?_ ?_ ?_ ?_ ?_ ?_ ?_ ?_ ?_).mono ?_); omega; (rw [hsz]; omega); omega; (unfold maxLen; omega); exact HD1.out.wcells0 hge; omega; (unfold maxLen; omega); exact HD2.out.wcells0 (Nat.le_refl _); omega; (unfold maxLen; omega); exact .inl (Nat.ne_of_lt hl1); exact .inl (Nat.ne_of_lt hl2); rintro e w2 ⟨rfl, hR2⟩; rw [hcar]))
      have HB3 := Lib.hid (hR2.toB (B := w.heap.size) (Nat.le_refl _) HBD.out.size)
      clear hx1 hx2 hx3
      by_cases hgt : n2 < n1
      · have hd : decide (n2 < n1) = true := by simpa using hgt
        have hx1 : (n2 : Int) ≤ n1 := by omega
        have hx2 : (n2 : Int) ≤ c := by omega
        have hx3 : (n2 : Int) ≤ c1 := by omega
        have hn1 : ¬ c = n2 := by omega
        have hn2 : ¬ c1 = n2 := by omega
        obtain ⟨cur2, hk1, hk2, hk3, hk4⟩ := hR2.blk
        obtain ⟨cur1, e1, hq1⟩ : ∃ cur1 e1, BlkAt w2 b1 cur1 e1 := by
          rcases HB1.out.buf with ⟨hh, _⟩ | ⟨g', cur1, hh, hg', _⟩
          · cases hh
          · injection hh with hh
            injection hh with hh _ _
            subst hh
            exact ⟨cur1, _, (hR2.upd.blk (hg'.keep HBD.out) (Nat.ne_of_lt hl1))⟩
        have HE1 := Lib.hid (HB1.out.num.keep (HBD.out.trans (Below.refl _ _)))
        have HW1 := Lib.hid (show WCells w2 b1 (o1 + n2) (n1 - n2) (dg W64 (N1 / W64 ^ n2)) from fun i hi => by
          have := (HD1.out.wcells (k := n2) (m := n1 - n2) (by omega)) i hi
          rw [hR2.upd.cell (p := ⟨b1, o1 + n2 + i, none⟩) (block_lt this) (Nat.ne_of_lt hl1)]
          exact this)
        have HK := Lib.hid (show cur2.size = c from by rw [hk2, hsz])
        have HSZ2 := Lib.hid hR2.upd.size
        have HK1 := Lib.hid hk1
        have HK3 := Lib.hid hk3
        have HQ1 := Lib.hid hq1
        clear hk1 hk2 hk3 hk4 hq1 hR2 hsz
        go_upto_region 12 with fail
        go_region_held3 (fun _ => True) (exact trivial) ((go_at_call 189; (with_reducible refine (subVW_any w.heap.size w.heap.size n2 (n1 - n2) (c - n2) b1 (o1 + n2) (c1 - n2) cur2 cur1 e1 (N1 / W64 ^ n2) cr _ ?_ ?_ ?_ ?_ ?_ ?_ ?_ ?_ ?_ ?_ ?_ ?_ ?_ ?_ HH.out.2.1).mono ?_); exact HK1.out; exact HQ1.out; exact Nat.le_refl _; (exact Nat.le_trans HBD.out.size HSZ2.out); omega; omega; (rw [HK.out]; omega); omega; (unfold maxLen; omega); exact HW1.out; omega; (unfold maxLen; omega); exact Nat.ne_of_lt hl1; (unfold W64; omega); rintro e w3 ⟨rfl, hR3⟩; rw [HH.out.2.2.1]))
        obtain ⟨cur3, hk1, hk2, hk3, hk4⟩ := hR3.blk
        have hsz3 : cur3.size = c := by rw [hk2, HK.out]
        have HBf := Lib.hid (show Below w.heap.size w w3 from (HBD.out.trans HB3.out.below).trans ((below_drew' w2 _).trans hR3.below))
        obtain ⟨hcl, hbn⟩ := bigN_row (c := c) (m := n1) (N := N1 - N2) hk1 (by simpa using hsz3) (fun i hi => by
          by_cases hlo : i < n2
          · rw [hk4 i (.inl hlo)]
            have := HK3.out i hlo
            simpa using this
          · have := hk3 (i - n2) (by omega)
            rw [show n2 + (i - n2) = i from by omega] at this
            rw [this, ← HH.out.1, dg_div, show n2 + (i - n2) = i from by omega]) hcn1 (by unfold maxLen; omega) HLT.out
        have HCL := Lib.hid hcl
        have HBN := Lib.hid hbn
        clear hk1 hk2 hk3 hk4 hcl hbn hR3 hsz3
        go_wp2_with fail
        refine (norm_any (some ⟨w.heap.size, 0, none⟩) n1 c (dg W64 (N1 - N2)) _ (by omega) (by omega) (by unfold maxLen; omega) (by simp) HCL.out).mono ?_
        rintro e w5 ⟨rfl, rfl⟩
        go_wp2
        go_ret
        exact ⟨_, _, rfl, by omega, HBN.out, HBf.out⟩
      · have hd : decide (n2 < n1) = false := by simpa using hgt
        obtain rfl : n1 = n2 := by omega
        have hcr : cr = 0 := HH.out.2.2.2 rfl
        subst hcr
        have HRB := Lib.hid (hR2.toB (B := w.heap.size) (Nat.le_refl _) HBD.out.size)
        obtain ⟨cur3, hk1, hk2, hk3, hk4⟩ := hR2.blk
        obtain ⟨hcl, hbn⟩ := bigN_row (c := c) (m := n1) hk1 (by rw [hk2, hsz]) (fun i hi => by have := hk3 i hi; simpa using this) hcn1 (by unfold maxLen; omega) HLT.out
        have HCL := Lib.hid hcl
        have HBN := Lib.hid hbn
        clear hk1 hk2 hk3 hk4 hcl hbn hR2 hsz hgt
        go_wp2_with fail
        refine (norm_any (some ⟨w.heap.size, 0, none⟩) n1 c (dg W64 (N1 - N2)) _ (by omega) (by omega) (by unfold maxLen; omega) (by simp) HCL.out).mono ?_
        rintro e w4 ⟨rfl, rfl⟩
        go_wp2
        go_ret
        exact ⟨_, _, rfl, by omega, HBN.out, HBD.out.trans HRB.out.below⟩

end Go.Proofs.YtdkipndepkblhaaGreatDoor

set_option linter.unusedSimpArgs false
set_option linter.unusedVariables false
namespace Go.Proofs.YtdkipndepkblhaaGreatDoor
open Go.RowKit Go.Bg Dg

set_option maxRecDepth 100000 in
set_option maxHeartbeats 1000000 in
theorem addVW_self (g o n c0 : Nat) (cur : Array Value) (X y : Nat) (w : World) (hg : BlkAt w g cur 151) (hn1 : 1 ≤ n) (hn : n ≤ 1000000) (hr : o + n ≤ cur.size) (h0 : n ≤ c0) (h0m : c0 ≤ maxLen)
    (h1 : WCells w g o n (dg W64 X)) (hy : y < W64) :
    Calls Tryz.prog 186 #[.slice (some ⟨g, o, none⟩) n c0, .slice (some ⟨g, o, none⟩) n c0, .int .u64 y] w
      (VecIs g o n cur (dg W64 (X + y)) ((X % W64 ^ n + y) / W64 ^ n) w) := by
  unfold maxLen at h0m
  obtain ⟨j, hj, hj1⟩ := infoWordJ
  have hy' : y < 18446744073709551616 := W64_lt hy
  have HG := Lib.hid hg
  have H1 := Lib.hid h1
  have HCU := Lib.hid (show ∀ i, i < n → cur[o + i]? = some (.int .u64 (dg W64 X i : Nat)) from fun i hi => by rw [← hg.cell]; exact h1 i hi)
  have e1 := h1 0 (by omega)
  rw [Nat.add_zero] at e1
  have d1 : dg W64 X 0 < 18446744073709551616 := W64_lt (dg_lt W64_pos _ _)
  have HS := Lib.hid (addw_step W64_pos X y 0)
  have hroom := (RowUp.start hg o (dg W64 (X + y))).room (j := o) (by omega)
  have f0 := hroom.2
  clear hroom
  have hn0 : ((n : Int) == 0) = false := by simp; omega
  clear hg h1 hy
  generalize hx : dg W64 X 0 = x at *
  simp only [Nat.pow_zero, Nat.mod_one, Nat.zero_add, Nat.div_one, Nat.pow_one] at HS
  have HE := Lib.hid (show (x + y + 0) % 18446744073709551616 = dg W64 (X + y) 0 from by rw [HS.out.1]; rfl)
  have HF := Lib.hid (show (x + y + 0) / 18446744073709551616 = (X % W64 + y) / W64 from by rw [HS.out.2]; rfl)
  have hdl : (x + y + 0) % 18446744073709551616 < 18446744073709551616 := Nat.mod_lt _ (by decide)
  have hcl : (x + y + 0) / 18446744073709551616 ≤ 1 := by omega
  have HC := Lib.hid (fun w => bitsAdd_any x y 0 (by omega) w)
  generalize (x + y + 0) % 18446744073709551616 = s at *
  generalize hcc : (x + y + 0) / 18446744073709551616 = cc at *
  clear hx hcc
  go_enter Tryz.func186, Tryz.ntmps186
  go_wp2_with fail
  refine (HC.out _).mono ?_
  rintro e w1 ⟨rfl, rfl⟩
  have HR := Lib.hid ((RowUp.start HG.out o (dg W64 (X + y))).step (by omega) HE.out)
  simp only [Nat.add_zero, Nat.zero_add] at HR
  obtain ⟨W1, hW1⟩ : ∃ W1, W1 = w.setCell ⟨g, o, none⟩ (.int .u64 (s : Nat)) := ⟨_, rfl⟩
  have HW1 := Lib.hid hW1
  rw [← hW1] at HR
  have HQ := Lib.hid (fun q => Lib.run_neq_ptr_same (P := Tryz.prog) (W1.drewN q) ⟨g, o, none⟩ Tryz.underlying207 hj)
  clear hW1
  by_cases hc0 : cc = 0
  · subst hc0
    go_upto_region 8 with fail
    rw [← HW1.out]
    have hq := HQ.out
    have HNC := Lib.hid (show (X % W64 ^ 1 + y) / W64 ^ 1 = 0 from by rw [Nat.pow_one]; exact HF.out.symm)
    go_quiet (fail)
    go_wp2
    go_ret
    refine ⟨ret_u64 (addw_none W64_pos HNC.out (by omega)).symm, ?_⟩
    refine RowUp.drewN (RowUp.rest HR.out hn1 (fun i hi hi2 => ?_)) _
    rw [HCU.out i hi2, addw_same W64_pos HNC.out hi]
  · obtain rfl : cc = 1 := by omega
    have HC1 := Lib.hid (show (X % W64 ^ 1 + y) / W64 ^ 1 = 1 from by rw [Nat.pow_one]; exact HF.out.symm)
    go_upto_region 11 with fail
    rw [← HW1.out]
    clear f0 e1 hc0 hcl
    go_wp2
    go_loopw [6, 9, 10] (fun _ i _ wr => ∃ k : Nat, 1 ≤ k ∧ k ≤ n ∧ i = .int .i64 k ∧ (X % W64 ^ k + y) / W64 ^ k = 1 ∧ RowUp 151 w wr g o k cur (dg W64 (X + y)))
      (fun _ i _ _ => n - (intOf i).toNat)
    case atStart => exact ⟨1, Nat.le_refl _, hn1, rfl, HC1.out, HR.out⟩
    case round =>
      obtain ⟨k, hk0, hk, rfl, hca, hR⟩ := hrel
      have HCA := Lib.hid hca
      clear hca
      by_cases k1 : k < n
      · have e1 := hR.read HG.out (H1.out k k1) (.inr (Nat.le_refl _)) (Nat.le_refl _)
        have d1 : dg W64 X k < 18446744073709551616 := W64_lt (dg_lt W64_pos _ _)
        have HS2 := Lib.hid (addw_step W64_pos X y k)
        rw [HCA.out] at HS2
        have HRR := Lib.hid hR
        have hroom := hR.room (j := o + k) (by omega)
        have f0 := hroom.2
        clear hR hroom
        generalize hx : dg W64 X k = xk at *
        clear hx
        by_cases hm : xk = 18446744073709551615
        · subst hm
          have HE2 := Lib.hid (show 0 = dg W64 (X + y) k from by rw [HS2.out.1]; rfl)
          have HF2 := Lib.hid (show (X % W64 ^ (k + 1) + y) / W64 ^ (k + 1) = 1 from by rw [HS2.out.2]; rfl)
          go_wp2
          go_roundw
          case rel => exact ⟨k + 1, by omega, by omega, by go_num, HF2.out, HRR.out.step (x := 0) (by omega) HE2.out⟩
          case measure => simp [intOf]; omega
        · have hmb : ((xk : Int) != 18446744073709551615) = true := by simp; omega
          have hxw : xk + 1 < 18446744073709551616 := by omega
          have HE2 := Lib.hid (show xk + 1 = dg W64 (X + y) k from by rw [HS2.out.1]; exact (Nat.mod_eq_of_lt hxw).symm)
          have HF2 := Lib.hid (show (X % W64 ^ (k + 1) + y) / W64 ^ (k + 1) = 0 from by rw [HS2.out.2]; exact Nat.div_eq_of_lt hxw)
          have hcast : ((xk + 1 : Nat) : Int) = xk + 1 := by omega
          go_upto_region 17 with fail
          obtain ⟨W2, hW2⟩ : ∃ W2, W2 = wr.setCell ⟨g, o + k, none⟩ (.int .u64 ((xk : Int) + 1)) := ⟨_, rfl⟩
          have HR2 := Lib.hid (HRR.out.step (x := xk + 1) (by omega) HE2.out)
          rw [hcast, ← hW2] at HR2
          rw [← hW2]
          have HQ2 := Lib.hid (fun q => Lib.run_neq_ptr_same (P := Tryz.prog) (W2.drewN q) ⟨g, o, none⟩ Tryz.underlying207 hj)
          clear hW2 hcast f0 e1
          have hq := HQ2.out
          go_quiet (fail)
          go_wp2
          go_ret
          refine ⟨ret_u64 (addw_none W64_pos HF2.out (by omega)).symm, ?_⟩
          refine RowUp.drewN (RowUp.rest HR2.out (by omega) (fun i hi hi2 => ?_)) _
          rw [HCU.out i hi2, addw_same W64_pos HF2.out hi]
      · obtain rfl : k = n := by omega
        go_wp2
        go_ret
        exact ⟨ret_u64 HCA.out.symm, hR⟩
end Go.Proofs.YtdkipndepkblhaaGreatDoor
