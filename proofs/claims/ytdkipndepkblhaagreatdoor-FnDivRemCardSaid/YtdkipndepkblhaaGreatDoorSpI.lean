/-
  The reference's Of64 of any word; Int64.
-/
import Derived.Test.YtdkipndepkblhaaGreatDoorSpO
import Derived.Test.YtdkipndepkblhaaGreatDoorBuF
set_option linter.unusedSimpArgs false
set_option linter.unusedVariables false
namespace Go.Proofs.YtdkipndepkblhaaGreatDoor
open Go.RowKit Go.Bg Dg

theorem wrap_step (A d : Int) : wrap64 (wrap64 (wrap64 A * 65536) + d) = wrap64 (A * 65536 + d) := by unfold wrap64; omega
theorem wrap_neg (A : Int) : wrap64 (-(wrap64 A)) = wrap64 (-A) := by unfold wrap64; omega

set_option maxRecDepth 100000 in
set_option maxHeartbeats 1000000 in
theorem of64_pos (d : Nat) (hd : d < 9223372036854775808) (w : World) : Calls Tryz.prog 18 #[.int .i64 (d : Nat)] w (GivesR (rz (d : Nat)) 4 w) := by
  obtain ⟨W0, hW0⟩ : ∃ W0, W0 = (w.alloc (.cells #[.bool false, .slice none 0 0, .slice none 0 0] 31)).alloc (.cells #[.int .u64 (d : Nat)] 44) := ⟨_, rfl⟩
  have HW := Lib.hid hW0
  have hb0 : Below w.heap.size w W0 := by rw [hW0]; exact Below.alloc' (Below.alloc' (Below.refl _ _) _) _
  have R : ResBlk W0 w.heap.size := by rw [hW0]; exact (ResBlk.new _ _ rfl).alloc1 _
  have HC := Lib.hid (show W0.cell? ⟨w.heap.size + 1, 0, none⟩ = some (.int .u64 (d : Nat)) from by rw [hW0]; exact alloc_new _ _ _ (by simp) rfl)
  have HD := Lib.hid (show d < W64 from by unfold W64; omega)
  have HV := Lib.hid (show ∀ (w2 : World) (aO : Option Addr) (nO cO : Nat) (aS : Option Addr) (nS cS : Nat), NatAt w2 aO nO cO d → NatAt w2 aS nS cS 1 → RtAt w2 false aO nO cO aS nS cS (rz (d : Nat)) 4 from
    fun w2 aO nO cO aS nS cS h1 h2 => ⟨by show false = decide ((d : Int) < 0); simp, by show NatAt w2 aO nO cO (d : Int).natAbs; rw [Int.natAbs_natCast]; exact h1, h2, by show (d : Int).natAbs < 18446744073709551616; omega, by show (1 : Nat) < 65536 ^ 4; decide⟩)
  have h0 : ¬ (d : Int) < 0 := by omega
  have e1 : IntKind.u64.wrap (d : Int) = (d : Int) := by show (d : Int) % 18446744073709551616 = _; omega
  clear hd hW0
  go_enter Tryz.func18, Tryz.ntmps18
  go_wp2_with fail
  rw [← HW.out]
  have hcc : Cells W0 (some ⟨w.heap.size + 1, 0, none⟩) 1 (fun i => .int .u64 ((fun _ => d : Nat → Nat) i : Nat)) := fun _ => ⟨_, _, rfl, fun i hi => by
    have h0 : i = 0 := by omega
    rw [h0]; exact HC.out⟩
  refine (of_any (some ⟨w.heap.size + 1, 0, none⟩) 1 1 (fun _ => d) _ hcc (fun _ _ => HD.out) (by omega)).mono ?_
  rintro e w1 ⟨aO, nO, cO, rfl, hO, hB1⟩
  have hb1 := Below.then hb0 (Nat.le_refl _) hB1
  have R1 := R.below R.lt hB1
  go_wp2_with fail
  refine (small_one _).mono ?_
  rintro e w2 ⟨aS, nS, cS, rfl, hS, hB2⟩
  have hb2 := Below.then hb1 (Nat.le_refl _) hB2
  have R2 := R1.below R1.lt hB2
  have hN : NatAt w2 aO nO cO d := by simpa [val] using hO.keep hB2
  have hV : RtAt w2 false aO nO cO aS nS cS (rz (d : Nat)) 4 := HV.out w2 _ _ _ _ _ _ hN hS
  obtain ⟨⟨u0, r0⟩, ⟨u1, r1⟩, ⟨u2, r2⟩⟩ := (R2).cells; have f0 := (R2).frozen 0; have f1 := (R2).frozen 1; have f2 := (R2).frozen 2
  clear hcc hO hS hN
  go_wp2
  exact bodyPost_ret (v := .agg #[.bool false, .slice aO nO cO, .slice aS nS cS]) (by simp [results, Tryz.results18, go_sem, r0, r1, r2]) rfl (givesR_end R2 (Nat.le_refl _) hb2 hV)

set_option maxRecDepth 100000 in
set_option maxHeartbeats 1000000 in
theorem of64_neg (d : Nat) (hd : 0 < d) (hd2 : d ≤ 9223372036854775808) (z : Int) (hz : z = -(d : Int)) (w : World) : Calls Tryz.prog 18 #[.int .i64 z] w (GivesR (rz z) 4 w) := by
  obtain ⟨W0, hW0⟩ : ∃ W0, W0 = (w.alloc (.cells #[.bool false, .slice none 0 0, .slice none 0 0] 31)).alloc (.cells #[.int .u64 (d : Nat)] 44) := ⟨_, rfl⟩
  have HW := Lib.hid hW0
  have hb0 : Below w.heap.size w W0 := by rw [hW0]; exact Below.alloc' (Below.alloc' (Below.refl _ _) _) _
  have R : ResBlk W0 w.heap.size := by rw [hW0]; exact (ResBlk.new _ _ rfl).alloc1 _
  have HC := Lib.hid (show W0.cell? ⟨w.heap.size + 1, 0, none⟩ = some (.int .u64 (d : Nat)) from by rw [hW0]; exact alloc_new _ _ _ (by simp) rfl)
  have HD := Lib.hid (show d < W64 from by unfold W64; omega)
  have HV := Lib.hid (show ∀ (w2 : World) (aO : Option Addr) (nO cO : Nat) (aS : Option Addr) (nS cS : Nat), NatAt w2 aO nO cO d → NatAt w2 aS nS cS 1 → RtAt w2 true aO nO cO aS nS cS (rz z) 4 from
    fun w2 aO nO cO aS nS cS h1 h2 => ⟨by show true = decide (z < 0); simp; omega, by show NatAt w2 aO nO cO z.natAbs; rw [show z.natAbs = d from by omega]; exact h1, h2, by show z.natAbs < 18446744073709551616; omega, by show (1 : Nat) < 65536 ^ 4; decide⟩)
  have hz0 : z < 0 := by omega
  obtain ⟨c, hc⟩ : ∃ c : Nat, c + d = 18446744073709551616 := ⟨18446744073709551616 - d, by omega⟩
  have e1 : IntKind.u64.wrap z = (c : Int) := by show z % 18446744073709551616 = _; omega
  have e2 : IntKind.u64.wrap (-(c : Int)) = (d : Int) := by show (-(c : Int)) % 18446744073709551616 = _; omega
  clear hz hc hd hd2 hW0
  go_enter Tryz.func18, Tryz.ntmps18
  go_wp2_with fail
  rw [← HW.out]
  have hcc : Cells W0 (some ⟨w.heap.size + 1, 0, none⟩) 1 (fun i => .int .u64 ((fun _ => d : Nat → Nat) i : Nat)) := fun _ => ⟨_, _, rfl, fun i hi => by
    have h0 : i = 0 := by omega
    rw [h0]; exact HC.out⟩
  refine (of_any (some ⟨w.heap.size + 1, 0, none⟩) 1 1 (fun _ => d) _ hcc (fun _ _ => HD.out) (by omega)).mono ?_
  rintro e w1 ⟨aO, nO, cO, rfl, hO, hB1⟩
  have hb1 := Below.then hb0 (Nat.le_refl _) hB1
  have R1 := R.below R.lt hB1
  go_wp2_with fail
  refine (small_one _).mono ?_
  rintro e w2 ⟨aS, nS, cS, rfl, hS, hB2⟩
  have hb2 := Below.then hb1 (Nat.le_refl _) hB2
  have R2 := R1.below R1.lt hB2
  have hN : NatAt w2 aO nO cO d := by simpa [val] using hO.keep hB2
  have hV : RtAt w2 true aO nO cO aS nS cS (rz z) 4 := HV.out w2 _ _ _ _ _ _ hN hS
  obtain ⟨⟨u0, r0⟩, ⟨u1, r1⟩, ⟨u2, r2⟩⟩ := (R2).cells; have f0 := (R2).frozen 0; have f1 := (R2).frozen 1; have f2 := (R2).frozen 2
  clear hcc hO hS hN
  go_wp2
  exact bodyPost_ret (v := .agg #[.bool true, .slice aO nO cO, .slice aS nS cS]) (by simp [results, Tryz.results18, go_sem, r0, r1, r2]) rfl (givesR_end R2 (Nat.le_refl _) hb2 hV)

theorem of64_any (z : Int) (h1 : -9223372036854775808 ≤ z) (h2 : z ≤ 9223372036854775807) (w : World) : Calls Tryz.prog 18 #[.int .i64 z] w (GivesR (rz z) 4 w) := by
  by_cases h : z < 0
  · exact of64_neg z.natAbs (by omega) (by omega) z (by omega) w
  · have e : z = (z.natAbs : Nat) := by omega
    rw [e]
    exact of64_pos z.natAbs (by omega) w

set_option maxRecDepth 100000 in
set_option maxHeartbeats 2000000 in
theorem specInt64_any (s : Bool) (a : Option Addr) (n c : Nat) (a' : Option Addr) (n' c' L : Nat) (r : Rt) (z : Int) (hr : r = rz z) (w : World) (h : RtAt w s a n c a' n' c' r L) (hL2 : L ≤ 400000) :
    Calls Tryz.prog 35 #[.agg #[.bool s, .slice a n c, .slice a' n' c']] w fun e w' => ∃ ok, e = .returned (.tuple #[.int .i64 (wrap64 z), .bool ok]) ∧ (fit64 z = true → ok = true) ∧ Below w.heap.size w w' := by
  have hlen := h.n_le
  obtain ⟨W0, hW0⟩ : ∃ W0, W0 = w.alloc (.cells #[.bool s, .slice a n c, .slice a' n' c'] 31) := ⟨_, rfl⟩
  have hb0 : Below w.heap.size w W0 := by rw [hW0]; exact Below.alloc' (Below.refl _ _) _
  have X : RtBlk W0 w.heap.size s a n c a' n' c' := by rw [hW0]; exact RtBlk.new _ _ rfl _ _ _ _ _ _ _
  have HH := Lib.hid (h.keep hb0)
  have HS := Lib.hid h.neg
  have HW := Lib.hid hW0
  have HR := Lib.hid hr
  clear hW0 h hr
  obtain ⟨x0, x1, x2⟩ := X.all
  go_enter Tryz.func35, Tryz.ntmps35
  go_upto_region 1 with fail
  rw [← HW.out]
  go_wp2
  go_loopw [4, 5] (fun v i wr => ∃ k : Nat, k ≤ n ∧ i = .int .i64 ((k : Int) - 1) ∧ v = .int .i64 (wrap64 ((r.num / 65536 ^ k : Nat) : Int)) ∧ wr = W0) (fun _ i _ => (intOf i + 1).toNat)
  case atStart =>
    refine ⟨n, Nat.le_refl _, rfl, ?_, rfl⟩
    rw [Nat.div_eq_of_lt HH.out.num.lt]
    exact congrArg (Value.int .i64) (by unfold wrap64; rfl)
  case round =>
    obtain ⟨k, hk, rfl, rfl, rfl⟩ := hrel
    by_cases k0 : 0 < k
    · obtain ⟨p, rfl⟩ : ∃ p, k = p + 1 := ⟨k - 1, by omega⟩
      have hp1 : ((p + 1 : Nat) : Int) - 1 = p := by omega
      have kl1 : (p : Int) < n := by omega
      obtain ⟨b, o, rfl, -⟩ := HH.out.num.form (by omega)
      have e1 := HH.out.num.cell (i := p) (by omega)
      have d1 : dg 65536 r.num p < 65536 := dg_lt (by decide) _ _
      have HSTP := Lib.hid (show ((r.num / 65536 ^ p : Nat) : Int) = ((r.num / 65536 ^ (p + 1) : Nat) : Int) * 65536 + (dg 65536 r.num p : Nat) from by
        have e := Nat.div_add_mod (r.num / 65536 ^ p) 65536
        rw [Nat.div_div_eq_div_mul, ← Nat.pow_succ] at e
        unfold dg
        generalize r.num / 65536 ^ p = A at *
        generalize r.num / 65536 ^ (p + 1) = B at *
        omega)
      obtain ⟨V, hV⟩ : ∃ V, V = wrap64 ((r.num / 65536 ^ (p + 1) : Nat) : Int) := ⟨_, rfl⟩
      rw [← hV]
      have HV := Lib.hid hV
      clear hV
      go_wp2
      go_roundw
      case rel => exact ⟨p, by omega, rfl, congrArg (Value.int .i64) (by rw [HV.out, wrap_step, ← HSTP.out]), trivial⟩
      case measure => simp [intOf]
    · obtain rfl : k = 0 := by omega
      have HZ := Lib.hid (show ∀ s', s' = s → (if s' then wrap64 (-(wrap64 ((r.num / 65536 ^ 0 : Nat) : Int))) else wrap64 ((r.num / 65536 ^ 0 : Nat) : Int)) = wrap64 z from by
        intro s' hs'
        rw [hs', Nat.pow_zero, Nat.div_one]
        have h1 := HS.out
        rw [HR.out] at h1 ⊢
        have h2 : s = decide (z < 0) := h1
        show (if s then wrap64 (-(wrap64 ((z.natAbs : Nat) : Int))) else wrap64 ((z.natAbs : Nat) : Int)) = wrap64 z
        rw [h2, wrap_neg]
        by_cases hz : z < 0
        · simp only [hz, decide_true, if_true]; congr 1; omega
        · simp only [hz, decide_false, Bool.false_eq_true, if_false]; congr 1; omega)
      obtain ⟨V, hV⟩ : ∃ V, V = wrap64 ((r.num / 65536 ^ 0 : Nat) : Int) := ⟨_, rfl⟩
      rw [← hV] at HZ ⊢
      clear hV
      have HO := Lib.hid (of64_any (wrap64 z) (wrap64_bd z).1 (wrap64_bd z).2)
      have HZB := Lib.hid (wrap64_bd z)
      clear hlen hk k0
      cases hs : s
      · have hz := HZ.out false hs.symm
        simp only [Bool.false_eq_true, if_false] at hz
        rw [hs] at x0
        go_wp2_with fail
        try rw [hz]
        refine (HO.out _).mono ?_
        rintro e w2 ⟨sB, aB, nB, cB, aE, nE, cE, rfl, hB, hB2⟩
        go_upto_region 9 with fail
        obtain ⟨W9, hW9⟩ : ∃ W9, W9 = w2.alloc (.cells #[.bool sB, .slice aB nB cB, .slice aE nE cE] 31) := ⟨_, rfl⟩
        rw [← hW9]
        have hb9 : Below w2.heap.size w2 W9 := by rw [hW9]; exact Below.alloc' (Below.refl _ _) _
        have Y9 : RtBlk W9 w2.heap.size sB aB nB cB aE nE cE := by rw [hW9]; exact RtBlk.new _ _ rfl _ _ _ _ _ _ _
        have X9 := (X.keep hB2).keep hb9
        have HBN := Lib.hid (hB.num.keep hb9)
        have HAN := Lib.hid ((HH.out.num.keep hB2).keep hb9)
        have HSB := Lib.hid hB.neg
        have hnB := hB.n_le
        have hnA := HH.out.n_le
        have HBE := Lib.hid (Below.then hb0 (Nat.le_refl _) (Below.then hB2 (Nat.le_refl _) hb9))
        have HFZ := Lib.hid (show fit64 z = true → wrap64 z = z from fun hf => by have := fit64_bd hf; unfold wrap64; omega)
        clear hW9 hB hB2 hb9 X x0 x1 x2
        obtain ⟨y0, y1, y2⟩ := Y9.all
        obtain ⟨x0, x1, x2⟩ := X9.all
        rw [hs] at x0
        clear X9 Y9
        have HCM := Lib.hid (cmp_any aB a nB n cB c (rz (wrap64 z)).num r.num W9 HBN.out HAN.out (by omega) (by omega))
        have HC0 := Lib.hid (show fit64 z = true → cmpI (rz (wrap64 z)).num r.num = 0 from fun hf => by rw [HFZ.out hf, HR.out]; unfold cmpI; simp)
        have HSS := Lib.hid (show fit64 z = true → sB = s from fun hf => by rw [HSB.out, HFZ.out hf, HS.out, HR.out])
        generalize cmpI (rz (wrap64 z)).num r.num = q at *
        generalize hu : wrap64 z = u at *
        have HU := Lib.hid hu
        clear hu
        clear hz
        cases hsb : sB
        · rw [hsb] at y0
          go_wp2_with fail
          refine HCM.out.mono ?_
          rintro e w3 ⟨rfl, m, rfl⟩
          go_wp2
          go_ret2
          exact ⟨q == 0, by rw [HU.out]; rfl, fun hf => by rw [HC0.out hf]; rfl, below_drewN HBE.out m⟩
        · rw [hsb] at y0
          go_wp2
          go_ret2
          exact ⟨false, by rw [HU.out]; rfl, fun hf => (by have := HSS.out hf; rw [hs, hsb] at this; cases this), HBE.out⟩
      · have hz := HZ.out true hs.symm
        simp only [if_true] at hz
        rw [hs] at x0
        go_wp2_with fail
        try rw [hz]
        refine (HO.out _).mono ?_
        rintro e w2 ⟨sB, aB, nB, cB, aE, nE, cE, rfl, hB, hB2⟩
        go_upto_region 9 with fail
        obtain ⟨W9, hW9⟩ : ∃ W9, W9 = w2.alloc (.cells #[.bool sB, .slice aB nB cB, .slice aE nE cE] 31) := ⟨_, rfl⟩
        rw [← hW9]
        have hb9 : Below w2.heap.size w2 W9 := by rw [hW9]; exact Below.alloc' (Below.refl _ _) _
        have Y9 : RtBlk W9 w2.heap.size sB aB nB cB aE nE cE := by rw [hW9]; exact RtBlk.new _ _ rfl _ _ _ _ _ _ _
        have X9 := (X.keep hB2).keep hb9
        have HBN := Lib.hid (hB.num.keep hb9)
        have HAN := Lib.hid ((HH.out.num.keep hB2).keep hb9)
        have HSB := Lib.hid hB.neg
        have hnB := hB.n_le
        have hnA := HH.out.n_le
        have HBE := Lib.hid (Below.then hb0 (Nat.le_refl _) (Below.then hB2 (Nat.le_refl _) hb9))
        have HFZ := Lib.hid (show fit64 z = true → wrap64 z = z from fun hf => by have := fit64_bd hf; unfold wrap64; omega)
        clear hW9 hB hB2 hb9 X x0 x1 x2
        obtain ⟨y0, y1, y2⟩ := Y9.all
        obtain ⟨x0, x1, x2⟩ := X9.all
        rw [hs] at x0
        clear X9 Y9
        have HCM := Lib.hid (cmp_any aB a nB n cB c (rz (wrap64 z)).num r.num W9 HBN.out HAN.out (by omega) (by omega))
        have HC0 := Lib.hid (show fit64 z = true → cmpI (rz (wrap64 z)).num r.num = 0 from fun hf => by rw [HFZ.out hf, HR.out]; unfold cmpI; simp)
        have HSS := Lib.hid (show fit64 z = true → sB = s from fun hf => by rw [HSB.out, HFZ.out hf, HS.out, HR.out])
        generalize cmpI (rz (wrap64 z)).num r.num = q at *
        generalize hu : wrap64 z = u at *
        have HU := Lib.hid hu
        clear hu
        clear hz
        cases hsb : sB
        · rw [hsb] at y0
          go_wp2
          go_ret2
          exact ⟨false, by rw [HU.out]; rfl, fun hf => (by have := HSS.out hf; rw [hs, hsb] at this; cases this), HBE.out⟩
        · rw [hsb] at y0
          go_wp2_with fail
          refine HCM.out.mono ?_
          rintro e w3 ⟨rfl, m, rfl⟩
          go_wp2
          go_ret2
          exact ⟨q == 0, by rw [HU.out]; rfl, fun hf => by rw [HC0.out hf]; rfl, below_drewN HBE.out m⟩
end Go.Proofs.YtdkipndepkblhaaGreatDoor
