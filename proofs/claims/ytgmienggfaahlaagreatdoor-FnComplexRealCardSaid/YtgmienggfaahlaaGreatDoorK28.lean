/-
  Contracts and lemmas: LehGB LehGC RatN0.
-/
import Derived.Test.YtgmienggfaahlaaGreatDoorK26
import Derived.Test.YtgmienggfaahlaaGreatDoorK27
import Derived.Test.YtgmienggfaahlaaGreatDoorK23
import Derived.Test.YtgmienggfaahlaaGreatDoorK20
import Derived.Test.YtgmienggfaahlaaGreatDoorK04
set_option linter.unusedSimpArgs false
set_option linter.unusedVariables false
set_option maxRecDepth 100000
set_option maxHeartbeats 8000000
namespace Go.Proofs.YtgmienggfaahlaaGreatDoor
open Go.RowKit Go.Bg Dg
theorem lehmerGCD_lt (zb b1 o1 b2 o2 : Nat) (s1 s2 : Bool) (N M : Nat) (w : World) (hK : ThrD w) (h : NewInt w zb 0) (h1 : BigAt 155 w b1 o1 s1 N) (h2 : BigAt 155 w b2 o2 s2 M) (hN0 : 0 < N) (hM0 : 0 < M) (L : Nat) (hL : L < 40) (hN : N < W64 ^ L) (hM : M < W64 ^ L) (hle : N < M) :
    Calls Tryz.prog 200 #[.pointer (some ⟨zb, 0, none⟩), .pointer none, .pointer none, .pointer (some ⟨b1, o1, none⟩), .pointer (some ⟨b2, o2, none⟩)] w (IntOwn zb 0 false (Nat.gcd N M) w) := by
  obtain ⟨a1', n1', c1', pn, -⟩ := h1.val
  have HP := Lib.hid (⟨pn, h, h.blk.lt⟩ : w.cell? ⟨b1, o1, none⟩ = some (.bool s1) ∧ NewInt w zb 0 ∧ zb < w.heap.size)
  have HK := Lib.hid (⟨hK, block_lt hK⟩ : ThrD w ∧ 3 < w.heap.size)
  have H1 := Lib.hid h1
  have H2 := Lib.hid h2
  have HB := Lib.hid (⟨hN0, hM0, hN, hM, hle⟩ : 0 < N ∧ 0 < M ∧ N < W64 ^ L ∧ M < W64 ^ L ∧ N < M)
  have HG := Lib.hid (show 0 < Nat.gcd N M ∧ Nat.gcd N M ≤ N ∧ Nat.gcd N M ≤ M from ⟨Nat.gcd_pos_of_pos_left _ hN0, Nat.gcd_le_left _ hN0, Nat.gcd_le_right _ hM0⟩)
  have l1 := h1.blk.lt
  have l2 := h2.blk.lt
  clear hK h h1 h2 hN0 hM0 hN hM hle pn
  obtain ⟨W1, hW1⟩ : ∃ W1, W1 = w.alloc (.cells #[.bool false, .slice none 0 0] 168) := ⟨_, rfl⟩
  have HW1 := Lib.hid hW1
  have n1 : NewInt W1 w.heap.size 0 := by rw [hW1]; exact newInt_is w
  have hb1 : Below w.heap.size w W1 := by rw [hW1]; exact Below.alloc' (Below.refl _ _) _
  have s1' : W1.heap.size = w.heap.size + 1 := by rw [hW1]; simp
  clear hW1
  go_enter Tryz.func200, Tryz.ntmps200
  go_wp2_with fail
  rw [← HW1.out]
  refine (intAbs_own w.heap.size b1 o1 s1 N _ n1 (H1.out.keep hb1) (by omega) HB.out.1 L (by omega) HB.out.2.2.1).mono ?_
  rintro e w2 ⟨rfl, hU2, g1, m1, c1, hA2, hg1⟩
  have hs2 := hU2.size
  have hb2 := hU2.below hb1 (by omega) (fun k _ e => by subst e; exact Nat.le_refl _)
  obtain ⟨W3, hW3⟩ : ∃ W3, W3 = w2.alloc (.cells #[.bool false, .slice none 0 0] 168) := ⟨_, rfl⟩
  have HW3 := Lib.hid hW3
  have n3 : NewInt W3 w2.heap.size 0 := by rw [hW3]; exact newInt_is w2
  have hb3 : Below w.heap.size w W3 := by rw [hW3]; exact Below.alloc' hb2 _
  clear hW3 n1
  go_wp2_with fail
  rw [← HW3.out]
  refine (intAbs_own w2.heap.size b2 o2 s2 M _ n3 (H2.out.keep hb3) (by omega) HB.out.2.1 L (by omega) HB.out.2.2.2.1).mono ?_
  rintro e w4 ⟨rfl, hU4, g2, m2, c2, hB4, hg2⟩
  obtain ⟨W6, hW6⟩ : ∃ W6, W6 = (w4.alloc (.cells #[.bool false, .slice none 0 0] 168)).alloc (.cells #[.bool false, .slice none 0 0] 168) := ⟨_, rfl⟩
  have HW6 := Lib.hid hW6
  have HF6 := Lib.hid (four_start HW1.out hU2 hA2 hg1 HW3.out hU4 hB4 hg2 hW6)
  clear hW6 n3 hU2 hA2 hg1 hU4 hB4 hg2 hb1 hb2 hb3 HW1 HW3
  obtain ⟨bA, hbA⟩ : ∃ bA, bA = w.heap.size := ⟨_, rfl⟩
  obtain ⟨bB, hbB⟩ : ∃ bB, bB = w2.heap.size := ⟨_, rfl⟩
  obtain ⟨bq, hbq⟩ : ∃ bq, bq = w4.heap.size := ⟨_, rfl⟩
  have HF7 := Lib.hid (show Four w.heap.size w ⟨bA, false, some ⟨g1, 0, none⟩, m1, c1, N⟩ ⟨bB, false, some ⟨g2, 0, none⟩, m2, c2, M⟩ ⟨bq, false, none, 0, 0, 0⟩ ⟨bq + 1, false, none, 0, 0, 0⟩ W6 from by rw [hbA, hbB, hbq]; exact HF6.out)
  clear HF6
  have HBA := Lib.hid (⟨hbA, hbB, hbq⟩ : bA = w.heap.size ∧ bB = w2.heap.size ∧ bq = w4.heap.size)
  clear hbA hbB hbq
  obtain ⟨ck, hck⟩ : ∃ ck, ck = cmpI N M := ⟨_, rfl⟩
  have hc : ck < 0 := by rw [hck]; exact cmpI_lt HB.out.2.2.2.2
  have hcb : decide (ck < 0) = true := decide_eq_true hc
  have HCK := Lib.hid hck
  clear hck
  go_upto_region 10 with fail
  rw [← HW6.out, ← HBA.out.1, ← HBA.out.2.1, ← HBA.out.2.2]
  have cA := HF7.out.ax.c1
  have cB := HF7.out.ay.c1
  dsimp only at cA cB
  go_quiet (first | (go_at_call 137; refine Calls.quiet_of (natCmp_any _ _ _ _ _ _ N M _ (HF7.out.ax.num.num.drewN _) (HF7.out.ay.num.num.drewN _))))
  rw [← HCK.out]
  have HF8 := Lib.hid (HF7.out.keep (below_drewN (Below.refl _ _) nq))
  clear cA cB HF7 HCK
  generalize W6.drewN nq = W7 at *
  clear HW6
  go_upto_region 13 with fail
  rw [hcb]
  go_loopg [11, 12, 13, 14, 17, 18, 19, 20, 21, 22] (N + M) (fun gk s11 s12 s13 s14 s17 _ _ _ _ _ wr => ∃ (x y q r : Rg), s11 = .pointer (some ⟨x.b, 0, none⟩) ∧ s12 = .pointer (some ⟨y.b, 0, none⟩) ∧ s13 = .pointer none ∧ s14 = .pointer none ∧ s17 = .pointer (some ⟨r.b, 0, none⟩) ∧ q.b = bq ∧ Four w.heap.size w x y q r wr ∧ x.s = false ∧ y.s = false ∧ y.N ≤ x.N ∧ Nat.gcd x.N y.N = Nat.gcd N M ∧ x.N < W64 ^ L ∧ 0 < x.N ∧ x.N + y.N ≤ gk)
  case atStart => exact ⟨_, _, _, _, rfl, rfl, rfl, rfl, rfl, rfl, HF8.out.swapXY, rfl, rfl, Nat.le_of_lt HB.out.2.2.2.2, Nat.gcd_comm _ _, HB.out.2.2.2.1, HB.out.2.1, (by show M + N ≤ N + M; omega)⟩
  case round =>
    obtain ⟨x, y, q, r, rfl, rfl, rfl, rfl, rfl, hq, hF, xs, ys, hyx, hg, hxL, hx0, hgk⟩ := hrel
    have HF := Lib.hid hF
    have HI := Lib.hid (⟨xs, ys, hyx, hg, hxL, hx0, hgk⟩ : x.s = false ∧ y.s = false ∧ y.N ≤ x.N ∧ Nat.gcd x.N y.N = Nat.gcd N M ∧ x.N < W64 ^ L ∧ 0 < x.N ∧ x.N + y.N ≤ gk)
    have HQ := Lib.hid hq
    have cy := hF.ay.c1
    have cx := hF.ax.c1
    have xn := rg_pos hF.ax hx0
    have xL := rg_len hF.ax hxL
    have yL := rg_len hF.ay (Nat.lt_of_le_of_lt hyx hxL)
    have xcm := hF.ax.num.num.cm
    have ycm := hF.ay.num.num.cm
    have xnc := hF.ax.num.num.nc
    have ync := hF.ay.num.num.nc
    unfold maxLen at xcm ycm
    clear xs ys hyx hg hxL hx0 hgk hF HF8 HBA hc hcb
    subst hq
    by_cases y2 : 1 < y.n
    · have hgt : (1 : Int) < y.n := by omega
      have hy0 := rg_some HF.out.ay (by omega)
      obtain ⟨ga, hga⟩ := rg_form HF.out.ax xn
      obtain ⟨gb, hgb⟩ := rg_form HF.out.ay (by omega)
      have HSM := Lib.hid (simulate_any x.b y.b ga gb x.n y.n x.c y.c x.N y.N wr (by rw [← hga]; exact cx) (by rw [← hgb]; exact cy) (by rw [← hga]; exact HF.out.ax.num.num) (by rw [← hgb]; exact HF.out.ay.num.num) (by omega) HI.out.2.2.1 (by omega))
      have HY0 := Lib.hid hy0
      clear hga hgb hy0
      go_wp2_with fail
      refine HSM.out.mono ?_
      rintro e v1 ⟨u0, u1, t0, t1, even, rfl, hS, hB⟩
      have HF1 := Lib.hid (HF.out.keep hB)
      have HS := Lib.hid hS
      clear hS hB HF HSM cx cy
      by_cases ht : t0 = 0
      · subst ht
        go_wp2_with fail
        refine (euclidUpdate_any w.heap.size w x y q r _ (HK.out.1.keep HF1.out.bel) HK.out.2 HF1.out HI.out.1 HI.out.2.1 HY0.out HI.out.2.2.1 L hL HI.out.2.2.2.2.1).mono ?_
        rintro e v2 ⟨rfl, q', r', hF2, eq, er, rs, rN⟩
        have HR := Lib.hid (⟨hF2, eq, er, rs, rN⟩ : Four w.heap.size w y r' q' x v2 ∧ q'.b = q.b ∧ r'.b = r.b ∧ r'.s = false ∧ r'.N = x.N % y.N)
        clear hF2 eq er rs rN
        go_wp2_with fail
        go_roundg (y.N + r'.N)
        case rel =>
          have hlt := Nat.mod_lt x.N HY0.out
          refine ⟨y, r', q', x, rfl, by rw [HR.out.2.2.1], rfl, rfl, rfl, HR.out.2.1, HR.out.1, HI.out.2.1, HR.out.2.2.2.1, by rw [HR.out.2.2.2.2]; omega, ?_, Nat.lt_of_le_of_lt HI.out.2.2.1 HI.out.2.2.2.2.1, HY0.out, Nat.le_refl _⟩
          rw [HR.out.2.2.2.2, ← HI.out.2.2.2.1, Nat.gcd_comm y.N, ← Nat.gcd_rec, Nat.gcd_comm]
        case measure =>
          have hlt := Nat.mod_lt x.N HY0.out
          have h1 := HI.out.2.2.1
          have h2 := HI.out.2.2.2.2.2.2
          rw [HR.out.2.2.2.2]; omega
      · have htz : ((t0 : Int) != 0) = true := by simp; omega
        have htz' : ¬ (t0 : Int) = 0 := by omega
        go_wp2_with fail
        refine (lehmerUpdate_any w.heap.size w x y q r u0 u1 t0 t1 even _ HF1.out HI.out.1 HI.out.2.1 HS.out (by omega) HI.out.2.2.2.2.2.1 HY0.out L (by omega) HI.out.2.2.2.2.1 (Nat.lt_of_le_of_lt HI.out.2.2.1 HI.out.2.2.2.2.1)).mono ?_
        rintro e v2 ⟨rfl, x', y', q', r', hF2, ex, ey, eq, er, xs, ys, hyx, hg, hlt, hxx, hyy⟩
        have HR := Lib.hid (⟨hF2, ex, ey, eq, er, xs, ys, hyx, hg, hlt, hxx⟩ : Four w.heap.size w x' y' q' r' v2 ∧ x'.b = x.b ∧ y'.b = y.b ∧ q'.b = q.b ∧ r'.b = r.b ∧ x'.s = false ∧ y'.s = false ∧ y'.N ≤ x'.N ∧ Nat.gcd x'.N y'.N = Nat.gcd x.N y.N ∧ x'.N + y'.N < x.N + y.N ∧ x'.N ≤ x.N)
        clear hF2 ex ey eq er xs ys hyx hg hlt hxx hyy
        go_wp2_with fail
        go_roundg (x'.N + y'.N)
        case rel =>
          obtain ⟨hF2, ex, ey, eq, er, xs, ys, hyx, hg, hlt, hxx⟩ := HR.out
          refine ⟨x', y', q', r', by rw [ex], by rw [ey], rfl, rfl, by rw [er], eq, hF2, xs, ys, hyx, hg.trans HI.out.2.2.2.1, Nat.lt_of_le_of_lt hxx HI.out.2.2.2.2.1, ?_, Nat.le_refl _⟩
          rcases Nat.eq_zero_or_pos x'.N with h0 | h0
          · exfalso
            have e1 : y'.N = 0 := by omega
            rw [h0, e1, HI.out.2.2.2.1] at hg
            have := HG.out.1
            have h3 : Nat.gcd 0 0 = 0 := rfl
            omega
          · exact h0
        case measure =>
          have h1 := HR.out.2.2.2.2.2.2.2.2.2.1
          have h2 := HI.out.2.2.2.2.2.2
          omega
    · by_cases y0 : y.n = 0
      · have eN : x.N = Nat.gcd N M := by have h3 := HI.out.2.2.2.1; rwa [rg_zero HF.out.ay y0, Nat.gcd_zero_right] at h3
        rw [y0] at cy
        have HXN := Lib.hid eN
        clear eN y2
        go_upto_region 42 with fail
        clear cx cy
        have hbt := HF.out.bel
        have kn := cell_keep HP.out.1 hbt
        have HT := Lib.hid hbt
        have zt := HP.out.2.1.keep hbt
        have HXA := Lib.hid (rg_at HF.out.ax HI.out.1)
        have HXL := Lib.hid (show x.N = Nat.gcd N M ∧ x.N < W64 ^ L from ⟨HXN.out, HI.out.2.2.2.2.1⟩)
        clear hbt
        go_wp2_with fail
        refine (intSet_own zb x.b 0 false x.N _ zt HXA.out (by have := HF.out.own _ (.inl (.inl rfl)); have := HP.out.2.2; omega) (by rw [HXL.out.1]; exact HG.out.1) L (by omega) HXL.out.2).mono ?_
        rintro e wz hI
        rw [HXL.out.1] at hI
        have HI := Lib.hid hI
        obtain ⟨rfl, -, -⟩ := hI
        go_wp2
        go_ret
        exact intOwn_below HT.out HI.out
      · have y1 : y.n = 1 := by omega
        rw [y1] at cy
        by_cases x2 : 1 < x.n
        · have hgt : (1 : Int) < x.n := by omega
          have HY0 := Lib.hid (rg_some HF.out.ay (by omega))
          have hyl := rg_word HF.out.ay y1
          have HY1 := Lib.hid y1
          clear y2 y0 y1
          go_upto_region 22 with fail
          clear cx cy
          go_wp2_with fail
          refine (euclidUpdate_any w.heap.size w x y q r _ (HK.out.1.keep HF.out.bel) HK.out.2 HF.out HI.out.1 HI.out.2.1 HY0.out HI.out.2.2.1 L hL HI.out.2.2.2.2.1).mono ?_
          rintro e v2 ⟨rfl, q', r', hF2, eq, er, rs, rN⟩
          have HF2 := Lib.hid hF2
          have hlt : r'.N < y.N := by rw [rN]; exact Nat.mod_lt _ HY0.out
          have HGR := Lib.hid (show Nat.gcd y.N r'.N = Nat.gcd N M from by rw [rN, ← HI.out.2.2.2.1, Nat.gcd_comm y.N, ← Nat.gcd_rec, Nat.gcd_comm])
          have rl : r'.n ≤ 1 := rg_len hF2.ay (by rw [Nat.pow_one]; unfold W64; omega)
          have cr := hF2.ay.c1
          have HER := Lib.hid (⟨er, rs⟩ : r'.b = r.b ∧ r'.s = false)
          rw [er] at cr
          have rcm := hF2.ay.num.num.cm
          have rnc := hF2.ay.num.num.nc
          unfold maxLen at rcm
          clear hF2 eq er rs rN hlt
          by_cases r0 : r'.n = 0
          · have eN : y.N = Nat.gcd N M := by have h3 := HGR.out; rwa [rg_zero HF2.out.ay r0, Nat.gcd_zero_right] at h3
            rw [r0] at cr
            have HXN := Lib.hid eN
            clear eN
            go_upto_region 42 with fail
            clear cr
            have hbt := HF2.out.bel
            have kn := cell_keep HP.out.1 hbt
            have HT := Lib.hid hbt
            have zt := HP.out.2.1.keep hbt
            have HXA := Lib.hid (rg_at HF2.out.ax HI.out.2.1)
            have HXL := Lib.hid (show y.N = Nat.gcd N M ∧ y.N < W64 ^ L from ⟨HXN.out, Nat.lt_of_le_of_lt HI.out.2.2.1 HI.out.2.2.2.2.1⟩)
            clear hbt
            go_wp2_with fail
            refine (intSet_own zb y.b 0 false y.N _ zt HXA.out (by have := HF2.out.own _ (.inl (.inl rfl)); have := HP.out.2.2; omega) (by rw [HXL.out.1]; exact HG.out.1) L (by omega) HXL.out.2).mono ?_
            rintro e wz hI
            rw [HXL.out.1] at hI
            have HI := Lib.hid hI
            obtain ⟨rfl, -, -⟩ := hI
            go_wp2
            go_ret
            exact intOwn_below HT.out HI.out
          · have r1 : r'.n = 1 := by omega
            have hrp : (0 : Int) < r'.n := by omega
            have na := HY1.out
            have nb := r1
            rw [← HER.out.1] at cr
            rw [← HER.out.1]
            obtain ⟨ga, hga⟩ := rg_form HF2.out.ax (by omega)
            obtain ⟨gb, hgb⟩ := rg_form HF2.out.ay (by omega)
            have ca := rg_cell HF2.out.ax na hga
            have cb := rg_cell HF2.out.ay nb hgb
            have c1a := HF2.out.ax.c1
            have c1b := HF2.out.ay.c1
            rw [hga, na] at c1a
            rw [hgb, nb] at c1b
            have la := rg_word HF2.out.ax na
            have lb := rg_word HF2.out.ay nb
            have lca := HF2.out.ax.num.num.nc
            have lcb := HF2.out.ay.num.num.nc
            have lcam := HF2.out.ax.num.num.cm
            have lcbm := HF2.out.ay.num.num.cm
            unfold maxLen at lcam lcbm
            have HGA := Lib.hid hga
            have HNA := Lib.hid na
            have HSA := Lib.hid HI.out.2.1
            have HGG := Lib.hid (show Nat.gcd y.N r'.N = Nat.gcd N M from HGR.out)
            have HA0 := Lib.hid (show 0 < Nat.gcd N M ∧ Nat.gcd N M < 18446744073709551616 ∧ Nat.gcd N M < W64 ^ L from ⟨HG.out.1, by have h4 := Nat.gcd_le_left r'.N HY0.out; rw [HGR.out] at h4; omega, Nat.lt_of_le_of_lt HG.out.2.1 HB.out.2.2.1⟩)
            clear hga hgb na nb cr hrp r1
            go_upto_region 24 with fail
            go_quiet (fail)
            have HFW := Lib.hid (HF2.out.keep (below_drewN (Below.refl _ _) nq))
            clear ca cb c1a c1b
            obtain ⟨WW, hWW⟩ : ∃ WW, WW = (v2).drewN nq := ⟨_, rfl⟩
            rw [← hWW]
            rw [← hWW] at HFW
            clear hWW
            go_wp2
            go_loopw [23, 24] (fun s23 s24 wr => ∃ u v : Nat, s23 = .int .u64 u ∧ s24 = .int .u64 v ∧ Nat.gcd u v = Nat.gcd N M ∧ u < 18446744073709551616 ∧ v < 18446744073709551616 ∧ Below WW.heap.size WW wr)
              (fun _ s24 _ => (intOf s24).toNat)
            case atStart => exact ⟨y.N, r'.N, rfl, rfl, HGG.out, la, lb, Below.refl _ _⟩
            case round =>
              obtain ⟨u, v, rfl, rfl, huv, hu, hv, hbw⟩ := hrel
              have HUV := Lib.hid huv
              have HBW := Lib.hid hbw
              clear huv hbw
              by_cases v0 : v = 0
              · subst v0
                have eu : u = Nat.gcd N M := by have := HUV.out; rwa [Nat.gcd_zero_right] at this
                have F8 := HFW.out.keep HBW.out
                have c1x := F8.ax.c1
                rw [HGA.out, HNA.out] at c1x
                have cx := rg_cell F8.ax HNA.out HGA.out
                have fx : wr.frozen? ⟨ga, 0, none⟩ = false := by
                  have h2 := F8.ax.num
                  rw [HGA.out] at h2
                  obtain ⟨-, cur, hb, -⟩ := h2.start
                  exact hb.frozen 0
                have T9 := rg_store F8.ax HNA.out HGA.out (G := u) (by rw [eu]; exact HA0.out.1) hu
                have HF9 := Lib.hid (F8.setX T9)
                have HEU := Lib.hid eu
                obtain ⟨W9, hW9⟩ : ∃ W9, W9 = wr.setCell ⟨ga, 0, none⟩ (.int .u64 (u : Nat)) := ⟨_, rfl⟩
                have HW9 := Lib.hid hW9
                rw [← hW9] at HF9
                clear F8 T9 eu hW9
                go_upto_region 42 with fail
                rw [← HW9.out]
                clear cx fx c1x
                have hbt := HF9.out.bel
                have kn := cell_keep HP.out.1 hbt
                have HT := Lib.hid hbt
                have zt := HP.out.2.1.keep hbt
                have HXA := Lib.hid (rg_at HF9.out.ax HSA.out)
                have HXL := Lib.hid (show (⟨y.b, y.s, y.a, 1, y.c, u⟩ : Rg).N = Nat.gcd N M ∧ (⟨y.b, y.s, y.a, 1, y.c, u⟩ : Rg).N < W64 ^ L from ⟨HEU.out, by show u < _; rw [HEU.out]; exact HA0.out.2.2⟩)
                clear hbt
                go_wp2_with fail
                refine (intSet_own zb (⟨y.b, y.s, y.a, 1, y.c, u⟩ : Rg).b 0 false (⟨y.b, y.s, y.a, 1, y.c, u⟩ : Rg).N _ zt HXA.out (by have := HF9.out.own _ (.inl (.inl rfl)); have := HP.out.2.2; omega) (by rw [HXL.out.1]; exact HG.out.1) L (by omega) HXL.out.2).mono ?_
                rintro e wz hI
                rw [HXL.out.1] at hI
                have HI := Lib.hid hI
                obtain ⟨rfl, -, -⟩ := hI
                go_wp2
                go_ret
                exact intOwn_below HT.out HI.out
              · have hvz : ((v : Int) == 0) = false := by simpa using v0
                have hvz' : ¬ (v : Int) = 0 := by omega
                have hr1 : (u : Int) % (v : Int) = ((u % v : Nat) : Int) := by simp
                have hr2 : (u : Int).tmod (v : Int) = ((u % v : Nat) : Int) := by rw [Int.tmod_eq_emod_of_nonneg (Int.natCast_nonneg _)]; simp
                have hrl : u % v < v := Nat.mod_lt _ (by omega)
                have HG2 := Lib.hid (show Nat.gcd v (u % v) = Nat.gcd N M from by rw [← HUV.out, Nat.gcd_comm v, ← Nat.gcd_rec, Nat.gcd_comm])
                generalize u % v = rr at *
                go_upto_region 40 with fail
                go_quiet (fail)
                go_wp2
                go_roundw
                case rel => exact ⟨v, rr, rfl, rfl, HG2.out, hv, by omega, HBW.out.trans (below_drewN (Below.refl _ _) _)⟩
                case measure => simp [intOf]; omega
        · have x1 : x.n = 1 := by omega
          rw [x1] at cx
          have na := x1
          have nb := y1
          clear y2 y0 x2 x1 y1
          obtain ⟨ga, hga⟩ := rg_form HF.out.ax (by omega)
          obtain ⟨gb, hgb⟩ := rg_form HF.out.ay (by omega)
          have ca := rg_cell HF.out.ax na hga
          have cb := rg_cell HF.out.ay nb hgb
          have c1a := HF.out.ax.c1
          have c1b := HF.out.ay.c1
          rw [hga, na] at c1a
          rw [hgb, nb] at c1b
          have la := rg_word HF.out.ax na
          have lb := rg_word HF.out.ay nb
          have lca := HF.out.ax.num.num.nc
          have lcb := HF.out.ay.num.num.nc
          have lcam := HF.out.ax.num.num.cm
          have lcbm := HF.out.ay.num.num.cm
          unfold maxLen at lcam lcbm
          have HGA := Lib.hid hga
          have HNA := Lib.hid na
          have HSA := Lib.hid HI.out.1
          have HGG := Lib.hid (show Nat.gcd x.N y.N = Nat.gcd N M from HI.out.2.2.2.1)
          have HA0 := Lib.hid (show 0 < Nat.gcd N M ∧ Nat.gcd N M < 18446744073709551616 ∧ Nat.gcd N M < W64 ^ L from ⟨HG.out.1, by have := HG.out.2.1; have h4 := Nat.gcd_le_left y.N HI.out.2.2.2.2.2.1; rw [HI.out.2.2.2.1] at h4; omega, Nat.lt_of_le_of_lt HG.out.2.1 HB.out.2.2.1⟩)
          clear hga hgb na nb cx cy
          go_upto_region 24 with fail
          go_quiet (fail)
          have HFW := Lib.hid (HF.out.keep (below_drewN (Below.refl _ _) nq))
          clear ca cb c1a c1b
          obtain ⟨WW, hWW⟩ : ∃ WW, WW = (wr).drewN nq := ⟨_, rfl⟩
          rw [← hWW]
          rw [← hWW] at HFW
          clear hWW
          go_wp2
          go_loopw [23, 24] (fun s23 s24 wr => ∃ u v : Nat, s23 = .int .u64 u ∧ s24 = .int .u64 v ∧ Nat.gcd u v = Nat.gcd N M ∧ u < 18446744073709551616 ∧ v < 18446744073709551616 ∧ Below WW.heap.size WW wr)
            (fun _ s24 _ => (intOf s24).toNat)
          case atStart => exact ⟨x.N, y.N, rfl, rfl, HGG.out, la, lb, Below.refl _ _⟩
          case round =>
            obtain ⟨u, v, rfl, rfl, huv, hu, hv, hbw⟩ := hrel
            have HUV := Lib.hid huv
            have HBW := Lib.hid hbw
            clear huv hbw
            by_cases v0 : v = 0
            · subst v0
              have eu : u = Nat.gcd N M := by have := HUV.out; rwa [Nat.gcd_zero_right] at this
              have F8 := HFW.out.keep HBW.out
              have c1x := F8.ax.c1
              rw [HGA.out, HNA.out] at c1x
              have cx := rg_cell F8.ax HNA.out HGA.out
              have fx : wr.frozen? ⟨ga, 0, none⟩ = false := by
                have h2 := F8.ax.num
                rw [HGA.out] at h2
                obtain ⟨-, cur, hb, -⟩ := h2.start
                exact hb.frozen 0
              have T9 := rg_store F8.ax HNA.out HGA.out (G := u) (by rw [eu]; exact HA0.out.1) hu
              have HF9 := Lib.hid (F8.setX T9)
              have HEU := Lib.hid eu
              obtain ⟨W9, hW9⟩ : ∃ W9, W9 = wr.setCell ⟨ga, 0, none⟩ (.int .u64 (u : Nat)) := ⟨_, rfl⟩
              have HW9 := Lib.hid hW9
              rw [← hW9] at HF9
              clear F8 T9 eu hW9
              go_upto_region 42 with fail
              rw [← HW9.out]
              clear cx fx c1x
              have hbt := HF9.out.bel
              have kn := cell_keep HP.out.1 hbt
              have HT := Lib.hid hbt
              have zt := HP.out.2.1.keep hbt
              have HXA := Lib.hid (rg_at HF9.out.ax HSA.out)
              have HXL := Lib.hid (show (⟨x.b, x.s, x.a, 1, x.c, u⟩ : Rg).N = Nat.gcd N M ∧ (⟨x.b, x.s, x.a, 1, x.c, u⟩ : Rg).N < W64 ^ L from ⟨HEU.out, by show u < _; rw [HEU.out]; exact HA0.out.2.2⟩)
              clear hbt
              go_wp2_with fail
              refine (intSet_own zb (⟨x.b, x.s, x.a, 1, x.c, u⟩ : Rg).b 0 false (⟨x.b, x.s, x.a, 1, x.c, u⟩ : Rg).N _ zt HXA.out (by have := HF9.out.own _ (.inl (.inl rfl)); have := HP.out.2.2; omega) (by rw [HXL.out.1]; exact HG.out.1) L (by omega) HXL.out.2).mono ?_
              rintro e wz hI
              rw [HXL.out.1] at hI
              have HI := Lib.hid hI
              obtain ⟨rfl, -, -⟩ := hI
              go_wp2
              go_ret
              exact intOwn_below HT.out HI.out
            · have hvz : ((v : Int) == 0) = false := by simpa using v0
              have hvz' : ¬ (v : Int) = 0 := by omega
              have hr1 : (u : Int) % (v : Int) = ((u % v : Nat) : Int) := by simp
              have hr2 : (u : Int).tmod (v : Int) = ((u % v : Nat) : Int) := by rw [Int.tmod_eq_emod_of_nonneg (Int.natCast_nonneg _)]; simp
              have hrl : u % v < v := Nat.mod_lt _ (by omega)
              have HG2 := Lib.hid (show Nat.gcd v (u % v) = Nat.gcd N M from by rw [← HUV.out, Nat.gcd_comm v, ← Nat.gcd_rec, Nat.gcd_comm])
              generalize u % v = rr at *
              go_upto_region 40 with fail
              go_quiet (fail)
              go_wp2
              go_roundw
              case rel => exact ⟨v, rr, rfl, rfl, HG2.out, hv, by omega, HBW.out.trans (below_drewN (Below.refl _ _) _)⟩
              case measure => simp [intOf]; omega
theorem lehmerGCD_any (zb b1 o1 b2 o2 : Nat) (s1 s2 : Bool) (N M : Nat) (w : World) (hK : ThrD w) (h : NewInt w zb 0) (h1 : BigAt 155 w b1 o1 s1 N) (h2 : BigAt 155 w b2 o2 s2 M) (hN0 : 0 < N) (hM0 : 0 < M) (L : Nat) (hL : L < 40) (hN : N < W64 ^ L) (hM : M < W64 ^ L) :
    Calls Tryz.prog 200 #[.pointer (some ⟨zb, 0, none⟩), .pointer none, .pointer none, .pointer (some ⟨b1, o1, none⟩), .pointer (some ⟨b2, o2, none⟩)] w (IntOwn zb 0 false (Nat.gcd N M) w) := by
  by_cases hle : M ≤ N
  · exact lehmerGCD_ge zb b1 o1 b2 o2 s1 s2 N M w hK h h1 h2 hN0 hM0 L hL hN hM hle
  · exact lehmerGCD_lt zb b1 o1 b2 o2 s1 s2 N M w hK h h1 h2 hN0 hM0 L hL hN hM (by omega)
theorem newInt0_any (w : World) :
    Calls Tryz.prog 62 #[.int .i64 0] w fun e w' => e = .returned (.pointer (some ⟨w.heap.size, 0, none⟩)) ∧ w' = w.alloc (.cells #[.bool false, .slice none 0 0] 168) := by
  go_enter Tryz.func62, Tryz.ntmps62
  go_wp2
  go_ret
  exact ⟨rfl, rfl⟩
theorem intOne_any (w : World) :
    Calls Tryz.prog 201 #[] w fun e w' => ∃ b, e = .returned (.pointer (some ⟨b, 0, none⟩)) ∧ w.heap.size ≤ b ∧ BigAt 155 w' b 0 false 1 ∧ Below w.heap.size w w' := by
  go_enter Tryz.func201, Tryz.ntmps201
  go_wp2_with fail
  refine (natOne_any _).mono ?_
  rintro e w1 ⟨rfl, hw1⟩
  have hb1 : Below w.heap.size w w1 := by rw [hw1]; exact Below.alloc' (Below.refl _ _) _
  have hn1 : BigN 155 w1 (some ⟨w.heap.size, 0, none⟩) 1 1 1 := by rw [hw1]; exact natOne_is w
  have hs1 : w.heap.size ≤ w1.heap.size := hb1.size
  have HB := Lib.hid (Below.alloc' hb1 (.cells #[.bool false, .slice (some ⟨w.heap.size, 0, none⟩) 1 1] 168))
  have HA := Lib.hid (bigAt_new (s := false) hn1 (T2 := 168) (by decide) (by simp))
  clear hw1 hb1 hn1
  go_wp2
  go_ret
  exact ⟨_, rfl, hs1, HA.out, HB.out⟩
def DivStk (az : Option Addr) (Q sb : Nat) (st : Option (Nat × Nat)) (w : World) (e : Ending) (w' : World) : Prop :=
  ∃ a n c r st', e = .returned (.tuple #[.slice a n c, r]) ∧ BigN 155 w' a n c Q ∧ StkAt w' sb st' 0 ∧ (∀ x, StkBlk sb st' x → StkBlk sb st x ∨ w.heap.size ≤ x) ∧ Upd (fun k => InB az k ∨ StkBlk sb st k) w w' ∧ (∀ k, InB a k → (InB az k ∨ w.heap.size ≤ k) ∧ ¬ StkBlk sb st' k)
theorem natDiv_stk (sb : Nat) (st : Option (Nat × Nat)) (az : Option Addr) (nz cz N : Nat) (a2 : Option Addr) (n2 c2 M : Nat) (w : World) (hK : ThrD w) (hst : StkAt w sb st 0) (h1 : BigN 155 w az nz cz N) (h2 : BigN 155 w a2 n2 c2 M) (hM : 2 ≤ M) (hge : M ≤ N) (hn1 : nz ≤ 900) (hn40 : n2 < 40)
    (hs1 : ∀ k, InB az k → ¬ StkBlk sb st k) (hs2 : ∀ k, InB a2 k → ¬ StkBlk sb st k) (hv : ¬ InB az 3 ∧ ¬ StkBlk sb st 3) :
    Calls Tryz.prog 145 #[.slice az nz cz, .pointer (some ⟨sb, 0, none⟩), .slice none 0 0, .slice az nz cz, .slice a2 n2 c2] w (DivStk az (N / M) sb st w) := by
  have hp := natAt_pos_len h2.num
  have hn2 : 0 < n2 := by simpa [show 0 < M from by omega] using hp
  by_cases e1 : n2 = 1
  · subst e1
    refine (natDiv_word_into (.pointer (some ⟨sb, 0, none⟩)) az none nz cz N 0 0 0 az a2 nz cz c2 N M w h1 (BigN.nil _ _) h1 h2 (by omega) (fun _ h => (inB_none h).elim) (fun h => by omega)).mono ?_
    rintro e w' ⟨a, n, c, a', n', c', rfl, hQ, hR, hU, hp1, hp2⟩
    have hU' : Upd (InB az) w w' := hU.mono (fun k _ h => by rcases h with h | h; exact h; exact (inB_none h).elim)
    refine ⟨a, n, c, _, st, rfl, hQ, ?_, fun x hx => .inl hx, hU'.mono (fun k _ h => .inl h), fun k hk => ⟨(hp1 k hk).1, fun hx => ?_⟩⟩
    · rcases st with _ | ⟨ib, g⟩
      · exact ⟨rfl, hU'.blk hst.2 (fun h => hs1 _ h (.inl rfl))⟩
      · obtain ⟨c0, cur0, q1, q2, q3, q4⟩ := hst
        exact ⟨c0, cur0, hU'.blk q1 (fun h => hs1 _ h (.inl rfl)), hU'.blk q2 (fun h => hs1 _ h (.inr ⟨ib, g, rfl, .inl rfl⟩)), hU'.blk q3 (fun h => hs1 _ h (.inr ⟨ib, g, rfl, .inr rfl⟩)), q4⟩
    · rcases (hp1 k hk).1 with h | h
      · exact hs1 k h hx
      · have := hst.lt hx; omega
  · have z0 : ((n2 : Int) == 0) = false := by simp; omega
    have z1 : ((n2 : Int) == 1) = false := by simp; omega
    have hle : n2 ≤ nz := len_le W64_gt h2.num.top (Nat.lt_of_le_of_lt hge h1.num.lt)
    have hm1 := h1.num.cm
    have hc1 := h1.num.nc
    have hm2 := h2.num.cm
    have hc2 := h2.num.nc
    unfold maxLen at hm1 hm2
    have HC := Lib.hid (natCmp_any az a2 nz n2 cz c2 N M w h1.num h2.num)
    obtain ⟨c0, hc0⟩ : ∃ c0, c0 = cmpI N M := ⟨_, rfl⟩
    have hc0g : ¬ c0 < 0 := by rw [hc0]; exact cmpI_ge hge
    rw [← hc0] at HC
    obtain ⟨S, hS⟩ : ∃ S : Nat → Prop, S = fun k => (InB az k ∨ StkBlk sb st k) ∨ w.heap.size ≤ k := ⟨_, rfl⟩
    have hSv : ¬ S 3 := by
      rw [hS]
      rintro ((h | h) | h)
      · exact hv.1 h
      · exact hv.2 h
      · have := block_lt hK
        exact absurd h (Nat.not_le_of_lt this)
    have HDL := Lib.hid (fun (w' : World) (hb : Below w.heap.size w w') => divLarge_into sb 0 S st az none az a2 nz cz N 0 0 0 nz n2 cz c2 N M w w' (fun w2 hb2 => hK.upd hb2 hSv) (h1.keep hb) (h2.keep hb) (h1.keep hb) (BigN.nil _ _)
      (fun k hk => ⟨by rw [hS]; exact .inl (.inl hk), hs1 k hk⟩) (fun k hk => (inB_none hk).elim) (by omega) hle hn1 hn40 (hst.keep hb) (by omega)
      (fun x hx => by rw [hS]; exact .inl (.inr hx)) (fun p hp => hs1 _ ⟨p, hp, rfl⟩) (fun p hp => hs2 _ ⟨p, hp, rfl⟩) (Upd.of_below hb) (fun x hx => by rw [hS]; exact .inr (Nat.le_trans hb.size hx)))
    have HS := Lib.hid hS
    clear h1 h2 hge hc0 hK hS hSv hst hs1 hs2 hv
    go_enter Tryz.func145, Tryz.ntmps145
    go_wp2_with fail
    refine HC.out.mono ?_
    rintro e w1 ⟨rfl, m, rfl⟩
    have hb1 : Below w.heap.size w (w.drewN m) := below_drewN (Below.refl _ _) m
    have HD := Lib.hid (HDL.out _ hb1)
    have HB1 := Lib.hid hb1.size
    clear HC HDL hb1
    go_wp2_with fail
    refine HD.out.mono ?_
    rintro e w3 ⟨a, n, c, a', n', c', st', l', rfl, hQ, hR, hst, hl, hblk, hbel, hsz, hpa, hpb⟩
    have HE := Lib.hid (show DivStk az (N / M) sb st w (.returned (.tuple #[.slice a n c, .slice a' n' c'])) w3 from by
      have hl0 : l' = 0 := by
        rcases hl with h | h
        · subst h; exact hst.1
        · exact h
      subst hl0
      refine ⟨a, n, c, _, st', rfl, hQ, hst, fun x hx => (hblk x hx).imp id (Nat.le_trans HB1.out), hbel.mono (fun k hk h => ?_), fun k hk => ⟨(hpa k hk).1.imp id (Nat.le_trans HB1.out), (hpa k hk).2.2⟩⟩
      rw [HS.out] at h
      rcases h with h | h
      · exact h
      · omega)
    clear hQ hR hst hl hblk hbel hsz hpa hpb HD
    go_wp2
    exact bodyPost_ret (v := .tuple #[.slice a n c, .slice a' n' c']) (by simp [results, Tryz.results145, go_sem]) rfl HE.out
end Go.Proofs.YtgmienggfaahlaaGreatDoor
