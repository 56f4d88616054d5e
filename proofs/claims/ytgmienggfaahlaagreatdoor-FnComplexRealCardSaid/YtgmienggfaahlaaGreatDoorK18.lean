/-
  Contracts and lemmas: SpF IsInt SpG TolR TolS.
-/
import Derived.Test.YtgmienggfaahlaaGreatDoorK11
import Derived.Test.YtgmienggfaahlaaGreatDoorK17
set_option linter.unusedSimpArgs false
set_option linter.unusedVariables false
set_option maxRecDepth 100000
set_option maxHeartbeats 8000000
namespace Go.Bg
open Go.RowKit Dg
def frt (s : Bool) (f : Nat → Nat) (n : Nat) (f' : Nat → Nat) (n' : Nat) : Rt := ⟨s, val W64 f n, val W64 f' n'⟩
end Go.Bg
namespace Go.Proofs.YtgmienggfaahlaaGreatDoor
open Go.RowKit Go.Bg Dg
def fracB (s : Bool) (f : Nat → Nat) (n : Nat) (f' : Nat → Nat) (n' : Nat) : Bool :=
  decide (0 < val W64 f' n') && isNumB s f n s (val W64 f n) && hasW f' n' (val W64 f' n') && decide (Nat.gcd (val W64 f n) (val W64 f' n') = 1)
theorem val_L {f : Nat → Nat} {n : Nat} (hf : ∀ i, i < n → f i < W64) (L : Nat) (hL : 4 * n ≤ L) : val W64 f n < 65536 ^ L := by
  have := val_lt hf
  rw [W64_16, ← Nat.pow_mul] at this
  exact Nat.lt_of_lt_of_le this (Nat.pow_le_pow_right (by decide) hL)
theorem small_one (w : World) : Calls Tryz.prog 46 #[.int .i64 1] w (Gives .i64 65536 1 w) := small_any 1 w (by omega)
theorem fraction_any (s : Bool) (a : Option Addr) (n c : Nat) (f : Nat → Nat) (a' : Option Addr) (n' c' : Nat) (f' : Nat → Nat) (L : Nat) (w : World) (h : WordsAt w a n c f) (h' : WordsAt w a' n' c' f') (hn : 4 * n ≤ L) (hn' : 4 * n' ≤ L) (hL : L ≤ 4000) :
    Calls Tryz.prog 48 #[.agg #[.bool s, .slice a n c], .slice a' n' c'] w (Reads1 (fracB s f n f' n') (frt s f n f' n') L w) := by
  obtain ⟨W0, hW0⟩ : ∃ W0, W0 = (w.alloc (.cells #[.bool s, .slice a n c] 24)).alloc (.cells #[.bool false, .slice none 0 0, .slice none 0 0] 31) := ⟨_, rfl⟩
  have HW := Lib.hid hW0
  have hbW : Below w.heap.size w W0 := by rw [hW0]; exact Below.alloc' (Below.alloc' (Below.refl _ _) _) _
  have R : ResBlk W0 (w.heap.size + 1) := by rw [hW0]; exact ResBlk.new _ _ (by simp)
  have k0 : W0.cell? ⟨w.heap.size, 0, none⟩ = some (.bool s) := by rw [hW0]; exact alloc_keep _ _ (alloc_new _ _ _ rfl rfl)
  have k1 : W0.cell? ⟨w.heap.size, 1, none⟩ = some (.slice a n c) := by rw [hW0]; exact alloc_keep _ _ (alloc_new _ _ _ rfl rfl)
  have WS := Lib.hid (show ∀ W', Below W0.heap.size W0 W' → WordsAt W' a n c f from fun W' hb => (h.keep hbW).keep hb)
  have WS' := Lib.hid (show ∀ W', Below W0.heap.size W0 W' → WordsAt W' a' n' c' f' from fun W' hb => (h'.keep hbW).keep hb)
  have HN := Lib.hid (val_L h.lt L hn)
  have HD := Lib.hid (val_L h'.lt L hn')
  clear hW0 h h'
  go_enter Tryz.func48, Tryz.ntmps48
  go_upto_region 1 with fail
  rw [← HW.out]
  go_cut [6] (fun s6 wx => ∃ g aO nO cO aD nD cD, s6 = .pointer (some ⟨g, 0, none⟩) ∧ RtBlk wx g s aO nO cO aD nD cD ∧ RtAt wx s aO nO cO aD nD cD (frt s f n f' n') L ∧ W0.heap.size ≤ g ∧ Below W0.heap.size W0 wx)
  case first =>
    have hI := R.lt
    have hb0 : Below W0.heap.size W0 W0.drew := (Below.refl _ _).drew
    go_region_held3 (fun w' => w'.cell? ⟨w.heap.size, 0, none⟩ = some (.bool s) ∧ w'.cell? ⟨w.heap.size, 1, none⟩ = some (.slice a n c))
      (first | exact ⟨k0, k1⟩ | exact ⟨cell_keep k0 (by assumption), cell_keep k1 (by assumption)⟩ | exact ⟨cell_keep k0 (Below.alloc' (by assumption) _), cell_keep k1 (Below.alloc' (by assumption) _)⟩ | (refine ⟨?_, ?_⟩ <;> (rw [cell?_setCell_ne (by omega), cell?_setCell_ne (by omega), cell?_setCell_ne (by omega)]) <;> first | exact cell_keep k0 (by assumption) | exact cell_keep k1 (by assumption)))
      (first | (go_at_call 119; (with_reducible refine (of_any a n c f _ ?_ ?_ ?_).mono ?_); exact (WS.out _ (by first | exact hb0 | exact Below.alloc' hb0 _)).cells; exact (WS.out _ hb0).lt; omega; rintro e w1 ⟨aO, nO, cO, rfl, hO, hB1⟩; have hb1 := Below.then (by first | exact hb0 | exact Below.alloc' hb0 _) (Nat.le_refl _) hB1; have hz1 := hb1.size; try (have RR : ResBlk w1 W0.heap.size := (ResBlk.alloc W0.drew 31).below (by simp) hB1)) | (go_at_call 119; (with_reducible refine (of_any a' n' c' f' _ ?_ ?_ ?_).mono ?_); exact (WS'.out _ (by first | exact hb1 | exact Below.alloc' hb1 _)).cells; exact (WS'.out _ hb0).lt; omega; rintro e w2 ⟨aD, nD, cD, rfl, hD, hB2⟩; have hb2 := Below.then (by first | exact hb1 | exact Below.alloc' hb1 _) (Nat.le_refl _) hB2; have hz2 := hb2.size; have hV : RtAt w2 s aO nO cO aD nD cD (frt s f n f' n') L := ⟨rfl, by first | exact hO.keep hB2 | exact (hO.keep ((Below.refl _ _).alloc (Nat.le_refl _) _)).keep hB2, hD, HN.out, HD.out⟩; try (first | (have RV : ResBlk w2 W0.heap.size := RR.below RR.lt hB2; obtain ⟨⟨u0, r0⟩, ⟨u1, r1⟩, ⟨u2, r2⟩⟩ := (RV).cells; have f0 := (RV).frozen 0; have f1 := (RV).frozen 1; have f2 := (RV).frozen 2) | (have RV : ResBlk w2 w1.heap.size := (ResBlk.alloc w1 31).below (by simp) hB2; obtain ⟨⟨u0, r0⟩, ⟨u1, r1⟩, ⟨u2, r2⟩⟩ := (RV).cells; have f0 := (RV).frozen 0; have f1 := (RV).frozen 1; have f2 := (RV).frozen 2))))
    all_goals (go_wp2_with fail; go_meet; first | exact ⟨_, _, _, _, _, _, _, rfl, rtBlk_new w2 _ _ _ _ _ _ _ _, hV.keep ((Below.refl _ _).alloc (Nat.le_refl _) _), hz2, Below.alloc' hb2 _⟩ | exact ⟨_, _, _, _, _, _, _, rfl, rtBlk_stored RV _ _ _ _ _ _ _, stored3 RV hV, Nat.le_refl _, ((hb2.setCell (Nat.le_refl _) _).setCell (Nat.le_refl _) _).setCell (Nat.le_refl _) _⟩ | exact ⟨_, _, _, _, _, _, _, rfl, rtBlk_stored RV _ _ _ _ _ _ _, stored3 RV hV, hz1, ((hb2.setCell hz1 _).setCell hz1 _).setCell hz1 _⟩)
  case rest =>
    obtain ⟨g, aO, nO, cO, aD, nD, cD, rfl, hblk, hV, hg, hbw⟩ := hcut
    have hgt : w.heap.size + 1 < g := Nat.lt_of_lt_of_le R.lt hg
    have RC := R.below R.lt hbw
    have K0 := cell_keep k0 hbw
    have K1 := cell_keep k1 hbw
    have WSc := WS.out _ hbw
    have WSd := WS'.out _ hbw
    have hlN := hV.n_le
    have hlD := hV.d_le
    have hbf := Below.then hbW (Nat.le_refl _) hbw
    have hp := natAt_pos_len hV.den
    have HV := Lib.hid hV
    have HSE := Lib.hid (show (frt s f n f' n').num = val W64 f n ∧ (frt s f n f' n').den = val W64 f' n' ∧ (frt s f n f' n').neg = s from ⟨rfl, rfl, rfl⟩)
    clear hbw WS WS' k0 k1 R hV HW hbW
    obtain ⟨⟨u0, r0⟩, ⟨u1, r1⟩, ⟨u2, r2⟩⟩ := (RC).cells; have f0 := (RC).frozen 0; have f1 := (RC).frozen 1; have f2 := (RC).frozen 2
    obtain ⟨v0, v1, v2⟩ := hblk
    cases hD0 : decide (0 < val W64 f' n')
    · have hl0 : nD = 0 := by
        rw [HSE.out.2.1, hD0] at hp
        simpa using hp
      have HB := Lib.hid (show fracB s f n f' n' = false from by unfold fracB; rw [hD0]; rfl)
      clear hD0 hp
      subst hl0
      go_wp2
      exact bodyPost_ret (v := .tuple #[.agg #[.bool false, .slice none 0 0, .slice none 0 0], .bool false]) (by simp [results, Tryz.results48, go_sem, r0, r1, r2]) rfl
        ⟨_, _, _, _, _, _, _, by rw [HB.out], fun h => (by rw [HB.out] at h; cases h), ((hbf.setCell (Nat.le_add_right _ 1) _).setCell (Nat.le_add_right _ 1) _).setCell (Nat.le_add_right _ 1) _⟩
    · have hl0 : ((nD : Int) == 0) = false := by
        rw [HSE.out.2.1, hD0] at hp
        simp at hp ⊢; omega
      have HD0 := Lib.hid hD0
      clear hD0 hp
      cases hN : isNumB s f n s (val W64 f n)
      · have HB := Lib.hid (show fracB s f n f' n' = false from by unfold fracB; rw [hN]; simp)
        have HNB := Lib.hid hN
        clear hN
        go_wp2_with fail
        refine (isNumber_any s a n c f s aO nO cO (val W64 f n) _ WSc (by omega) HV.out.num (by omega)).mono ?_
        rintro e w1 ⟨rfl, hB1⟩
        rw [HNB.out]
        have RC1 := RC.below RC.lt hB1
        clear r0 r1 r2 f0 f1 f2
        obtain ⟨⟨u0', r0⟩, ⟨u1', r1⟩, ⟨u2', r2⟩⟩ := RC1.cells
        have f0 := RC1.frozen 0
        have f1 := RC1.frozen 1
        have f2 := RC1.frozen 2
        have hbg := Below.then hbf (Nat.le_refl _) hB1
        go_wp2
        exact bodyPost_ret (v := .tuple #[.agg #[.bool false, .slice none 0 0, .slice none 0 0], .bool false]) (by simp [results, Tryz.results48, go_sem, r0, r1, r2]) rfl
          ⟨_, _, _, _, _, _, _, by rw [HB.out], fun h => (by rw [HB.out] at h; cases h), ((hbg.setCell (Nat.le_add_right _ 1) _).setCell (Nat.le_add_right _ 1) _).setCell (Nat.le_add_right _ 1) _⟩
      · have HNB := Lib.hid hN
        clear hN
        cases hH : hasW f' n' (val W64 f' n')
        · have HB := Lib.hid (show fracB s f n f' n' = false from by unfold fracB; rw [hH]; simp)
          have HHB := Lib.hid hH
          clear hH
          go_wp2_with fail
          refine (isNumber_any s a n c f s aO nO cO (val W64 f n) _ WSc (by omega) HV.out.num (by omega)).mono ?_
          rintro e w1 ⟨rfl, hB1⟩
          rw [HNB.out]
          have V2' := cell_keep v2 hB1
          clear r0 r1 r2 f0 f1 f2
          have RC1 := RC.below RC.lt hB1
          have hbg := Below.then hbf (Nat.le_refl _) hB1
          go_wp2_with fail
          refine (hasWords_any a' aD n' c' nD cD (val W64 f' n') f' _ (WSd.keep hB1).cells WSd.lt (by omega) (HV.out.den.keep hB1) (by omega)).mono ?_
          rintro e w2 ⟨rfl, hB2⟩
          rw [HHB.out]
          have RC2 := RC1.below RC1.lt hB2
          obtain ⟨⟨u0', r0⟩, ⟨u1', r1⟩, ⟨u2', r2⟩⟩ := RC2.cells
          have f0 := RC2.frozen 0
          have f1 := RC2.frozen 1
          have f2 := RC2.frozen 2
          have hbh := Below.then hbg (Nat.le_refl _) hB2
          go_wp2
          exact bodyPost_ret (v := .tuple #[.agg #[.bool false, .slice none 0 0, .slice none 0 0], .bool false]) (by simp [results, Tryz.results48, go_sem, r0, r1, r2]) rfl
            ⟨_, _, _, _, _, _, _, by rw [HB.out], fun h => (by rw [HB.out] at h; cases h), ((hbh.setCell (Nat.le_add_right _ 1) _).setCell (Nat.le_add_right _ 1) _).setCell (Nat.le_add_right _ 1) _⟩
        · have HB := Lib.hid (show fracB s f n f' n' = decide (Nat.gcd (val W64 f n) (val W64 f' n') = 1) from by unfold fracB; rw [HD0.out, HNB.out, hH]; simp)
          have HHB := Lib.hid hH
          clear hH
          go_wp2_with fail
          refine (isNumber_any s a n c f s aO nO cO (val W64 f n) _ WSc (by omega) HV.out.num (by omega)).mono ?_
          rintro e w1 ⟨rfl, hB1⟩
          rw [HNB.out]
          have V2' := cell_keep v2 hB1
          clear r0 r1 r2 f0 f1 f2
          have RC1 := RC.below RC.lt hB1
          have hbg := Below.then hbf (Nat.le_refl _) hB1
          go_wp2_with fail
          refine (hasWords_any a' aD n' c' nD cD (val W64 f' n') f' _ (WSd.keep hB1).cells WSd.lt (by omega) (HV.out.den.keep hB1) (by omega)).mono ?_
          rintro e w2 ⟨rfl, hB2⟩
          rw [HHB.out]
          have RC2 := RC1.below RC1.lt hB2
          have hbh := Below.then hbg (Nat.le_refl _) hB2
          have HV2 := Lib.hid ((HV.out.keep hB1).keep hB2)
          have z0 := cell_keep (cell_keep v0 hB1) hB2
          have z1 := cell_keep (cell_keep v1 hB1) hB2
          have z2 := cell_keep (cell_keep v2 hB1) hB2
          have HZ := Lib.hid (cmpI_zero (Nat.gcd (val W64 f n) (val W64 f' n')) 1)
          clear v0 v1 v2 V2' K0 K1
          go_upto_region 4 with fail
          have hb0 : Below w2.heap.size w2 w2.drew := (Below.refl _ _).drew
          go_region_held3 (fun w' => w'.cell? ⟨g, 0, none⟩ = some (.bool s) ∧ w'.cell? ⟨g, 1, none⟩ = some (.slice aO nO cO) ∧ w'.cell? ⟨g, 2, none⟩ = some (.slice aD nD cD))
            (first | exact ⟨z0, z1, z2⟩ | exact ⟨cell_keep z0 (by assumption), cell_keep z1 (by assumption), cell_keep z2 (by assumption)⟩ | (refine ⟨?_, ?_, ?_⟩ <;> (rw [cell?_setCell_ne (by omega), cell?_setCell_ne (by omega), cell?_setCell_ne (by omega)]) <;> first | exact cell_keep z0 (by assumption) | exact cell_keep z1 (by assumption) | exact cell_keep z2 (by assumption)))
            (first | (go_at_call 50; (with_reducible refine (gcd_any aO aD nO nD cO cD (val W64 f n) (val W64 f' n') _ ?_ ?_ ?_ ?_).mono ?_); exact (HV2.out.keep hb0).num; exact (HV2.out.keep hb0).den; omega; omega; rintro e w3 ⟨aG, nG, cG, rfl, hG, hB3⟩; have hb3 := Below.then hb0 (Nat.le_refl _) hB3; have hlG := hG.len16 (Nat.lt_of_le_of_lt (Nat.le_of_dvd (by simpa using HD0.out) (Nat.gcd_dvd_right _ _)) HD.out)) | (go_at_call 46; (with_reducible refine (small_one _).mono ?_); rintro e w4 ⟨aS, nS, cS, rfl, hS, hB4⟩; have hb4 := Below.then hb3 (Nat.le_refl _) hB4; have hlS := hS.len16 (m := 1) (by decide)) | (go_at_call 31; (with_reducible refine (cmp_any aG aS nG nS cG cS (Nat.gcd (val W64 f n) (val W64 f' n')) 1 _ ?_ ?_ ?_ ?_).mono ?_); exact hG.keep hB4; exact hS; omega; omega; rintro e w5 ⟨rfl, hm5⟩; have hb5 := Below.then hb4 (Nat.le_refl _) (below_of_drewN (B := w4.heap.size) hm5); clear hm5; have RC5 := RC2.below RC2.lt hb5; obtain ⟨⟨u0, r0⟩, ⟨u1, r1⟩, ⟨u2, r2⟩⟩ := (RC5).cells; have f0 := (RC5).frozen 0; have f1 := (RC5).frozen 1; have f2 := (RC5).frozen 2))
          have hbi := Below.then hbh (Nat.le_refl _) hb5
          go_wp2
          exact bodyPost_ret (v := .tuple #[.agg #[.bool s, .slice aO nO cO, .slice aD nD cD], .bool (cmpI (Nat.gcd (val W64 f n) (val W64 f' n')) 1 == 0)]) (by simp [results, Tryz.results48, go_sem, r0, r1, r2]) rfl
            ⟨_, _, _, _, _, _, _, by rw [HB.out, HZ.out], fun _ => stored3 RC5 (HV2.out.keep hb5), ((hbi.setCell (Nat.le_add_right _ 1) _).setCell (Nat.le_add_right _ 1) _).setCell (Nat.le_add_right _ 1) _⟩
theorem isInt_any (x : Vl) (t : Bool) (a2 : Option Addr) (n2 c2 : Nat) (a2' : Option Addr) (n2' c2' : Nat) (q : Rt) (L : Nat) (w : World)
    (h1 : VlAt w x) (h2 : RtAt w t a2 n2 c2 a2' n2' c2' q L) (hL : L ≤ 100000) (hn : x.wn ≤ 1000) :
    Calls Tryz.prog 25 #[.agg #[.int .i64 x.kind, .bool x.truth, .string x.text, .bool x.neg, .slice x.wa x.wn x.wc, .slice x.da x.dn x.dc, .bool x.ineg, .slice x.ia x.inn x.ic, .slice x.ea x.en x.ec], .agg #[.bool t, .slice a2 n2 c2, .slice a2' n2' c2']] w fun e w' => e = .returned (.bool (intB x && sameB (Rt.whole x.neg (val W64 x.wf x.wn)) q)) ∧ Below w.heap.size w w' := by
  obtain ⟨W0, hW0⟩ : ∃ W0, W0 = (w.alloc (.cells #[.int .i64 x.kind, .bool x.truth, .string x.text, .bool x.neg, .slice x.wa x.wn x.wc, .slice x.da x.dn x.dc, .bool x.ineg, .slice x.ia x.inn x.ic, .slice x.ea x.en x.ec] 26)).alloc (.cells #[.bool t, .slice a2 n2 c2, .slice a2' n2' c2'] 31) := ⟨_, rfl⟩
  have HW := Lib.hid hW0
  have hb0 : Below w.heap.size w W0 := by rw [hW0]; exact Below.alloc' (Below.alloc' (Below.refl _ _) _) _
  have X : Box9 W0 w.heap.size x := by rw [hW0]; exact (Box9.new w x _ rfl).alloc _
  have C : RtBlk W0 (w.heap.size + 1) t a2 n2 c2 a2' n2' c2' := by rw [hW0]; exact RtBlk.new _ _ (by simp) _ _ _ _ _ _ _
  have HX := Lib.hid (h1.keep hb0)
  have HC := Lib.hid (h2.keep hb0)
  clear hW0 h1 h2
  go_enter Tryz.func25, Tryz.ntmps25
  go_upto_region 1 with fail
  rw [← HW.out]
  obtain ⟨xc0, xc1, xc2, xc3, xc4, xc5, xc6, xc7, xc8⟩ := (X).all
  go_wp2_with fail
  refine (integer_any x _ HX.out hn).mono ?_
  rintro e w1 ⟨sV, aV, nV, cV, aE, nE, cE, rfl, hR, hB1⟩
  clear xc0 xc1 xc2 xc3 xc4 xc5 xc6 xc7 xc8
  go_upto_region 2 with fail
  obtain ⟨W1, hW1⟩ : ∃ W1, W1 = w1.alloc (.cells #[.bool sV, .slice aV nV cV, .slice aE nE cE] 31) := ⟨_, rfl⟩
  rw [← hW1]
  have hb1 : Below W0.heap.size W0 W1 := by rw [hW1]; exact Below.alloc' hB1 _
  have V1 : RtBlk W1 w1.heap.size sV aV nV cV aE nE cE := by rw [hW1]; exact RtBlk.new _ _ rfl _ _ _ _ _ _ _
  have R1 := Lib.hid (show intB x = true → RtAt W1 sV aV nV cV aE nE cE (Rt.whole x.neg (val W64 x.wf x.wn)) (4 * x.wn + 1) from fun hb => by
    rw [hW1]; exact (hR hb).keep ((Below.refl _ _).alloc (Nat.le_refl _) _))
  have C1 := C.keep hb1
  have HC1 := Lib.hid (HC.out.keep hb1)
  have hbf := Below.then hb0 (Nat.le_refl _) hb1
  clear hW1 hR hB1 C HC X HX hb1
  obtain ⟨v0, v1, v2⟩ := V1
  obtain ⟨y0, y1, y2⟩ := C1
  cases hb : intB x
  · go_wp2
    go_ret
    exact ⟨ret_bool (by rw [hb]; rfl), hbf⟩
  · have HR := R1.out hb
    have hL' : 4 * x.wn + 1 ≤ L + 4001 := by omega
    have HBB := Lib.hid hb
    clear hb R1
    go_wp2_with fail
    refine (same_any sV t aV nV cV aE nE cE a2 n2 c2 a2' n2' c2' (Rt.whole x.neg (val W64 x.wf x.wn)) q (L + 4001) _ (HR.mono hL') (HC1.out.mono (by omega)) (by omega)).mono ?_
    rintro e w2 ⟨rfl, hB2⟩
    have hbg := Below.then hbf (Nat.le_refl _) hB2
    go_wp2
    go_ret
    exact ⟨ret_bool (by rw [HBB.out, Bool.true_and]), hbg⟩
def ratB (v : Vl) : Bool := decide (v.kind = 4) && v.restB && fracB v.neg v.wf v.wn v.df v.dn
def vrt (v : Vl) : Rt := frt v.neg v.wf v.wn v.df v.dn
theorem rational_any (v : Vl) (L : Nat) (w : World) (h : VlAt w v) (hn : 4 * v.wn ≤ L) (hd : 4 * v.dn ≤ L) (hL : L ≤ 4000) :
    Calls Tryz.prog 39 #[.agg #[.int .i64 v.kind, .bool v.truth, .string v.text, .bool v.neg, .slice v.wa v.wn v.wc, .slice v.da v.dn v.dc, .bool v.ineg, .slice v.ia v.inn v.ic, .slice v.ea v.en v.ec]] w (Reads1 (ratB v) (vrt v) L w) := by
  by_cases hk : v.kind = 4
  · have hkb : (v.kind != 4) = false := by rw [hk]; rfl
    obtain ⟨W0, hW0⟩ : ∃ W0, W0 = (w.alloc (.cells #[.int .i64 v.kind, .bool v.truth, .string v.text, .bool v.neg, .slice v.wa v.wn v.wc, .slice v.da v.dn v.dc, .bool v.ineg, .slice v.ia v.inn v.ic, .slice v.ea v.en v.ec] 26)).alloc (.cells #[.bool false, .slice none 0 0, .slice none 0 0] 31) := ⟨_, rfl⟩
    have I := integerW w v 26 31
    rw [← hW0] at I
    have HW := Lib.hid hW0
    have HK := Lib.hid hk
    have HV := Lib.hid h
    clear hW0 hk h
    have hb0 := I.below
    have hlt := I.res.lt
    have RR0 := I.res
    go_enter Tryz.func39, Tryz.ntmps39
    go_upto_region 1 with fail
    rw [← HW.out]
    obtain ⟨c0, c1, c2, c3, c4, c5, c6, c7, c8⟩ := I.all
    cases hr : v.restB
    · have HI := Lib.hid (show ratB v = false from by unfold ratB; rw [hr]; simp)
      have HR := Lib.hid hr
      clear hr
      go_wp2_with fail
      refine (rest_any v _).mono ?_
      rintro e w1 ⟨rfl, hB1⟩
      rw [HR.out]
      have RR := RR0.below hlt hB1
      obtain ⟨⟨u0, r0⟩, ⟨u1, r1⟩, ⟨u2, r2⟩⟩ := (RR).cells; have f0 := (RR).frozen 0; have f1 := (RR).frozen 1; have f2 := (RR).frozen 2
      have hbf := Below.then hb0 (Nat.le_refl _) hB1
      clear c0 c1 c2 c3 c4 c5 c6 c7 c8
      go_wp2
      exact bodyPost_ret (v := .tuple #[.agg #[.bool false, .slice none 0 0, .slice none 0 0], .bool false]) (by simp [results, Tryz.results39, go_sem, r0, r1, r2]) rfl
        ⟨_, _, _, _, _, _, _, by rw [HI.out], fun h => (by rw [HI.out] at h; cases h), ((hbf.setCell (Nat.le_add_right _ 1) _).setCell (Nat.le_add_right _ 1) _).setCell (Nat.le_add_right _ 1) _⟩
    · have HI := Lib.hid (show ratB v = fracB v.neg v.wf v.wn v.df v.dn from by unfold ratB; rw [hr, HK.out]; simp)
      have HR := Lib.hid hr
      clear hr
      go_wp2_with fail
      refine (rest_any v _).mono ?_
      rintro e w1 ⟨rfl, hB1⟩
      rw [HR.out]
      have RR := RR0.below hlt hB1
      have hbf := Below.then hb0 (Nat.le_refl _) hB1
      have C := (I.keep hB1)
      obtain ⟨d0, d1, d2, d3, d4, d5, d6, d7, d8⟩ := C.all
      clear c0 c1 c2 c3 c4 c5 c6 c7 c8
      go_wp2_with fail
      refine (fraction_any v.neg v.wa v.wn v.wc v.wf v.da v.dn v.dc v.df L _ (HV.out.ws.keep hbf) (HV.out.ds.keep hbf) hn hd hL).mono ?_
      rintro e w2 ⟨sV, aV, nV, cV, aE, nE, cE, rfl, hR, hB2⟩
      have RR2 := RR.below RR.lt hB2
      have hbg := Below.then hbf (Nat.le_refl _) hB2
      clear d0 d1 d2 d3 d4 d5 d6 d7 d8
      obtain ⟨⟨u0, r0⟩, ⟨u1, r1⟩, ⟨u2, r2⟩⟩ := (RR2).cells; have f0 := (RR2).frozen 0; have f1 := (RR2).frozen 1; have f2 := (RR2).frozen 2
      go_wp2
      exact bodyPost_ret (v := .tuple #[.agg #[.bool sV, .slice aV nV cV, .slice aE nE cE], .bool (fracB v.neg v.wf v.wn v.df v.dn)]) (by simp [results, Tryz.results39, go_sem, r0, r1, r2]) rfl
        ⟨_, _, _, _, _, _, _, by rw [HI.out], fun hb => stored3 RR2 (hR (by rw [← HI.out]; exact hb)), ((hbg.setCell (Nat.le_add_right _ 1) _).setCell (Nat.le_add_right _ 1) _).setCell (Nat.le_add_right _ 1) _⟩
  · have hkb : (v.kind != 4) = true := by simp; exact hk
    have HI := Lib.hid (show ratB v = false from by unfold ratB; simp [hk])
    have hb := ((Below.refl w.heap.size w).alloc (Nat.le_refl _) (.cells #[.int .i64 v.kind, .bool v.truth, .string v.text, .bool v.neg, .slice v.wa v.wn v.wc, .slice v.da v.dn v.dc, .bool v.ineg, .slice v.ia v.inn v.ic, .slice v.ea v.en v.ec] 26)).alloc (by simp) (.cells #[.bool false, .slice none 0 0, .slice none 0 0] 31)
    have HB := Lib.hid hb
    clear hk hb
    go_enter Tryz.func39, Tryz.ntmps39
    go_wp2
    exact bodyPost_ret (v := .tuple #[.agg #[.bool false, .slice none 0 0, .slice none 0 0], .bool false]) (by simp [results, Tryz.results39, go_sem]) rfl
      ⟨_, _, _, _, _, _, _, by rw [HI.out], fun h => (by rw [HI.out] at h; cases h), HB.out⟩
def lratB (v : Vl) (k : Nat) : Bool := decide (v.wn ≤ k) && decide (v.dn ≤ k) && ratB v
theorem lawRational_any (v : Vl) (k : Nat) (w : World) (h : VlAt w v) (hk : k ≤ 1000) :
    Calls Tryz.prog 17 #[.agg #[.int .i64 v.kind, .bool v.truth, .string v.text, .bool v.neg, .slice v.wa v.wn v.wc, .slice v.da v.dn v.dc, .bool v.ineg, .slice v.ia v.inn v.ic, .slice v.ea v.en v.ec], .int .i64 k] w (Reads1 (lratB v k) (vrt v) (4 * k) w) := by
  by_cases hn : v.wn ≤ k ∧ v.dn ≤ k
  · obtain ⟨hn, hd⟩ := hn
    obtain ⟨W0, hW0⟩ : ∃ W0, W0 = (w.alloc (.cells #[.int .i64 v.kind, .bool v.truth, .string v.text, .bool v.neg, .slice v.wa v.wn v.wc, .slice v.da v.dn v.dc, .bool v.ineg, .slice v.ia v.inn v.ic, .slice v.ea v.en v.ec] 26)).alloc (.cells #[.bool false, .slice none 0 0, .slice none 0 0] 31) := ⟨_, rfl⟩
    have I := integerW w v 26 31
    rw [← hW0] at I
    have HW := Lib.hid hW0
    have HI := Lib.hid (show lratB v k = ratB v from by unfold lratB; simp [hn, hd])
    have HV := Lib.hid (h.keep I.below)
    clear hW0 h
    go_enter Tryz.func17, Tryz.ntmps17
    go_upto_region 3 with fail
    rw [← HW.out]
    obtain ⟨c0, c1, c2, c3, c4, c5, c6, c7, c8⟩ := I.all
    go_wp2_with fail
    refine (rational_any v (4 * k) _ HV.out (by omega) (by omega) (by omega)).mono ?_
    rintro e w1 ⟨sV, aV, nV, cV, aE, nE, cE, rfl, hR, hB1⟩
    have RR := I.res.below I.res.lt hB1
    obtain ⟨⟨u0, r0⟩, ⟨u1, r1⟩, ⟨u2, r2⟩⟩ := (RR).cells; have f0 := (RR).frozen 0; have f1 := (RR).frozen 1; have f2 := (RR).frozen 2
    have hbf := Below.then I.below (Nat.le_refl _) hB1
    clear c0 c1 c2 c3 c4 c5 c6 c7 c8
    go_wp2
    exact bodyPost_ret (v := .tuple #[.agg #[.bool sV, .slice aV nV cV, .slice aE nE cE], .bool (ratB v)]) (by simp [results, Tryz.results17, go_sem, r0, r1, r2]) rfl
      ⟨_, _, _, _, _, _, _, by rw [HI.out], fun hb => stored3 RR (hR (by rw [← HI.out]; exact hb)), ((hbf.setCell (Nat.le_add_right _ 1) _).setCell (Nat.le_add_right _ 1) _).setCell (Nat.le_add_right _ 1) _⟩
  · have HI := Lib.hid (show lratB v k = false from by
      unfold lratB
      by_cases h1 : v.wn ≤ k <;> by_cases h2 : v.dn ≤ k <;> simp [h1, h2] <;> exact absurd ⟨h1, h2⟩ hn)
    have hb := ((Below.refl w.heap.size w).alloc (Nat.le_refl _) (.cells #[.int .i64 v.kind, .bool v.truth, .string v.text, .bool v.neg, .slice v.wa v.wn v.wc, .slice v.da v.dn v.dc, .bool v.ineg, .slice v.ia v.inn v.ic, .slice v.ea v.en v.ec] 26)).alloc (by simp) (.cells #[.bool false, .slice none 0 0, .slice none 0 0] 31)
    have HB := Lib.hid hb
    clear hb
    by_cases h1 : v.wn ≤ k
    · have h2 : ¬ v.dn ≤ k := fun h2 => hn ⟨h1, h2⟩
      clear hn
      go_enter Tryz.func17, Tryz.ntmps17
      go_wp2
      exact bodyPost_ret (v := .tuple #[.agg #[.bool false, .slice none 0 0, .slice none 0 0], .bool false]) (by simp [results, Tryz.results17, go_sem]) rfl
        ⟨_, _, _, _, _, _, _, by rw [HI.out], fun h => (by rw [HI.out] at h; cases h), HB.out⟩
    · clear hn
      go_enter Tryz.func17, Tryz.ntmps17
      go_wp2
      exact bodyPost_ret (v := .tuple #[.agg #[.bool false, .slice none 0 0, .slice none 0 0], .bool false]) (by simp [results, Tryz.results17, go_sem]) rfl
        ⟨_, _, _, _, _, _, _, by rw [HI.out], fun h => (by rw [HI.out] at h; cases h), HB.out⟩
theorem isFloat_any (x : Vl) (t : Bool) (a2 : Option Addr) (n2 c2 : Nat) (a2' : Option Addr) (n2' c2' : Nat) (q : Rt) (L : Nat) (w : World)
    (h1 : VlAt w x) (h2 : RtAt w t a2 n2 c2 a2' n2' c2' q L) (hL : L ≤ 100000) (hn : x.wn ≤ 1000) (hd : x.dn ≤ 1000) :
    Calls Tryz.prog 18 #[.agg #[.int .i64 x.kind, .bool x.truth, .string x.text, .bool x.neg, .slice x.wa x.wn x.wc, .slice x.da x.dn x.dc, .bool x.ineg, .slice x.ia x.inn x.ic, .slice x.ea x.en x.ec], .agg #[.bool t, .slice a2 n2 c2, .slice a2' n2' c2']] w fun e w' => e = .returned (.bool (ratB x && sameB (vrt x) q)) ∧ Below w.heap.size w w' := by
  obtain ⟨W0, hW0⟩ : ∃ W0, W0 = (w.alloc (.cells #[.int .i64 x.kind, .bool x.truth, .string x.text, .bool x.neg, .slice x.wa x.wn x.wc, .slice x.da x.dn x.dc, .bool x.ineg, .slice x.ia x.inn x.ic, .slice x.ea x.en x.ec] 26)).alloc (.cells #[.bool t, .slice a2 n2 c2, .slice a2' n2' c2'] 31) := ⟨_, rfl⟩
  have HW := Lib.hid hW0
  have hb0 : Below w.heap.size w W0 := by rw [hW0]; exact Below.alloc' (Below.alloc' (Below.refl _ _) _) _
  have X : Box9 W0 w.heap.size x := by rw [hW0]; exact (Box9.new w x _ rfl).alloc _
  have C : RtBlk W0 (w.heap.size + 1) t a2 n2 c2 a2' n2' c2' := by rw [hW0]; exact RtBlk.new _ _ (by simp) _ _ _ _ _ _ _
  have HX := Lib.hid (h1.keep hb0)
  have HC := Lib.hid (h2.keep hb0)
  clear hW0 h1 h2
  go_enter Tryz.func18, Tryz.ntmps18
  go_upto_region 1 with fail
  rw [← HW.out]
  obtain ⟨xc0, xc1, xc2, xc3, xc4, xc5, xc6, xc7, xc8⟩ := (X).all
  go_wp2_with fail
  refine (rational_any x 4000 _ HX.out (by omega) (by omega) (by omega)).mono ?_
  rintro e w1 ⟨sV, aV, nV, cV, aE, nE, cE, rfl, hR, hB1⟩
  clear xc0 xc1 xc2 xc3 xc4 xc5 xc6 xc7 xc8
  go_upto_region 2 with fail
  obtain ⟨W1, hW1⟩ : ∃ W1, W1 = w1.alloc (.cells #[.bool sV, .slice aV nV cV, .slice aE nE cE] 31) := ⟨_, rfl⟩
  rw [← hW1]
  have hb1 : Below W0.heap.size W0 W1 := by rw [hW1]; exact Below.alloc' hB1 _
  have V1 : RtBlk W1 w1.heap.size sV aV nV cV aE nE cE := by rw [hW1]; exact RtBlk.new _ _ rfl _ _ _ _ _ _ _
  have R1 := Lib.hid (show ratB x = true → RtAt W1 sV aV nV cV aE nE cE (vrt x) 4000 from fun hb => by
    rw [hW1]; exact (hR hb).keep ((Below.refl _ _).alloc (Nat.le_refl _) _))
  have C1 := C.keep hb1
  have HC1 := Lib.hid (HC.out.keep hb1)
  have hbf := Below.then hb0 (Nat.le_refl _) hb1
  clear hW1 hR hB1 C HC X HX hb1
  obtain ⟨v0, v1, v2⟩ := V1
  obtain ⟨y0, y1, y2⟩ := C1
  cases hb : ratB x
  · go_wp2
    go_ret
    exact ⟨ret_bool (by rw [hb]; rfl), hbf⟩
  · have HR := R1.out hb
    have HBB := Lib.hid hb
    clear hb R1
    go_wp2_with fail
    refine (same_any sV t aV nV cV aE nE cE a2 n2 c2 a2' n2' c2' (vrt x) q (L + 4000) _ (HR.mono (by omega)) (HC1.out.mono (by omega)) (by omega)).mono ?_
    rintro e w2 ⟨rfl, hB2⟩
    have hbg := Below.then hbf (Nat.le_refl _) hB2
    go_wp2
    go_ret
    exact ⟨ret_bool (by rw [HBB.out, Bool.true_and]), hbg⟩
def CNum (w : World) (v : Value) (r : Rt) : Prop := (∃ z, CInt w v z ∧ r = rz z) ∨ CRat w v r
theorem CNum.keep {w w' : World} {v : Value} {r : Rt} (h : CNum w v r) (hb : Below w.heap.size w w') : CNum w' v r := by
  rcases h with ⟨z, h, e⟩ | h
  · exact .inl ⟨z, h.keep hb, e⟩
  · exact .inr (h.keep hb)
theorem valRat_any (b : Nat) (w : World) :
    Calls Tryz.prog 126 #[.iface 102 (.agg #[.pointer (some ⟨b, 0, none⟩)])] w fun e w' => e = .returned (.iface 95 (.pointer (some ⟨b, 0, none⟩))) ∧ Below w.heap.size w w' := by
  obtain ⟨t1, t2, t3, t4, t5, t6, t7, t8, t9⟩ := ta_ratVal
  have hb := Lib.hid (fun o => Below.alloc' (Below.refl w.heap.size w) o)
  go_enter Tryz.func126, Tryz.ntmps126
  go_wp2
  go_ret
  exact ⟨rfl, hb.out _⟩
theorem partsRat_any (v : Value) (r : Rt) (w : World) (h : CRat w v r) (L : Nat) (hL : L ≤ 100000) (hN : r.num < W64 ^ L) (hD : r.den < W64 ^ L) :
    Calls Tryz.prog 54 #[v] w fun e w' => ∃ a n c a' n' c', e = .returned (.tuple #[.agg #[.bool r.neg, .slice a n c], .slice a' n' c']) ∧ PlainAt w' a n c r.num ∧ PlainAt w' a' n' c' r.den ∧ Below w.heap.size w w' := by
  obtain ⟨W0, hW0⟩ : ∃ W0, W0 = w.alloc (.cells #[.bool false, .slice none 0 0] 24) := ⟨_, rfl⟩
  have HW := Lib.hid hW0
  have hb0 : Below w.heap.size w W0 := by rw [hW0]; exact Below.alloc' (Below.refl _ _) _
  have hr : BlkAt W0 w.heap.size #[.bool false, .slice none 0 0] 24 := by rw [hW0]; exact BlkAt.new _ _ _
  obtain ⟨b, s, N, D, rfl, hR, rfl⟩ := h
  have HR := Lib.hid (hR.keep hb0)
  have HN := Lib.hid (show N < W64 ^ L from hN)
  have HD := Lib.hid (show D < W64 ^ L from hD)
  clear hW0 hR hN hD
  go_enter Tryz.func54, Tryz.ntmps54
  go_upto_region 1 with fail
  rw [← HW.out]
  go_wp2_with fail
  refine (valRat_any b _).mono ?_
  rintro e w1 ⟨rfl, hB1⟩
  have hr1 := hr.keep hB1
  have hb1 := Below.then hb0 (Nat.le_refl _) hB1
  have HR1 := Lib.hid (HR.out.keep hB1)
  clear hr hB1
  obtain ⟨t1, t2, t3, t4, t5, t6⟩ := ta_any_pRat
  go_wp2_with fail
  refine (ratNum_any b _).mono ?_
  rintro e w2 ⟨rfl, rfl⟩
  go_wp2_with fail
  refine (number_any b 0 s N _ HR1.out.a L hL HN.out).mono ?_
  rintro e w2 ⟨a, n, c, rfl, hP, hB2⟩
  have hr2 := hr1.keep hB2
  have hb2 := Below.then hb1 (Nat.le_refl _) hB2
  have HR2 := Lib.hid (HR1.out.keep hB2)
  go_wp2_with fail
  refine (ratDenom_any b false D _ HR2.out.d HR2.out.pos).mono ?_
  rintro e w3 ⟨rfl, rfl⟩
  go_wp2_with fail
  refine (plain_any b 2 false D _ HR2.out.d L hL HD.out).mono ?_
  rintro e w3 ⟨a', n', c', rfl, hQ, hB3⟩
  have hr3 := hr2.keep hB3
  have hb3 := Below.then hb2 (Nat.le_refl _) hB3
  have hP3 := hP.keep hB3
  have c0 := hr3.cell 0
  have c1 := hr3.cell 1
  have f0 := hr3.frozen 0
  have f1 := hr3.frozen 1
  simp only [List.getElem?_toArray, List.getElem?_cons_zero, List.getElem?_cons_succ] at c0 c1
  have ni := noInt_of_blk hr3 noInt_num
  go_wp2
  exact bodyPost_ret (v := .tuple #[.agg #[.bool s, .slice a n c], .slice a' n' c']) (by simp [results, Tryz.results54, go_sem, c0, c1]) rfl
    ⟨_, _, _, _, _, _, rfl, (hP3.setCell _ ni).setCell _ (ni.setCell (by intro k n h; cases h)), (hQ.setCell _ ni).setCell _ (ni.setCell (by intro k n h; cases h)), (hb3.setCell (Nat.le_refl _) _).setCell (Nat.le_refl _) _⟩
theorem partsNum_any (v : Value) (r : Rt) (w : World) (h : CNum w v r) (L : Nat) (hL1 : 1 ≤ L) (hL : L ≤ 100000) (hN : r.num < W64 ^ L) (hD : r.den < W64 ^ L) :
    Calls Tryz.prog 54 #[v] w fun e w' => ∃ a n c a' n' c', e = .returned (.tuple #[.agg #[.bool r.neg, .slice a n c], .slice a' n' c']) ∧ PlainAt w' a n c r.num ∧ PlainAt w' a' n' c' r.den ∧ Below w.heap.size w w' := by
  rcases h with ⟨z, h, rfl⟩ | h
  · exact partsInt_any v z w h L hL hN
  · exact partsRat_any v r w h L hL hN hD
theorem PlainAt.updU {w w' : World} {a : Option Addr} {n c N : Nat} {S : Nat → Prop} (h : PlainAt w a n c N) (hu : Upd S w w') (hS : ∀ k, S k → NoU w k) : PlainAt w' a n c N := ⟨h.ws.updU hu hS, h.lt, h.top⟩
theorem plain_hasW {w : World} {a : Option Addr} {n c N : Nat} (h : PlainAt w a n c N) : hasW (dg W64 N) n N = true := by
  have hv := told_val h
  have ht : n = 0 ∨ dg W64 N (n - 1) ≠ 0 := by
    rcases h.top with h0 | h0
    · exact .inl h0
    · by_cases hn : n = 0
      · exact .inl hn
      · right
        have hlt := h.lt
        rw [show n = n - 1 + 1 from by omega, Nat.pow_succ] at hlt
        have hq : N / W64 ^ (n - 1) < W64 := (Nat.div_lt_iff_lt_mul (Nat.pow_pos W64_pos)).2 (by rw [Nat.mul_comm]; exact hlt)
        have hp : 0 < N / W64 ^ (n - 1) := Nat.div_pos h0 (Nat.pow_pos W64_pos)
        rw [dg, Nat.mod_eq_of_lt hq]
        omega
  unfold hasW
  simp only [hv, true_and]
  simpa using ht
structure ROk (r : Rt) : Prop where
  den : 0 < r.den
  sign : r.neg = true → 0 < r.num
  gcd : Nat.gcd r.num r.den = 1
theorem told_fracB {w : World} {r : Rt} (hr : ROk r) {a : Option Addr} {n c : Nat} {a' : Option Addr} {n' c' : Nat} (h : PlainAt w a n c r.num) (h' : PlainAt w a' n' c' r.den) :
    fracB r.neg (dg W64 r.num) n (dg W64 r.den) n' = true ∧ frt r.neg (dg W64 r.num) n (dg W64 r.den) n' = r := by
  have e1 := told_val h
  have e2 := told_val h'
  have w1 := plain_hasW h
  have w2 := plain_hasW h'
  unfold fracB frt isNumB
  rw [e1, e2, w1, w2]
  have hg := hr.gcd
  refine ⟨?_, rfl⟩
  have h1 := hr.den
  cases hs : r.neg
  · simp [h1, hg]
  · have := hr.sign hs
    simp [h1, this, hg]
theorem methodKindRat (x : Value) (w : World) : (method 410 102 x "Kind").run Tryz.prog w = .ok (338, x) w := by kernel_rfl
theorem methodKindCpx (x : Value) (w : World) : (method 410 111 x "Kind").run Tryz.prog w = .ok (347, x) w := by kernel_rfl
theorem kindRat_any (p : Value) (w : World) : Calls Tryz.prog 338 #[.agg #[p]] w fun e w' => e = .returned (.int .i64 4) ∧ Below w.heap.size w w' := by
  have HB := Lib.hid (fun o => (Below.refl w.heap.size w).alloc (Nat.le_refl _) o)
  go_enter Tryz.func338, Tryz.ntmps338
  go_wp2
  go_ret
  exact ⟨rfl, HB.out _⟩
theorem kindCpx_any (p q : Value) (w : World) : Calls Tryz.prog 347 #[.agg #[p, q]] w fun e w' => e = .returned (.int .i64 5) ∧ Below w.heap.size w w' := by
  have HB := Lib.hid (fun o => (Below.refl w.heap.size w).alloc (Nat.le_refl _) o)
  go_enter Tryz.func347, Tryz.ntmps347
  go_wp2
  go_ret
  exact ⟨rfl, HB.out _⟩
def GivesV (P : Vl → Prop) (w : World) (e : Ending) (w' : World) : Prop := ∃ x : Vl, e = .returned (.agg #[.int .i64 x.kind, .bool x.truth, .string x.text, .bool x.neg, .slice x.wa x.wn x.wc, .slice x.da x.dn x.dc, .bool x.ineg, .slice x.ia x.inn x.ic, .slice x.ea x.en x.ec]) ∧ VlAt w' x ∧ P x ∧ Below w.heap.size w w'
theorem GivesV.mono {P Q : Vl → Prop} {w w' : World} {e : Ending} (h : GivesV P w e w') (hPQ : ∀ x, P x → Q x) : GivesV Q w e w' := by
  obtain ⟨x, h1, h2, h3, h4⟩ := h; exact ⟨x, h1, h2, hPQ x h3, h4⟩
def IsZ (z : Int) (L : Nat) (x : Vl) : Prop := intB x = true ∧ x.neg = decide (z < 0) ∧ val W64 x.wf x.wn = z.natAbs ∧ x.wn ≤ L
def IsQ (r : Rt) (L : Nat) (x : Vl) : Prop := ratB x = true ∧ vrt x = r ∧ x.wn ≤ L ∧ x.dn ≤ L
theorem plain_le {w : World} {a : Option Addr} {n c N L : Nat} (h : PlainAt w a n c N) (hN : N < W64 ^ L) : n ≤ L := len_le W64_gt h.top hN
theorem noU_vals3 (k : Int) (b b' : Bool) (a1 a2 a3 a4 : Option Addr) (n1 n2 n3 n4 c1 c2 c3 c4 : Nat) : ∀ (i : Nat) x, (#[.int .i64 k, .bool false, .string ⟨#[]⟩, .bool b, .slice a1 n1 c1, .slice a2 n2 c2, .bool b', .slice a3 n3 c3, .slice a4 n4 c4] : Array Value)[i]? ≠ some (.int .u64 x) := by
  intro i x h
  match i, h with
  | 0, h => simp at h
  | 1, h => simp at h
  | 2, h => simp at h
  | 3, h => simp at h
  | 4, h => simp at h
  | 5, h => simp at h
  | 6, h => simp at h
  | 7, h => simp at h
  | 8, h => simp at h
  | i + 9, h => simp at h
theorem toldRat_end {w w3 w4 : World} {r : Rt} {L : Nat} {S : Nat → Prop} {a : Option Addr} {n c : Nat} {a' : Option Addr} {n' c' : Nat} (hN : r.num < W64 ^ L) (hD : r.den < W64 ^ L) (hr : ROk r) (hP : PlainAt w3 a n c r.num) (hQ : PlainAt w3 a' n' c' r.den)
    (hu : Upd S w3 w4) (hS : ∀ k, S k → NoU w3 k) (hb : Below w.heap.size w w4) :
    GivesV (IsQ r L) w (.returned (.agg #[.int .i64 4, .bool false, .string ⟨#[]⟩, .bool r.neg, .slice a n c, .slice a' n' c', .bool false, .slice none 0 0, .slice none 0 0])) w4 := by
  have hf := told_fracB hr hP hQ
  refine ⟨⟨4, false, ⟨#[]⟩, r.neg, a, n, c, dg W64 r.num, a', n', c', dg W64 r.den, false, none, 0, 0, fun _ => 0, none, 0, 0, fun _ => 0⟩, rfl, ⟨hP.ws.updU hu hS, hQ.ws.updU hu hS, nilWords _, nilWords _, Nat.zero_le _, by simp⟩, ⟨?_, hf.2, plain_le hP hN, plain_le hQ hD⟩, hb⟩
  unfold ratB Vl.restB
  rw [hf.1]
  simp
theorem toldRat_any (v : Value) (r : Rt) (w : World) (h : CRat w v r) (hr : ROk r) (L : Nat) (hL : L ≤ 100000) (hN : r.num < W64 ^ L) (hD : r.den < W64 ^ L) :
    Calls Tryz.prog 36 #[v] w (GivesV (IsQ r L) w) := by
  have HH := Lib.hid h
  have HN := Lib.hid hN
  have HD := Lib.hid hD
  have HR := Lib.hid hr
  clear hN hD hr
  obtain ⟨b, s, N, D, rfl, -, -⟩ := h
  have hm := methodKindRat
  have hb0 : Below w.heap.size w (w.alloc (.cells #[.int .i64 0, .bool false, .string ⟨#[]⟩, .bool false, .slice none 0 0, .slice none 0 0, .bool false, .slice none 0 0, .slice none 0 0] 26)) := Below.alloc' (Below.refl _ _) _
  have hR0 := BlkAt.new w #[.int .i64 0, .bool false, .string ⟨#[]⟩, .bool false, .slice none 0 0, .slice none 0 0, .bool false, .slice none 0 0, .slice none 0 0] 26
  go_enter Tryz.func36, Tryz.ntmps36
  go_wp2_with fail
  refine (kindRat_any _ _).mono ?_
  rintro e w1 ⟨rfl, hB1⟩
  have hR1 := (hR0.keep hB1).keep ((Below.refl _ _).alloc (Nat.le_refl _) (.cells #[.int .i64 4, .bool false, .string ⟨#[]⟩, .bool false, .slice none 0 0, .slice none 0 0, .bool false, .slice none 0 0, .slice none 0 0] 26))
  have hO1 := BlkAt.new w1 #[.int .i64 4, .bool false, .string ⟨#[]⟩, .bool false, .slice none 0 0, .slice none 0 0, .bool false, .slice none 0 0, .slice none 0 0] 26
  have hb1 := Below.alloc' (Below.then hb0 (Nat.le_refl _) hB1) (.cells #[.int .i64 4, .bool false, .string ⟨#[]⟩, .bool false, .slice none 0 0, .slice none 0 0, .bool false, .slice none 0 0, .slice none 0 0] 26)
  have hlt1 := (hR0.keep hB1).lt
  clear hR0 hb0 hB1
  go_wp2_with fail
  refine (kindRat_any _ _).mono ?_
  rintro e w2 ⟨rfl, hB2⟩
  have hR2 := hR1.keep hB2
  have hO2 := hO1.keep hB2
  have hb2 := Below.then hb1 (Nat.le_refl _) hB2
  clear hR1 hO1 hb1 hB2
  go_wp2_with fail
  refine (partsRat_any _ r _ (HH.out.keep hb2) L hL HN.out HD.out).mono ?_
  rintro e w3 ⟨a, n, c, a', n', c', rfl, hP, hQ, hB3⟩
  have hR3 := hR2.keep hB3
  have hO3 := hO2.keep hB3
  have hb3 := Below.then hb2 (Nat.le_refl _) hB3
  have hne : w.heap.size ≠ w1.heap.size := Nat.ne_of_lt hlt1
  clear hR2 hO2 hb2 hB3
  have oc0 := (hO3).cell 0; have oc1 := (hO3).cell 1; have oc2 := (hO3).cell 2; have oc3 := (hO3).cell 3; have oc4 := (hO3).cell 4; have oc5 := (hO3).cell 5; have oc6 := (hO3).cell 6; have oc7 := (hO3).cell 7; have oc8 := (hO3).cell 8; simp only [List.getElem?_toArray, List.getElem?_cons_zero, List.getElem?_cons_succ] at oc0 oc1 oc2 oc3 oc4 oc5 oc6 oc7 oc8
  have of0 := (hO3).frozen 0; have of1 := (hO3).frozen 1; have of2 := (hO3).frozen 2; have of3 := (hO3).frozen 3; have of4 := (hO3).frozen 4; have of5 := (hO3).frozen 5; have of6 := (hO3).frozen 6; have of7 := (hO3).frozen 7; have of8 := (hO3).frozen 8
  have rc0 := (hR3).cell 0; have rc1 := (hR3).cell 1; have rc2 := (hR3).cell 2; have rc3 := (hR3).cell 3; have rc4 := (hR3).cell 4; have rc5 := (hR3).cell 5; have rc6 := (hR3).cell 6; have rc7 := (hR3).cell 7; have rc8 := (hR3).cell 8; simp only [List.getElem?_toArray, List.getElem?_cons_zero, List.getElem?_cons_succ] at rc0 rc1 rc2 rc3 rc4 rc5 rc6 rc7 rc8
  have rf0 := (hR3).frozen 0; have rf1 := (hR3).frozen 1; have rf2 := (hR3).frozen 2; have rf3 := (hR3).frozen 3; have rf4 := (hR3).frozen 4; have rf5 := (hR3).frozen 5; have rf6 := (hR3).frozen 6; have rf7 := (hR3).frozen 7; have rf8 := (hR3).frozen 8
  have HNO := Lib.hid (noU_of_blk hO3 (noU_vals _))
  have HNR := Lib.hid (noU_of_blk hR3 (noU_vals _))
  have HP := Lib.hid hP
  have HQ := Lib.hid hQ
  have HB3 := Lib.hid hb3
  clear hm hP hQ hb3 hO3 hR3
  go_wp2
  refine bodyPost_ret (v := .agg #[.int .i64 4, .bool false, .string ⟨#[]⟩, .bool r.neg, .slice a n c, .slice a' n' c', .bool false, .slice none 0 0, .slice none 0 0]) (by simp [results, Tryz.results36, go_sem, rc0, rc1, rc2, rc3, rc4, rc5, rc6, rc7, rc8]) rfl ?_
  refine toldRat_end HN.out HD.out HR.out HP.out HQ.out (S := fun k => k = w1.heap.size ∨ k = w.heap.size) ?_ ?_ ?_
  · iterate 12 refine Upd.setCell ?_ (by first | exact Or.inl rfl | exact Or.inr rfl) _
    exact Upd.refl _ _
  · rintro k (rfl | rfl)
    · exact HNO.out
    · exact HNR.out
  · iterate 12 refine Below.setCell ?_ (by first | exact Nat.le_refl _ | exact Nat.le_of_lt hlt1) _
    exact HB3.out
end Go.Proofs.YtgmienggfaahlaaGreatDoor
