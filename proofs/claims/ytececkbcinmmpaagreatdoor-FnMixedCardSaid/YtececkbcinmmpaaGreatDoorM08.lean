/-
  Contracts and lemmas: SpN.
-/
import Derived.Test.YtececkbcinmmpaaGreatDoorM07
import Derived.Test.YtececkbcinmmpaaGreatDoorM06
set_option linter.unusedSimpArgs false
set_option linter.unusedVariables false
set_option maxRecDepth 100000
set_option maxHeartbeats 8000000
namespace Go.Bg
open Go.RowKit Dg
def Fr (lo : Nat) (a : Option Addr) : Prop := ∀ b o, a = some ⟨b, o, none⟩ → lo ≤ b
theorem Fr.le {lo lo' : Nat} {a : Option Addr} (h : Fr lo a) (hl : lo' ≤ lo) : Fr lo' a := fun b o e => Nat.le_trans hl (h b o e)
theorem fr_some {lo g : Nat} (h : lo ≤ g) : Fr lo (some ⟨g, 0, none⟩) := fun b o e => by
  injection e with e
  injection e with e _ _
  subst e
  exact h
end Go.Bg
namespace Go.Proofs.YtececkbcinmmpaaGreatDoor
open Go.RowKit Go.Bg Dg
def GivesW (r : Rt) (L lo : Nat) (w : World) (e : Ending) (w' : World) : Prop :=
  ∃ s a n c a' n' c', e = .returned (.agg #[.bool s, .slice a n c, .slice a' n' c']) ∧ RtAt w' s a n c a' n' c' r L ∧ (Fr lo a ∧ Fr lo a') ∧ Below w.heap.size w w'
def ReadsW (b : Bool) (r : Rt) (L : Nat) (w : World) (e : Ending) (w' : World) : Prop :=
  ∃ s a n c a' n' c', e = .returned (.tuple #[.agg #[.bool s, .slice a n c, .slice a' n' c'], .bool b]) ∧ (b = true → RtAt w' s a n c a' n' c' r L ∧ Fr w.heap.size a ∧ Fr w.heap.size a') ∧ Below w.heap.size w w'
theorem of_new (a1 : Option Addr) (n1 c1 : Nat) (f : Nat → Nat) (w : World) (hc : Cells w a1 n1 (fun i => .int .u64 (f i : Nat))) (hf : ∀ i, i < n1 → f i < W64) (hb1 : n1 ≤ 100000) :
    Calls Tryz.prog 60 #[.slice a1 n1 c1] w fun e w' => ∃ aR nR cR, e = .returned (.slice aR nR cR) ∧ NumAt .i64 65536 w' aR nR cR (val W64 f n1) ∧ Fr w.heap.size aR ∧ Below w.heap.size w w' := by
  obtain ⟨i0, hi, hz0, hz1, hz2⟩ := info_parts infoInt
  go_enter Tryz.func60, Tryz.ntmps60
  go_wp2
  go_loopw [3, 5, 6, 10] (fun out _ _ i wr => ∃ k : Nat, k ≤ n1 ∧ i = .int .i64 k ∧ wr.ownsRow w.heap.size 3 1 out (4 * k) ((List.range (4 * k)).map (dig (val W64 f n1))) ∧ out ≠ .slice none 0 0 ∧ Below w.heap.size w wr)
    (fun _ _ _ i _ => n1 - (intOf i).toNat)
  case atStart => exact ⟨0, Nat.zero_le _, rfl, World.ownsRow_made w #[] 0 (Nat.le_refl _) (by simp [maxLen]) rfl, by simp, (Below.refl _ _).alloc (Nat.le_refl _) _⟩
  case round =>
    obtain ⟨i, hik, rfl, hown, hne, hbel⟩ := hrel
    obtain ⟨wo, rfl⟩ : ∃ wo : World, wo = wr := ⟨_, rfl⟩
    by_cases k1 : i < n1
    · have hc' := hc.keep hbel
      obtain ⟨b1, o1, rfl, hcell⟩ := hc' (by omega)
      have e1 : wo.cell? ⟨b1, o1 + i, none⟩ = some (.int .u64 (f i : Nat)) := hcell i k1
      have hdw := fun k hk => dg_words f n1 i k hf k1 hk
      have hfi := hf i k1
      have HD := Lib.hid hdw
      clear hcell hdw hc hc'
      generalize f i = x at *
      have HX := Lib.hid hfi
      clear hfi
      go_wp2
      go_loopw [3, 6] (fun out k wr => ∃ j : Nat, j ≤ 4 ∧ k = .int .i64 j ∧ wr.ownsRow w.heap.size 3 1 out (4 * i + j) ((List.range (4 * i + j)).map (dig (val W64 f n1))) ∧ out ≠ .slice none 0 0 ∧ Below w.heap.size w wr)
        (fun _ k _ => 4 - (intOf k).toNat)
      case atStart => exact ⟨0, by omega, rfl, hown, hne, hbel⟩
      case round =>
        clear hown hne hbel e1
        obtain ⟨j, hj, rfl, hown, hne, hbel⟩ := hrel
        by_cases k2 : j < 4
        · have hb : bits BinOp.and IntKind.u64 ((x : Int) / 2 ^ (16 * j)) 65535 = ((x / 65536 ^ j % 65536 : Nat) : Int) := by
            have e : ((x : Int) / 2 ^ (16 * j)) = ((x / 65536 ^ j : Nat) : Int) := by
              rw [show (65536 : Nat) = 2 ^ 16 from rfl, ← Nat.pow_mul]; simp
            have hlt : x / 65536 ^ j < 18446744073709551616 := Nat.lt_of_le_of_lt (Nat.div_le_self _ _) (W64_lt HX.out)
            rw [e, show (65535 : Int) = ((65535 : Nat) : Int) from rfl, u64_and_nat _ _ hlt (by decide), nat_mask16]
          have hy : x / 65536 ^ j % 65536 < 65536 := Nat.mod_lt _ (by decide)
          have hd : x / 65536 ^ j % 65536 = dg 65536 (val W64 f n1) (4 * i + j) := HD.out j k2
          have HD2 := Lib.hid hd
          clear hd
          generalize x / 65536 ^ j % 65536 = y at *
          go_wp2_with (at_builtin; refine wpList_app1 rfl _ _ 29 rfl w.heap.size 3 i0 _ 8 Tryz.underlying29 hi hz0 hz1 hz2 rfl (by decide) _ _ _ _ rfl rfl rfl hown rfl (by omega) (hbel).size ?_; intro v' w1 hown1 hbel1 hne1)
          have hown1 : w1.ownsRow w.heap.size 3 1 v' (4 * i + (j + 1)) ((List.range (4 * i + (j + 1))).map (dig (val W64 f n1))) := by
            rw [show 4 * i + (j + 1) = 4 * i + j + 1 from rfl, map_range_succ, dig, ← HD2.out]; exact hown1
          go_roundw
          case rel => exact ⟨j + 1, by omega, by go_num, hown1, hne1, hbel.trans hbel1⟩
          case measure => simp [intOf]; omega
        · obtain rfl : j = 4 := by omega
          go_wp2
          go_roundw
          case rel => exact ⟨i + 1, by omega, by go_num, hown, hne, hbel⟩
          case measure => simp [intOf]; omega
    · obtain rfl : i = n1 := by omega
      have hlt : val W64 f i < 65536 ^ (4 * i) := by
        have := val_lt hf
        rw [W64_16, ← Nat.pow_mul] at this; exact this
      have HL := Lib.hid hlt
      obtain ⟨g, cap, rfl, hg, hgs, hnc, hcm, hcell⟩ := own_form hown hne
      have HC := Lib.hid (row_cells hcell)
      clear hcell hown hlt hc hf
      go_wp2_with (go_at_call 113; refine (trim_any _ _ _ (dg 65536 (val W64 f i)) _ (by omega) hnc (fun _ => ⟨g, 0, rfl, fun i hi => by rw [Nat.zero_add]; exact HC.out i hi⟩)).mono ?_; rintro e w2 ⟨rfl, rfl⟩)
      go_ret
      exact ⟨_, _, _, rfl, natAt_of_row HL.out hnc hcm HC.out, fr_some hg, hbel⟩
theorem small_new (n : Nat) (w : World) (hn : n ≤ 9000000000000000000) : Calls Tryz.prog 61 #[.int .i64 n] w fun e w' => ∃ aR nR cR, e = .returned (.slice aR nR cR) ∧ NumAt .i64 65536 w' aR nR cR (n) ∧ Fr w.heap.size aR ∧ Below w.heap.size w w' := by
  obtain ⟨i0, hi, hz0, hz1, hz2⟩ := info_parts infoInt
  go_enter Tryz.func61, Tryz.ntmps61
  go_wp2
  go_loopw [0, 3] (fun m out wr => ∃ k : Nat, k ≤ 5 ∧ m = .int .i64 (n / 65536 ^ k : Nat) ∧ (k = 0 ∨ 65536 ^ (k - 1) ≤ n) ∧
      wr.ownsRow w.heap.size 3 1 out k ((List.range k).map (dig n)) ∧ out ≠ .slice none 0 0 ∧ Below w.heap.size w wr)
    (fun m _ _ => (intOf m).toNat)
  case atStart => exact ⟨0, Nat.zero_le _, by simp, .inl rfl, World.ownsRow_made w #[] 0 (Nat.le_refl _) (by simp [maxLen]) rfl, by simp, (Below.refl _ _).alloc (Nat.le_refl _) _⟩
  case round =>
    obtain ⟨k, hk, rfl, htop, hown, hne, hbel⟩ := hrel
    have hq : n / 65536 ^ k ≤ 9000000000000000000 := Nat.le_trans (Nat.div_le_self _ _) hn
    by_cases hpos : 0 < n / 65536 ^ k
    · have hk4 : k + 1 ≤ 5 := by
        have : 65536 ^ k ≤ n := by
          refine Nat.le_of_not_lt fun h => ?_
          rw [Nat.div_eq_of_lt h] at hpos; omega
        refine Nat.lt_of_not_le fun h => ?_
        obtain rfl : k = 5 := by omega
        simp at this; omega
      have ht : 65536 ^ k ≤ n := by
        refine Nat.le_of_not_lt fun h => ?_
        rw [Nat.div_eq_of_lt h] at hpos; omega
      have hd : n / 65536 ^ k % 65536 = dg 65536 n k := rfl
      have hs : n / 65536 ^ (k + 1) = n / 65536 ^ k / 65536 := by rw [Nat.pow_succ, Nat.div_div_eq_div_mul]
      have H1 := Lib.hid hd
      have H2 := Lib.hid hs
      have H3 := Lib.hid ht
      clear hd hs ht
      generalize n / 65536 ^ k = q at *
      go_wp2_with (at_builtin; refine wpList_app1 rfl _ _ 29 rfl w.heap.size 3 i0 _ 8 Tryz.underlying29 hi hz0 hz1 hz2 rfl (by decide) _ _ _ _ rfl rfl rfl hown rfl (by omega) (hbel).size ?_; intro v' w1 hown1 hbel1 hne1)
      have hown1 : w1.ownsRow w.heap.size 3 1 v' (k + 1) ((List.range (k + 1)).map (dig n)) := by
        rw [map_range_succ, dig, ← H1.out]; exact hown1
      go_roundw
      case rel => exact ⟨k + 1, hk4, by rw [H2.out]; rfl, .inr H3.out, hown1, hne1, hbel.trans hbel1⟩
      case measure => simp [intOf]; omega
    · have h0 : n / 65536 ^ k = 0 := Nat.eq_zero_of_not_pos hpos
      rw [h0]
      have hlt : n < 65536 ^ k := by
        refine Nat.lt_of_not_le fun h => ?_
        have := Nat.div_pos h (Nat.pow_pos (by decide))
        omega
      have HL := Lib.hid hlt
      have HT := Lib.hid htop
      clear hlt htop h0 hpos hq
      go_wp2
      obtain ⟨g, cap, rfl, hg, hgs, hnc, hcm, hcell⟩ := own_form hown hne
      have HC := Lib.hid (row_cells hcell)
      go_ret
      exact ⟨_, _, _, rfl, ⟨HL.out, HT.out, hnc, hcm, fun _ => ⟨g, 0, rfl, fun i hi => by rw [Nat.zero_add]; exact HC.out i hi⟩⟩, fr_some hg, hbel⟩
theorem givesW_end {w w1 : World} {g : Nat} {r : Rt} {L lo : Nat} {s : Bool} {a : Option Addr} {n c : Nat} {a' : Option Addr} {n' c' : Nat} (R : ResBlk w1 g) (hg : w.heap.size ≤ g) (hb : Below w.heap.size w w1) (h : RtAt w1 s a n c a' n' c' r L) (hf : Fr lo a ∧ Fr lo a') :
    GivesW r L lo w (.returned (.agg #[.bool s, .slice a n c, .slice a' n' c'])) (((w1.setCell ⟨g, 0, none⟩ (.bool s)).setCell ⟨g, 1, none⟩ (.slice a n c)).setCell ⟨g, 2, none⟩ (.slice a' n' c')) :=
  ⟨_, _, _, _, _, _, _, rfl, stored3 R h, hf, ((hb.setCell hg _).setCell hg _).setCell hg _⟩
theorem whole_new (s : Bool) (a : Option Addr) (n c N L : Nat) (w : World) (h : NatAt w a n c N) (hL : N < 65536 ^ L) (hL1 : 1 ≤ L) (hL2 : L ≤ 400000) (lo : Nat) (hlo : lo ≤ w.heap.size) (hf : Fr lo a) :
    Calls Tryz.prog 116 #[.bool s, .slice a n c] w (GivesW (Rt.whole s N) L lo w) := by
  have hlen := h.len16 hL
  have hp := natAt_pos_len h
  have HP := Lib.hid hp
  have HH := Lib.hid h
  clear hp h
  have R0 := ResBlk.alloc w 31
  have H1 := Lib.hid (show 1 < 65536 ^ L from Nat.one_lt_pow (by omega) (by decide))
  cases s
  · go_enter Tryz.func116, Tryz.ntmps116
    go_wp2_with fail
    refine (small_new 1 _ (by omega)).mono ?_
    rintro e w1 ⟨a', n', c', rfl, hD, hF', hB⟩
    have HF := Lib.hid (⟨hf, hF'.le (Nat.le_trans hlo (by simp))⟩ : Fr lo a ∧ Fr lo a')
    clear hF'
    have R := R0.below (by simp) hB
    obtain ⟨⟨u0, r0⟩, ⟨u1, r1⟩, ⟨u2, r2⟩⟩ := (R).cells; have f0 := (R).frozen 0; have f1 := (R).frozen 1; have f2 := (R).frozen 2
    have hb := Below.then ((Below.refl _ _).alloc (Nat.le_refl _) _) (Nat.le_refl _) hB
    go_wp2
    exact bodyPost_ret (v := .agg #[.bool false, .slice a n c, .slice a' n' c']) (by simp [results, Tryz.results116, go_sem, r0, r1, r2]) rfl (givesW_end R (Nat.le_refl _) hb ⟨rfl, HH.out.keep hb, hD, hL, H1.out⟩ HF.out)
  · go_enter Tryz.func116, Tryz.ntmps116
    go_wp2_with fail
    refine (small_new 1 _ (by omega)).mono ?_
    rintro e w1 ⟨a', n', c', rfl, hD, hF', hB⟩
    have HF := Lib.hid (⟨hf, hF'.le (Nat.le_trans hlo (by simp))⟩ : Fr lo a ∧ Fr lo a')
    clear hF'
    have R := R0.below (by simp) hB
    obtain ⟨⟨u0, r0⟩, ⟨u1, r1⟩, ⟨u2, r2⟩⟩ := (R).cells; have f0 := (R).frozen 0; have f1 := (R).frozen 1; have f2 := (R).frozen 2
    have hb := Below.then ((Below.refl _ _).alloc (Nat.le_refl _) _) (Nat.le_refl _) hB
    go_wp2
    exact bodyPost_ret (v := .agg #[.bool (decide (0 < n)), .slice a n c, .slice a' n' c']) (by simp [results, Tryz.results116, go_sem, r0, r1, r2]) rfl (givesW_end R (Nat.le_refl _) hb ⟨by rw [HP.out]; simp [Rt.whole], HH.out.keep hb, hD, hL, H1.out⟩ HF.out)
theorem integer_new (v : Vl) (w : World) (h : VlAt w v) (hn : v.wn ≤ 1000) : Calls Tryz.prog 55 #[.agg #[.int .i64 v.kind, .bool v.truth, .string v.text, .bool v.neg, .slice v.wa v.wn v.wc, .slice v.da v.dn v.dc, .bool v.ineg, .slice v.ia v.inn v.ic, .slice v.ea v.en v.ec]] w (ReadsW (intB v) (Rt.whole v.neg (val W64 v.wf v.wn)) (4 * v.wn + 1) w) := by
  by_cases hk : v.kind = 3
  · have hkb : (v.kind != 3) = false := by rw [hk]; rfl
    obtain ⟨W0, hW0⟩ : ∃ W0, W0 = (w.alloc (.cells #[.int .i64 v.kind, .bool v.truth, .string v.text, .bool v.neg, .slice v.wa v.wn v.wc, .slice v.da v.dn v.dc, .bool v.ineg, .slice v.ia v.inn v.ic, .slice v.ea v.en v.ec] 26)).alloc (.cells #[.bool false, .slice none 0 0, .slice none 0 0] 31) := ⟨_, rfl⟩
    have I := integerW w v 26 31
    rw [← hW0] at I
    have HW := Lib.hid hW0
    have HK := Lib.hid hk
    have hL : val W64 v.wf v.wn < 65536 ^ (4 * v.wn + 1) := by
      have := val_lt h.ws.lt
      rw [W64_16, ← Nat.pow_mul] at this
      exact Nat.lt_of_lt_of_le this (Nat.pow_le_pow_right (by decide) (by omega))
    have HL := Lib.hid hL
    have WS := Lib.hid (show ∀ W', Below W0.heap.size W0 W' → WordsAt W' v.wa v.wn v.wc v.wf from fun W' hb => (h.ws.keep I.below).keep hb)
    clear hW0 hk hL
    go_enter Tryz.func55, Tryz.ntmps55
    go_upto_region 3 with fail
    rw [← HW.out]
    go_cut [4] (fun s4 wx => ∃ g sV aV nV cV aE nE cE, s4 = .pointer (some ⟨g, 0, none⟩) ∧ RtBlk wx g sV aV nV cV aE nE cE ∧ RtAt wx sV aV nV cV aE nE cE (Rt.whole v.neg (val W64 v.wf v.wn)) (4 * v.wn + 1) ∧ W0.heap.size ≤ g ∧ (Fr W0.heap.size aV ∧ Fr W0.heap.size aE) ∧ Below W0.heap.size W0 wx)
    case first =>
      have hI := I.res.lt
      have hb0 : Below W0.heap.size W0 W0.drew := (Below.refl _ _).drew
      go_region_held3 (fun w' => w'.cell? ⟨w.heap.size, 3, none⟩ = some (.bool v.neg) ∧ w'.cell? ⟨w.heap.size, 4, none⟩ = some (.slice v.wa v.wn v.wc))
        (first | exact ⟨I.c3, I.c4⟩ | exact ⟨cell_keep I.c3 (by assumption), cell_keep I.c4 (by assumption)⟩ | exact ⟨cell_keep I.c3 (Below.alloc' (by assumption) _), cell_keep I.c4 (Below.alloc' (by assumption) _)⟩ | (refine ⟨?_, ?_⟩ <;> (rw [cell?_setCell_ne (by omega), cell?_setCell_ne (by omega), cell?_setCell_ne (by omega)]) <;> first | exact cell_keep I.c3 (by assumption) | exact cell_keep I.c4 (by assumption)))
        (first | (go_at_call 60; (with_reducible refine (of_new v.wa v.wn v.wc v.wf _ ?_ ?_ ?_).mono ?_); exact (WS.out _ (by first | exact hb0 | exact Below.alloc' hb0 _)).cells; exact (WS.out _ hb0).lt; omega; rintro e w1 ⟨aO, nO, cO, rfl, hO, hFO, hB1⟩; have hFO2 : Fr W0.heap.size aO := hFO.le (by first | exact hb0.size | exact (Below.alloc' hb0 _).size); have hb1 := Below.then (by first | exact hb0 | exact Below.alloc' hb0 _) (Nat.le_refl _) hB1; have hz1 := hb1.size; try (have RR : ResBlk w1 W0.heap.size := (ResBlk.alloc W0.drew 31).below (by simp) hB1)) | (go_at_call 116; (with_reducible refine (whole_new v.neg aO nO cO (val W64 v.wf v.wn) (4 * v.wn + 1) _ ?_ ?_ ?_ ?_ W0.heap.size ?_ hFO2).mono ?_); (first | exact hO | exact hO.keep ((Below.refl _ _).alloc (Nat.le_refl _) _)); exact HL.out; omega; omega; (first | exact hz1 | exact (Below.alloc' hb1 _).size); rintro e w2 ⟨sV, aV, nV, cV, aE, nE, cE, rfl, hV, hFV, hB2⟩; have hb2 := Below.then (by first | exact hb1 | exact Below.alloc' hb1 _) (Nat.le_refl _) hB2; have hz2 := hb2.size; try (first | (have RV : ResBlk w2 W0.heap.size := RR.below RR.lt hB2; obtain ⟨⟨u0, r0⟩, ⟨u1, r1⟩, ⟨u2, r2⟩⟩ := (RV).cells; have f0 := (RV).frozen 0; have f1 := (RV).frozen 1; have f2 := (RV).frozen 2) | (have RV : ResBlk w2 w1.heap.size := (ResBlk.alloc w1 31).below (by simp) hB2; obtain ⟨⟨u0, r0⟩, ⟨u1, r1⟩, ⟨u2, r2⟩⟩ := (RV).cells; have f0 := (RV).frozen 0; have f1 := (RV).frozen 1; have f2 := (RV).frozen 2))))
      all_goals (go_wp2_with fail; go_meet; first | exact ⟨_, _, _, _, _, _, _, _, rfl, rtBlk_new w2 _ _ _ _ _ _ _ _, hV.keep ((Below.refl _ _).alloc (Nat.le_refl _) _), hz2, hFV, Below.alloc' hb2 _⟩ | exact ⟨_, _, _, _, _, _, _, _, rfl, rtBlk_stored RV _ _ _ _ _ _ _, stored3 RV hV, Nat.le_refl _, hFV, ((hb2.setCell (Nat.le_refl _) _).setCell (Nat.le_refl _) _).setCell (Nat.le_refl _) _⟩ | exact ⟨_, _, _, _, _, _, _, _, rfl, rtBlk_stored RV _ _ _ _ _ _ _, stored3 RV hV, hz1, hFV, ((hb2.setCell hz1 _).setCell hz1 _).setCell hz1 _⟩)
    case rest =>
      obtain ⟨g, sV, aV, nV, cV, aE, nE, cE, rfl, hblk, hV, hg, hFW, hbw⟩ := hcut
      have HFW := Lib.hid (⟨hFW.1.le I.below.size, hFW.2.le I.below.size⟩ : Fr w.heap.size aV ∧ Fr w.heap.size aE)
      clear hFW
      have hgt : w.heap.size + 1 < g := Nat.lt_of_lt_of_le I.res.lt hg
      have C := I.keep hbw
      have WSc := WS.out _ hbw
      have hVs : sV = (v.neg && decide (0 < val W64 v.wf v.wn)) := hV.neg
      have hnV := hV.n_le
      have hVn := hV.num
      have HV := Lib.hid hV
      have HVS := Lib.hid hVs
      have HH := Lib.hid h
      clear hbw HW HL WS I hV hVs h
      by_cases hN : isNumB v.neg v.wf v.wn sV (val W64 v.wf v.wn) = true
      · by_cases hd : v.dn = 0
        · have hd0 : ((v.dn : Int) == 0) = true := by simp; exact hd
          have hI : intB v = v.restB := by unfold intB; rw [← HVS.out, hN, HK.out]; simp [hd]
          have HI := Lib.hid hI
          have HN := Lib.hid hN
          clear hN hI hd
          go_upto_region 4 with fail
          have hb0 : Below wc.heap.size wc wc.drew := (Below.refl _ _).drew
          refine wp_region_held_drew (S := fun w' => (w'.cell? ⟨w.heap.size, 0, none⟩ = some (.int .i64 v.kind) ∧ w'.cell? ⟨w.heap.size, 1, none⟩ = some (.bool v.truth) ∧ w'.cell? ⟨w.heap.size, 2, none⟩ = some (.string v.text) ∧ w'.cell? ⟨w.heap.size, 3, none⟩ = some (.bool v.neg) ∧ w'.cell? ⟨w.heap.size, 4, none⟩ = some (.slice v.wa v.wn v.wc) ∧ w'.cell? ⟨w.heap.size, 5, none⟩ = some (.slice v.da v.dn v.dc) ∧ w'.cell? ⟨w.heap.size, 6, none⟩ = some (.bool v.ineg) ∧ w'.cell? ⟨w.heap.size, 7, none⟩ = some (.slice v.ia v.inn v.ic) ∧ w'.cell? ⟨w.heap.size, 8, none⟩ = some (.slice v.ea v.en v.ec)) ∧ w'.cell? ⟨g, 0, none⟩ = some (.bool sV) ∧ w'.cell? ⟨g, 1, none⟩ = some (.slice aV nV cV) ∧ w'.cell? ⟨g, 2, none⟩ = some (.slice aE nE cE)) (by kernel_rfl) ⟨C.all, hblk.c0, hblk.c1, hblk.c2⟩ (fun hHeld => ?_)
          refine wpAnyH_take (i := 0) (v := ?_) rfl (by kernel_rfl) (by kernel_rfl) (by kernel_rfl) (fun _ _ _ h => h) (Or.inl ⟨by kernel_rfl, ?_⟩) (by assumption) ?_; rotate_left; focus (intro w' hSw; (try dsimp only at hSw); go_simp; (try with_reducible rfl)); (try simp only [Act.put, List.setIfInBounds_toArray, List.set_cons_zero, List.set_cons_succ])
          refine wpAnyH_take (i := 1) (v := ?_) rfl (by kernel_rfl) (by kernel_rfl) (by kernel_rfl) (fun _ _ _ h => h) (Or.inl ⟨by kernel_rfl, ?_⟩) (by assumption) ?_; rotate_left; focus (intro w' hSw; (try dsimp only at hSw); go_simp; (try with_reducible rfl)); (try simp only [Act.put, List.setIfInBounds_toArray, List.set_cons_zero, List.set_cons_succ])
          refine wpAnyH_take (i := 2) (v := ?_) rfl (by kernel_rfl) (by kernel_rfl) (by kernel_rfl) (fun _ _ _ h => h) (Or.inl ⟨by kernel_rfl, ?_⟩) (by assumption) ?_; rotate_left; focus (intro w' hSw; (try dsimp only at hSw); go_simp; (try with_reducible rfl)); (try simp only [Act.put, List.setIfInBounds_toArray, List.set_cons_zero, List.set_cons_succ])
          refine wpAnyH_take (i := 3) (v := ?_) rfl (by kernel_rfl) (by kernel_rfl) (by kernel_rfl) (fun _ _ _ h => h) (Or.inl ⟨by kernel_rfl, ?_⟩) (by assumption) ?_; rotate_left; focus (intro w' hSw; (try dsimp only at hSw); go_simp; (try with_reducible rfl)); (try simp only [Act.put, List.setIfInBounds_toArray, List.set_cons_zero, List.set_cons_succ])
          refine wpAnyH_take (i := 4) (v := ?_) rfl (by kernel_rfl) (by kernel_rfl) (by kernel_rfl) (fun _ _ _ h => h) (Or.inl ⟨by kernel_rfl, ?_⟩) (by assumption) ?_; rotate_left; focus (intro w' hSw; (try dsimp only at hSw); go_simp; (try with_reducible rfl)); (try simp only [Act.put, List.setIfInBounds_toArray, List.set_cons_zero, List.set_cons_succ])
          refine wpAnyH_take (i := 5) (v := ?_) rfl (by kernel_rfl) (by kernel_rfl) (by kernel_rfl) (fun _ _ _ h => h) (Or.inl ⟨by kernel_rfl, ?_⟩) (by assumption) ?_; rotate_left; focus (intro w' hSw; (try dsimp only at hSw); go_simp; (try with_reducible rfl)); (try simp only [Act.put, List.setIfInBounds_toArray, List.set_cons_zero, List.set_cons_succ])
          refine wpAnyH_take (i := 6) (v := ?_) rfl (by kernel_rfl) (by kernel_rfl) (by kernel_rfl) (fun _ _ _ h => h) (Or.inl ⟨by kernel_rfl, ?_⟩) (by assumption) ?_; rotate_left; focus (intro w' hSw; (try dsimp only at hSw); go_simp; (try with_reducible rfl)); (try simp only [Act.put, List.setIfInBounds_toArray, List.set_cons_zero, List.set_cons_succ])
          refine wpAnyH_ready (rs := [7]) (by kernel_rfl) (by simp) ?_; refine AllReadyH.cons rfl (fun K hK => ?_) AllReadyH.nil
          go_simp
          (with_reducible refine (isNumber_any v.neg v.wa v.wn v.wc v.wf sV aV nV cV (val W64 v.wf v.wn) _ ?_ ?_ ?_ ?_).mono ?_)
          · exact WSc.keep hb0
          · omega
          · exact hVn.keep hb0
          · omega
          rintro e w1 ⟨rfl, hB1⟩
          have hb1 := Below.then hb0 (Nat.le_refl _) hB1
          have RR := C.res.below C.res.lt hb1
          obtain ⟨⟨u0, r0⟩, ⟨u1, r1⟩, ⟨u2, r2⟩⟩ := (RR).cells; have f0 := (RR).frozen 0; have f1 := (RR).frozen 1; have f2 := (RR).frozen 2
          rw [HN.out]
          refine hK.out _ _ (⟨(C.keep hb1).all, cell_keep hblk.c0 hb1, cell_keep hblk.c1 hb1, cell_keep hblk.c2 hb1⟩) (fun hHeld => ?_); clear hK K; (try simp only [Act.put, List.setIfInBounds_toArray, List.set_cons_zero, List.set_cons_succ])
          refine wpAnyH_take (i := 8) (v := ?_) rfl (by kernel_rfl) (by kernel_rfl) (by kernel_rfl) (fun _ _ _ h => h) (Or.inl ⟨by kernel_rfl, ?_⟩) (by assumption) ?_; rotate_left; focus (intro w' hSw; (try dsimp only at hSw); go_simp; (try with_reducible rfl)); (try simp only [Act.put, List.setIfInBounds_toArray, List.set_cons_zero, List.set_cons_succ])
          refine wpAnyH_take (i := 9) (v := ?_) rfl (by kernel_rfl) (by kernel_rfl) (by kernel_rfl) (fun _ _ _ h => h) (Or.inl ⟨by kernel_rfl, ?_⟩) (by assumption) ?_; rotate_left; focus (intro w' hSw; (try dsimp only at hSw); go_simp; (try with_reducible rfl)); (try simp only [Act.put, List.setIfInBounds_toArray, List.set_cons_zero, List.set_cons_succ])
          refine wpAnyH_take (i := 10) (v := ?_) rfl (by kernel_rfl) (by kernel_rfl) (by kernel_rfl) (fun _ _ _ h => h) (Or.inl ⟨by kernel_rfl, ?_⟩) (by assumption) ?_; rotate_left; focus (intro w' hSw; (try dsimp only at hSw); go_simp; (try with_reducible rfl)); (try simp only [Act.put, List.setIfInBounds_toArray, List.set_cons_zero, List.set_cons_succ])
          refine wpAnyH_take (i := 11) (v := ?_) rfl (by kernel_rfl) (by kernel_rfl) (by kernel_rfl) (fun _ _ _ h => h) (Or.inl ⟨by kernel_rfl, ?_⟩) (by assumption) ?_; rotate_left; focus (intro w' hSw; (try dsimp only at hSw); go_simp; (try with_reducible rfl)); (try simp only [Act.put, List.setIfInBounds_toArray, List.set_cons_zero, List.set_cons_succ])
          refine wpAnyH_take (i := 12) (v := ?_) rfl (by kernel_rfl) (by kernel_rfl) (by kernel_rfl) (fun _ _ _ h => h) (Or.inl ⟨by kernel_rfl, ?_⟩) (by assumption) ?_; rotate_left; focus (intro w' hSw; (try dsimp only at hSw); go_simp; (try with_reducible rfl)); (try simp only [Act.put, List.setIfInBounds_toArray, List.set_cons_zero, List.set_cons_succ])
          refine wpAnyH_take (i := 13) (v := ?_) rfl (by kernel_rfl) (by kernel_rfl) (by kernel_rfl) (fun _ _ _ h => h) (Or.inl ⟨by kernel_rfl, ?_⟩) (by assumption) ?_; rotate_left; focus (intro w' hSw; (try dsimp only at hSw); go_simp; (try with_reducible rfl)); (try simp only [Act.put, List.setIfInBounds_toArray, List.set_cons_zero, List.set_cons_succ])
          refine wpAnyH_take (i := 14) (v := ?_) rfl (by kernel_rfl) (by kernel_rfl) (by kernel_rfl) (fun _ _ _ h => h) (Or.inl ⟨by kernel_rfl, ?_⟩) (by assumption) ?_; rotate_left; focus (intro w' hSw; (try dsimp only at hSw); go_simp; (try with_reducible rfl)); (try simp only [Act.put, List.setIfInBounds_toArray, List.set_cons_zero, List.set_cons_succ])
          refine wpAnyH_take (i := 15) (v := ?_) rfl (by kernel_rfl) (by kernel_rfl) (by kernel_rfl) (fun _ _ _ h => h) (Or.inl ⟨by kernel_rfl, ?_⟩) (by assumption) ?_; rotate_left; focus (intro w' hSw; (try dsimp only at hSw); go_simp; (try with_reducible rfl)); (try simp only [Act.put, List.setIfInBounds_toArray, List.set_cons_zero, List.set_cons_succ])
          refine wpAnyH_ready (rs := [16]) (by kernel_rfl) (by simp) ?_; refine AllReadyH.cons rfl (fun K hK => ?_) AllReadyH.nil
          go_simp
          (with_reducible refine (rest_any v _).mono ?_)
          rintro e w2 ⟨rfl, hB2⟩
          have hb2 := Below.then hb1 (Nat.le_refl _) hB2
          have RR2 := C.res.below C.res.lt hb2
          clear r0 r1 r2 f0 f1 f2
          obtain ⟨⟨u0', r0⟩, ⟨u1', r1⟩, ⟨u2', r2⟩⟩ := RR2.cells
          have f0 := RR2.frozen 0
          have f1 := RR2.frozen 1
          have f2 := RR2.frozen 2
          refine hK.out _ _ (⟨(C.keep hb2).all, cell_keep hblk.c0 hb2, cell_keep hblk.c1 hb2, cell_keep hblk.c2 hb2⟩) (fun hHeld => ?_); clear hK K; (try simp only [Act.put, List.setIfInBounds_toArray, List.set_cons_zero, List.set_cons_succ])
          refine wpAnyH_take (i := 17) (v := ?_) rfl (by kernel_rfl) (by kernel_rfl) (by kernel_rfl) (fun _ _ _ h => h) (Or.inl ⟨by kernel_rfl, ?_⟩) (by assumption) ?_; rotate_left; focus (intro w' hSw; (try dsimp only at hSw); go_simp; (try with_reducible rfl)); (try simp only [Act.put, List.setIfInBounds_toArray, List.set_cons_zero, List.set_cons_succ])
          refine wpAnyH_ready (rs := [18]) (by kernel_rfl) (by simp) ?_; refine AllReadyH.cons rfl (fun K hK => ?_) AllReadyH.nil
          go_simp
          refine hK.out _ _ (⟨(C.keep hb2).all_same (fun o => by rw [cell?_setCell_ne (by omega), cell?_setCell_ne (by omega), cell?_setCell_ne (by omega)]), by rw [cell?_setCell_ne (by omega), cell?_setCell_ne (by omega), cell?_setCell_ne (by omega)]; exact cell_keep hblk.c0 hb2, by rw [cell?_setCell_ne (by omega), cell?_setCell_ne (by omega), cell?_setCell_ne (by omega)]; exact cell_keep hblk.c1 hb2, by rw [cell?_setCell_ne (by omega), cell?_setCell_ne (by omega), cell?_setCell_ne (by omega)]; exact cell_keep hblk.c2 hb2⟩) (fun hHeld => ?_); clear hK K; (try simp only [Act.put, List.setIfInBounds_toArray, List.set_cons_zero, List.set_cons_succ])
          refine wpAnyH_take (i := 19) (v := ?_) rfl (by kernel_rfl) (by kernel_rfl) (by kernel_rfl) (fun _ _ _ h => h) (Or.inl ⟨by kernel_rfl, ?_⟩) (by assumption) ?_; rotate_left; focus (intro w' hSw; (try dsimp only at hSw); go_simp; (try with_reducible rfl)); (try simp only [Act.put, List.setIfInBounds_toArray, List.set_cons_zero, List.set_cons_succ])
          refine wpAnyH_done (by kernel_rfl) ?_ _
          have hbf := Below.then C.below (Nat.le_refl _) hb2
          go_wp2
          exact bodyPost_ret (v := .tuple #[.agg #[.bool sV, .slice aV nV cV, .slice aE nE cE], .bool v.restB]) (by simp [results, Tryz.results55, go_sem, r0, r1, r2]) rfl
            ⟨_, _, _, _, _, _, _, by rw [HI.out], fun _ => ⟨stored3 RR2 (HV.out.keep hb2), HFW.out⟩, ((hbf.setCell (Nat.le_add_right _ 1) _).setCell (Nat.le_add_right _ 1) _).setCell (Nat.le_add_right _ 1) _⟩
        · have hd0 : ((v.dn : Int) == 0) = false := by simp; exact hd
          have hI : intB v = false := by unfold intB; simp [hd]
          have HI := Lib.hid hI
          have HN := Lib.hid hN
          clear hN hI hd
          go_upto_region 4 with fail
          have hb0 : Below wc.heap.size wc wc.drew := (Below.refl _ _).drew
          refine wp_region_held_drew (S := fun w' => (w'.cell? ⟨w.heap.size, 0, none⟩ = some (.int .i64 v.kind) ∧ w'.cell? ⟨w.heap.size, 1, none⟩ = some (.bool v.truth) ∧ w'.cell? ⟨w.heap.size, 2, none⟩ = some (.string v.text) ∧ w'.cell? ⟨w.heap.size, 3, none⟩ = some (.bool v.neg) ∧ w'.cell? ⟨w.heap.size, 4, none⟩ = some (.slice v.wa v.wn v.wc) ∧ w'.cell? ⟨w.heap.size, 5, none⟩ = some (.slice v.da v.dn v.dc) ∧ w'.cell? ⟨w.heap.size, 6, none⟩ = some (.bool v.ineg) ∧ w'.cell? ⟨w.heap.size, 7, none⟩ = some (.slice v.ia v.inn v.ic) ∧ w'.cell? ⟨w.heap.size, 8, none⟩ = some (.slice v.ea v.en v.ec)) ∧ w'.cell? ⟨g, 0, none⟩ = some (.bool sV) ∧ w'.cell? ⟨g, 1, none⟩ = some (.slice aV nV cV) ∧ w'.cell? ⟨g, 2, none⟩ = some (.slice aE nE cE)) (by kernel_rfl) ⟨C.all, hblk.c0, hblk.c1, hblk.c2⟩ (fun hHeld => ?_)
          refine wpAnyH_take (i := 0) (v := ?_) rfl (by kernel_rfl) (by kernel_rfl) (by kernel_rfl) (fun _ _ _ h => h) (Or.inl ⟨by kernel_rfl, ?_⟩) (by assumption) ?_; rotate_left; focus (intro w' hSw; (try dsimp only at hSw); go_simp; (try with_reducible rfl)); (try simp only [Act.put, List.setIfInBounds_toArray, List.set_cons_zero, List.set_cons_succ])
          refine wpAnyH_take (i := 1) (v := ?_) rfl (by kernel_rfl) (by kernel_rfl) (by kernel_rfl) (fun _ _ _ h => h) (Or.inl ⟨by kernel_rfl, ?_⟩) (by assumption) ?_; rotate_left; focus (intro w' hSw; (try dsimp only at hSw); go_simp; (try with_reducible rfl)); (try simp only [Act.put, List.setIfInBounds_toArray, List.set_cons_zero, List.set_cons_succ])
          refine wpAnyH_take (i := 2) (v := ?_) rfl (by kernel_rfl) (by kernel_rfl) (by kernel_rfl) (fun _ _ _ h => h) (Or.inl ⟨by kernel_rfl, ?_⟩) (by assumption) ?_; rotate_left; focus (intro w' hSw; (try dsimp only at hSw); go_simp; (try with_reducible rfl)); (try simp only [Act.put, List.setIfInBounds_toArray, List.set_cons_zero, List.set_cons_succ])
          refine wpAnyH_take (i := 3) (v := ?_) rfl (by kernel_rfl) (by kernel_rfl) (by kernel_rfl) (fun _ _ _ h => h) (Or.inl ⟨by kernel_rfl, ?_⟩) (by assumption) ?_; rotate_left; focus (intro w' hSw; (try dsimp only at hSw); go_simp; (try with_reducible rfl)); (try simp only [Act.put, List.setIfInBounds_toArray, List.set_cons_zero, List.set_cons_succ])
          refine wpAnyH_take (i := 4) (v := ?_) rfl (by kernel_rfl) (by kernel_rfl) (by kernel_rfl) (fun _ _ _ h => h) (Or.inl ⟨by kernel_rfl, ?_⟩) (by assumption) ?_; rotate_left; focus (intro w' hSw; (try dsimp only at hSw); go_simp; (try with_reducible rfl)); (try simp only [Act.put, List.setIfInBounds_toArray, List.set_cons_zero, List.set_cons_succ])
          refine wpAnyH_take (i := 5) (v := ?_) rfl (by kernel_rfl) (by kernel_rfl) (by kernel_rfl) (fun _ _ _ h => h) (Or.inl ⟨by kernel_rfl, ?_⟩) (by assumption) ?_; rotate_left; focus (intro w' hSw; (try dsimp only at hSw); go_simp; (try with_reducible rfl)); (try simp only [Act.put, List.setIfInBounds_toArray, List.set_cons_zero, List.set_cons_succ])
          refine wpAnyH_take (i := 6) (v := ?_) rfl (by kernel_rfl) (by kernel_rfl) (by kernel_rfl) (fun _ _ _ h => h) (Or.inl ⟨by kernel_rfl, ?_⟩) (by assumption) ?_; rotate_left; focus (intro w' hSw; (try dsimp only at hSw); go_simp; (try with_reducible rfl)); (try simp only [Act.put, List.setIfInBounds_toArray, List.set_cons_zero, List.set_cons_succ])
          refine wpAnyH_ready (rs := [7]) (by kernel_rfl) (by simp) ?_; refine AllReadyH.cons rfl (fun K hK => ?_) AllReadyH.nil
          go_simp
          (with_reducible refine (isNumber_any v.neg v.wa v.wn v.wc v.wf sV aV nV cV (val W64 v.wf v.wn) _ ?_ ?_ ?_ ?_).mono ?_)
          · exact WSc.keep hb0
          · omega
          · exact hVn.keep hb0
          · omega
          rintro e w1 ⟨rfl, hB1⟩
          have hb1 := Below.then hb0 (Nat.le_refl _) hB1
          have RR := C.res.below C.res.lt hb1
          obtain ⟨⟨u0, r0⟩, ⟨u1, r1⟩, ⟨u2, r2⟩⟩ := (RR).cells; have f0 := (RR).frozen 0; have f1 := (RR).frozen 1; have f2 := (RR).frozen 2
          rw [HN.out]
          refine hK.out _ _ (⟨(C.keep hb1).all, cell_keep hblk.c0 hb1, cell_keep hblk.c1 hb1, cell_keep hblk.c2 hb1⟩) (fun hHeld => ?_); clear hK K; (try simp only [Act.put, List.setIfInBounds_toArray, List.set_cons_zero, List.set_cons_succ])
          refine wpAnyH_take (i := 8) (v := ?_) rfl (by kernel_rfl) (by kernel_rfl) (by kernel_rfl) (fun _ _ _ h => h) (Or.inl ⟨by kernel_rfl, ?_⟩) (by assumption) ?_; rotate_left; focus (intro w' hSw; (try dsimp only at hSw); go_simp; (try with_reducible rfl)); (try simp only [Act.put, List.setIfInBounds_toArray, List.set_cons_zero, List.set_cons_succ])
          refine wpAnyH_take (i := 9) (v := ?_) rfl (by kernel_rfl) (by kernel_rfl) (by kernel_rfl) (fun _ _ _ h => h) (Or.inl ⟨by kernel_rfl, ?_⟩) (by assumption) ?_; rotate_left; focus (intro w' hSw; (try dsimp only at hSw); go_simp; (try with_reducible rfl)); (try simp only [Act.put, List.setIfInBounds_toArray, List.set_cons_zero, List.set_cons_succ])
          refine wpAnyH_take (i := 10) (v := ?_) rfl (by kernel_rfl) (by kernel_rfl) (by kernel_rfl) (fun _ _ _ h => h) (Or.inl ⟨by kernel_rfl, ?_⟩) (by assumption) ?_; rotate_left; focus (intro w' hSw; (try dsimp only at hSw); go_simp; (try with_reducible rfl)); (try simp only [Act.put, List.setIfInBounds_toArray, List.set_cons_zero, List.set_cons_succ])
          refine wpAnyH_take (i := 11) (v := ?_) rfl (by kernel_rfl) (by kernel_rfl) (by kernel_rfl) (fun _ _ _ h => h) (Or.inl ⟨by kernel_rfl, ?_⟩) (by assumption) ?_; rotate_left; focus (intro w' hSw; (try dsimp only at hSw); go_simp; (try with_reducible rfl)); (try simp only [Act.put, List.setIfInBounds_toArray, List.set_cons_zero, List.set_cons_succ])
          refine wpAnyH_take (i := 12) (v := ?_) rfl (by kernel_rfl) (by kernel_rfl) (by kernel_rfl) (fun _ _ _ h => h) (Or.inl ⟨by kernel_rfl, ?_⟩) (by assumption) ?_; rotate_left; focus (intro w' hSw; (try dsimp only at hSw); go_simp; (try with_reducible rfl)); (try simp only [Act.put, List.setIfInBounds_toArray, List.set_cons_zero, List.set_cons_succ])
          refine wpAnyH_take (i := 13) (v := ?_) rfl (by kernel_rfl) (by kernel_rfl) (by kernel_rfl) (fun _ _ _ h => h) (Or.inl ⟨by kernel_rfl, ?_⟩) (by assumption) ?_; rotate_left; focus (intro w' hSw; (try dsimp only at hSw); go_simp; (try with_reducible rfl)); (try simp only [Act.put, List.setIfInBounds_toArray, List.set_cons_zero, List.set_cons_succ])
          refine wpAnyH_take (i := 14) (v := ?_) rfl (by kernel_rfl) (by kernel_rfl) (by kernel_rfl) (fun _ _ _ h => h) (Or.inl ⟨by kernel_rfl, ?_⟩) (by assumption) ?_; rotate_left; focus (intro w' hSw; (try dsimp only at hSw); go_simp; (try with_reducible rfl)); (try simp only [Act.put, List.setIfInBounds_toArray, List.set_cons_zero, List.set_cons_succ])
          refine wpAnyH_take (i := 15) (v := undef) rfl (by kernel_rfl) (by kernel_rfl) (by kernel_rfl) (fun _ _ _ h => h) (Or.inr ⟨by kernel_rfl, rfl⟩) (by assumption) ?_; (try simp only [Act.put, List.setIfInBounds_toArray, List.set_cons_zero, List.set_cons_succ])
          refine wpAnyH_take (i := 16) (v := undef) rfl (by kernel_rfl) (by kernel_rfl) (by kernel_rfl) (fun _ _ _ h => h) (Or.inr ⟨by kernel_rfl, rfl⟩) (by assumption) ?_; (try simp only [Act.put, List.setIfInBounds_toArray, List.set_cons_zero, List.set_cons_succ])
          refine wpAnyH_take (i := 17) (v := ?_) rfl (by kernel_rfl) (by kernel_rfl) (by kernel_rfl) (fun _ _ _ h => h) (Or.inl ⟨by kernel_rfl, ?_⟩) (by assumption) ?_; rotate_left; focus (intro w' hSw; (try dsimp only at hSw); go_simp; (try with_reducible rfl)); (try simp only [Act.put, List.setIfInBounds_toArray, List.set_cons_zero, List.set_cons_succ])
          refine wpAnyH_ready (rs := [18]) (by kernel_rfl) (by simp) ?_; refine AllReadyH.cons rfl (fun K hK => ?_) AllReadyH.nil
          go_simp
          refine hK.out _ _ (⟨(C.keep hb1).all_same (fun o => by rw [cell?_setCell_ne (by omega), cell?_setCell_ne (by omega), cell?_setCell_ne (by omega)]), by rw [cell?_setCell_ne (by omega), cell?_setCell_ne (by omega), cell?_setCell_ne (by omega)]; exact cell_keep hblk.c0 hb1, by rw [cell?_setCell_ne (by omega), cell?_setCell_ne (by omega), cell?_setCell_ne (by omega)]; exact cell_keep hblk.c1 hb1, by rw [cell?_setCell_ne (by omega), cell?_setCell_ne (by omega), cell?_setCell_ne (by omega)]; exact cell_keep hblk.c2 hb1⟩) (fun hHeld => ?_); clear hK K; (try simp only [Act.put, List.setIfInBounds_toArray, List.set_cons_zero, List.set_cons_succ])
          refine wpAnyH_take (i := 19) (v := ?_) rfl (by kernel_rfl) (by kernel_rfl) (by kernel_rfl) (fun _ _ _ h => h) (Or.inl ⟨by kernel_rfl, ?_⟩) (by assumption) ?_; rotate_left; focus (intro w' hSw; (try dsimp only at hSw); go_simp; (try with_reducible rfl)); (try simp only [Act.put, List.setIfInBounds_toArray, List.set_cons_zero, List.set_cons_succ])
          refine wpAnyH_done (by kernel_rfl) ?_ _
          have hbf := Below.then C.below (Nat.le_refl _) hb1
          go_wp2
          exact bodyPost_ret (v := .tuple #[.agg #[.bool sV, .slice aV nV cV, .slice aE nE cE], .bool false]) (by simp [results, Tryz.results55, go_sem, r0, r1, r2]) rfl
            ⟨_, _, _, _, _, _, _, by rw [HI.out], fun h => (by rw [HI.out] at h; cases h), ((hbf.setCell (Nat.le_add_right _ 1) _).setCell (Nat.le_add_right _ 1) _).setCell (Nat.le_add_right _ 1) _⟩
      · have hN : isNumB v.neg v.wf v.wn sV (val W64 v.wf v.wn) = false := by simpa using hN
        have hI : intB v = false := by unfold intB; rw [← HVS.out, hN]; simp
        have HI := Lib.hid hI
        have HN := Lib.hid hN
        clear hN hI
        go_upto_region 4 with fail
        have hb0 : Below wc.heap.size wc wc.drew := (Below.refl _ _).drew
        refine wp_region_held_drew (S := fun w' => (w'.cell? ⟨w.heap.size, 0, none⟩ = some (.int .i64 v.kind) ∧ w'.cell? ⟨w.heap.size, 1, none⟩ = some (.bool v.truth) ∧ w'.cell? ⟨w.heap.size, 2, none⟩ = some (.string v.text) ∧ w'.cell? ⟨w.heap.size, 3, none⟩ = some (.bool v.neg) ∧ w'.cell? ⟨w.heap.size, 4, none⟩ = some (.slice v.wa v.wn v.wc) ∧ w'.cell? ⟨w.heap.size, 5, none⟩ = some (.slice v.da v.dn v.dc) ∧ w'.cell? ⟨w.heap.size, 6, none⟩ = some (.bool v.ineg) ∧ w'.cell? ⟨w.heap.size, 7, none⟩ = some (.slice v.ia v.inn v.ic) ∧ w'.cell? ⟨w.heap.size, 8, none⟩ = some (.slice v.ea v.en v.ec)) ∧ w'.cell? ⟨g, 0, none⟩ = some (.bool sV) ∧ w'.cell? ⟨g, 1, none⟩ = some (.slice aV nV cV) ∧ w'.cell? ⟨g, 2, none⟩ = some (.slice aE nE cE)) (by kernel_rfl) ⟨C.all, hblk.c0, hblk.c1, hblk.c2⟩ (fun hHeld => ?_)
        refine wpAnyH_take (i := 0) (v := ?_) rfl (by kernel_rfl) (by kernel_rfl) (by kernel_rfl) (fun _ _ _ h => h) (Or.inl ⟨by kernel_rfl, ?_⟩) (by assumption) ?_; rotate_left; focus (intro w' hSw; (try dsimp only at hSw); go_simp; (try with_reducible rfl)); (try simp only [Act.put, List.setIfInBounds_toArray, List.set_cons_zero, List.set_cons_succ])
        refine wpAnyH_take (i := 1) (v := ?_) rfl (by kernel_rfl) (by kernel_rfl) (by kernel_rfl) (fun _ _ _ h => h) (Or.inl ⟨by kernel_rfl, ?_⟩) (by assumption) ?_; rotate_left; focus (intro w' hSw; (try dsimp only at hSw); go_simp; (try with_reducible rfl)); (try simp only [Act.put, List.setIfInBounds_toArray, List.set_cons_zero, List.set_cons_succ])
        refine wpAnyH_take (i := 2) (v := ?_) rfl (by kernel_rfl) (by kernel_rfl) (by kernel_rfl) (fun _ _ _ h => h) (Or.inl ⟨by kernel_rfl, ?_⟩) (by assumption) ?_; rotate_left; focus (intro w' hSw; (try dsimp only at hSw); go_simp; (try with_reducible rfl)); (try simp only [Act.put, List.setIfInBounds_toArray, List.set_cons_zero, List.set_cons_succ])
        refine wpAnyH_take (i := 3) (v := ?_) rfl (by kernel_rfl) (by kernel_rfl) (by kernel_rfl) (fun _ _ _ h => h) (Or.inl ⟨by kernel_rfl, ?_⟩) (by assumption) ?_; rotate_left; focus (intro w' hSw; (try dsimp only at hSw); go_simp; (try with_reducible rfl)); (try simp only [Act.put, List.setIfInBounds_toArray, List.set_cons_zero, List.set_cons_succ])
        refine wpAnyH_take (i := 4) (v := ?_) rfl (by kernel_rfl) (by kernel_rfl) (by kernel_rfl) (fun _ _ _ h => h) (Or.inl ⟨by kernel_rfl, ?_⟩) (by assumption) ?_; rotate_left; focus (intro w' hSw; (try dsimp only at hSw); go_simp; (try with_reducible rfl)); (try simp only [Act.put, List.setIfInBounds_toArray, List.set_cons_zero, List.set_cons_succ])
        refine wpAnyH_take (i := 5) (v := ?_) rfl (by kernel_rfl) (by kernel_rfl) (by kernel_rfl) (fun _ _ _ h => h) (Or.inl ⟨by kernel_rfl, ?_⟩) (by assumption) ?_; rotate_left; focus (intro w' hSw; (try dsimp only at hSw); go_simp; (try with_reducible rfl)); (try simp only [Act.put, List.setIfInBounds_toArray, List.set_cons_zero, List.set_cons_succ])
        refine wpAnyH_take (i := 6) (v := ?_) rfl (by kernel_rfl) (by kernel_rfl) (by kernel_rfl) (fun _ _ _ h => h) (Or.inl ⟨by kernel_rfl, ?_⟩) (by assumption) ?_; rotate_left; focus (intro w' hSw; (try dsimp only at hSw); go_simp; (try with_reducible rfl)); (try simp only [Act.put, List.setIfInBounds_toArray, List.set_cons_zero, List.set_cons_succ])
        refine wpAnyH_ready (rs := [7]) (by kernel_rfl) (by simp) ?_; refine AllReadyH.cons rfl (fun K hK => ?_) AllReadyH.nil
        go_simp
        (with_reducible refine (isNumber_any v.neg v.wa v.wn v.wc v.wf sV aV nV cV (val W64 v.wf v.wn) _ ?_ ?_ ?_ ?_).mono ?_)
        · exact WSc.keep hb0
        · omega
        · exact hVn.keep hb0
        · omega
        rintro e w1 ⟨rfl, hB1⟩
        have hb1 := Below.then hb0 (Nat.le_refl _) hB1
        have RR := C.res.below C.res.lt hb1
        obtain ⟨⟨u0, r0⟩, ⟨u1, r1⟩, ⟨u2, r2⟩⟩ := (RR).cells; have f0 := (RR).frozen 0; have f1 := (RR).frozen 1; have f2 := (RR).frozen 2
        rw [HN.out]
        refine hK.out _ _ (⟨(C.keep hb1).all, cell_keep hblk.c0 hb1, cell_keep hblk.c1 hb1, cell_keep hblk.c2 hb1⟩) (fun hHeld => ?_); clear hK K; (try simp only [Act.put, List.setIfInBounds_toArray, List.set_cons_zero, List.set_cons_succ])
        refine wpAnyH_take (i := 8) (v := ?_) rfl (by kernel_rfl) (by kernel_rfl) (by kernel_rfl) (fun _ _ _ h => h) (Or.inl ⟨by kernel_rfl, ?_⟩) (by assumption) ?_; rotate_left; focus (intro w' hSw; (try dsimp only at hSw); go_simp; (try with_reducible rfl)); (try simp only [Act.put, List.setIfInBounds_toArray, List.set_cons_zero, List.set_cons_succ])
        refine wpAnyH_take (i := 9) (v := undef) rfl (by kernel_rfl) (by kernel_rfl) (by kernel_rfl) (fun _ _ _ h => h) (Or.inr ⟨by kernel_rfl, rfl⟩) (by assumption) ?_; (try simp only [Act.put, List.setIfInBounds_toArray, List.set_cons_zero, List.set_cons_succ])
        refine wpAnyH_take (i := 10) (v := undef) rfl (by kernel_rfl) (by kernel_rfl) (by kernel_rfl) (fun _ _ _ h => h) (Or.inr ⟨by kernel_rfl, rfl⟩) (by assumption) ?_; (try simp only [Act.put, List.setIfInBounds_toArray, List.set_cons_zero, List.set_cons_succ])
        refine wpAnyH_take (i := 11) (v := undef) rfl (by kernel_rfl) (by kernel_rfl) (by kernel_rfl) (fun _ _ _ h => h) (Or.inr ⟨by kernel_rfl, rfl⟩) (by assumption) ?_; (try simp only [Act.put, List.setIfInBounds_toArray, List.set_cons_zero, List.set_cons_succ])
        refine wpAnyH_take (i := 12) (v := undef) rfl (by kernel_rfl) (by kernel_rfl) (by kernel_rfl) (fun _ _ _ h => h) (Or.inr ⟨by kernel_rfl, rfl⟩) (by assumption) ?_; (try simp only [Act.put, List.setIfInBounds_toArray, List.set_cons_zero, List.set_cons_succ])
        refine wpAnyH_take (i := 13) (v := ?_) rfl (by kernel_rfl) (by kernel_rfl) (by kernel_rfl) (fun _ _ _ h => h) (Or.inl ⟨by kernel_rfl, ?_⟩) (by assumption) ?_; rotate_left; focus (intro w' hSw; (try dsimp only at hSw); go_simp; (try with_reducible rfl)); (try simp only [Act.put, List.setIfInBounds_toArray, List.set_cons_zero, List.set_cons_succ])
        refine wpAnyH_take (i := 14) (v := ?_) rfl (by kernel_rfl) (by kernel_rfl) (by kernel_rfl) (fun _ _ _ h => h) (Or.inl ⟨by kernel_rfl, ?_⟩) (by assumption) ?_; rotate_left; focus (intro w' hSw; (try dsimp only at hSw); go_simp; (try with_reducible rfl)); (try simp only [Act.put, List.setIfInBounds_toArray, List.set_cons_zero, List.set_cons_succ])
        refine wpAnyH_take (i := 15) (v := undef) rfl (by kernel_rfl) (by kernel_rfl) (by kernel_rfl) (fun _ _ _ h => h) (Or.inr ⟨by kernel_rfl, rfl⟩) (by assumption) ?_; (try simp only [Act.put, List.setIfInBounds_toArray, List.set_cons_zero, List.set_cons_succ])
        refine wpAnyH_take (i := 16) (v := undef) rfl (by kernel_rfl) (by kernel_rfl) (by kernel_rfl) (fun _ _ _ h => h) (Or.inr ⟨by kernel_rfl, rfl⟩) (by assumption) ?_; (try simp only [Act.put, List.setIfInBounds_toArray, List.set_cons_zero, List.set_cons_succ])
        refine wpAnyH_take (i := 17) (v := ?_) rfl (by kernel_rfl) (by kernel_rfl) (by kernel_rfl) (fun _ _ _ h => h) (Or.inl ⟨by kernel_rfl, ?_⟩) (by assumption) ?_; rotate_left; focus (intro w' hSw; (try dsimp only at hSw); go_simp; (try with_reducible rfl)); (try simp only [Act.put, List.setIfInBounds_toArray, List.set_cons_zero, List.set_cons_succ])
        refine wpAnyH_ready (rs := [18]) (by kernel_rfl) (by simp) ?_; refine AllReadyH.cons rfl (fun K hK => ?_) AllReadyH.nil
        go_simp
        refine hK.out _ _ (⟨(C.keep hb1).all_same (fun o => by rw [cell?_setCell_ne (by omega), cell?_setCell_ne (by omega), cell?_setCell_ne (by omega)]), by rw [cell?_setCell_ne (by omega), cell?_setCell_ne (by omega), cell?_setCell_ne (by omega)]; exact cell_keep hblk.c0 hb1, by rw [cell?_setCell_ne (by omega), cell?_setCell_ne (by omega), cell?_setCell_ne (by omega)]; exact cell_keep hblk.c1 hb1, by rw [cell?_setCell_ne (by omega), cell?_setCell_ne (by omega), cell?_setCell_ne (by omega)]; exact cell_keep hblk.c2 hb1⟩) (fun hHeld => ?_); clear hK K; (try simp only [Act.put, List.setIfInBounds_toArray, List.set_cons_zero, List.set_cons_succ])
        refine wpAnyH_take (i := 19) (v := ?_) rfl (by kernel_rfl) (by kernel_rfl) (by kernel_rfl) (fun _ _ _ h => h) (Or.inl ⟨by kernel_rfl, ?_⟩) (by assumption) ?_; rotate_left; focus (intro w' hSw; (try dsimp only at hSw); go_simp; (try with_reducible rfl)); (try simp only [Act.put, List.setIfInBounds_toArray, List.set_cons_zero, List.set_cons_succ])
        refine wpAnyH_done (by kernel_rfl) ?_ _
        have hbf := Below.then C.below (Nat.le_refl _) hb1
        go_wp2
        exact bodyPost_ret (v := .tuple #[.agg #[.bool sV, .slice aV nV cV, .slice aE nE cE], .bool false]) (by simp [results, Tryz.results55, go_sem, r0, r1, r2]) rfl
          ⟨_, _, _, _, _, _, _, by rw [HI.out], fun h => (by rw [HI.out] at h; cases h), ((hbf.setCell (Nat.le_add_right _ 1) _).setCell (Nat.le_add_right _ 1) _).setCell (Nat.le_add_right _ 1) _⟩
  · have hkb : (v.kind != 3) = true := by simp; exact hk
    have hI : intB v = false := by unfold intB; simp [hk]
    have HI := Lib.hid hI
    have hb := ((Below.refl w.heap.size w).alloc (Nat.le_refl _) (.cells #[.int .i64 v.kind, .bool v.truth, .string v.text, .bool v.neg, .slice v.wa v.wn v.wc, .slice v.da v.dn v.dc, .bool v.ineg, .slice v.ia v.inn v.ic, .slice v.ea v.en v.ec] 26)).alloc (by simp) (.cells #[.bool false, .slice none 0 0, .slice none 0 0] 31)
    have HB := Lib.hid hb
    clear hk hI hb
    go_enter Tryz.func55, Tryz.ntmps55
    go_wp2
    exact bodyPost_ret (v := .tuple #[.agg #[.bool false, .slice none 0 0, .slice none 0 0], .bool false]) (by simp [results, Tryz.results55, go_sem]) rfl
      ⟨_, _, _, _, _, _, _, by rw [HI.out], fun h => (by rw [HI.out] at h; cases h), HB.out⟩
theorem lawWhole_new (v : Vl) (k : Nat) (w : World) (h : VlAt w v) (hk : k ≤ 1000) :
    Calls Tryz.prog 24 #[.agg #[.int .i64 v.kind, .bool v.truth, .string v.text, .bool v.neg, .slice v.wa v.wn v.wc, .slice v.da v.dn v.dc, .bool v.ineg, .slice v.ia v.inn v.ic, .slice v.ea v.en v.ec], .int .i64 k] w (ReadsW (wholeB v k) (Rt.whole v.neg (val W64 v.wf v.wn)) (4 * v.wn + 1) w) := by
  by_cases hn : v.wn ≤ k
  · obtain ⟨W0, hW0⟩ : ∃ W0, W0 = (w.alloc (.cells #[.int .i64 v.kind, .bool v.truth, .string v.text, .bool v.neg, .slice v.wa v.wn v.wc, .slice v.da v.dn v.dc, .bool v.ineg, .slice v.ia v.inn v.ic, .slice v.ea v.en v.ec] 26)).alloc (.cells #[.bool false, .slice none 0 0, .slice none 0 0] 31) := ⟨_, rfl⟩
    have I := integerW w v 26 31
    rw [← hW0] at I
    have HW := Lib.hid hW0
    have HI := Lib.hid (show wholeB v k = intB v from by unfold wholeB; simp [hn])
    have HV := Lib.hid (h.keep I.below)
    clear hW0 h
    go_enter Tryz.func24, Tryz.ntmps24
    go_upto_region 3 with fail
    rw [← HW.out]
    obtain ⟨c0, c1, c2, c3, c4, c5, c6, c7, c8⟩ := I.all
    go_wp2_with fail
    refine (integer_new v _ HV.out (by omega)).mono ?_
    rintro e w1 ⟨sV, aV, nV, cV, aE, nE, cE, rfl, hR, hB1⟩
    have RR := I.res.below I.res.lt hB1
    obtain ⟨⟨u0, r0⟩, ⟨u1, r1⟩, ⟨u2, r2⟩⟩ := (RR).cells; have f0 := (RR).frozen 0; have f1 := (RR).frozen 1; have f2 := (RR).frozen 2
    have hbf := Below.then I.below (Nat.le_refl _) hB1
    clear c0 c1 c2 c3 c4 c5 c6 c7 c8
    go_wp2
    exact bodyPost_ret (v := .tuple #[.agg #[.bool sV, .slice aV nV cV, .slice aE nE cE], .bool (intB v)]) (by simp [results, Tryz.results24, go_sem, r0, r1, r2]) rfl
      ⟨_, _, _, _, _, _, _, by rw [HI.out], fun hb => ⟨stored3 RR (hR (by rw [← HI.out]; exact hb)).1, (hR (by rw [← HI.out]; exact hb)).2.1.le I.below.size, (hR (by rw [← HI.out]; exact hb)).2.2.le I.below.size⟩, ((hbf.setCell (Nat.le_add_right _ 1) _).setCell (Nat.le_add_right _ 1) _).setCell (Nat.le_add_right _ 1) _⟩
  · have HI := Lib.hid (show wholeB v k = false from by unfold wholeB; simp [hn])
    have hb := ((Below.refl w.heap.size w).alloc (Nat.le_refl _) (.cells #[.int .i64 v.kind, .bool v.truth, .string v.text, .bool v.neg, .slice v.wa v.wn v.wc, .slice v.da v.dn v.dc, .bool v.ineg, .slice v.ia v.inn v.ic, .slice v.ea v.en v.ec] 26)).alloc (by simp) (.cells #[.bool false, .slice none 0 0, .slice none 0 0] 31)
    have HB := Lib.hid hb
    clear hb
    go_enter Tryz.func24, Tryz.ntmps24
    go_wp2
    exact bodyPost_ret (v := .tuple #[.agg #[.bool false, .slice none 0 0, .slice none 0 0], .bool false]) (by simp [results, Tryz.results24, go_sem]) rfl
      ⟨_, _, _, _, _, _, _, by rw [HI.out], fun h => (by rw [HI.out] at h; cases h), HB.out⟩
theorem fraction_new (s : Bool) (a : Option Addr) (n c : Nat) (f : Nat → Nat) (a' : Option Addr) (n' c' : Nat) (f' : Nat → Nat) (L : Nat) (w : World) (h : WordsAt w a n c f) (h' : WordsAt w a' n' c' f') (hn : 4 * n ≤ L) (hn' : 4 * n' ≤ L) (hL : L ≤ 4000) :
    Calls Tryz.prog 69 #[.agg #[.bool s, .slice a n c], .slice a' n' c'] w (ReadsW (fracB s f n f' n') (frt s f n f' n') L w) := by
  obtain ⟨W0, hW0⟩ : ∃ W0, W0 = (w.alloc (.cells #[.bool s, .slice a n c] 24)).alloc (.cells #[.bool false, .slice none 0 0, .slice none 0 0] 31) := ⟨_, rfl⟩
  have HW := Lib.hid hW0
  have hbW : Below w.heap.size w W0 := by rw [hW0]; exact Below.alloc' (Below.alloc' (Below.refl _ _) _) _
  have R : ResBlk W0 (w.heap.size + 1) := by rw [hW0]; exact ResBlk.new _ _ (by simp)
  have k0 : W0.cell? ⟨w.heap.size, 0, none⟩ = some (.bool s) := by rw [hW0]; exact alloc_keep _ _ (alloc_new _ _ _ rfl rfl)
  have k1 : W0.cell? ⟨w.heap.size, 1, none⟩ = some (.slice a n c) := by rw [hW0]; exact alloc_keep _ _ (alloc_new _ _ _ rfl rfl)
  have WS := Lib.hid (show ∀ W', Below W0.heap.size W0 W' → WordsAt W' a n c f from fun W' hb => (h.keep hbW).keep hb)
  have WS' := Lib.hid (show ∀ W', Below W0.heap.size W0 W' → WordsAt W' a' n' c' f' from fun W' hb => (h'.keep hbW).keep hb)
  have HN := Lib.hid (val_L h.lt L hn)
  have HD := Lib.hid (val_L h'.lt L hn')
  clear hW0 h h'
  go_enter Tryz.func69, Tryz.ntmps69
  go_upto_region 1 with fail
  rw [← HW.out]
  go_cut [6] (fun s6 wx => ∃ g aO nO cO aD nD cD, s6 = .pointer (some ⟨g, 0, none⟩) ∧ RtBlk wx g s aO nO cO aD nD cD ∧ RtAt wx s aO nO cO aD nD cD (frt s f n f' n') L ∧ W0.heap.size ≤ g ∧ (Fr W0.heap.size aO ∧ Fr W0.heap.size aD) ∧ Below W0.heap.size W0 wx)
  case first =>
    have hI := R.lt
    have hb0 : Below W0.heap.size W0 W0.drew := (Below.refl _ _).drew
    go_region_held3 (fun w' => w'.cell? ⟨w.heap.size, 0, none⟩ = some (.bool s) ∧ w'.cell? ⟨w.heap.size, 1, none⟩ = some (.slice a n c))
      (first | exact ⟨k0, k1⟩ | exact ⟨cell_keep k0 (by assumption), cell_keep k1 (by assumption)⟩ | exact ⟨cell_keep k0 (Below.alloc' (by assumption) _), cell_keep k1 (Below.alloc' (by assumption) _)⟩ | (refine ⟨?_, ?_⟩ <;> (rw [cell?_setCell_ne (by omega), cell?_setCell_ne (by omega), cell?_setCell_ne (by omega)]) <;> first | exact cell_keep k0 (by assumption) | exact cell_keep k1 (by assumption)))
      (first | (go_at_call 60; (with_reducible refine (of_new a n c f _ ?_ ?_ ?_).mono ?_); exact (WS.out _ (by first | exact hb0 | exact Below.alloc' hb0 _)).cells; exact (WS.out _ hb0).lt; omega; rintro e w1 ⟨aO, nO, cO, rfl, hO, hFO, hB1⟩; have hFO2 : Fr W0.heap.size aO := hFO.le (by first | exact hb0.size | exact (Below.alloc' hb0 _).size); have hb1 := Below.then (by first | exact hb0 | exact Below.alloc' hb0 _) (Nat.le_refl _) hB1; have hz1 := hb1.size; try (have RR : ResBlk w1 W0.heap.size := (ResBlk.alloc W0.drew 31).below (by simp) hB1)) | (go_at_call 60; (with_reducible refine (of_new a' n' c' f' _ ?_ ?_ ?_).mono ?_); exact (WS'.out _ (by first | exact hb1 | exact Below.alloc' hb1 _)).cells; exact (WS'.out _ hb0).lt; omega; rintro e w2 ⟨aD, nD, cD, rfl, hD, hFD, hB2⟩; have hFV : Fr W0.heap.size aO ∧ Fr W0.heap.size aD := ⟨hFO2, hFD.le (by first | exact hb1.size | exact (Below.alloc' hb1 _).size)⟩; have hb2 := Below.then (by first | exact hb1 | exact Below.alloc' hb1 _) (Nat.le_refl _) hB2; have hz2 := hb2.size; have hV : RtAt w2 s aO nO cO aD nD cD (frt s f n f' n') L := ⟨rfl, by first | exact hO.keep hB2 | exact (hO.keep ((Below.refl _ _).alloc (Nat.le_refl _) _)).keep hB2, hD, HN.out, HD.out⟩; try (first | (have RV : ResBlk w2 W0.heap.size := RR.below RR.lt hB2; obtain ⟨⟨u0, r0⟩, ⟨u1, r1⟩, ⟨u2, r2⟩⟩ := (RV).cells; have f0 := (RV).frozen 0; have f1 := (RV).frozen 1; have f2 := (RV).frozen 2) | (have RV : ResBlk w2 w1.heap.size := (ResBlk.alloc w1 31).below (by simp) hB2; obtain ⟨⟨u0, r0⟩, ⟨u1, r1⟩, ⟨u2, r2⟩⟩ := (RV).cells; have f0 := (RV).frozen 0; have f1 := (RV).frozen 1; have f2 := (RV).frozen 2))))
    all_goals (go_wp2_with fail; go_meet; first | exact ⟨_, _, _, _, _, _, _, rfl, rtBlk_new w2 _ _ _ _ _ _ _ _, hV.keep ((Below.refl _ _).alloc (Nat.le_refl _) _), hz2, hFV, Below.alloc' hb2 _⟩ | exact ⟨_, _, _, _, _, _, _, rfl, rtBlk_stored RV _ _ _ _ _ _ _, stored3 RV hV, Nat.le_refl _, hFV, ((hb2.setCell (Nat.le_refl _) _).setCell (Nat.le_refl _) _).setCell (Nat.le_refl _) _⟩ | exact ⟨_, _, _, _, _, _, _, rfl, rtBlk_stored RV _ _ _ _ _ _ _, stored3 RV hV, hz1, hFV, ((hb2.setCell hz1 _).setCell hz1 _).setCell hz1 _⟩)
  case rest =>
    obtain ⟨g, aO, nO, cO, aD, nD, cD, rfl, hblk, hV, hg, hFW, hbw⟩ := hcut
    have HFW := Lib.hid (⟨hFW.1.le hbW.size, hFW.2.le hbW.size⟩ : Fr w.heap.size aO ∧ Fr w.heap.size aD)
    clear hFW
    have hgt : w.heap.size + 1 < g := Nat.lt_of_lt_of_le R.lt hg
    have RC := R.below R.lt hbw
    have K0 := cell_keep k0 hbw
    have K1 := cell_keep k1 hbw
    have WSc := WS.out _ hbw
    have WSd := WS'.out _ hbw
    have hlN := hV.n_le
    have hlD := hV.d_le
    have hbf := Below.then hbW (Nat.le_refl _) hbw
    have hp := natAt_pos_len hV.den
    have HV := Lib.hid hV
    have HSE := Lib.hid (show (frt s f n f' n').num = val W64 f n ∧ (frt s f n f' n').den = val W64 f' n' ∧ (frt s f n f' n').neg = s from ⟨rfl, rfl, rfl⟩)
    clear hbw WS WS' k0 k1 R hV HW hbW
    obtain ⟨⟨u0, r0⟩, ⟨u1, r1⟩, ⟨u2, r2⟩⟩ := (RC).cells; have f0 := (RC).frozen 0; have f1 := (RC).frozen 1; have f2 := (RC).frozen 2
    obtain ⟨v0, v1, v2⟩ := hblk
    cases hD0 : decide (0 < val W64 f' n')
    · have hl0 : nD = 0 := by
        rw [HSE.out.2.1, hD0] at hp
        simpa using hp
      have HB := Lib.hid (show fracB s f n f' n' = false from by unfold fracB; rw [hD0]; rfl)
      clear hD0 hp
      subst hl0
      go_wp2
      exact bodyPost_ret (v := .tuple #[.agg #[.bool false, .slice none 0 0, .slice none 0 0], .bool false]) (by simp [results, Tryz.results69, go_sem, r0, r1, r2]) rfl
        ⟨_, _, _, _, _, _, _, by rw [HB.out], fun h => (by rw [HB.out] at h; cases h), ((hbf.setCell (Nat.le_add_right _ 1) _).setCell (Nat.le_add_right _ 1) _).setCell (Nat.le_add_right _ 1) _⟩
    · have hl0 : ((nD : Int) == 0) = false := by
        rw [HSE.out.2.1, hD0] at hp
        simp at hp ⊢; omega
      have HD0 := Lib.hid hD0
      clear hD0 hp
      cases hN : isNumB s f n s (val W64 f n)
      · have HB := Lib.hid (show fracB s f n f' n' = false from by unfold fracB; rw [hN]; simp)
        have HNB := Lib.hid hN
        clear hN
        go_wp2_with fail
        refine (isNumber_any s a n c f s aO nO cO (val W64 f n) _ WSc (by omega) HV.out.num (by omega)).mono ?_
        rintro e w1 ⟨rfl, hB1⟩
        rw [HNB.out]
        have RC1 := RC.below RC.lt hB1
        clear r0 r1 r2 f0 f1 f2
        obtain ⟨⟨u0', r0⟩, ⟨u1', r1⟩, ⟨u2', r2⟩⟩ := RC1.cells
        have f0 := RC1.frozen 0
        have f1 := RC1.frozen 1
        have f2 := RC1.frozen 2
        have hbg := Below.then hbf (Nat.le_refl _) hB1
        go_wp2
        exact bodyPost_ret (v := .tuple #[.agg #[.bool false, .slice none 0 0, .slice none 0 0], .bool false]) (by simp [results, Tryz.results69, go_sem, r0, r1, r2]) rfl
          ⟨_, _, _, _, _, _, _, by rw [HB.out], fun h => (by rw [HB.out] at h; cases h), ((hbg.setCell (Nat.le_add_right _ 1) _).setCell (Nat.le_add_right _ 1) _).setCell (Nat.le_add_right _ 1) _⟩
      · have HNB := Lib.hid hN
        clear hN
        cases hH : hasW f' n' (val W64 f' n')
        · have HB := Lib.hid (show fracB s f n f' n' = false from by unfold fracB; rw [hH]; simp)
          have HHB := Lib.hid hH
          clear hH
          go_wp2_with fail
          refine (isNumber_any s a n c f s aO nO cO (val W64 f n) _ WSc (by omega) HV.out.num (by omega)).mono ?_
          rintro e w1 ⟨rfl, hB1⟩
          rw [HNB.out]
          have V2' := cell_keep v2 hB1
          clear r0 r1 r2 f0 f1 f2
          have RC1 := RC.below RC.lt hB1
          have hbg := Below.then hbf (Nat.le_refl _) hB1
          go_wp2_with fail
          refine (hasWords_any a' aD n' c' nD cD (val W64 f' n') f' _ (WSd.keep hB1).cells WSd.lt (by omega) (HV.out.den.keep hB1) (by omega)).mono ?_
          rintro e w2 ⟨rfl, hB2⟩
          rw [HHB.out]
          have RC2 := RC1.below RC1.lt hB2
          obtain ⟨⟨u0', r0⟩, ⟨u1', r1⟩, ⟨u2', r2⟩⟩ := RC2.cells
          have f0 := RC2.frozen 0
          have f1 := RC2.frozen 1
          have f2 := RC2.frozen 2
          have hbh := Below.then hbg (Nat.le_refl _) hB2
          go_wp2
          exact bodyPost_ret (v := .tuple #[.agg #[.bool false, .slice none 0 0, .slice none 0 0], .bool false]) (by simp [results, Tryz.results69, go_sem, r0, r1, r2]) rfl
            ⟨_, _, _, _, _, _, _, by rw [HB.out], fun h => (by rw [HB.out] at h; cases h), ((hbh.setCell (Nat.le_add_right _ 1) _).setCell (Nat.le_add_right _ 1) _).setCell (Nat.le_add_right _ 1) _⟩
        · have HB := Lib.hid (show fracB s f n f' n' = decide (Nat.gcd (val W64 f n) (val W64 f' n') = 1) from by unfold fracB; rw [HD0.out, HNB.out, hH]; simp)
          have HHB := Lib.hid hH
          clear hH
          go_wp2_with fail
          refine (isNumber_any s a n c f s aO nO cO (val W64 f n) _ WSc (by omega) HV.out.num (by omega)).mono ?_
          rintro e w1 ⟨rfl, hB1⟩
          rw [HNB.out]
          have V2' := cell_keep v2 hB1
          clear r0 r1 r2 f0 f1 f2
          have RC1 := RC.below RC.lt hB1
          have hbg := Below.then hbf (Nat.le_refl _) hB1
          go_wp2_with fail
          refine (hasWords_any a' aD n' c' nD cD (val W64 f' n') f' _ (WSd.keep hB1).cells WSd.lt (by omega) (HV.out.den.keep hB1) (by omega)).mono ?_
          rintro e w2 ⟨rfl, hB2⟩
          rw [HHB.out]
          have RC2 := RC1.below RC1.lt hB2
          have hbh := Below.then hbg (Nat.le_refl _) hB2
          have HV2 := Lib.hid ((HV.out.keep hB1).keep hB2)
          have z0 := cell_keep (cell_keep v0 hB1) hB2
          have z1 := cell_keep (cell_keep v1 hB1) hB2
          have z2 := cell_keep (cell_keep v2 hB1) hB2
          have HZ := Lib.hid (cmpI_zero (Nat.gcd (val W64 f n) (val W64 f' n')) 1)
          clear v0 v1 v2 V2' K0 K1
          go_upto_region 4 with fail
          have hb0 : Below w2.heap.size w2 w2.drew := (Below.refl _ _).drew
          go_region_held3 (fun w' => w'.cell? ⟨g, 0, none⟩ = some (.bool s) ∧ w'.cell? ⟨g, 1, none⟩ = some (.slice aO nO cO) ∧ w'.cell? ⟨g, 2, none⟩ = some (.slice aD nD cD))
            (first | exact ⟨z0, z1, z2⟩ | exact ⟨cell_keep z0 (by assumption), cell_keep z1 (by assumption), cell_keep z2 (by assumption)⟩ | (refine ⟨?_, ?_, ?_⟩ <;> (rw [cell?_setCell_ne (by omega), cell?_setCell_ne (by omega), cell?_setCell_ne (by omega)]) <;> first | exact cell_keep z0 (by assumption) | exact cell_keep z1 (by assumption) | exact cell_keep z2 (by assumption)))
            (first | (go_at_call 114; (with_reducible refine (gcd_any aO aD nO nD cO cD (val W64 f n) (val W64 f' n') _ ?_ ?_ ?_ ?_).mono ?_); exact (HV2.out.keep hb0).num; exact (HV2.out.keep hb0).den; omega; omega; rintro e w3 ⟨aG, nG, cG, rfl, hG, hB3⟩; have hb3 := Below.then hb0 (Nat.le_refl _) hB3; have hlG := hG.len16 (Nat.lt_of_le_of_lt (Nat.le_of_dvd (by simpa using HD0.out) (Nat.gcd_dvd_right _ _)) HD.out)) | (go_at_call 61; (with_reducible refine (small_one _).mono ?_); rintro e w4 ⟨aS, nS, cS, rfl, hS, hB4⟩; have hb4 := Below.then hb3 (Nat.le_refl _) hB4; have hlS := hS.len16 (m := 1) (by decide)) | (go_at_call 53; (with_reducible refine (cmp_any aG aS nG nS cG cS (Nat.gcd (val W64 f n) (val W64 f' n')) 1 _ ?_ ?_ ?_ ?_).mono ?_); exact hG.keep hB4; exact hS; omega; omega; rintro e w5 ⟨rfl, hm5⟩; have hb5 := Below.then hb4 (Nat.le_refl _) (below_of_drewN (B := w4.heap.size) hm5); clear hm5; have RC5 := RC2.below RC2.lt hb5; obtain ⟨⟨u0, r0⟩, ⟨u1, r1⟩, ⟨u2, r2⟩⟩ := (RC5).cells; have f0 := (RC5).frozen 0; have f1 := (RC5).frozen 1; have f2 := (RC5).frozen 2))
          have hbi := Below.then hbh (Nat.le_refl _) hb5
          go_wp2
          exact bodyPost_ret (v := .tuple #[.agg #[.bool s, .slice aO nO cO, .slice aD nD cD], .bool (cmpI (Nat.gcd (val W64 f n) (val W64 f' n')) 1 == 0)]) (by simp [results, Tryz.results69, go_sem, r0, r1, r2]) rfl
            ⟨_, _, _, _, _, _, _, by rw [HB.out, HZ.out], fun _ => ⟨stored3 RC5 (HV2.out.keep hb5), HFW.out⟩, ((hbi.setCell (Nat.le_add_right _ 1) _).setCell (Nat.le_add_right _ 1) _).setCell (Nat.le_add_right _ 1) _⟩
theorem rational_new (v : Vl) (L : Nat) (w : World) (h : VlAt w v) (hn : 4 * v.wn ≤ L) (hd : 4 * v.dn ≤ L) (hL : L ≤ 4000) :
    Calls Tryz.prog 44 #[.agg #[.int .i64 v.kind, .bool v.truth, .string v.text, .bool v.neg, .slice v.wa v.wn v.wc, .slice v.da v.dn v.dc, .bool v.ineg, .slice v.ia v.inn v.ic, .slice v.ea v.en v.ec]] w (ReadsW (ratB v) (vrt v) L w) := by
  by_cases hk : v.kind = 4
  · have hkb : (v.kind != 4) = false := by rw [hk]; rfl
    obtain ⟨W0, hW0⟩ : ∃ W0, W0 = (w.alloc (.cells #[.int .i64 v.kind, .bool v.truth, .string v.text, .bool v.neg, .slice v.wa v.wn v.wc, .slice v.da v.dn v.dc, .bool v.ineg, .slice v.ia v.inn v.ic, .slice v.ea v.en v.ec] 26)).alloc (.cells #[.bool false, .slice none 0 0, .slice none 0 0] 31) := ⟨_, rfl⟩
    have I := integerW w v 26 31
    rw [← hW0] at I
    have HW := Lib.hid hW0
    have HK := Lib.hid hk
    have HV := Lib.hid h
    clear hW0 hk h
    have hb0 := I.below
    have hlt := I.res.lt
    have RR0 := I.res
    go_enter Tryz.func44, Tryz.ntmps44
    go_upto_region 1 with fail
    rw [← HW.out]
    obtain ⟨c0, c1, c2, c3, c4, c5, c6, c7, c8⟩ := I.all
    cases hr : v.restB
    · have HI := Lib.hid (show ratB v = false from by unfold ratB; rw [hr]; simp)
      have HR := Lib.hid hr
      clear hr
      go_wp2_with fail
      refine (rest_any v _).mono ?_
      rintro e w1 ⟨rfl, hB1⟩
      rw [HR.out]
      have RR := RR0.below hlt hB1
      obtain ⟨⟨u0, r0⟩, ⟨u1, r1⟩, ⟨u2, r2⟩⟩ := (RR).cells; have f0 := (RR).frozen 0; have f1 := (RR).frozen 1; have f2 := (RR).frozen 2
      have hbf := Below.then hb0 (Nat.le_refl _) hB1
      clear c0 c1 c2 c3 c4 c5 c6 c7 c8
      go_wp2
      exact bodyPost_ret (v := .tuple #[.agg #[.bool false, .slice none 0 0, .slice none 0 0], .bool false]) (by simp [results, Tryz.results44, go_sem, r0, r1, r2]) rfl
        ⟨_, _, _, _, _, _, _, by rw [HI.out], fun h => (by rw [HI.out] at h; cases h), ((hbf.setCell (Nat.le_add_right _ 1) _).setCell (Nat.le_add_right _ 1) _).setCell (Nat.le_add_right _ 1) _⟩
    · have HI := Lib.hid (show ratB v = fracB v.neg v.wf v.wn v.df v.dn from by unfold ratB; rw [hr, HK.out]; simp)
      have HR := Lib.hid hr
      clear hr
      go_wp2_with fail
      refine (rest_any v _).mono ?_
      rintro e w1 ⟨rfl, hB1⟩
      rw [HR.out]
      have RR := RR0.below hlt hB1
      have hbf := Below.then hb0 (Nat.le_refl _) hB1
      have C := (I.keep hB1)
      obtain ⟨d0, d1, d2, d3, d4, d5, d6, d7, d8⟩ := C.all
      clear c0 c1 c2 c3 c4 c5 c6 c7 c8
      go_wp2_with fail
      refine (fraction_new v.neg v.wa v.wn v.wc v.wf v.da v.dn v.dc v.df L _ (HV.out.ws.keep hbf) (HV.out.ds.keep hbf) hn hd hL).mono ?_
      rintro e w2 ⟨sV, aV, nV, cV, aE, nE, cE, rfl, hR, hB2⟩
      have RR2 := RR.below RR.lt hB2
      have hbg := Below.then hbf (Nat.le_refl _) hB2
      clear d0 d1 d2 d3 d4 d5 d6 d7 d8
      obtain ⟨⟨u0, r0⟩, ⟨u1, r1⟩, ⟨u2, r2⟩⟩ := (RR2).cells; have f0 := (RR2).frozen 0; have f1 := (RR2).frozen 1; have f2 := (RR2).frozen 2
      go_wp2
      exact bodyPost_ret (v := .tuple #[.agg #[.bool sV, .slice aV nV cV, .slice aE nE cE], .bool (fracB v.neg v.wf v.wn v.df v.dn)]) (by simp [results, Tryz.results44, go_sem, r0, r1, r2]) rfl
        ⟨_, _, _, _, _, _, _, by rw [HI.out], fun hb => ⟨stored3 RR2 (hR (by rw [← HI.out]; exact hb)).1, (hR (by rw [← HI.out]; exact hb)).2.1.le hbf.size, (hR (by rw [← HI.out]; exact hb)).2.2.le hbf.size⟩, ((hbg.setCell (Nat.le_add_right _ 1) _).setCell (Nat.le_add_right _ 1) _).setCell (Nat.le_add_right _ 1) _⟩
  · have hkb : (v.kind != 4) = true := by simp; exact hk
    have HI := Lib.hid (show ratB v = false from by unfold ratB; simp [hk])
    have hb := ((Below.refl w.heap.size w).alloc (Nat.le_refl _) (.cells #[.int .i64 v.kind, .bool v.truth, .string v.text, .bool v.neg, .slice v.wa v.wn v.wc, .slice v.da v.dn v.dc, .bool v.ineg, .slice v.ia v.inn v.ic, .slice v.ea v.en v.ec] 26)).alloc (by simp) (.cells #[.bool false, .slice none 0 0, .slice none 0 0] 31)
    have HB := Lib.hid hb
    clear hk hb
    go_enter Tryz.func44, Tryz.ntmps44
    go_wp2
    exact bodyPost_ret (v := .tuple #[.agg #[.bool false, .slice none 0 0, .slice none 0 0], .bool false]) (by simp [results, Tryz.results44, go_sem]) rfl
      ⟨_, _, _, _, _, _, _, by rw [HI.out], fun h => (by rw [HI.out] at h; cases h), HB.out⟩
theorem lawRational_new (v : Vl) (k : Nat) (w : World) (h : VlAt w v) (hk : k ≤ 1000) :
    Calls Tryz.prog 25 #[.agg #[.int .i64 v.kind, .bool v.truth, .string v.text, .bool v.neg, .slice v.wa v.wn v.wc, .slice v.da v.dn v.dc, .bool v.ineg, .slice v.ia v.inn v.ic, .slice v.ea v.en v.ec], .int .i64 k] w (ReadsW (lratB v k) (vrt v) (4 * k) w) := by
  by_cases hn : v.wn ≤ k ∧ v.dn ≤ k
  · obtain ⟨hn, hd⟩ := hn
    obtain ⟨W0, hW0⟩ : ∃ W0, W0 = (w.alloc (.cells #[.int .i64 v.kind, .bool v.truth, .string v.text, .bool v.neg, .slice v.wa v.wn v.wc, .slice v.da v.dn v.dc, .bool v.ineg, .slice v.ia v.inn v.ic, .slice v.ea v.en v.ec] 26)).alloc (.cells #[.bool false, .slice none 0 0, .slice none 0 0] 31) := ⟨_, rfl⟩
    have I := integerW w v 26 31
    rw [← hW0] at I
    have HW := Lib.hid hW0
    have HI := Lib.hid (show lratB v k = ratB v from by unfold lratB; simp [hn, hd])
    have HV := Lib.hid (h.keep I.below)
    clear hW0 h
    go_enter Tryz.func25, Tryz.ntmps25
    go_upto_region 3 with fail
    rw [← HW.out]
    obtain ⟨c0, c1, c2, c3, c4, c5, c6, c7, c8⟩ := I.all
    go_wp2_with fail
    refine (rational_new v (4 * k) _ HV.out (by omega) (by omega) (by omega)).mono ?_
    rintro e w1 ⟨sV, aV, nV, cV, aE, nE, cE, rfl, hR, hB1⟩
    have RR := I.res.below I.res.lt hB1
    obtain ⟨⟨u0, r0⟩, ⟨u1, r1⟩, ⟨u2, r2⟩⟩ := (RR).cells; have f0 := (RR).frozen 0; have f1 := (RR).frozen 1; have f2 := (RR).frozen 2
    have hbf := Below.then I.below (Nat.le_refl _) hB1
    clear c0 c1 c2 c3 c4 c5 c6 c7 c8
    go_wp2
    exact bodyPost_ret (v := .tuple #[.agg #[.bool sV, .slice aV nV cV, .slice aE nE cE], .bool (ratB v)]) (by simp [results, Tryz.results25, go_sem, r0, r1, r2]) rfl
      ⟨_, _, _, _, _, _, _, by rw [HI.out], fun hb => ⟨stored3 RR (hR (by rw [← HI.out]; exact hb)).1, (hR (by rw [← HI.out]; exact hb)).2.1.le I.below.size, (hR (by rw [← HI.out]; exact hb)).2.2.le I.below.size⟩, ((hbf.setCell (Nat.le_add_right _ 1) _).setCell (Nat.le_add_right _ 1) _).setCell (Nat.le_add_right _ 1) _⟩
  · have HI := Lib.hid (show lratB v k = false from by
      unfold lratB
      by_cases h1 : v.wn ≤ k <;> by_cases h2 : v.dn ≤ k <;> simp [h1, h2] <;> exact absurd ⟨h1, h2⟩ hn)
    have hb := ((Below.refl w.heap.size w).alloc (Nat.le_refl _) (.cells #[.int .i64 v.kind, .bool v.truth, .string v.text, .bool v.neg, .slice v.wa v.wn v.wc, .slice v.da v.dn v.dc, .bool v.ineg, .slice v.ia v.inn v.ic, .slice v.ea v.en v.ec] 26)).alloc (by simp) (.cells #[.bool false, .slice none 0 0, .slice none 0 0] 31)
    have HB := Lib.hid hb
    clear hb
    by_cases h1 : v.wn ≤ k
    · have h2 : ¬ v.dn ≤ k := fun h2 => hn ⟨h1, h2⟩
      clear hn
      go_enter Tryz.func25, Tryz.ntmps25
      go_wp2
      exact bodyPost_ret (v := .tuple #[.agg #[.bool false, .slice none 0 0, .slice none 0 0], .bool false]) (by simp [results, Tryz.results25, go_sem]) rfl
        ⟨_, _, _, _, _, _, _, by rw [HI.out], fun h => (by rw [HI.out] at h; cases h), HB.out⟩
    · clear hn
      go_enter Tryz.func25, Tryz.ntmps25
      go_wp2
      exact bodyPost_ret (v := .tuple #[.agg #[.bool false, .slice none 0 0, .slice none 0 0], .bool false]) (by simp [results, Tryz.results25, go_sem]) rfl
        ⟨_, _, _, _, _, _, _, by rw [HI.out], fun h => (by rw [HI.out] at h; cases h), HB.out⟩
end Go.Proofs.YtececkbcinmmpaaGreatDoor
