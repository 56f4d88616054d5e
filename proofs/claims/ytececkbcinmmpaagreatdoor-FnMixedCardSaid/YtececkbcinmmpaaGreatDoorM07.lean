/-
  Contracts and lemmas: SpG.
-/
import Derived.Test.YtececkbcinmmpaaGreatDoorM06
set_option linter.unusedSimpArgs false
set_option linter.unusedVariables false
set_option maxRecDepth 100000
set_option maxHeartbeats 8000000
namespace Go.Proofs.YtececkbcinmmpaaGreatDoor
open Go.RowKit Go.Bg Dg
def ratB (v : Vl) : Bool := decide (v.kind = 4) && v.restB && fracB v.neg v.wf v.wn v.df v.dn
def vrt (v : Vl) : Rt := frt v.neg v.wf v.wn v.df v.dn
theorem rational_any (v : Vl) (L : Nat) (w : World) (h : VlAt w v) (hn : 4 * v.wn ≤ L) (hd : 4 * v.dn ≤ L) (hL : L ≤ 4000) :
    Calls Tryz.prog 44 #[.agg #[.int .i64 v.kind, .bool v.truth, .string v.text, .bool v.neg, .slice v.wa v.wn v.wc, .slice v.da v.dn v.dc, .bool v.ineg, .slice v.ia v.inn v.ic, .slice v.ea v.en v.ec]] w (Reads1 (ratB v) (vrt v) L w) := by
  by_cases hk : v.kind = 4
  · have hkb : (v.kind != 4) = false := by rw [hk]; rfl
    obtain ⟨W0, hW0⟩ : ∃ W0, W0 = (w.alloc (.cells #[.int .i64 v.kind, .bool v.truth, .string v.text, .bool v.neg, .slice v.wa v.wn v.wc, .slice v.da v.dn v.dc, .bool v.ineg, .slice v.ia v.inn v.ic, .slice v.ea v.en v.ec] 26)).alloc (.cells #[.bool false, .slice none 0 0, .slice none 0 0] 31) := ⟨_, rfl⟩
    have I := integerW w v 26 31
    rw [← hW0] at I
    have HW := Lib.hid hW0
    have HK := Lib.hid hk
    have HV := Lib.hid h
    clear hW0 hk h
    have hb0 := I.below
    have hlt := I.res.lt
    have RR0 := I.res
    go_enter Tryz.func44, Tryz.ntmps44
    go_upto_region 1 with fail
    rw [← HW.out]
    obtain ⟨c0, c1, c2, c3, c4, c5, c6, c7, c8⟩ := I.all
    cases hr : v.restB
    · have HI := Lib.hid (show ratB v = false from by unfold ratB; rw [hr]; simp)
      have HR := Lib.hid hr
      clear hr
      go_wp2_with fail
      refine (rest_any v _).mono ?_
      rintro e w1 ⟨rfl, hB1⟩
      rw [HR.out]
      have RR := RR0.below hlt hB1
      obtain ⟨⟨u0, r0⟩, ⟨u1, r1⟩, ⟨u2, r2⟩⟩ := (RR).cells; have f0 := (RR).frozen 0; have f1 := (RR).frozen 1; have f2 := (RR).frozen 2
      have hbf := Below.then hb0 (Nat.le_refl _) hB1
      clear c0 c1 c2 c3 c4 c5 c6 c7 c8
      go_wp2
      exact bodyPost_ret (v := .tuple #[.agg #[.bool false, .slice none 0 0, .slice none 0 0], .bool false]) (by simp [results, Tryz.results44, go_sem, r0, r1, r2]) rfl
        ⟨_, _, _, _, _, _, _, by rw [HI.out], fun h => (by rw [HI.out] at h; cases h), ((hbf.setCell (Nat.le_add_right _ 1) _).setCell (Nat.le_add_right _ 1) _).setCell (Nat.le_add_right _ 1) _⟩
    · have HI := Lib.hid (show ratB v = fracB v.neg v.wf v.wn v.df v.dn from by unfold ratB; rw [hr, HK.out]; simp)
      have HR := Lib.hid hr
      clear hr
      go_wp2_with fail
      refine (rest_any v _).mono ?_
      rintro e w1 ⟨rfl, hB1⟩
      rw [HR.out]
      have RR := RR0.below hlt hB1
      have hbf := Below.then hb0 (Nat.le_refl _) hB1
      have C := (I.keep hB1)
      obtain ⟨d0, d1, d2, d3, d4, d5, d6, d7, d8⟩ := C.all
      clear c0 c1 c2 c3 c4 c5 c6 c7 c8
      go_wp2_with fail
      refine (fraction_any v.neg v.wa v.wn v.wc v.wf v.da v.dn v.dc v.df L _ (HV.out.ws.keep hbf) (HV.out.ds.keep hbf) hn hd hL).mono ?_
      rintro e w2 ⟨sV, aV, nV, cV, aE, nE, cE, rfl, hR, hB2⟩
      have RR2 := RR.below RR.lt hB2
      have hbg := Below.then hbf (Nat.le_refl _) hB2
      clear d0 d1 d2 d3 d4 d5 d6 d7 d8
      obtain ⟨⟨u0, r0⟩, ⟨u1, r1⟩, ⟨u2, r2⟩⟩ := (RR2).cells; have f0 := (RR2).frozen 0; have f1 := (RR2).frozen 1; have f2 := (RR2).frozen 2
      go_wp2
      exact bodyPost_ret (v := .tuple #[.agg #[.bool sV, .slice aV nV cV, .slice aE nE cE], .bool (fracB v.neg v.wf v.wn v.df v.dn)]) (by simp [results, Tryz.results44, go_sem, r0, r1, r2]) rfl
        ⟨_, _, _, _, _, _, _, by rw [HI.out], fun hb => stored3 RR2 (hR (by rw [← HI.out]; exact hb)), ((hbg.setCell (Nat.le_add_right _ 1) _).setCell (Nat.le_add_right _ 1) _).setCell (Nat.le_add_right _ 1) _⟩
  · have hkb : (v.kind != 4) = true := by simp; exact hk
    have HI := Lib.hid (show ratB v = false from by unfold ratB; simp [hk])
    have hb := ((Below.refl w.heap.size w).alloc (Nat.le_refl _) (.cells #[.int .i64 v.kind, .bool v.truth, .string v.text, .bool v.neg, .slice v.wa v.wn v.wc, .slice v.da v.dn v.dc, .bool v.ineg, .slice v.ia v.inn v.ic, .slice v.ea v.en v.ec] 26)).alloc (by simp) (.cells #[.bool false, .slice none 0 0, .slice none 0 0] 31)
    have HB := Lib.hid hb
    clear hk hb
    go_enter Tryz.func44, Tryz.ntmps44
    go_wp2
    exact bodyPost_ret (v := .tuple #[.agg #[.bool false, .slice none 0 0, .slice none 0 0], .bool false]) (by simp [results, Tryz.results44, go_sem]) rfl
      ⟨_, _, _, _, _, _, _, by rw [HI.out], fun h => (by rw [HI.out] at h; cases h), HB.out⟩
def lratB (v : Vl) (k : Nat) : Bool := decide (v.wn ≤ k) && decide (v.dn ≤ k) && ratB v
theorem isFloat_any (x : Vl) (t : Bool) (a2 : Option Addr) (n2 c2 : Nat) (a2' : Option Addr) (n2' c2' : Nat) (q : Rt) (L : Nat) (w : World)
    (h1 : VlAt w x) (h2 : RtAt w t a2 n2 c2 a2' n2' c2' q L) (hL : L ≤ 100000) (hn : x.wn ≤ 1000) (hd : x.dn ≤ 1000) :
    Calls Tryz.prog 19 #[.agg #[.int .i64 x.kind, .bool x.truth, .string x.text, .bool x.neg, .slice x.wa x.wn x.wc, .slice x.da x.dn x.dc, .bool x.ineg, .slice x.ia x.inn x.ic, .slice x.ea x.en x.ec], .agg #[.bool t, .slice a2 n2 c2, .slice a2' n2' c2']] w fun e w' => e = .returned (.bool (ratB x && sameB (vrt x) q)) ∧ Below w.heap.size w w' := by
  obtain ⟨W0, hW0⟩ : ∃ W0, W0 = (w.alloc (.cells #[.int .i64 x.kind, .bool x.truth, .string x.text, .bool x.neg, .slice x.wa x.wn x.wc, .slice x.da x.dn x.dc, .bool x.ineg, .slice x.ia x.inn x.ic, .slice x.ea x.en x.ec] 26)).alloc (.cells #[.bool t, .slice a2 n2 c2, .slice a2' n2' c2'] 31) := ⟨_, rfl⟩
  have HW := Lib.hid hW0
  have hb0 : Below w.heap.size w W0 := by rw [hW0]; exact Below.alloc' (Below.alloc' (Below.refl _ _) _) _
  have X : Box9 W0 w.heap.size x := by rw [hW0]; exact (Box9.new w x _ rfl).alloc _
  have C : RtBlk W0 (w.heap.size + 1) t a2 n2 c2 a2' n2' c2' := by rw [hW0]; exact RtBlk.new _ _ (by simp) _ _ _ _ _ _ _
  have HX := Lib.hid (h1.keep hb0)
  have HC := Lib.hid (h2.keep hb0)
  clear hW0 h1 h2
  go_enter Tryz.func19, Tryz.ntmps19
  go_upto_region 1 with fail
  rw [← HW.out]
  obtain ⟨xc0, xc1, xc2, xc3, xc4, xc5, xc6, xc7, xc8⟩ := (X).all
  go_wp2_with fail
  refine (rational_any x 4000 _ HX.out (by omega) (by omega) (by omega)).mono ?_
  rintro e w1 ⟨sV, aV, nV, cV, aE, nE, cE, rfl, hR, hB1⟩
  clear xc0 xc1 xc2 xc3 xc4 xc5 xc6 xc7 xc8
  go_upto_region 2 with fail
  obtain ⟨W1, hW1⟩ : ∃ W1, W1 = w1.alloc (.cells #[.bool sV, .slice aV nV cV, .slice aE nE cE] 31) := ⟨_, rfl⟩
  rw [← hW1]
  have hb1 : Below W0.heap.size W0 W1 := by rw [hW1]; exact Below.alloc' hB1 _
  have V1 : RtBlk W1 w1.heap.size sV aV nV cV aE nE cE := by rw [hW1]; exact RtBlk.new _ _ rfl _ _ _ _ _ _ _
  have R1 := Lib.hid (show ratB x = true → RtAt W1 sV aV nV cV aE nE cE (vrt x) 4000 from fun hb => by
    rw [hW1]; exact (hR hb).keep ((Below.refl _ _).alloc (Nat.le_refl _) _))
  have C1 := C.keep hb1
  have HC1 := Lib.hid (HC.out.keep hb1)
  have hbf := Below.then hb0 (Nat.le_refl _) hb1
  clear hW1 hR hB1 C HC X HX hb1
  obtain ⟨v0, v1, v2⟩ := V1
  obtain ⟨y0, y1, y2⟩ := C1
  cases hb : ratB x
  · go_wp2
    go_ret
    exact ⟨ret_bool (by rw [hb]; rfl), hbf⟩
  · have HR := R1.out hb
    have HBB := Lib.hid hb
    clear hb R1
    go_wp2_with fail
    refine (same_any sV t aV nV cV aE nE cE a2 n2 c2 a2' n2' c2' (vrt x) q (L + 4000) _ (HR.mono (by omega)) (HC1.out.mono (by omega)) (by omega)).mono ?_
    rintro e w2 ⟨rfl, hB2⟩
    have hbg := Below.then hbf (Nat.le_refl _) hB2
    go_wp2
    go_ret
    exact ⟨ret_bool (by rw [HBB.out, Bool.true_and]), hbg⟩
theorem isReal_any (x : Vl) (t : Bool) (a2 : Option Addr) (n2 c2 : Nat) (a2' : Option Addr) (n2' c2' : Nat) (q : Rt) (L : Nat) (w : World)
    (h1 : VlAt w x) (h2 : RtAt w t a2 n2 c2 a2' n2' c2' q L) (hL : L ≤ 90000) (hn : x.wn ≤ 1000) (hd : x.dn ≤ 1000) :
    Calls Tryz.prog 28 #[.agg #[.int .i64 x.kind, .bool x.truth, .string x.text, .bool x.neg, .slice x.wa x.wn x.wc, .slice x.da x.dn x.dc, .bool x.ineg, .slice x.ia x.inn x.ic, .slice x.ea x.en x.ec], .agg #[.bool t, .slice a2 n2 c2, .slice a2' n2' c2']] w fun e w' => e = .returned (.bool (intB x && sameB (Rt.whole x.neg (val W64 x.wf x.wn)) q || ratB x && sameB (vrt x) q)) ∧ Below w.heap.size w w' := by
  obtain ⟨W0, hW0⟩ : ∃ W0, W0 = (w.alloc (.cells #[.int .i64 x.kind, .bool x.truth, .string x.text, .bool x.neg, .slice x.wa x.wn x.wc, .slice x.da x.dn x.dc, .bool x.ineg, .slice x.ia x.inn x.ic, .slice x.ea x.en x.ec] 26)).alloc (.cells #[.bool t, .slice a2 n2 c2, .slice a2' n2' c2'] 31) := ⟨_, rfl⟩
  have HW := Lib.hid hW0
  have hb0 : Below w.heap.size w W0 := by rw [hW0]; exact Below.alloc' (Below.alloc' (Below.refl _ _) _) _
  have X : Box9 W0 w.heap.size x := by rw [hW0]; exact (Box9.new w x _ rfl).alloc _
  have C : RtBlk W0 (w.heap.size + 1) t a2 n2 c2 a2' n2' c2' := by rw [hW0]; exact RtBlk.new _ _ (by simp) _ _ _ _ _ _ _
  have HX := Lib.hid (h1.keep hb0)
  have HC := Lib.hid (h2.keep hb0)
  clear hW0 h1 h2
  go_enter Tryz.func28, Tryz.ntmps28
  go_upto_region 1 with fail
  rw [← HW.out]
  obtain ⟨xc0, xc1, xc2, xc3, xc4, xc5, xc6, xc7, xc8⟩ := (X).all
  obtain ⟨y0, y1, y2⟩ := C
  generalize hb : (intB x && sameB (Rt.whole x.neg (val W64 x.wf x.wn)) q) = bI
  have HB := Lib.hid hb
  clear hb
  cases bI
  · go_wp2_with fail
    refine (isInt_any x t a2 n2 c2 a2' n2' c2' q L _ HX.out HC.out (by omega) (by omega)).mono ?_
    rintro e w1 ⟨rfl, hB1⟩
    rw [HB.out]
    have X1 := (show Box9 W0 w.heap.size x from ⟨xc0, xc1, xc2, xc3, xc4, xc5, xc6, xc7, xc8⟩).keep hB1
    have yy0 := cell_keep y0 hB1
    have yy1 := cell_keep y1 hB1
    have yy2 := cell_keep y2 hB1
    have hb1 := Below.then hb0 (Nat.le_refl _) hB1
    have HX1 := Lib.hid (HX.out.keep hB1)
    have HC1 := Lib.hid (HC.out.keep hB1)
    clear xc0 xc1 xc2 xc3 xc4 xc5 xc6 xc7 xc8 y0 y1 y2 hB1
    obtain ⟨zc0, zc1, zc2, zc3, zc4, zc5, zc6, zc7, zc8⟩ := (X1).all
    go_wp2_with fail
    refine (isFloat_any x t a2 n2 c2 a2' n2' c2' q L _ HX1.out HC1.out (by omega) (by omega) (by omega)).mono ?_
    rintro e w2 ⟨rfl, hB2⟩
    have hbg := Below.then hb1 (Nat.le_refl _) hB2
    clear zc0 zc1 zc2 zc3 zc4 zc5 zc6 zc7 zc8
    go_wp2
    go_ret
    exact ⟨ret_bool (by rw [HB.out, Bool.false_or]), hbg⟩
  · go_wp2_with fail
    refine (isInt_any x t a2 n2 c2 a2' n2' c2' q L _ HX.out HC.out (by omega) (by omega)).mono ?_
    rintro e w1 ⟨rfl, hB1⟩
    rw [HB.out]
    have hb1 := Below.then hb0 (Nat.le_refl _) hB1
    clear xc0 xc1 xc2 xc3 xc4 xc5 xc6 xc7 xc8
    go_wp2
    go_ret
    exact ⟨ret_bool (by rw [HB.out, Bool.true_or]), hb1⟩
end Go.Proofs.YtececkbcinmmpaaGreatDoor
