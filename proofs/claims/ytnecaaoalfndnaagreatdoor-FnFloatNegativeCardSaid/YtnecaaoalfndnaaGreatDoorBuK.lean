/-
  The reference's readers: Rational; the laws' rational; IsFloat, IsReal.
  The reference's readers: Pair, IsPair; Of64 of 0.
-/
import Derived.Test.YtnecaaoalfndnaaGreatDoorSpF
import Derived.Test.YtnecaaoalfndnaaGreatDoorBuH
set_option linter.unusedSimpArgs false
set_option linter.unusedVariables false
namespace Go.Proofs.YtnecaaoalfndnaaGreatDoor
open Go.RowKit Go.Bg Dg

/-- the value is a Float as it is told -/
def ratB (v : Vl) : Bool := decide (v.kind = 4) && v.restB && fracB v.neg v.wf v.wn v.df v.dn
/-- the fraction that it is -/
def vrt (v : Vl) : Rt := frt v.neg v.wf v.wn v.df v.dn

set_option maxRecDepth 100000 in
set_option maxHeartbeats 2000000 in
theorem rational_any (v : Vl) (L : Nat) (w : World) (h : VlAt w v) (hn : 4 * v.wn ≤ L) (hd : 4 * v.dn ≤ L) (hL : L ≤ 4000) :
    Calls Tryz.prog 36 #[.agg #[.int .i64 v.kind, .bool v.truth, .string v.text, .bool v.neg, .slice v.wa v.wn v.wc, .slice v.da v.dn v.dc, .bool v.ineg, .slice v.ia v.inn v.ic, .slice v.ea v.en v.ec]] w (Reads1 (ratB v) (vrt v) L w) := by
  by_cases hk : v.kind = 4
  · have hkb : (v.kind != 4) = false := by rw [hk]; rfl
    obtain ⟨W0, hW0⟩ : ∃ W0, W0 = (w.alloc (.cells #[.int .i64 v.kind, .bool v.truth, .string v.text, .bool v.neg, .slice v.wa v.wn v.wc, .slice v.da v.dn v.dc, .bool v.ineg, .slice v.ia v.inn v.ic, .slice v.ea v.en v.ec] 26)).alloc (.cells #[.bool false, .slice none 0 0, .slice none 0 0] 31) := ⟨_, rfl⟩
    have I := integerW w v 26 31
    rw [← hW0] at I
    have HW := Lib.hid hW0
    have HK := Lib.hid hk
    have HV := Lib.hid h
    clear hW0 hk h
    have hb0 := I.below
    have hlt := I.res.lt
    have RR0 := I.res
    go_enter Tryz.func36, Tryz.ntmps36
    go_upto_region 1 with fail
    rw [← HW.out]
    obtain ⟨c0, c1, c2, c3, c4, c5, c6, c7, c8⟩ := I.all
    cases hr : v.restB
    · have HI := Lib.hid (show ratB v = false from by unfold ratB; rw [hr]; simp)
      have HR := Lib.hid hr
      clear hr
      go_wp2_with fail
      refine (rest_any v _).mono ?_
      rintro e w1 ⟨rfl, hB1⟩
      rw [HR.out]
      have RR := RR0.below hlt hB1
      obtain ⟨⟨u0, r0⟩, ⟨u1, r1⟩, ⟨u2, r2⟩⟩ := (RR).cells; have f0 := (RR).frozen 0; have f1 := (RR).frozen 1; have f2 := (RR).frozen 2
      have hbf := Below.then hb0 (Nat.le_refl _) hB1
      clear c0 c1 c2 c3 c4 c5 c6 c7 c8
      go_wp2
      exact bodyPost_ret (v := .tuple #[.agg #[.bool false, .slice none 0 0, .slice none 0 0], .bool false]) (by simp [results, Tryz.results36, go_sem, r0, r1, r2]) rfl
        ⟨_, _, _, _, _, _, _, by rw [HI.out], fun h => (by rw [HI.out] at h; cases h), ((hbf.setCell (Nat.le_add_right _ 1) _).setCell (Nat.le_add_right _ 1) _).setCell (Nat.le_add_right _ 1) _⟩
    · have HI := Lib.hid (show ratB v = fracB v.neg v.wf v.wn v.df v.dn from by unfold ratB; rw [hr, HK.out]; simp)
      have HR := Lib.hid hr
      clear hr
      go_wp2_with fail
      refine (rest_any v _).mono ?_
      rintro e w1 ⟨rfl, hB1⟩
      rw [HR.out]
      have RR := RR0.below hlt hB1
      have hbf := Below.then hb0 (Nat.le_refl _) hB1
      have C := (I.keep hB1)
      obtain ⟨d0, d1, d2, d3, d4, d5, d6, d7, d8⟩ := C.all
      clear c0 c1 c2 c3 c4 c5 c6 c7 c8
      go_wp2_with fail
      refine (fraction_any v.neg v.wa v.wn v.wc v.wf v.da v.dn v.dc v.df L _ (HV.out.ws.keep hbf) (HV.out.ds.keep hbf) hn hd hL).mono ?_
      rintro e w2 ⟨sV, aV, nV, cV, aE, nE, cE, rfl, hR, hB2⟩
      have RR2 := RR.below RR.lt hB2
      have hbg := Below.then hbf (Nat.le_refl _) hB2
      clear d0 d1 d2 d3 d4 d5 d6 d7 d8
      obtain ⟨⟨u0, r0⟩, ⟨u1, r1⟩, ⟨u2, r2⟩⟩ := (RR2).cells; have f0 := (RR2).frozen 0; have f1 := (RR2).frozen 1; have f2 := (RR2).frozen 2
      go_wp2
      exact bodyPost_ret (v := .tuple #[.agg #[.bool sV, .slice aV nV cV, .slice aE nE cE], .bool (fracB v.neg v.wf v.wn v.df v.dn)]) (by simp [results, Tryz.results36, go_sem, r0, r1, r2]) rfl
        ⟨_, _, _, _, _, _, _, by rw [HI.out], fun hb => stored3 RR2 (hR (by rw [← HI.out]; exact hb)), ((hbg.setCell (Nat.le_add_right _ 1) _).setCell (Nat.le_add_right _ 1) _).setCell (Nat.le_add_right _ 1) _⟩
  · have hkb : (v.kind != 4) = true := by simp; exact hk
    have HI := Lib.hid (show ratB v = false from by unfold ratB; simp [hk])
    have hb := ((Below.refl w.heap.size w).alloc (Nat.le_refl _) (.cells #[.int .i64 v.kind, .bool v.truth, .string v.text, .bool v.neg, .slice v.wa v.wn v.wc, .slice v.da v.dn v.dc, .bool v.ineg, .slice v.ia v.inn v.ic, .slice v.ea v.en v.ec] 26)).alloc (by simp) (.cells #[.bool false, .slice none 0 0, .slice none 0 0] 31)
    have HB := Lib.hid hb
    clear hk hb
    go_enter Tryz.func36, Tryz.ntmps36
    go_wp2
    exact bodyPost_ret (v := .tuple #[.agg #[.bool false, .slice none 0 0, .slice none 0 0], .bool false]) (by simp [results, Tryz.results36, go_sem]) rfl
      ⟨_, _, _, _, _, _, _, by rw [HI.out], fun h => (by rw [HI.out] at h; cases h), HB.out⟩

/-- a Float of at most so many words -/
def lratB (v : Vl) (k : Nat) : Bool := decide (v.wn ≤ k) && decide (v.dn ≤ k) && ratB v

set_option maxRecDepth 100000 in
set_option maxHeartbeats 2000000 in
theorem lawRational_any (v : Vl) (k : Nat) (w : World) (h : VlAt w v) (hk : k ≤ 1000) :
    Calls Tryz.prog 16 #[.agg #[.int .i64 v.kind, .bool v.truth, .string v.text, .bool v.neg, .slice v.wa v.wn v.wc, .slice v.da v.dn v.dc, .bool v.ineg, .slice v.ia v.inn v.ic, .slice v.ea v.en v.ec], .int .i64 k] w (Reads1 (lratB v k) (vrt v) (4 * k) w) := by
  by_cases hn : v.wn ≤ k ∧ v.dn ≤ k
  · obtain ⟨hn, hd⟩ := hn
    obtain ⟨W0, hW0⟩ : ∃ W0, W0 = (w.alloc (.cells #[.int .i64 v.kind, .bool v.truth, .string v.text, .bool v.neg, .slice v.wa v.wn v.wc, .slice v.da v.dn v.dc, .bool v.ineg, .slice v.ia v.inn v.ic, .slice v.ea v.en v.ec] 26)).alloc (.cells #[.bool false, .slice none 0 0, .slice none 0 0] 31) := ⟨_, rfl⟩
    have I := integerW w v 26 31
    rw [← hW0] at I
    have HW := Lib.hid hW0
    have HI := Lib.hid (show lratB v k = ratB v from by unfold lratB; simp [hn, hd])
    have HV := Lib.hid (h.keep I.below)
    clear hW0 h
    go_enter Tryz.func16, Tryz.ntmps16
    go_upto_region 3 with fail
    rw [← HW.out]
    obtain ⟨c0, c1, c2, c3, c4, c5, c6, c7, c8⟩ := I.all
    go_wp2_with fail
    refine (rational_any v (4 * k) _ HV.out (by omega) (by omega) (by omega)).mono ?_
    rintro e w1 ⟨sV, aV, nV, cV, aE, nE, cE, rfl, hR, hB1⟩
    have RR := I.res.below I.res.lt hB1
    obtain ⟨⟨u0, r0⟩, ⟨u1, r1⟩, ⟨u2, r2⟩⟩ := (RR).cells; have f0 := (RR).frozen 0; have f1 := (RR).frozen 1; have f2 := (RR).frozen 2
    have hbf := Below.then I.below (Nat.le_refl _) hB1
    clear c0 c1 c2 c3 c4 c5 c6 c7 c8
    go_wp2
    exact bodyPost_ret (v := .tuple #[.agg #[.bool sV, .slice aV nV cV, .slice aE nE cE], .bool (ratB v)]) (by simp [results, Tryz.results16, go_sem, r0, r1, r2]) rfl
      ⟨_, _, _, _, _, _, _, by rw [HI.out], fun hb => stored3 RR (hR (by rw [← HI.out]; exact hb)), ((hbf.setCell (Nat.le_add_right _ 1) _).setCell (Nat.le_add_right _ 1) _).setCell (Nat.le_add_right _ 1) _⟩
  · have HI := Lib.hid (show lratB v k = false from by
      unfold lratB
      by_cases h1 : v.wn ≤ k <;> by_cases h2 : v.dn ≤ k <;> simp [h1, h2] <;> exact absurd ⟨h1, h2⟩ hn)
    have hb := ((Below.refl w.heap.size w).alloc (Nat.le_refl _) (.cells #[.int .i64 v.kind, .bool v.truth, .string v.text, .bool v.neg, .slice v.wa v.wn v.wc, .slice v.da v.dn v.dc, .bool v.ineg, .slice v.ia v.inn v.ic, .slice v.ea v.en v.ec] 26)).alloc (by simp) (.cells #[.bool false, .slice none 0 0, .slice none 0 0] 31)
    have HB := Lib.hid hb
    clear hb
    by_cases h1 : v.wn ≤ k
    · have h2 : ¬ v.dn ≤ k := fun h2 => hn ⟨h1, h2⟩
      clear hn
      go_enter Tryz.func16, Tryz.ntmps16
      go_wp2
      exact bodyPost_ret (v := .tuple #[.agg #[.bool false, .slice none 0 0, .slice none 0 0], .bool false]) (by simp [results, Tryz.results16, go_sem]) rfl
        ⟨_, _, _, _, _, _, _, by rw [HI.out], fun h => (by rw [HI.out] at h; cases h), HB.out⟩
    · clear hn
      go_enter Tryz.func16, Tryz.ntmps16
      go_wp2
      exact bodyPost_ret (v := .tuple #[.agg #[.bool false, .slice none 0 0, .slice none 0 0], .bool false]) (by simp [results, Tryz.results16, go_sem]) rfl
        ⟨_, _, _, _, _, _, _, by rw [HI.out], fun h => (by rw [HI.out] at h; cases h), HB.out⟩

set_option maxRecDepth 100000 in
set_option maxHeartbeats 2000000 in
theorem isFloat_any (x : Vl) (t : Bool) (a2 : Option Addr) (n2 c2 : Nat) (a2' : Option Addr) (n2' c2' : Nat) (q : Rt) (L : Nat) (w : World)
    (h1 : VlAt w x) (h2 : RtAt w t a2 n2 c2 a2' n2' c2' q L) (hL : L ≤ 100000) (hn : x.wn ≤ 1000) (hd : x.dn ≤ 1000) :
    Calls Tryz.prog 24 #[.agg #[.int .i64 x.kind, .bool x.truth, .string x.text, .bool x.neg, .slice x.wa x.wn x.wc, .slice x.da x.dn x.dc, .bool x.ineg, .slice x.ia x.inn x.ic, .slice x.ea x.en x.ec], .agg #[.bool t, .slice a2 n2 c2, .slice a2' n2' c2']] w fun e w' => e = .returned (.bool (ratB x && sameB (vrt x) q)) ∧ Below w.heap.size w w' := by
  obtain ⟨W0, hW0⟩ : ∃ W0, W0 = (w.alloc (.cells #[.int .i64 x.kind, .bool x.truth, .string x.text, .bool x.neg, .slice x.wa x.wn x.wc, .slice x.da x.dn x.dc, .bool x.ineg, .slice x.ia x.inn x.ic, .slice x.ea x.en x.ec] 26)).alloc (.cells #[.bool t, .slice a2 n2 c2, .slice a2' n2' c2'] 31) := ⟨_, rfl⟩
  have HW := Lib.hid hW0
  have hb0 : Below w.heap.size w W0 := by rw [hW0]; exact Below.alloc' (Below.alloc' (Below.refl _ _) _) _
  have X : Box9 W0 w.heap.size x := by rw [hW0]; exact (Box9.new w x _ rfl).alloc _
  have C : RtBlk W0 (w.heap.size + 1) t a2 n2 c2 a2' n2' c2' := by rw [hW0]; exact RtBlk.new _ _ (by simp) _ _ _ _ _ _ _
  have HX := Lib.hid (h1.keep hb0)
  have HC := Lib.hid (h2.keep hb0)
  clear hW0 h1 h2
  go_enter Tryz.func24, Tryz.ntmps24
  go_upto_region 1 with fail
  rw [← HW.out]
  obtain ⟨xc0, xc1, xc2, xc3, xc4, xc5, xc6, xc7, xc8⟩ := (X).all
  go_wp2_with fail
  refine (rational_any x 4000 _ HX.out (by omega) (by omega) (by omega)).mono ?_
  rintro e w1 ⟨sV, aV, nV, cV, aE, nE, cE, rfl, hR, hB1⟩
  clear xc0 xc1 xc2 xc3 xc4 xc5 xc6 xc7 xc8
  go_upto_region 2 with fail
  obtain ⟨W1, hW1⟩ : ∃ W1, W1 = w1.alloc (.cells #[.bool sV, .slice aV nV cV, .slice aE nE cE] 31) := ⟨_, rfl⟩
  rw [← hW1]
  have hb1 : Below W0.heap.size W0 W1 := by rw [hW1]; exact Below.alloc' hB1 _
  have V1 : RtBlk W1 w1.heap.size sV aV nV cV aE nE cE := by rw [hW1]; exact RtBlk.new _ _ rfl _ _ _ _ _ _ _
  have R1 := Lib.hid (show ratB x = true → RtAt W1 sV aV nV cV aE nE cE (vrt x) 4000 from fun hb => by
    rw [hW1]; exact (hR hb).keep ((Below.refl _ _).alloc (Nat.le_refl _) _))
  have C1 := C.keep hb1
  have HC1 := Lib.hid (HC.out.keep hb1)
  have hbf := Below.then hb0 (Nat.le_refl _) hb1
  clear hW1 hR hB1 C HC X HX hb1
  obtain ⟨v0, v1, v2⟩ := V1
  obtain ⟨y0, y1, y2⟩ := C1
  cases hb : ratB x
  · go_wp2
    go_ret
    exact ⟨ret_bool (by rw [hb]; rfl), hbf⟩
  · have HR := R1.out hb
    have HBB := Lib.hid hb
    clear hb R1
    go_wp2_with fail
    refine (same_any sV t aV nV cV aE nE cE a2 n2 c2 a2' n2' c2' (vrt x) q (L + 4000) _ (HR.mono (by omega)) (HC1.out.mono (by omega)) (by omega)).mono ?_
    rintro e w2 ⟨rfl, hB2⟩
    have hbg := Below.then hbf (Nat.le_refl _) hB2
    go_wp2
    go_ret
    exact ⟨ret_bool (by rw [HBB.out, Bool.true_and]), hbg⟩

set_option maxRecDepth 100000 in
set_option maxHeartbeats 2000000 in
theorem isReal_any (x : Vl) (t : Bool) (a2 : Option Addr) (n2 c2 : Nat) (a2' : Option Addr) (n2' c2' : Nat) (q : Rt) (L : Nat) (w : World)
    (h1 : VlAt w x) (h2 : RtAt w t a2 n2 c2 a2' n2' c2' q L) (hL : L ≤ 90000) (hn : x.wn ≤ 1000) (hd : x.dn ≤ 1000) :
    Calls Tryz.prog 20 #[.agg #[.int .i64 x.kind, .bool x.truth, .string x.text, .bool x.neg, .slice x.wa x.wn x.wc, .slice x.da x.dn x.dc, .bool x.ineg, .slice x.ia x.inn x.ic, .slice x.ea x.en x.ec], .agg #[.bool t, .slice a2 n2 c2, .slice a2' n2' c2']] w fun e w' => e = .returned (.bool (intB x && sameB (Rt.whole x.neg (val W64 x.wf x.wn)) q || ratB x && sameB (vrt x) q)) ∧ Below w.heap.size w w' := by
  obtain ⟨W0, hW0⟩ : ∃ W0, W0 = (w.alloc (.cells #[.int .i64 x.kind, .bool x.truth, .string x.text, .bool x.neg, .slice x.wa x.wn x.wc, .slice x.da x.dn x.dc, .bool x.ineg, .slice x.ia x.inn x.ic, .slice x.ea x.en x.ec] 26)).alloc (.cells #[.bool t, .slice a2 n2 c2, .slice a2' n2' c2'] 31) := ⟨_, rfl⟩
  have HW := Lib.hid hW0
  have hb0 : Below w.heap.size w W0 := by rw [hW0]; exact Below.alloc' (Below.alloc' (Below.refl _ _) _) _
  have X : Box9 W0 w.heap.size x := by rw [hW0]; exact (Box9.new w x _ rfl).alloc _
  have C : RtBlk W0 (w.heap.size + 1) t a2 n2 c2 a2' n2' c2' := by rw [hW0]; exact RtBlk.new _ _ (by simp) _ _ _ _ _ _ _
  have HX := Lib.hid (h1.keep hb0)
  have HC := Lib.hid (h2.keep hb0)
  clear hW0 h1 h2
  go_enter Tryz.func20, Tryz.ntmps20
  go_upto_region 1 with fail
  rw [← HW.out]
  obtain ⟨xc0, xc1, xc2, xc3, xc4, xc5, xc6, xc7, xc8⟩ := (X).all
  obtain ⟨y0, y1, y2⟩ := C
  generalize hb : (intB x && sameB (Rt.whole x.neg (val W64 x.wf x.wn)) q) = bI
  have HB := Lib.hid hb
  clear hb
  cases bI
  · go_wp2_with fail
    refine (isInt_any x t a2 n2 c2 a2' n2' c2' q L _ HX.out HC.out (by omega) (by omega)).mono ?_
    rintro e w1 ⟨rfl, hB1⟩
    rw [HB.out]
    have X1 := (show Box9 W0 w.heap.size x from ⟨xc0, xc1, xc2, xc3, xc4, xc5, xc6, xc7, xc8⟩).keep hB1
    have yy0 := cell_keep y0 hB1
    have yy1 := cell_keep y1 hB1
    have yy2 := cell_keep y2 hB1
    have hb1 := Below.then hb0 (Nat.le_refl _) hB1
    have HX1 := Lib.hid (HX.out.keep hB1)
    have HC1 := Lib.hid (HC.out.keep hB1)
    clear xc0 xc1 xc2 xc3 xc4 xc5 xc6 xc7 xc8 y0 y1 y2 hB1
    obtain ⟨zc0, zc1, zc2, zc3, zc4, zc5, zc6, zc7, zc8⟩ := (X1).all
    go_wp2_with fail
    refine (isFloat_any x t a2 n2 c2 a2' n2' c2' q L _ HX1.out HC1.out (by omega) (by omega) (by omega)).mono ?_
    rintro e w2 ⟨rfl, hB2⟩
    have hbg := Below.then hb1 (Nat.le_refl _) hB2
    clear zc0 zc1 zc2 zc3 zc4 zc5 zc6 zc7 zc8
    go_wp2
    go_ret
    exact ⟨ret_bool (by rw [HB.out, Bool.false_or]), hbg⟩
  · go_wp2_with fail
    refine (isInt_any x t a2 n2 c2 a2' n2' c2' q L _ HX.out HC.out (by omega) (by omega)).mono ?_
    rintro e w1 ⟨rfl, hB1⟩
    rw [HB.out]
    have hb1 := Below.then hb0 (Nat.le_refl _) hB1
    clear xc0 xc1 xc2 xc3 xc4 xc5 xc6 xc7 xc8
    go_wp2
    go_ret
    exact ⟨ret_bool (by rw [HB.out, Bool.true_or]), hb1⟩
end Go.Proofs.YtnecaaoalfndnaaGreatDoor

set_option linter.unusedSimpArgs false
set_option linter.unusedVariables false
namespace Go.Proofs.YtnecaaoalfndnaaGreatDoor
open Go.RowKit Go.Bg Dg

/-- the imaginary part that is told -/
def virt (v : Vl) : Rt := frt v.ineg v.jf v.inn v.ef v.en
/-- the value is a Complex as it is told -/
def pairB (v : Vl) : Bool := decide (v.kind = 5) && !v.truth && v.text.toList.isEmpty && fracB v.neg v.wf v.wn v.df v.dn && fracB v.ineg v.jf v.inn v.ef v.en

set_option maxRecDepth 100000 in
set_option maxHeartbeats 4000000 in
theorem pair_any (v : Vl) (L : Nat) (w : World) (h : VlAt w v) (hn : 4 * v.wn ≤ L) (hd : 4 * v.dn ≤ L) (hi : 4 * v.inn ≤ L) (he : 4 * v.en ≤ L) (hL : L ≤ 4000) :
    Calls Tryz.prog 37 #[.agg #[.int .i64 v.kind, .bool v.truth, .string v.text, .bool v.neg, .slice v.wa v.wn v.wc, .slice v.da v.dn v.dc, .bool v.ineg, .slice v.ia v.inn v.ic, .slice v.ea v.en v.ec]] w (Reads2 (pairB v) (vrt v) (virt v) L w) := by
  obtain ⟨W0, hW0⟩ : ∃ W0, W0 = ((w.alloc (.cells #[.int .i64 v.kind, .bool v.truth, .string v.text, .bool v.neg, .slice v.wa v.wn v.wc, .slice v.da v.dn v.dc, .bool v.ineg, .slice v.ia v.inn v.ic, .slice v.ea v.en v.ec] 26)).alloc (.cells #[.bool false, .slice none 0 0, .slice none 0 0] 31)).alloc (.cells #[.bool false, .slice none 0 0, .slice none 0 0] 31) := ⟨_, rfl⟩
  have HW := Lib.hid hW0
  have hb0 : Below w.heap.size w W0 := by rw [hW0]; exact Below.alloc' (Below.alloc' (Below.alloc' (Below.refl _ _) _) _) _
  have R1 : ResBlk W0 (w.heap.size + 1) := by rw [hW0]; exact (ResBlk.new _ _ (by simp)).alloc1 _
  have R2 : ResBlk W0 (w.heap.size + 1 + 1) := by rw [hW0]; exact ResBlk.new _ _ (by simp)
  have X : Box9 W0 w.heap.size v := by rw [hW0]; exact ((Box9.new w v _ rfl).alloc _).alloc _
  have HX := Lib.hid (h.keep hb0)
  clear hW0 h
  go_enter Tryz.func37, Tryz.ntmps37
  go_upto_region 1 with fail
  rw [← HW.out]
  by_cases hp : v.kind = 5 ∧ v.truth = false ∧ v.text.toList = []
  case neg =>
    have HI := Lib.hid (show pairB v = false from by
      unfold pairB
      by_cases h1 : v.kind = 5
      · cases h2 : v.truth
        · by_cases h3 : v.text.toList = []
          · exact absurd ⟨h1, h2, h3⟩ hp
          · simp [h3]
        · simp
      · simp [h1])
    have HB := Lib.hid hb0
    obtain ⟨xc0, xc1, xc2, xc3, xc4, xc5, xc6, xc7, xc8⟩ := (X).all
    obtain ⟨⟨u0, r0⟩, ⟨u1, r1⟩, ⟨u2, r2⟩⟩ := R1.cells
    have f0 := R1.frozen 0
    have f1 := R1.frozen 1
    have f2 := R1.frozen 2
    obtain ⟨⟨z0, q0⟩, ⟨z1, q1⟩, ⟨z2, q2⟩⟩ := R2.cells
    have g0 := R2.frozen 0
    have g1 := R2.frozen 1
    have g2 := R2.frozen 2
    have hlt := R1.lt
    clear hb0
    by_cases hk : v.kind = 5
    · have hkb : (v.kind != 5) = false := by rw [hk]; rfl
      cases ht : v.truth
      · have hx : ¬ v.text.toList = [] := fun h3 => hp ⟨hk, ht, h3⟩
        have hx2 : (!v.text.toList.isEmpty) = true := by simpa using hx
        have hx3 : v.text.toList.isEmpty = false := by simpa using hx
        clear hp
        go_wp2
        exact bodyPost_ret (v := .tuple #[.agg #[.bool false, .slice none 0 0, .slice none 0 0], .agg #[.bool false, .slice none 0 0, .slice none 0 0], .bool false]) (by simp [results, Tryz.results37, go_sem, r0, r1, r2, q0, q1, q2]) rfl
          ⟨_, _, _, _, _, _, _, _, _, _, _, _, _, _, by rw [HI.out], fun h => (by rw [HI.out] at h; cases h), (((((HB.out.setCell (Nat.le_add_right _ 1) _).setCell (Nat.le_add_right _ 1) _).setCell (Nat.le_add_right _ 1) _).setCell (Nat.le_add_right _ 2) _).setCell (Nat.le_add_right _ 2) _).setCell (Nat.le_add_right _ 2) _⟩
      · clear hp
        go_wp2
        exact bodyPost_ret (v := .tuple #[.agg #[.bool false, .slice none 0 0, .slice none 0 0], .agg #[.bool false, .slice none 0 0, .slice none 0 0], .bool false]) (by simp [results, Tryz.results37, go_sem, r0, r1, r2, q0, q1, q2]) rfl
          ⟨_, _, _, _, _, _, _, _, _, _, _, _, _, _, by rw [HI.out], fun h => (by rw [HI.out] at h; cases h), (((((HB.out.setCell (Nat.le_add_right _ 1) _).setCell (Nat.le_add_right _ 1) _).setCell (Nat.le_add_right _ 1) _).setCell (Nat.le_add_right _ 2) _).setCell (Nat.le_add_right _ 2) _).setCell (Nat.le_add_right _ 2) _⟩
    · have hkb : (v.kind != 5) = true := by simp; exact hk
      clear hp hk
      go_wp2
      exact bodyPost_ret (v := .tuple #[.agg #[.bool false, .slice none 0 0, .slice none 0 0], .agg #[.bool false, .slice none 0 0, .slice none 0 0], .bool false]) (by simp [results, Tryz.results37, go_sem, r0, r1, r2, q0, q1, q2]) rfl
        ⟨_, _, _, _, _, _, _, _, _, _, _, _, _, _, by rw [HI.out], fun h => (by rw [HI.out] at h; cases h), (((((HB.out.setCell (Nat.le_add_right _ 1) _).setCell (Nat.le_add_right _ 1) _).setCell (Nat.le_add_right _ 1) _).setCell (Nat.le_add_right _ 2) _).setCell (Nat.le_add_right _ 2) _).setCell (Nat.le_add_right _ 2) _⟩
  case pos =>
    obtain ⟨hk, ht, hx⟩ := hp
    have HI := Lib.hid (show pairB v = (fracB v.neg v.wf v.wn v.df v.dn && fracB v.ineg v.jf v.inn v.ef v.en) from by unfold pairB; simp [hk, ht, hx])
    have hkb : (v.kind != 5) = false := by rw [hk]; rfl
    have hx2 : (!v.text.toList.isEmpty) = false := by simp [hx]
    have hx3 : v.text.toList.isEmpty = true := by simp [hx]
    obtain ⟨xc0, xc1, xc2, xc3, xc4, xc5, xc6, xc7, xc8⟩ := (X).all
    go_upto_region 3 with fail
    go_wp2_with fail
    refine (fraction_any v.neg v.wa v.wn v.wc v.wf v.da v.dn v.dc v.df L _ HX.out.ws HX.out.ds hn hd hL).mono ?_
    rintro e w1 ⟨sA, aA, nA, cA, aB, nB, cB, rfl, hA, hB1⟩
    clear hkb hx2 hx3 hk ht hx
    clear xc0 xc1 xc2 xc3 xc4 xc5 xc6 xc7 xc8
    obtain ⟨W1, hW1⟩ : ∃ W1, W1 = w1.alloc (.cells #[.bool sA, .slice aA nA cA, .slice aB nB cB] 31) := ⟨_, rfl⟩
    have hb1 : Below W0.heap.size W0 W1 := by rw [hW1]; exact Below.alloc' hB1 _
    have A1 : RtBlk W1 w1.heap.size sA aA nA cA aB nB cB := by rw [hW1]; exact RtBlk.new _ _ rfl _ _ _ _ _ _ _
    have A2 := Lib.hid (show fracB v.neg v.wf v.wn v.df v.dn = true → RtAt W1 sA aA nA cA aB nB cB (vrt v) L from by
      intro hb; rw [hW1]
      exact (hA hb).keep ((Below.refl _ _).alloc (Nat.le_refl _) _))
    have HW1 := Lib.hid hW1
    have R1' := R1.below R1.lt hb1
    have R2' := R2.below R2.lt hb1
    have Y1 := X.keep hb1
    have HY1 := Lib.hid (HX.out.keep hb1)
    clear hW1 hA
    go_upto_region 4 with fail
    rw [← HW1.out]
    obtain ⟨yc0, yc1, yc2, yc3, yc4, yc5, yc6, yc7, yc8⟩ := (Y1).all
    go_wp2_with fail
    refine (fraction_any v.ineg v.ia v.inn v.ic v.jf v.ea v.en v.ec v.ef L _ HY1.out.is HY1.out.es hi he hL).mono ?_
    rintro e w2 ⟨sC, aC, nC, cC, aD, nD, cD, rfl, hC, hB2⟩
    clear yc0 yc1 yc2 yc3 yc4 yc5 yc6 yc7 yc8
    obtain ⟨W2, hW2⟩ : ∃ W2, W2 = w2.alloc (.cells #[.bool sC, .slice aC nC cC, .slice aD nD cD] 31) := ⟨_, rfl⟩
    have hb2 : Below W1.heap.size W1 W2 := by rw [hW2]; exact Below.alloc' hB2 _
    have A3 := A1.keep hb2
    have C1 : RtBlk W2 w2.heap.size sC aC nC cC aD nD cD := by rw [hW2]; exact RtBlk.new _ _ rfl _ _ _ _ _ _ _
    have A4 := Lib.hid (show fracB v.neg v.wf v.wn v.df v.dn = true → RtAt W2 sA aA nA cA aB nB cB (vrt v) L from fun hb => (A2.out hb).keep hb2)
    have C2 := Lib.hid (show fracB v.ineg v.jf v.inn v.ef v.en = true → RtAt W2 sC aC nC cC aD nD cD (virt v) L from by
      intro hb; rw [hW2]
      exact (hC hb).keep ((Below.refl _ _).alloc (Nat.le_refl _) _))
    have HW2 := Lib.hid hW2
    have Q1 := R1'.below R1'.lt hb2
    have Q2 := R2'.below R2'.lt hb2
    have hbf := Below.then (Below.then hb0 (Nat.le_refl _) hb1) (Nat.le_refl _) hb2
    have hlt1 := A3.lt
    have hg1 : w.heap.size + 1 + 1 < w1.heap.size := Nat.lt_of_lt_of_le R2.lt hB1.size
    have hg2 : w.heap.size + 1 + 1 < w2.heap.size := Nat.lt_of_lt_of_le R2'.lt hB2.size
    clear hW2 hC hB1 hB2 R1 R2 R1' R2' hb0 hb1 hb2 HX HY1 A2 A1 X Y1
    go_upto_region 5 with fail
    rw [← HW2.out]
    obtain ⟨a0, a1, a2⟩ := A3
    obtain ⟨d0, d1, d2⟩ := C1
    obtain ⟨⟨u0, r0⟩, ⟨u1, r1⟩, ⟨u2, r2⟩⟩ := Q1.cells
    have f0 := Q1.frozen 0
    have f1 := Q1.frozen 1
    have f2 := Q1.frozen 2
    obtain ⟨⟨z0, q0⟩, ⟨z1, q1⟩, ⟨z2, q2⟩⟩ := Q2.cells
    have g0 := Q2.frozen 0
    have g1 := Q2.frozen 1
    have g2 := Q2.frozen 2
    generalize hv : fracB v.neg v.wf v.wn v.df v.dn = bv at *
    generalize hu : fracB v.ineg v.jf v.inn v.ef v.en = bu at *
    cases bv
    · go_region
      all_goals go_wp2
      refine bodyPost_ret (v := .tuple #[.agg #[.bool sA, .slice aA nA cA, .slice aB nB cB], .agg #[.bool sC, .slice aC nC cC, .slice aD nD cD], .bool false]) (by simp [results, Tryz.results37, go_sem, r0, r1, r2, q0, q1, q2]) rfl ⟨_, _, _, _, _, _, _, _, _, _, _, _, _, _, by rw [HI.out]; rfl, ?_, ?_⟩
      · rw [HI.out]; simp
      · exact below33 hbf (by omega) (by omega) _ _ _ _ _ _
    · go_region
      all_goals go_wp2
      refine bodyPost_ret (v := .tuple #[.agg #[.bool sA, .slice aA nA cA, .slice aB nB cB], .agg #[.bool sC, .slice aC nC cC, .slice aD nD cD], .bool bu]) (by simp [results, Tryz.results37, go_sem, r0, r1, r2, q0, q1, q2]) rfl ⟨_, _, _, _, _, _, _, _, _, _, _, _, _, _, by rw [HI.out]; rfl, ?_, ?_⟩
      · intro hb
        rw [HI.out] at hb
        exact ⟨RtAt.drew (stored33 Q1.noInt Q2.noInt (A4.out (by simp))), RtAt.drew (stored33 Q1.noInt Q2.noInt (C2.out (by simpa using hb)))⟩
      · exact below33 hbf (by omega) (by omega) _ _ _ _ _ _

set_option maxRecDepth 100000 in
set_option maxHeartbeats 2000000 in
theorem isPair_any (x : Vl) (t : Bool) (a2 : Option Addr) (n2 c2 : Nat) (a2' : Option Addr) (n2' c2' : Nat) (q : Rt) (t3 : Bool) (a3 : Option Addr) (n3 c3 : Nat) (a3' : Option Addr) (n3' c3' : Nat) (q3 : Rt) (L : Nat) (w : World)
    (h1 : VlAt w x) (h2 : RtAt w t a2 n2 c2 a2' n2' c2' q L) (h3 : RtAt w t3 a3 n3 c3 a3' n3' c3' q3 L) (hL : L ≤ 100000) (hn : x.wn ≤ 1000) (hd : x.dn ≤ 1000) (hi : x.inn ≤ 1000) (he : x.en ≤ 1000) :
    Calls Tryz.prog 17 #[.agg #[.int .i64 x.kind, .bool x.truth, .string x.text, .bool x.neg, .slice x.wa x.wn x.wc, .slice x.da x.dn x.dc, .bool x.ineg, .slice x.ia x.inn x.ic, .slice x.ea x.en x.ec], .agg #[.bool t, .slice a2 n2 c2, .slice a2' n2' c2'], .agg #[.bool t3, .slice a3 n3 c3, .slice a3' n3' c3']] w fun e w' => e = .returned (.bool (pairB x && sameB (vrt x) q && sameB (virt x) q3)) ∧ Below w.heap.size w w' := by
  obtain ⟨W0, hW0⟩ : ∃ W0, W0 = ((w.alloc (.cells #[.int .i64 x.kind, .bool x.truth, .string x.text, .bool x.neg, .slice x.wa x.wn x.wc, .slice x.da x.dn x.dc, .bool x.ineg, .slice x.ia x.inn x.ic, .slice x.ea x.en x.ec] 26)).alloc (.cells #[.bool t, .slice a2 n2 c2, .slice a2' n2' c2'] 31)).alloc (.cells #[.bool t3, .slice a3 n3 c3, .slice a3' n3' c3'] 31) := ⟨_, rfl⟩
  have HW := Lib.hid hW0
  have hb0 : Below w.heap.size w W0 := by rw [hW0]; exact Below.alloc' (Below.alloc' (Below.alloc' (Below.refl _ _) _) _) _
  have X : Box9 W0 w.heap.size x := by rw [hW0]; exact ((Box9.new w x _ rfl).alloc _).alloc _
  have C : RtBlk W0 (w.heap.size + 1) t a2 n2 c2 a2' n2' c2' := by rw [hW0]; exact (RtBlk.new _ _ (by simp) _ _ _ _ _ _ _).keep ((Below.refl _ _).alloc (Nat.le_refl _) _)
  have E : RtBlk W0 (w.heap.size + 1 + 1) t3 a3 n3 c3 a3' n3' c3' := by rw [hW0]; exact RtBlk.new _ _ (by simp) _ _ _ _ _ _ _
  have HX := Lib.hid (h1.keep hb0)
  have HC := Lib.hid (h2.keep hb0)
  have HE := Lib.hid (h3.keep hb0)
  clear hW0 h1 h2 h3
  go_enter Tryz.func17, Tryz.ntmps17
  go_upto_region 1 with fail
  rw [← HW.out]
  obtain ⟨xc0, xc1, xc2, xc3, xc4, xc5, xc6, xc7, xc8⟩ := (X).all
  go_wp2_with fail
  refine (pair_any x 4000 _ HX.out (by omega) (by omega) (by omega) (by omega) (by omega)).mono ?_
  rintro e w1 ⟨sV, aV, nV, cV, aE, nE, cE, sU, aU, nU, cU, aF, nF, cF, rfl, hR, hB1⟩
  clear xc0 xc1 xc2 xc3 xc4 xc5 xc6 xc7 xc8
  go_upto_region 2 with fail
  obtain ⟨W1, hW1⟩ : ∃ W1, W1 = (w1.alloc (.cells #[.bool sV, .slice aV nV cV, .slice aE nE cE] 31)).alloc (.cells #[.bool sU, .slice aU nU cU, .slice aF nF cF] 31) := ⟨_, rfl⟩
  rw [← hW1]
  have hb1 : Below W0.heap.size W0 W1 := by rw [hW1]; exact Below.alloc' (Below.alloc' hB1 _) _
  have V1 : RtBlk W1 w1.heap.size sV aV nV cV aE nE cE := by rw [hW1]; exact (RtBlk.new _ _ rfl _ _ _ _ _ _ _).keep ((Below.refl _ _).alloc (Nat.le_refl _) _)
  have U1 : RtBlk W1 (w1.heap.size + 1) sU aU nU cU aF nF cF := by rw [hW1]; exact RtBlk.new _ _ (by simp) _ _ _ _ _ _ _
  have R1 := Lib.hid (show pairB x = true → RtAt W1 sV aV nV cV aE nE cE (vrt x) 4000 ∧ RtAt W1 sU aU nU cU aF nF cF (virt x) 4000 from fun hb => by
    rw [hW1]
    have hk : Below w1.heap.size w1 ((w1.alloc (.cells #[.bool sV, .slice aV nV cV, .slice aE nE cE] 31)).alloc (.cells #[.bool sU, .slice aU nU cU, .slice aF nF cF] 31)) := Below.alloc' (Below.alloc' (Below.refl _ _) _) _
    exact ⟨(hR hb).1.keep hk, (hR hb).2.keep hk⟩)
  have C1 := C.keep hb1
  have E1 := E.keep hb1
  have HC1 := Lib.hid (HC.out.keep hb1)
  have HE1 := Lib.hid (HE.out.keep hb1)
  have hbf := Below.then hb0 (Nat.le_refl _) hb1
  clear hW1 hR hB1 C HC E HE X HX hb1
  obtain ⟨v0, v1, v2⟩ := V1
  obtain ⟨y0, y1, y2⟩ := C1
  cases hb : pairB x
  · go_wp2
    go_ret
    exact ⟨ret_bool (by rw [hb]; rfl), hbf⟩
  · obtain ⟨HR, HU⟩ := R1.out hb
    have HBB := Lib.hid hb
    have HR := Lib.hid HR
    have HU := Lib.hid HU
    clear hb R1
    cases hs : sameB (vrt x) q
    · have HS := Lib.hid hs
      clear hs
      go_wp2_with fail
      refine (same_any sV t aV nV cV aE nE cE a2 n2 c2 a2' n2' c2' (vrt x) q (L + 4000) _ (HR.out.mono (by omega)) (HC1.out.mono (by omega)) (by omega)).mono ?_
      rintro e w2 ⟨rfl, hB2⟩
      rw [HS.out]
      have hbg := Below.then hbf (Nat.le_refl _) hB2
      go_wp2
      go_ret
      exact ⟨ret_bool (by rw [HBB.out, HS.out]; rfl), hbg⟩
    · have HS := Lib.hid hs
      clear hs
      go_wp2_with fail
      refine (same_any sV t aV nV cV aE nE cE a2 n2 c2 a2' n2' c2' (vrt x) q (L + 4000) _ (HR.out.mono (by omega)) (HC1.out.mono (by omega)) (by omega)).mono ?_
      rintro e w2 ⟨rfl, hB2⟩
      rw [HS.out]
      have hbg := Below.then hbf (Nat.le_refl _) hB2
      have U2 := U1.keep hB2
      have E2 := E1.keep hB2
      have HU2 := Lib.hid (HU.out.keep hB2)
      have HE2 := Lib.hid (HE1.out.keep hB2)
      clear v0 v1 v2 y0 y1 y2 hB2 U1 E1
      obtain ⟨v0, v1, v2⟩ := U2
      obtain ⟨y0, y1, y2⟩ := E2
      go_wp2_with fail
      refine (same_any sU t3 aU nU cU aF nF cF a3 n3 c3 a3' n3' c3' (virt x) q3 (L + 4000) _ (HU2.out.mono (by omega)) (HE2.out.mono (by omega)) (by omega)).mono ?_
      rintro e w3 ⟨rfl, hB3⟩
      have hbh := Below.then hbg (Nat.le_refl _) hB3
      go_wp2
      go_ret
      exact ⟨ret_bool (by rw [HBB.out, HS.out]; rfl), hbh⟩

set_option maxRecDepth 100000 in
set_option maxHeartbeats 2000000 in
theorem of64_zero (w : World) : Calls Tryz.prog 19 #[.int .i64 0] w (GivesR ⟨false, 0, 1⟩ 4 w) := by
  obtain ⟨W0, hW0⟩ : ∃ W0, W0 = (w.alloc (.cells #[.bool false, .slice none 0 0, .slice none 0 0] 31)).alloc (.cells #[.int .u64 0] 36) := ⟨_, rfl⟩
  have HW := Lib.hid hW0
  have hb0 : Below w.heap.size w W0 := by rw [hW0]; exact Below.alloc' (Below.alloc' (Below.refl _ _) _) _
  have R : ResBlk W0 w.heap.size := by rw [hW0]; exact (ResBlk.new _ _ rfl).alloc1 _
  have hc : W0.cell? ⟨w.heap.size + 1, 0, none⟩ = some (.int .u64 0) := by rw [hW0]; exact alloc_new _ _ _ (by simp) rfl
  clear hW0
  go_enter Tryz.func19, Tryz.ntmps19
  go_wp2_with fail
  rw [← HW.out]
  have hcc : Cells W0 (some ⟨w.heap.size + 1, 0, none⟩) 1 (fun i => .int .u64 ((fun _ => 0 : Nat → Nat) i : Nat)) := fun _ => ⟨_, _, rfl, fun i hi => by
    have h0 : i = 0 := by omega
    rw [h0]; exact hc⟩
  refine (of_any (some ⟨w.heap.size + 1, 0, none⟩) 1 1 (fun _ => 0) _ hcc (fun _ _ => W64_pos) (by omega)).mono ?_
  rintro e w1 ⟨aO, nO, cO, rfl, hO, hB1⟩
  have hb1 := Below.then hb0 (Nat.le_refl _) hB1
  have R1 := R.below R.lt hB1
  go_wp2_with fail
  refine (small_one _).mono ?_
  rintro e w2 ⟨aS, nS, cS, rfl, hS, hB2⟩
  have hb2 := Below.then hb1 (Nat.le_refl _) hB2
  have R2 := R1.below R1.lt hB2
  have hV : RtAt w2 false aO nO cO aS nS cS ⟨false, 0, 1⟩ 4 := ⟨rfl, by simpa [val] using hO.keep hB2, hS, by decide, by decide⟩
  obtain ⟨⟨u0, r0⟩, ⟨u1, r1⟩, ⟨u2, r2⟩⟩ := (R2).cells; have f0 := (R2).frozen 0; have f1 := (R2).frozen 1; have f2 := (R2).frozen 2
  clear hc hcc hO hS
  go_wp2
  exact bodyPost_ret (v := .agg #[.bool false, .slice aO nO cO, .slice aS nS cS]) (by simp [results, Tryz.results19, go_sem, r0, r1, r2]) rfl (givesR_end R2 (Nat.le_refl _) hb2 hV)
end Go.Proofs.YtnecaaoalfndnaaGreatDoor
