/-
  The reference's readers: Rational; the laws' rational; IsFloat, IsReal.
  The reference's readers: Pair, IsPair; Of64 of 0.
-/
import Derived.Test.YtpfjkaelbaoedaaGreatDoorSpF
import Derived.Test.YtpfjkaelbaoedaaGreatDoorBuH
set_option linter.unusedSimpArgs false
set_option linter.unusedVariables false
namespace Go.Proofs.YtpfjkaelbaoedaaGreatDoor
open Go.RowKit Go.Bg Dg

/-- the value is a Float as it is told -/
def ratB (v : Vl) : Bool := decide (v.kind = 4) && v.restB && fracB v.neg v.wf v.wn v.df v.dn
/-- the fraction that it is -/
def vrt (v : Vl) : Rt := frt v.neg v.wf v.wn v.df v.dn

set_option maxRecDepth 100000 in
set_option maxHeartbeats 2000000 in
theorem rational_any (v : Vl) (L : Nat) (w : World) (h : VlAt w v) (hn : 4 * v.wn ≤ L) (hd : 4 * v.dn ≤ L) (hL : L ≤ 4000) :
    Calls Tryz.prog 37 #[.agg #[.int .i64 v.kind, .bool v.truth, .string v.text, .bool v.neg, .slice v.wa v.wn v.wc, .slice v.da v.dn v.dc, .bool v.ineg, .slice v.ia v.inn v.ic, .slice v.ea v.en v.ec]] w (Reads1 (ratB v) (vrt v) L w) := by
  by_cases hk : v.kind = 4
  · have hkb : (v.kind != 4) = false := by rw [hk]; rfl
    obtain ⟨W0, hW0⟩ : ∃ W0, W0 = (w.alloc (.cells #[.int .i64 v.kind, .bool v.truth, .string v.text, .bool v.neg, .slice v.wa v.wn v.wc, .slice v.da v.dn v.dc, .bool v.ineg, .slice v.ia v.inn v.ic, .slice v.ea v.en v.ec] 26)).alloc (.cells #[.bool false, .slice none 0 0, .slice none 0 0] 31) := ⟨_, rfl⟩
    have I := integerW w v 26 31
    rw [← hW0] at I
    have HW := Lib.hid hW0
    have HK := Lib.hid hk
    have HV := Lib.hid h
    clear hW0 hk h
    have hb0 := I.below
    have hlt := I.res.lt
    have RR0 := I.res
    go_enter Tryz.func37, Tryz.ntmps37
    go_upto_region 1 with fail
    rw [← HW.out]
    obtain ⟨c0, c1, c2, c3, c4, c5, c6, c7, c8⟩ := I.all
    cases hr : v.restB
    · have HI := Lib.hid (show ratB v = false from by unfold ratB; rw [hr]; simp)
      have HR := Lib.hid hr
      clear hr
      go_wp2_with fail
      refine (rest_any v _).mono ?_
      rintro e w1 ⟨rfl, hB1⟩
      rw [HR.out]
      have RR := RR0.below hlt hB1
      obtain ⟨⟨u0, r0⟩, ⟨u1, r1⟩, ⟨u2, r2⟩⟩ := (RR).cells; have f0 := (RR).frozen 0; have f1 := (RR).frozen 1; have f2 := (RR).frozen 2
      have hbf := Below.then hb0 (Nat.le_refl _) hB1
      clear c0 c1 c2 c3 c4 c5 c6 c7 c8
      go_wp2
      exact bodyPost_ret (v := .tuple #[.agg #[.bool false, .slice none 0 0, .slice none 0 0], .bool false]) (by simp [results, Tryz.results37, go_sem, r0, r1, r2]) rfl
        ⟨_, _, _, _, _, _, _, by rw [HI.out], fun h => (by rw [HI.out] at h; cases h), ((hbf.setCell (Nat.le_add_right _ 1) _).setCell (Nat.le_add_right _ 1) _).setCell (Nat.le_add_right _ 1) _⟩
    · have HI := Lib.hid (show ratB v = fracB v.neg v.wf v.wn v.df v.dn from by unfold ratB; rw [hr, HK.out]; simp)
      have HR := Lib.hid hr
      clear hr
      go_wp2_with fail
      refine (rest_any v _).mono ?_
      rintro e w1 ⟨rfl, hB1⟩
      rw [HR.out]
      have RR := RR0.below hlt hB1
      have hbf := Below.then hb0 (Nat.le_refl _) hB1
      have C := (I.keep hB1)
      obtain ⟨d0, d1, d2, d3, d4, d5, d6, d7, d8⟩ := C.all
      clear c0 c1 c2 c3 c4 c5 c6 c7 c8
      go_wp2_with fail
      refine (fraction_any v.neg v.wa v.wn v.wc v.wf v.da v.dn v.dc v.df L _ (HV.out.ws.keep hbf) (HV.out.ds.keep hbf) hn hd hL).mono ?_
      rintro e w2 ⟨sV, aV, nV, cV, aE, nE, cE, rfl, hR, hB2⟩
      have RR2 := RR.below RR.lt hB2
      have hbg := Below.then hbf (Nat.le_refl _) hB2
      clear d0 d1 d2 d3 d4 d5 d6 d7 d8
      obtain ⟨⟨u0, r0⟩, ⟨u1, r1⟩, ⟨u2, r2⟩⟩ := (RR2).cells; have f0 := (RR2).frozen 0; have f1 := (RR2).frozen 1; have f2 := (RR2).frozen 2
      go_wp2
      exact bodyPost_ret (v := .tuple #[.agg #[.bool sV, .slice aV nV cV, .slice aE nE cE], .bool (fracB v.neg v.wf v.wn v.df v.dn)]) (by simp [results, Tryz.results37, go_sem, r0, r1, r2]) rfl
        ⟨_, _, _, _, _, _, _, by rw [HI.out], fun hb => stored3 RR2 (hR (by rw [← HI.out]; exact hb)), ((hbg.setCell (Nat.le_add_right _ 1) _).setCell (Nat.le_add_right _ 1) _).setCell (Nat.le_add_right _ 1) _⟩
  · have hkb : (v.kind != 4) = true := by simp; exact hk
    have HI := Lib.hid (show ratB v = false from by unfold ratB; simp [hk])
    have hb := ((Below.refl w.heap.size w).alloc (Nat.le_refl _) (.cells #[.int .i64 v.kind, .bool v.truth, .string v.text, .bool v.neg, .slice v.wa v.wn v.wc, .slice v.da v.dn v.dc, .bool v.ineg, .slice v.ia v.inn v.ic, .slice v.ea v.en v.ec] 26)).alloc (by simp) (.cells #[.bool false, .slice none 0 0, .slice none 0 0] 31)
    have HB := Lib.hid hb
    clear hk hb
    go_enter Tryz.func37, Tryz.ntmps37
    go_wp2
    exact bodyPost_ret (v := .tuple #[.agg #[.bool false, .slice none 0 0, .slice none 0 0], .bool false]) (by simp [results, Tryz.results37, go_sem]) rfl
      ⟨_, _, _, _, _, _, _, by rw [HI.out], fun h => (by rw [HI.out] at h; cases h), HB.out⟩

/-- a Float of at most so many words -/
def lratB (v : Vl) (k : Nat) : Bool := decide (v.wn ≤ k) && decide (v.dn ≤ k) && ratB v

set_option maxRecDepth 100000 in
set_option maxHeartbeats 2000000 in
theorem lawRational_any (v : Vl) (k : Nat) (w : World) (h : VlAt w v) (hk : k ≤ 1000) :
    Calls Tryz.prog 18 #[.agg #[.int .i64 v.kind, .bool v.truth, .string v.text, .bool v.neg, .slice v.wa v.wn v.wc, .slice v.da v.dn v.dc, .bool v.ineg, .slice v.ia v.inn v.ic, .slice v.ea v.en v.ec], .int .i64 k] w (Reads1 (lratB v k) (vrt v) (4 * k) w) := by
  by_cases hn : v.wn ≤ k ∧ v.dn ≤ k
  · obtain ⟨hn, hd⟩ := hn
    obtain ⟨W0, hW0⟩ : ∃ W0, W0 = (w.alloc (.cells #[.int .i64 v.kind, .bool v.truth, .string v.text, .bool v.neg, .slice v.wa v.wn v.wc, .slice v.da v.dn v.dc, .bool v.ineg, .slice v.ia v.inn v.ic, .slice v.ea v.en v.ec] 26)).alloc (.cells #[.bool false, .slice none 0 0, .slice none 0 0] 31) := ⟨_, rfl⟩
    have I := integerW w v 26 31
    rw [← hW0] at I
    have HW := Lib.hid hW0
    have HI := Lib.hid (show lratB v k = ratB v from by unfold lratB; simp [hn, hd])
    have HV := Lib.hid (h.keep I.below)
    clear hW0 h
    go_enter Tryz.func18, Tryz.ntmps18
    go_upto_region 3 with fail
    rw [← HW.out]
    obtain ⟨c0, c1, c2, c3, c4, c5, c6, c7, c8⟩ := I.all
    go_wp2_with fail
    refine (rational_any v (4 * k) _ HV.out (by omega) (by omega) (by omega)).mono ?_
    rintro e w1 ⟨sV, aV, nV, cV, aE, nE, cE, rfl, hR, hB1⟩
    have RR := I.res.below I.res.lt hB1
    obtain ⟨⟨u0, r0⟩, ⟨u1, r1⟩, ⟨u2, r2⟩⟩ := (RR).cells; have f0 := (RR).frozen 0; have f1 := (RR).frozen 1; have f2 := (RR).frozen 2
    have hbf := Below.then I.below (Nat.le_refl _) hB1
    clear c0 c1 c2 c3 c4 c5 c6 c7 c8
    go_wp2
    exact bodyPost_ret (v := .tuple #[.agg #[.bool sV, .slice aV nV cV, .slice aE nE cE], .bool (ratB v)]) (by simp [results, Tryz.results18, go_sem, r0, r1, r2]) rfl
      ⟨_, _, _, _, _, _, _, by rw [HI.out], fun hb => stored3 RR (hR (by rw [← HI.out]; exact hb)), ((hbf.setCell (Nat.le_add_right _ 1) _).setCell (Nat.le_add_right _ 1) _).setCell (Nat.le_add_right _ 1) _⟩
  · have HI := Lib.hid (show lratB v k = false from by
      unfold lratB
      by_cases h1 : v.wn ≤ k <;> by_cases h2 : v.dn ≤ k <;> simp [h1, h2] <;> exact absurd ⟨h1, h2⟩ hn)
    have hb := ((Below.refl w.heap.size w).alloc (Nat.le_refl _) (.cells #[.int .i64 v.kind, .bool v.truth, .string v.text, .bool v.neg, .slice v.wa v.wn v.wc, .slice v.da v.dn v.dc, .bool v.ineg, .slice v.ia v.inn v.ic, .slice v.ea v.en v.ec] 26)).alloc (by simp) (.cells #[.bool false, .slice none 0 0, .slice none 0 0] 31)
    have HB := Lib.hid hb
    clear hb
    by_cases h1 : v.wn ≤ k
    · have h2 : ¬ v.dn ≤ k := fun h2 => hn ⟨h1, h2⟩
      clear hn
      go_enter Tryz.func18, Tryz.ntmps18
      go_wp2
      exact bodyPost_ret (v := .tuple #[.agg #[.bool false, .slice none 0 0, .slice none 0 0], .bool false]) (by simp [results, Tryz.results18, go_sem]) rfl
        ⟨_, _, _, _, _, _, _, by rw [HI.out], fun h => (by rw [HI.out] at h; cases h), HB.out⟩
    · clear hn
      go_enter Tryz.func18, Tryz.ntmps18
      go_wp2
      exact bodyPost_ret (v := .tuple #[.agg #[.bool false, .slice none 0 0, .slice none 0 0], .bool false]) (by simp [results, Tryz.results18, go_sem]) rfl
        ⟨_, _, _, _, _, _, _, by rw [HI.out], fun h => (by rw [HI.out] at h; cases h), HB.out⟩

end Go.Proofs.YtpfjkaelbaoedaaGreatDoor

set_option linter.unusedSimpArgs false
set_option linter.unusedVariables false
namespace Go.Proofs.YtpfjkaelbaoedaaGreatDoor
open Go.RowKit Go.Bg Dg

/-- the imaginary part that is told -/
def virt (v : Vl) : Rt := frt v.ineg v.jf v.inn v.ef v.en
/-- the value is a Complex as it is told -/
def pairB (v : Vl) : Bool := decide (v.kind = 5) && !v.truth && v.text.toList.isEmpty && fracB v.neg v.wf v.wn v.df v.dn && fracB v.ineg v.jf v.inn v.ef v.en

set_option maxRecDepth 100000 in
set_option maxHeartbeats 2000000 in
theorem of64_zero (w : World) : Calls Tryz.prog 23 #[.int .i64 0] w (GivesR ⟨false, 0, 1⟩ 4 w) := by
  obtain ⟨W0, hW0⟩ : ∃ W0, W0 = (w.alloc (.cells #[.bool false, .slice none 0 0, .slice none 0 0] 31)).alloc (.cells #[.int .u64 0] 49) := ⟨_, rfl⟩
  have HW := Lib.hid hW0
  have hb0 : Below w.heap.size w W0 := by rw [hW0]; exact Below.alloc' (Below.alloc' (Below.refl _ _) _) _
  have R : ResBlk W0 w.heap.size := by rw [hW0]; exact (ResBlk.new _ _ rfl).alloc1 _
  have hc : W0.cell? ⟨w.heap.size + 1, 0, none⟩ = some (.int .u64 0) := by rw [hW0]; exact alloc_new _ _ _ (by simp) rfl
  clear hW0
  go_enter Tryz.func23, Tryz.ntmps23
  go_wp2_with fail
  rw [← HW.out]
  have hcc : Cells W0 (some ⟨w.heap.size + 1, 0, none⟩) 1 (fun i => .int .u64 ((fun _ => 0 : Nat → Nat) i : Nat)) := fun _ => ⟨_, _, rfl, fun i hi => by
    have h0 : i = 0 := by omega
    rw [h0]; exact hc⟩
  refine (of_any (some ⟨w.heap.size + 1, 0, none⟩) 1 1 (fun _ => 0) _ hcc (fun _ _ => W64_pos) (by omega)).mono ?_
  rintro e w1 ⟨aO, nO, cO, rfl, hO, hB1⟩
  have hb1 := Below.then hb0 (Nat.le_refl _) hB1
  have R1 := R.below R.lt hB1
  go_wp2_with fail
  refine (small_one _).mono ?_
  rintro e w2 ⟨aS, nS, cS, rfl, hS, hB2⟩
  have hb2 := Below.then hb1 (Nat.le_refl _) hB2
  have R2 := R1.below R1.lt hB2
  have hV : RtAt w2 false aO nO cO aS nS cS ⟨false, 0, 1⟩ 4 := ⟨rfl, by simpa [val] using hO.keep hB2, hS, by decide, by decide⟩
  obtain ⟨⟨u0, r0⟩, ⟨u1, r1⟩, ⟨u2, r2⟩⟩ := (R2).cells; have f0 := (R2).frozen 0; have f1 := (R2).frozen 1; have f2 := (R2).frozen 2
  clear hc hcc hO hS
  go_wp2
  exact bodyPost_ret (v := .agg #[.bool false, .slice aO nO cO, .slice aS nS cS]) (by simp [results, Tryz.results23, go_sem, r0, r1, r2]) rfl (givesR_end R2 (Nat.le_refl _) hb2 hV)
end Go.Proofs.YtpfjkaelbaoedaaGreatDoor
