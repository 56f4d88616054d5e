/-
  FnComplexQuotient walked. PRINTED BY wip/gen_lquo.py.
-/
import Derived.Test.YtgmienggfaahlaaGreatDoorUQ
import Derived.Test.YtgmienggfaahlaaGreatDoorUB
import Derived.Test.YtgmienggfaahlaaGreatDoorK34
import Derived.Test.YtgmienggfaahlaaGreatDoorK36
import Derived.Test.YtgmienggfaahlaaGreatDoorK08
import Derived.Test.YtgmienggfaahlaaGreatDoorK09
import Derived.Test.YtgmienggfaahlaaGreatDoorK35
import Derived.Deep.CutRange
set_option linter.unusedSimpArgs false
set_option linter.unusedVariables false
namespace Go.Proofs.YtgmienggfaahlaaGreatDoor
open Go.RowKit Go.Bg Dg

theorem quo_re {a b c d : Rt} (hb : ROk b) (hd : ROk d) : Rt.minus (Rt.times a c) (Rt.times b d.negated) = Rt.plus (Rt.times a c) (Rt.times b d) := by
  rw [times_negated hb hd, minus_negated (rok_times hb hd)]
theorem quo_im {a b c d : Rt} (ha : ROk a) (hd : ROk d) : Rt.plus (Rt.times a d.negated) (Rt.times b c) = Rt.minus (Rt.times b c) (Rt.times a d) := by
  rw [plus_comm, times_negated ha hd]
  rfl
theorem signOf_pos0 {r : Rt} (h : r.signOf ≠ 0) : 0 < r.num := by
  apply Nat.pos_of_ne_zero
  intro e
  apply h
  unfold Rt.signOf
  rw [if_pos e]
theorem signOf_one0 {r : Rt} (h : r.signOf ≠ 0) : r.signOf = 1 ∨ r.signOf = -1 := by
  have := signOf_pos0 h
  unfold Rt.signOf
  rw [if_neg (by omega)]
  split
  · exact .inr rfl
  · exact .inl rfl

set_option maxRecDepth 100000 in
set_option maxHeartbeats 8000000 in
theorem lawFnComplexQuotient_any (x y : Vl) (w : World) (hT : Thr w) (hDD : ThrD w) (hSS : ThrS w) (h1 : VlAt w x) (h2 : VlAt w y) :
    Calls Tryz.prog 3 #[.agg #[.int .i64 x.kind, .bool x.truth, .string x.text, .bool x.neg, .slice x.wa x.wn x.wc, .slice x.da x.dn x.dc, .bool x.ineg, .slice x.ia x.inn x.ic, .slice x.ea x.en x.ec], .agg #[.int .i64 y.kind, .bool y.truth, .string y.text, .bool y.neg, .slice y.wa y.wn y.wc, .slice y.da y.dn y.dc, .bool y.ineg, .slice y.ia y.inn y.ic, .slice y.ea y.en y.ec]] w fun e w' => e = .returned (.bool true) ∧ Below w.heap.size w w' := by
  have HT := Lib.hid hT
  have HDD := Lib.hid hDD
  have HSS := Lib.hid hSS
  clear hT hDD hSS
  obtain ⟨W0, hW0⟩ : ∃ W0, W0 = (w.alloc (.cells #[.int .i64 x.kind, .bool x.truth, .string x.text, .bool x.neg, .slice x.wa x.wn x.wc, .slice x.da x.dn x.dc, .bool x.ineg, .slice x.ia x.inn x.ic, .slice x.ea x.en x.ec] 26)).alloc (.cells #[.int .i64 y.kind, .bool y.truth, .string y.text, .bool y.neg, .slice y.wa y.wn y.wc, .slice y.da y.dn y.dc, .bool y.ineg, .slice y.ia y.inn y.ic, .slice y.ea y.en y.ec] 26) := ⟨_, rfl⟩
  have HW := Lib.hid hW0
  have hb0 : Below w.heap.size w W0 := by rw [hW0]; exact Below.alloc' (Below.alloc' (Below.refl _ _) _) _
  have X : Box9 W0 w.heap.size x := by rw [hW0]; exact (Box9.new w x _ rfl).alloc _
  have Y : Box9 W0 (w.heap.size + 1) y := by rw [hW0]; exact Box9.new _ y _ (by simp)
  have HX := Lib.hid (h1.keep hb0)
  have HY := Lib.hid (h2.keep hb0)
  clear hW0 h1 h2
  cases hf : fitsB x
  · have HF := Lib.hid hf
    clear hf
    go_enter Tryz.func3, Tryz.ntmps3
    go_upto_region 1 with fail
    rw [← HW.out]
    obtain ⟨xc0, xc1, xc2, xc3, xc4, xc5, xc6, xc7, xc8⟩ := (X).all
    go_wp2_with fail
    refine (fits1_any x _).mono ?_
    rintro e w1 ⟨rfl, hB1⟩
    rw [HF.out]
    go_wp2
    go_ret
    exact ⟨rfl, Below.then hb0 (Nat.le_refl _) hB1⟩
  have HF := Lib.hid hf
  clear hf
  cases hg : fitsB y
  · have HG := Lib.hid hg
    clear hg
    go_enter Tryz.func3, Tryz.ntmps3
    go_upto_region 1 with fail
    rw [← HW.out]
    obtain ⟨xc0, xc1, xc2, xc3, xc4, xc5, xc6, xc7, xc8⟩ := (X).all
    go_wp2_with fail
    refine (fits1_any x _).mono ?_
    rintro e w1 ⟨rfl, hB1⟩
    rw [HF.out]
    have Y1 := Y.keep hB1
    obtain ⟨yc0, yc1, yc2, yc3, yc4, yc5, yc6, yc7, yc8⟩ := (Y1).all
    clear xc0 xc1 xc2 xc3 xc4 xc5 xc6 xc7 xc8
    go_wp2_with fail
    refine (fits1_any y _).mono ?_
    rintro e w2 ⟨rfl, hB2⟩
    rw [HG.out]
    go_wp2
    go_ret
    exact ⟨rfl, Below.then (Below.then hb0 (Nat.le_refl _) hB1) (Nat.le_refl _) hB2⟩
  have HG := Lib.hid hg
  clear hg
  go_enter Tryz.func3, Tryz.ntmps3
  go_upto_region 1 with fail
  rw [← HW.out]
  obtain ⟨xc0, xc1, xc2, xc3, xc4, xc5, xc6, xc7, xc8⟩ := (X).all
  go_wp2_with fail
  refine (fits1_any x _).mono ?_
  rintro e w1 ⟨rfl, hB1⟩
  rw [HF.out]
  have Y1 := Y.keep hB1
  obtain ⟨yc0, yc1, yc2, yc3, yc4, yc5, yc6, yc7, yc8⟩ := (Y1).all
  clear xc0 xc1 xc2 xc3 xc4 xc5 xc6 xc7 xc8
  go_wp2_with fail
  refine (fits1_any y _).mono ?_
  rintro e w2 ⟨rfl, hB2⟩
  rw [HG.out]
  clear yc0 yc1 yc2 yc3 yc4 yc5 yc6 yc7 yc8
  have hb2 := Below.then (Below.then hb0 (Nat.le_refl _) hB1) (Nat.le_refl _) hB2
  have X2 := (X.keep hB1).keep hB2
  have Y2 := Y1.keep hB2
  have HX2 := Lib.hid ((HX.out.keep hB1).keep hB2)
  have HY2 := Lib.hid ((HY.out.keep hB1).keep hB2)
  clear X Y Y1 HX HY hB1 hB2 hb0 HW
  go_upto_region 3 with fail
  obtain ⟨xc0, xc1, xc2, xc3, xc4, xc5, xc6, xc7, xc8⟩ := (X2).all
  go_wp2_with fail
  refine (lawPair_any x 3 _ HX2.out (by omega)).mono ?_
  rintro e w3 ⟨sA, aA, nA, cA, aB, nB, cB, sC, aC, nC, cC, aD, nD, cD, rfl, hR, hB3⟩
  clear xc0 xc1 xc2 xc3 xc4 xc5 xc6 xc7 xc8
  go_upto_region 4 with fail
  obtain ⟨W3, hW3⟩ : ∃ W3, W3 = (w3.alloc (.cells #[.bool sA, .slice aA nA cA, .slice aB nB cB] 31)).alloc (.cells #[.bool sC, .slice aC nC cC, .slice aD nD cD] 31) := ⟨_, rfl⟩
  rw [← hW3]
  have hk3 : Below w3.heap.size w3 W3 := by rw [hW3]; exact Below.alloc' (Below.alloc' (Below.refl _ _) _) _
  have hB3' : Below w2.heap.size w2 W3 := Below.then hB3 (Nat.le_refl _) hk3
  have A3 : RtBlk W3 w3.heap.size sA aA nA cA aB nB cB := by rw [hW3]; exact (RtBlk.new _ _ rfl _ _ _ _ _ _ _).keep ((Below.refl _ _).alloc (Nat.le_refl _) _)
  have C3 : RtBlk W3 (w3.heap.size + 1) sC aC nC cC aD nD cD := by rw [hW3]; exact RtBlk.new _ _ (by simp) _ _ _ _ _ _ _
  have R3 := Lib.hid (fun hb => show RtAt W3 sA aA nA cA aB nB cB (vrt x) (4 * 3) ∧ RtAt W3 sC aC nC cC aD nD cD (virt x) (4 * 3) from ⟨(hR hb).1.keep hk3, (hR hb).2.keep hk3⟩)
  have hb3 := Below.then hb2 (Nat.le_refl _) hB3'
  have X3 := X2.keep hB3'
  have Y3 := Y2.keep hB3'
  have HX3 := Lib.hid (HX2.out.keep hB3')
  have HY3 := Lib.hid (HY2.out.keep hB3')
  clear hW3 hR hB3 hk3 X2 Y2 HX2 HY2 hb2 hB3'
  obtain ⟨yc0, yc1, yc2, yc3, yc4, yc5, yc6, yc7, yc8⟩ := (Y3).all
  go_wp2_with fail
  refine (lawPair_any y 3 _ HY3.out (by omega)).mono ?_
  rintro e w4 ⟨sE, aE, nE, cE, aF, nF, cF, sG, aG, nG, cG, aH, nH, cH, rfl, hR, hB4⟩
  clear yc0 yc1 yc2 yc3 yc4 yc5 yc6 yc7 yc8
  go_upto_region 5 with fail
  obtain ⟨W4, hW4⟩ : ∃ W4, W4 = (w4.alloc (.cells #[.bool sE, .slice aE nE cE, .slice aF nF cF] 31)).alloc (.cells #[.bool sG, .slice aG nG cG, .slice aH nH cH] 31) := ⟨_, rfl⟩
  rw [← hW4]
  have hk4 : Below w4.heap.size w4 W4 := by rw [hW4]; exact Below.alloc' (Below.alloc' (Below.refl _ _) _) _
  have hB4' : Below W3.heap.size W3 W4 := Below.then hB4 (Nat.le_refl _) hk4
  have E4 : RtBlk W4 w4.heap.size sE aE nE cE aF nF cF := by rw [hW4]; exact (RtBlk.new _ _ rfl _ _ _ _ _ _ _).keep ((Below.refl _ _).alloc (Nat.le_refl _) _)
  have G4 : RtBlk W4 (w4.heap.size + 1) sG aG nG cG aH nH cH := by rw [hW4]; exact RtBlk.new _ _ (by simp) _ _ _ _ _ _ _
  have A4 := A3.keep hB4'
  have C4 := C3.keep hB4'
  have R4 := Lib.hid (fun hx hy => show RtAt W4 sA aA nA cA aB nB cB (vrt x) (4 * 3) ∧ RtAt W4 sC aC nC cC aD nD cD (virt x) (4 * 3) ∧ RtAt W4 sE aE nE cE aF nF cF (vrt y) (4 * 3) ∧ RtAt W4 sG aG nG cG aH nH cH (virt y) (4 * 3) from ⟨(R3.out hx).1.keep hB4', (R3.out hx).2.keep hB4', (hR hy).1.keep hk4, (hR hy).2.keep hk4⟩)
  have hb4 := Below.then hb3 (Nat.le_refl _) hB4'
  have X4 := X3.keep hB4'
  have Y4 := Y3.keep hB4'
  have HX4 := Lib.hid (HX3.out.keep hB4')
  have HY4 := Lib.hid (HY3.out.keep hB4')
  have HB4 := Lib.hid hb4
  clear hW4 hR hB4 hk4 hB4' X3 Y3 A3 C3 R3 HX3 HY3 hb3 hb4
  cases hbx : lpairB x 3
  · clear R4 X4 Y4 A4 C4 E4 G4
    go_wp2
    go_ret
    exact ⟨rfl, HB4.out⟩
  cases hby : lpairB y 3
  · clear R4 X4 Y4 A4 C4 E4 G4
    go_wp2
    go_ret
    exact ⟨rfl, HB4.out⟩
  have MX := Lib.hid (madeC_pair hbx (by omega) (by omega))
  have MY := Lib.hid (madeC_pair hby (by omega) (by omega))
  have PX := Lib.hid (plt_pair HX4.out hbx (by omega) (by omega))
  have PY := Lib.hid (plt_pair HY4.out hby (by omega) (by omega))
  obtain ⟨rA, rC, rE, rG⟩ := R4.out hbx hby
  have RA4 := Lib.hid rA
  have RC4 := Lib.hid rC
  have RE4 := Lib.hid rE
  have RG4 := Lib.hid rG
  have HT4 := Lib.hid (HT.out.keep HB4.out)
  have HD4 := Lib.hid (HDD.out.keep HB4.out)
  have HS4 := Lib.hid (HSS.out.keep HB4.out)
  have CE := Lib.hid (⟨quo_re PX.out.ok2 PY.out.ok2, quo_im PX.out.ok1 PY.out.ok2⟩ : Rt.minus (Rt.times (vrt x) (vrt y)) (Rt.times (virt x) (virt y).negated) = Rt.plus (Rt.times (vrt x) (vrt y)) (Rt.times (virt x) (virt y)) ∧ Rt.plus (Rt.times (vrt x) (virt y).negated) (Rt.times (virt x) (vrt y)) = Rt.minus (Rt.times (virt x) (vrt y)) (Rt.times (vrt x) (virt y)))
  have QL := qlt_of PX.out PY.out
  have QD := Lib.hid (⟨QL.re.2.2.den, QL.im.2.2.den⟩ : 0 < (Rt.plus (Rt.times (vrt x) (vrt y)) (Rt.times (virt x) (virt y))).den ∧ 0 < (Rt.minus (Rt.times (virt x) (vrt y)) (Rt.times (vrt x) (virt y))).den)
  clear rA rC rE rG hbx hby R4 QL HT HDD HSS
  go_upto_region 5 with fail
  go_cut [49] from 34 to 48 (fun s49 wx => ∃ t, s49 = .bool t ∧ Below W4.heap.size W4 wx ∧ (t = false → 0 < (vrt y).num ∨ 0 < (virt y).num))
  case first =>
    obtain ⟨u, hu⟩ : ∃ u, u = (vrt y).signOf := ⟨_, rfl⟩
    obtain ⟨v, hv⟩ : ∃ v, v = (virt y).signOf := ⟨_, rfl⟩
    have HU := Lib.hid hu
    have HV := Lib.hid hv
    clear hu hv
    obtain ⟨e0, e1, e2⟩ := E4.all
    go_wp2_with fail
    refine (signOf_any sE aE nE cE aF nF cF 12 (vrt y) _ RE4.out (by omega)).mono ?_
    rintro e w5 ⟨rfl, hB5⟩
    rw [← HU.out]
    clear e0 e1 e2
    by_cases h0 : u = 0
    · subst h0
      have G5 := G4.keep hB5
      obtain ⟨g0, g1, g2⟩ := G5.all
      go_wp2_with fail
      refine (signOf_any sG aG nG cG aH nH cH 12 (virt y) _ (RG4.out.keep hB5) (by omega)).mono ?_
      rintro e w6 ⟨rfl, hB6⟩
      rw [← HV.out]
      clear g0 g1 g2
      have HB6 := Lib.hid (Below.then hB5 (Nat.le_refl _) hB6)
      by_cases h1 : v = 0
      · subst h1
        go_wp2_with fail
        go_meet
        with_reducible exact ⟨_, rfl, HB6.out, fun h => by cases h⟩
      · have H0 := Lib.hid (show 0 < (vrt y).num ∨ 0 < (virt y).num from .inr (signOf_pos0 (by rw [← HV.out]; exact h1)))
        have hone : v = 1 ∨ v = -1 := by rw [HV.out]; exact signOf_one0 (by rw [← HV.out]; exact h1)
        clear h1 HU HV
        rcases hone with rfl | rfl
        all_goals
          go_wp2_with fail
          go_meet
          with_reducible exact ⟨_, rfl, HB6.out, fun _ => H0.out⟩
    · have H0 := Lib.hid (show 0 < (vrt y).num ∨ 0 < (virt y).num from .inl (signOf_pos0 (by rw [← HU.out]; exact h0)))
      have HB5 := Lib.hid hB5
      have hone : u = 1 ∨ u = -1 := by rw [HU.out]; exact signOf_one0 (by rw [← HU.out]; exact h0)
      clear h0 HU HV hB5
      rcases hone with rfl | rfl
      all_goals
        go_wp2_with fail
        go_meet
        with_reducible exact ⟨_, rfl, HB5.out, fun _ => H0.out⟩
  case rest =>
    obtain ⟨t, rfl, hB5, h0⟩ := hcut
    cases t
    case true =>
      clear X4 Y4 A4 C4 E4 G4
      go_wp2
      go_ret
      exact ⟨rfl, Below.then HB4.out (Nat.le_refl _) hB5⟩
    obtain ⟨W5, hW5⟩ : ∃ W5, W5 = wc := ⟨_, rfl⟩
    subst hW5
    have H0 := Lib.hid (h0 rfl)
    clear h0
    have SP := Lib.hid (show 0 < (sqS (vrt y) (virt y)).upside.den from sqS_pos PY.out.ok1 PY.out.ok2 H0.out)
    have X5 := X4.keep hB5
    have Y5 := Y4.keep hB5
    have A5 := A4.keep hB5
    have C5 := C4.keep hB5
    have E5 := E4.keep hB5
    have G5 := G4.keep hB5
    have HX5 := Lib.hid (HX4.out.keep hB5)
    have HY5 := Lib.hid (HY4.out.keep hB5)
    have HT5 := Lib.hid (HT4.out.keep hB5)
    have HD5 := Lib.hid (HD4.out.keep hB5)
    have HS5 := Lib.hid (HS4.out.keep hB5)
    have RA5 := Lib.hid (RA4.out.keep hB5)
    have RC5 := Lib.hid (RC4.out.keep hB5)
    have RE5 := Lib.hid (RE4.out.keep hB5)
    have RG5 := Lib.hid (RG4.out.keep hB5)
    have HB5 := Lib.hid (Below.then HB4.out (Nat.le_refl _) hB5)
    clear X4 Y4 A4 C4 E4 G4 HX4 HY4 HT4 HD4 HS4 RA4 RC4 RE4 RG4 HB4 hB5
    have hd0 : Below W5.heap.size W5 W5.drew := (Below.refl _ _).drew
    have hd1 : Below W5.heap.size W5 ((W5.alloc (.cells #[.bool false, .slice none 0 0, .slice none 0 0] 31)).drew) := (Below.alloc' (Below.refl _ _) _).drew
    have HZ1 := Lib.hid (show ResBlk ((W5.alloc (.cells #[.bool false, .slice none 0 0, .slice none 0 0] 31)).drew) W5.heap.size from (ResBlk.new W5 31 rfl).kept (Below.refl _ _).drew)
    go_upto_region 7 with fail
    go_cut [11] from 50 to 57 (fun s11 wx => ∃ g sP aP nP cP aQ nQ cQ, s11 = .pointer (some ⟨g, 0, none⟩) ∧ RBox W5 wx g sP aP nP cP aQ nQ cQ (sqS (vrt y) (virt y)).upside 49)
    case first =>
      go_region_held3 (fun w' => (w'.cell? ⟨w4.heap.size, 0, none⟩ = some (.bool sE) ∧ w'.cell? ⟨w4.heap.size, 1, none⟩ = some (.slice aE nE cE) ∧ w'.cell? ⟨w4.heap.size, 2, none⟩ = some (.slice aF nF cF)) ∧ (w'.cell? ⟨(w4.heap.size + 1), 0, none⟩ = some (.bool sG) ∧ w'.cell? ⟨(w4.heap.size + 1), 1, none⟩ = some (.slice aG nG cG) ∧ w'.cell? ⟨(w4.heap.size + 1), 2, none⟩ = some (.slice aH nH cH)))
        (with_reducible refine ⟨(E5.keep ?_).all, (G5.keep ?_).all⟩ <;> (with_reducible first | assumption | exact Below.alloc' (by assumption) _ | exact Below.alloc' (Below.alloc' (by assumption) _) _ | exact Below.refl _ _ | (refine below_set3 ?_ ?_ _ _ _ <;> first | assumption | exact Below.alloc' (by assumption) _ | exact Below.alloc' (Below.alloc' (by assumption) _) _ | exact Nat.le_refl _ | exact hv1.size | exact hv2.size | exact hv3.size | exact hv4.size | (refine below_set3 ?_ ?_ _ _ _ <;> first | assumption | exact Below.alloc' (by assumption) _ | exact Below.alloc' (Below.alloc' (by assumption) _) _ | exact Nat.le_refl _ | exact hv1.size | exact hv2.size | exact hv3.size | exact hv4.size))))
        (first | (go_at_call 11; (with_reducible refine (times_any sE sE aE nE cE aF nF cF aE nE cE aF nF cF (vrt y) (vrt y) 12 _ ?_ ?_ PY.out.ok1.den PY.out.ok1.den (by omega)).mono ?_); exact RE5.out.keep (by first | assumption | exact Below.alloc' (by assumption) _ | exact Below.alloc' (Below.alloc' (by assumption) _) _); exact RE5.out.keep (by first | assumption | exact Below.alloc' (by assumption) _ | exact Below.alloc' (Below.alloc' (by assumption) _) _); rintro e v1 ⟨sI, aI, nI, cI, aJ, nJ, cJ, rfl, hI, hV1⟩; have hv1 := Below.then (show Below W5.heap.size W5 _ from (by first | assumption | exact Below.alloc' (by assumption) _ | exact Below.alloc' (Below.alloc' (by assumption) _) _)) (Nat.le_refl _) hV1; (try (with_reducible have z1 := HZ1.out.kept hV1))) | (go_at_call 11; (with_reducible refine (times_any sG sG aG nG cG aH nH cH aG nG cG aH nH cH (virt y) (virt y) 12 _ ?_ ?_ PY.out.ok2.den PY.out.ok2.den (by omega)).mono ?_); exact RG5.out.keep (by first | assumption | exact Below.alloc' (by assumption) _ | exact Below.alloc' (Below.alloc' (by assumption) _) _); exact RG5.out.keep (by first | assumption | exact Below.alloc' (by assumption) _ | exact Below.alloc' (Below.alloc' (by assumption) _) _); rintro e v2 ⟨sK, aK, nK, cK, aL, nL, cL, rfl, hK, hV2⟩; have hv2 := Below.then (show Below W5.heap.size W5 _ from (by first | assumption | exact Below.alloc' (by assumption) _ | exact Below.alloc' (Below.alloc' (by assumption) _) _)) (Nat.le_refl _) hV2; have hI2 : RtAt v2 sI aI nI cI aJ nJ cJ (Rt.times (vrt y) (vrt y)) 24 := (by first | exact hI.keep hV2 | exact (hI.keep (Below.alloc' (Below.refl _ _) _)).keep hV2); (try (first | (with_reducible have z2 := z1.kept hV2) | (with_reducible have z2 := (ResBlk.new v1 31 rfl).kept hV2)))) | (go_at_call 10; (with_reducible refine (plus_any sI sK aI nI cI aJ nJ cJ aK nK cK aL nL cL (Rt.times (vrt y) (vrt y)) (Rt.times (virt y) (virt y)) 24 _ ?_ ?_ (rok_times PY.out.ok1 PY.out.ok1).den (rok_times PY.out.ok2 PY.out.ok2).den (by omega)).mono ?_); exact (by first | exact hI2 | exact hI2.keep (Below.alloc' (Below.refl _ _) _)); exact (by first | exact hK | exact hK.keep (Below.alloc' (Below.refl _ _) _)); rintro e v3 ⟨sM, aM, nM, cM, aN, nN, cN, rfl, hM, hV3⟩; have hv3 := Below.then (show Below W5.heap.size W5 _ from (by first | assumption | exact Below.alloc' (by assumption) _ | exact Below.alloc' (Below.alloc' (by assumption) _) _)) (Nat.le_refl _) hV3; (try (first | (with_reducible have z3 := z2.kept hV3) | (with_reducible have z3 := (ResBlk.new v2 31 rfl).kept hV3)))) | (go_at_call 9; (with_reducible refine (upside_any sM aM nM cM aN nN cN 49 (sqS (vrt y) (virt y)) _ ?_).mono ?_); exact (by first | exact hM | exact hM.keep (Below.alloc' (Below.refl _ _) _)); rintro e v4 ⟨sP, aP, nP, cP, aQ, nQ, cQ, rfl, hP, hV4⟩; have hv4 := Below.then (show Below W5.heap.size W5 _ from (by first | assumption | exact Below.alloc' (by assumption) _ | exact Below.alloc' (Below.alloc' (by assumption) _) _)) (Nat.le_refl _) hV4; (try (first | (with_reducible have z4 := z3.kept hV4) | (with_reducible have z4 := (ResBlk.new v3 31 rfl).kept hV4))); (try (obtain ⟨⟨p0, q0⟩, ⟨p1, q1⟩, ⟨p2, q2⟩⟩ := z4.cells; have f0 := z4.frozen 0; have f1 := z4.frozen 1; have f2 := z4.frozen 2))))
      · have HBX : RBox W5 (v4.alloc (.cells #[.bool sP, .slice aP nP cP, .slice aQ nQ cQ] 31)) v4.heap.size sP aP nP cP aQ nQ cQ (sqS (vrt y) (virt y)).upside 49 := rbox_new _ hv4 hP
        go_wp2_with fail
        go_meet
        with_reducible exact ⟨_, _, _, _, _, _, _, _, rfl, HBX⟩
      · have HBX : RBox W5 (((v4.setCell ⟨v3.heap.size, 0, none⟩ (.bool sP)).setCell ⟨v3.heap.size, 1, none⟩ (.slice aP nP cP)).setCell ⟨v3.heap.size, 2, none⟩ (.slice aQ nQ cQ)) (v3.heap.size) sP aP nP cP aQ nQ cQ (sqS (vrt y) (virt y)).upside 49 := rbox_at z4 hv4 hv3.size hP
        go_wp2_with fail
        go_meet
        with_reducible exact ⟨_, _, _, _, _, _, _, _, rfl, HBX⟩
      · have HBX : RBox W5 (((v4.setCell ⟨v2.heap.size, 0, none⟩ (.bool sP)).setCell ⟨v2.heap.size, 1, none⟩ (.slice aP nP cP)).setCell ⟨v2.heap.size, 2, none⟩ (.slice aQ nQ cQ)) (v2.heap.size) sP aP nP cP aQ nQ cQ (sqS (vrt y) (virt y)).upside 49 := rbox_at z4 hv4 hv2.size hP
        go_wp2_with fail
        go_meet
        with_reducible exact ⟨_, _, _, _, _, _, _, _, rfl, HBX⟩
      · have HBX : RBox W5 (((v4.setCell ⟨v1.heap.size, 0, none⟩ (.bool sP)).setCell ⟨v1.heap.size, 1, none⟩ (.slice aP nP cP)).setCell ⟨v1.heap.size, 2, none⟩ (.slice aQ nQ cQ)) (v1.heap.size) sP aP nP cP aQ nQ cQ (sqS (vrt y) (virt y)).upside 49 := rbox_at z4 hv4 hv1.size hP
        go_wp2_with fail
        go_meet
        with_reducible exact ⟨_, _, _, _, _, _, _, _, rfl, HBX⟩
      · have HBX : RBox W5 (((v4.setCell ⟨W5.heap.size, 0, none⟩ (.bool sP)).setCell ⟨W5.heap.size, 1, none⟩ (.slice aP nP cP)).setCell ⟨W5.heap.size, 2, none⟩ (.slice aQ nQ cQ)) (W5.heap.size) sP aP nP cP aQ nQ cQ (sqS (vrt y) (virt y)).upside 49 := rbox_at z4 hv4 (Nat.le_refl _) hP
        go_wp2_with fail
        go_meet
        with_reducible exact ⟨_, _, _, _, _, _, _, _, rfl, HBX⟩
    case rest =>
      obtain ⟨gP, sP, aP, nP, cP, aQ, nQ, cQ, rfl, HBX⟩ := hcut
      obtain ⟨W6, hW6⟩ : ∃ W6, W6 = wc := ⟨_, rfl⟩
      subst hW6
      have hb6 := HBX.below
      have P6 := HBX.box
      have RP6 := Lib.hid HBX.val
      clear HBX hd0 hd1 HZ1
      have X6 := X5.keep hb6
      have Y6 := Y5.keep hb6
      have A6 := A5.keep hb6
      have C6 := C5.keep hb6
      have E6 := E5.keep hb6
      have G6 := G5.keep hb6
      have HX6 := Lib.hid (HX5.out.keep hb6)
      have HY6 := Lib.hid (HY5.out.keep hb6)
      have HT6 := Lib.hid (HT5.out.keep hb6)
      have HD6 := Lib.hid (HD5.out.keep hb6)
      have HS6 := Lib.hid (HS5.out.keep hb6)
      have RA6 := Lib.hid (RA5.out.keep hb6)
      have RC6 := Lib.hid (RC5.out.keep hb6)
      have RE6 := Lib.hid (RE5.out.keep hb6)
      have RG6 := Lib.hid (RG5.out.keep hb6)
      have HB6 := Lib.hid (Below.then HB5.out (Nat.le_refl _) hb6)
      clear X5 Y5 A5 C5 E5 G5 HX5 HY5 HT5 HD5 HS5 RA5 RC5 RE5 RG5 HB5 hb6
      have hd0 : Below W6.heap.size W6 W6.drew := (Below.refl _ _).drew
      have hd1 : Below W6.heap.size W6 ((W6.alloc (.cells #[.bool false, .slice none 0 0, .slice none 0 0] 31)).drew) := (Below.alloc' (Below.refl _ _) _).drew
      have hd2 : Below W6.heap.size W6 (((W6.alloc (.cells #[.bool false, .slice none 0 0, .slice none 0 0] 31)).alloc (.cells #[.bool false, .slice none 0 0, .slice none 0 0] 31)).drew) := (Below.alloc' (Below.alloc' (Below.refl _ _) _) _).drew
      have HZ1 := Lib.hid (show ResBlk ((W6.alloc (.cells #[.bool false, .slice none 0 0, .slice none 0 0] 31)).drew) W6.heap.size from (ResBlk.new W6 31 rfl).kept (Below.refl _ _).drew)
      have H4 := Lib.hid (show ∀ W : World, ResBlk ((W.alloc (.cells #[.bool false, .slice none 0 0, .slice none 0 0] 31)).alloc (.cells #[.bool false, .slice none 0 0, .slice none 0 0] 31)) (W.heap.size + 1) from fun W => ResBlk.new (W.alloc (.cells #[.bool false, .slice none 0 0, .slice none 0 0] 31)) 31 (by simp))
      have HZ2a := Lib.hid (show ResBlk (((W6.alloc (.cells #[.bool false, .slice none 0 0, .slice none 0 0] 31)).alloc (.cells #[.bool false, .slice none 0 0, .slice none 0 0] 31)).drew) W6.heap.size from (ResBlk.new W6 31 rfl).kept (Below.alloc' (Below.refl _ _) _).drew)
      have HZ2b := Lib.hid (show ResBlk (((W6.alloc (.cells #[.bool false, .slice none 0 0, .slice none 0 0] 31)).alloc (.cells #[.bool false, .slice none 0 0, .slice none 0 0] 31)).drew) (W6.heap.size + 1) from (H4.out W6).kept (Below.refl _ _).drew)
      go_upto_region 8 with fail
      go_cut [12, 13] from 58 to 66 (fun s12 s13 wx => ∃ g h sU aU nU cU aV nV cV sY aY nY cY aZ nZ cZ, s12 = .pointer (some ⟨g, 0, none⟩) ∧ s13 = .pointer (some ⟨h, 0, none⟩) ∧ RBox2 W6 wx g h sU aU nU cU aV nV cV (Rt.plus (Rt.times (vrt x) (vrt y)) (Rt.times (virt x) (virt y))) sY aY nY cY aZ nZ cZ (Rt.minus (Rt.times (virt x) (vrt y)) (Rt.times (vrt x) (virt y))) 49)
      case first =>
        go_region_held3 (fun w' => (w'.cell? ⟨w3.heap.size, 0, none⟩ = some (.bool sA) ∧ w'.cell? ⟨w3.heap.size, 1, none⟩ = some (.slice aA nA cA) ∧ w'.cell? ⟨w3.heap.size, 2, none⟩ = some (.slice aB nB cB)) ∧ (w'.cell? ⟨(w3.heap.size + 1), 0, none⟩ = some (.bool sC) ∧ w'.cell? ⟨(w3.heap.size + 1), 1, none⟩ = some (.slice aC nC cC) ∧ w'.cell? ⟨(w3.heap.size + 1), 2, none⟩ = some (.slice aD nD cD)) ∧ (w'.cell? ⟨w4.heap.size, 0, none⟩ = some (.bool sE) ∧ w'.cell? ⟨w4.heap.size, 1, none⟩ = some (.slice aE nE cE) ∧ w'.cell? ⟨w4.heap.size, 2, none⟩ = some (.slice aF nF cF)) ∧ (w'.cell? ⟨(w4.heap.size + 1), 0, none⟩ = some (.bool sG) ∧ w'.cell? ⟨(w4.heap.size + 1), 1, none⟩ = some (.slice aG nG cG) ∧ w'.cell? ⟨(w4.heap.size + 1), 2, none⟩ = some (.slice aH nH cH)))
          (with_reducible refine ⟨(A6.keep ?_).all, (C6.keep ?_).all, (E6.keep ?_).all, (G6.keep ?_).all⟩ <;> (with_reducible first | assumption | exact Below.alloc' (by assumption) _ | exact Below.alloc' (Below.alloc' (by assumption) _) _ | exact Below.refl _ _ | (refine below_set3 ?_ ?_ _ _ _ <;> first | assumption | exact Below.alloc' (by assumption) _ | exact Below.alloc' (Below.alloc' (by assumption) _) _ | exact Nat.le_refl _ | exact Nat.le_succ _ | exact hv5.size | exact Nat.le_trans hv5.size (Nat.le_succ _) | exact hv6.size | exact Nat.le_trans hv6.size (Nat.le_succ _) | (refine below_set3 ?_ ?_ _ _ _ <;> first | assumption | exact Below.alloc' (by assumption) _ | exact Below.alloc' (Below.alloc' (by assumption) _) _ | exact Nat.le_refl _ | exact Nat.le_succ _ | exact hv5.size | exact Nat.le_trans hv5.size (Nat.le_succ _) | exact hv6.size | exact Nat.le_trans hv6.size (Nat.le_succ _)))))
          (first | (go_at_call 13; (with_reducible refine (negated_any sG aG nG cG aH nH cH 12 (virt y) _ ?_ (by omega)).mono ?_); exact RG6.out.keep (by first | assumption | exact Below.alloc' (by assumption) _ | exact Below.alloc' (Below.alloc' (by assumption) _) _); rintro e v5 ⟨sS, aS, nS, cS, aT, nT, cT, rfl, hS, hV5⟩; have hv5 := Below.then (show Below W6.heap.size W6 _ from (by first | assumption | exact Below.alloc' (by assumption) _ | exact Below.alloc' (Below.alloc' (by assumption) _) _)) (Nat.le_refl _) hV5; (try (with_reducible have A1 := HZ1.out.kept hV5)); (try (with_reducible have A1 := HZ2a.out.kept hV5)); (try (with_reducible have A2 := HZ2b.out.kept hV5))) | (go_at_call 12; (with_reducible refine (product_any sA aA nA cA aB nB cB sC aC nC cC aD nD cD sE aE nE cE aF nF cF sS aS nS cS aT nT cT (vrt x) (virt x) (vrt y) (virt y).negated 12 _ ?_ ?_ ?_ ?_ PX.out.ok1.den PX.out.ok2.den PY.out.ok1.den (rok_negated PY.out.ok2).den (by omega)).mono ?_); exact RA6.out.keep (by first | assumption | exact Below.alloc' (by assumption) _ | exact Below.alloc' (Below.alloc' (by assumption) _) _); exact RC6.out.keep (by first | assumption | exact Below.alloc' (by assumption) _ | exact Below.alloc' (Below.alloc' (by assumption) _) _); exact RE6.out.keep (by first | assumption | exact Below.alloc' (by assumption) _ | exact Below.alloc' (Below.alloc' (by assumption) _) _); exact (by first | exact hS | exact hS.keep (Below.alloc' (Below.refl _ _) _) | exact hS.keep (Below.alloc' (Below.alloc' (Below.refl _ _) _) _)); rintro e v6 ⟨sU, aU, nU, cU, aV, nV, cV, sY, aY, nY, cY, aZ, nZ, cZ, rfl, hU, hY, hV6⟩; rw [CE.out.1] at hU; rw [CE.out.2] at hY; have hv6 := Below.then (show Below W6.heap.size W6 _ from (by first | assumption | exact Below.alloc' (by assumption) _ | exact Below.alloc' (Below.alloc' (by assumption) _) _)) (Nat.le_refl _) hV6; (try (have B1 := ResBlk.kept (show ResBlk _ W6.heap.size from by with_reducible first | exact A1 | exact A1.kept (Below.alloc' (Below.refl _ _) _) | exact A1.kept (Below.alloc' (Below.alloc' (Below.refl _ _) _) _)) hV6)); (try (have B2 := ResBlk.kept (show ResBlk _ (W6.heap.size + 1) from by with_reducible first | exact A2 | exact A2.kept (Below.alloc' (Below.refl _ _) _) | exact A2.kept (Below.alloc' (Below.alloc' (Below.refl _ _) _) _)) hV6)); (try (with_reducible have B3 := ResBlk.kept (ResBlk.new v5 31 rfl) hV6)); (try (with_reducible have B3 := ResBlk.kept ((ResBlk.new v5 31 rfl).kept (Below.alloc' (Below.refl _ _) (.cells #[.bool false, .slice none 0 0, .slice none 0 0] 31))) hV6)); (try (with_reducible have B4 := ResBlk.kept (H4.out v5) hV6)); (try (obtain ⟨⟨b1p0, b1q0⟩, ⟨b1p1, b1q1⟩, ⟨b1p2, b1q2⟩⟩ := B1.cells; have b1f0 := B1.frozen 0; have b1f1 := B1.frozen 1; have b1f2 := B1.frozen 2)); (try (have CC1 := B1.kept (Below.alloc' (Below.refl _ _) (.cells #[.bool false, .slice none 0 0, .slice none 0 0] 31)); obtain ⟨⟨cc1p0, cc1q0⟩, ⟨cc1p1, cc1q1⟩, ⟨cc1p2, cc1q2⟩⟩ := CC1.cells; have cc1f0 := CC1.frozen 0; have cc1f1 := CC1.frozen 1; have cc1f2 := CC1.frozen 2)); (try (have DD1 := B1.kept (Below.alloc' (Below.refl _ _) (.cells #[.bool sU, .slice aU nU cU, .slice aV nV cV] 31)); obtain ⟨⟨dd1p0, dd1q0⟩, ⟨dd1p1, dd1q1⟩, ⟨dd1p2, dd1q2⟩⟩ := DD1.cells; have dd1f0 := DD1.frozen 0; have dd1f1 := DD1.frozen 1; have dd1f2 := DD1.frozen 2)); (try (have EE1 := B1.kept (Below.alloc' (Below.refl _ _) (.cells #[.bool sY, .slice aY nY cY, .slice aZ nZ cZ] 31)); obtain ⟨⟨ee1p0, ee1q0⟩, ⟨ee1p1, ee1q1⟩, ⟨ee1p2, ee1q2⟩⟩ := EE1.cells; have ee1f0 := EE1.frozen 0; have ee1f1 := EE1.frozen 1; have ee1f2 := EE1.frozen 2)); (try (obtain ⟨⟨b2p0, b2q0⟩, ⟨b2p1, b2q1⟩, ⟨b2p2, b2q2⟩⟩ := B2.cells; have b2f0 := B2.frozen 0; have b2f1 := B2.frozen 1; have b2f2 := B2.frozen 2)); (try (have CC2 := B2.kept (Below.alloc' (Below.refl _ _) (.cells #[.bool false, .slice none 0 0, .slice none 0 0] 31)); obtain ⟨⟨cc2p0, cc2q0⟩, ⟨cc2p1, cc2q1⟩, ⟨cc2p2, cc2q2⟩⟩ := CC2.cells; have cc2f0 := CC2.frozen 0; have cc2f1 := CC2.frozen 1; have cc2f2 := CC2.frozen 2)); (try (have DD2 := B2.kept (Below.alloc' (Below.refl _ _) (.cells #[.bool sU, .slice aU nU cU, .slice aV nV cV] 31)); obtain ⟨⟨dd2p0, dd2q0⟩, ⟨dd2p1, dd2q1⟩, ⟨dd2p2, dd2q2⟩⟩ := DD2.cells; have dd2f0 := DD2.frozen 0; have dd2f1 := DD2.frozen 1; have dd2f2 := DD2.frozen 2)); (try (have EE2 := B2.kept (Below.alloc' (Below.refl _ _) (.cells #[.bool sY, .slice aY nY cY, .slice aZ nZ cZ] 31)); obtain ⟨⟨ee2p0, ee2q0⟩, ⟨ee2p1, ee2q1⟩, ⟨ee2p2, ee2q2⟩⟩ := EE2.cells; have ee2f0 := EE2.frozen 0; have ee2f1 := EE2.frozen 1; have ee2f2 := EE2.frozen 2)); (try (obtain ⟨⟨b3p0, b3q0⟩, ⟨b3p1, b3q1⟩, ⟨b3p2, b3q2⟩⟩ := B3.cells; have b3f0 := B3.frozen 0; have b3f1 := B3.frozen 1; have b3f2 := B3.frozen 2)); (try (have CC3 := B3.kept (Below.alloc' (Below.refl _ _) (.cells #[.bool false, .slice none 0 0, .slice none 0 0] 31)); obtain ⟨⟨cc3p0, cc3q0⟩, ⟨cc3p1, cc3q1⟩, ⟨cc3p2, cc3q2⟩⟩ := CC3.cells; have cc3f0 := CC3.frozen 0; have cc3f1 := CC3.frozen 1; have cc3f2 := CC3.frozen 2)); (try (have DD3 := B3.kept (Below.alloc' (Below.refl _ _) (.cells #[.bool sU, .slice aU nU cU, .slice aV nV cV] 31)); obtain ⟨⟨dd3p0, dd3q0⟩, ⟨dd3p1, dd3q1⟩, ⟨dd3p2, dd3q2⟩⟩ := DD3.cells; have dd3f0 := DD3.frozen 0; have dd3f1 := DD3.frozen 1; have dd3f2 := DD3.frozen 2)); (try (have EE3 := B3.kept (Below.alloc' (Below.refl _ _) (.cells #[.bool sY, .slice aY nY cY, .slice aZ nZ cZ] 31)); obtain ⟨⟨ee3p0, ee3q0⟩, ⟨ee3p1, ee3q1⟩, ⟨ee3p2, ee3q2⟩⟩ := EE3.cells; have ee3f0 := EE3.frozen 0; have ee3f1 := EE3.frozen 1; have ee3f2 := EE3.frozen 2)); (try (obtain ⟨⟨b4p0, b4q0⟩, ⟨b4p1, b4q1⟩, ⟨b4p2, b4q2⟩⟩ := B4.cells; have b4f0 := B4.frozen 0; have b4f1 := B4.frozen 1; have b4f2 := B4.frozen 2)); (try (have CC4 := B4.kept (Below.alloc' (Below.refl _ _) (.cells #[.bool false, .slice none 0 0, .slice none 0 0] 31)); obtain ⟨⟨cc4p0, cc4q0⟩, ⟨cc4p1, cc4q1⟩, ⟨cc4p2, cc4q2⟩⟩ := CC4.cells; have cc4f0 := CC4.frozen 0; have cc4f1 := CC4.frozen 1; have cc4f2 := CC4.frozen 2)); (try (have DD4 := B4.kept (Below.alloc' (Below.refl _ _) (.cells #[.bool sU, .slice aU nU cU, .slice aV nV cV] 31)); obtain ⟨⟨dd4p0, dd4q0⟩, ⟨dd4p1, dd4q1⟩, ⟨dd4p2, dd4q2⟩⟩ := DD4.cells; have dd4f0 := DD4.frozen 0; have dd4f1 := DD4.frozen 1; have dd4f2 := DD4.frozen 2)); (try (have EE4 := B4.kept (Below.alloc' (Below.refl _ _) (.cells #[.bool sY, .slice aY nY cY, .slice aZ nZ cZ] 31)); obtain ⟨⟨ee4p0, ee4q0⟩, ⟨ee4p1, ee4q1⟩, ⟨ee4p2, ee4q2⟩⟩ := EE4.cells; have ee4f0 := EE4.frozen 0; have ee4f1 := EE4.frozen 1; have ee4f2 := EE4.frozen 2)); (try (have n0a : ¬ W6.heap.size = v5.heap.size := Nat.ne_of_lt A1.lt; have n0b : ¬ v5.heap.size = W6.heap.size := fun h => Nat.ne_of_lt A1.lt h.symm)); (try (have n1a : ¬ W6.heap.size = v6.heap.size := Nat.ne_of_lt B1.lt; have n1b : ¬ v6.heap.size = W6.heap.size := fun h => Nat.ne_of_lt B1.lt h.symm)); (try (have n2a : ¬ v5.heap.size = v6.heap.size := Nat.ne_of_lt B3.lt; have n2b : ¬ v6.heap.size = v5.heap.size := fun h => Nat.ne_of_lt B3.lt h.symm))))
        · have HBX : RBox2 W6 ((v6.alloc (.cells #[.bool sU, .slice aU nU cU, .slice aV nV cV] 31)).alloc (.cells #[.bool sY, .slice aY nY cY, .slice aZ nZ cZ] 31)) (v6.heap.size) (v6.heap.size + 1) sU aU nU cU aV nV cV (Rt.plus (Rt.times (vrt x) (vrt y)) (Rt.times (virt x) (virt y))) sY aY nY cY aZ nZ cZ (Rt.minus (Rt.times (virt x) (vrt y)) (Rt.times (vrt x) (virt y))) 49 := ⟨Below.alloc' (Below.alloc' hv6 _) _, (RtBlk.new v6 _ rfl _ _ _ _ _ _ _).keep (Below.alloc' (Below.refl _ _) _), RtBlk.new _ _ (by simp) _ _ _ _ _ _ _, (hU.keep (Below.alloc' (Below.refl _ _) _)).keep (Below.alloc' (Below.refl _ _) _), (hY.keep (Below.alloc' (Below.refl _ _) _)).keep (Below.alloc' (Below.refl _ _) _)⟩
          go_wp2_with fail
          go_meet
          with_reducible exact ⟨_, _, _, _, _, _, _, _, _, _, _, _, _, _, _, _, rfl, rfl, HBX⟩
        · have HBX : RBox2 W6 ((v6.alloc (.cells #[.bool sY, .slice aY nY cY, .slice aZ nZ cZ] 31)).alloc (.cells #[.bool sU, .slice aU nU cU, .slice aV nV cV] 31)) (v6.heap.size + 1) (v6.heap.size) sU aU nU cU aV nV cV (Rt.plus (Rt.times (vrt x) (vrt y)) (Rt.times (virt x) (virt y))) sY aY nY cY aZ nZ cZ (Rt.minus (Rt.times (virt x) (vrt y)) (Rt.times (vrt x) (virt y))) 49 := ⟨Below.alloc' (Below.alloc' hv6 _) _, RtBlk.new _ _ (by simp) _ _ _ _ _ _ _, (RtBlk.new v6 _ rfl _ _ _ _ _ _ _).keep (Below.alloc' (Below.refl _ _) _), (hU.keep (Below.alloc' (Below.refl _ _) _)).keep (Below.alloc' (Below.refl _ _) _), (hY.keep (Below.alloc' (Below.refl _ _) _)).keep (Below.alloc' (Below.refl _ _) _)⟩
          go_wp2_with fail
          go_meet
          with_reducible exact ⟨_, _, _, _, _, _, _, _, _, _, _, _, _, _, _, _, rfl, rfl, HBX⟩
        · have HBX : RBox2 W6 (((((((v6.alloc (.cells #[.bool false, .slice none 0 0, .slice none 0 0] 31)).setCell ⟨v5.heap.size, 0, none⟩ (.bool sU)).setCell ⟨v5.heap.size, 1, none⟩ (.slice aU nU cU)).setCell ⟨v5.heap.size, 2, none⟩ (.slice aV nV cV)).setCell ⟨v6.heap.size, 0, none⟩ (.bool sY)).setCell ⟨v6.heap.size, 1, none⟩ (.slice aY nY cY)).setCell ⟨v6.heap.size, 2, none⟩ (.slice aZ nZ cZ)) (v5.heap.size) (v6.heap.size) sU aU nU cU aV nV cV (Rt.plus (Rt.times (vrt x) (vrt y)) (Rt.times (virt x) (virt y))) sY aY nY cY aZ nZ cZ (Rt.minus (Rt.times (virt x) (vrt y)) (Rt.times (vrt x) (virt y))) 49 := rbox2_rq (Below.alloc' hv6 _) (hU.keep (Below.alloc' (Below.refl _ _) _)) (hY.keep (Below.alloc' (Below.refl _ _) _)) CC3 (ResBlk.new v6 _ rfl) (hv5.size) hv6.size (Nat.ne_of_lt B3.lt)
          go_wp2_with fail
          go_meet
          with_reducible exact ⟨_, _, _, _, _, _, _, _, _, _, _, _, _, _, _, _, rfl, rfl, HBX⟩
        · have HBX : RBox2 W6 ((((((v6.setCell ⟨v5.heap.size, 0, none⟩ (.bool sU)).setCell ⟨v5.heap.size, 1, none⟩ (.slice aU nU cU)).setCell ⟨v5.heap.size, 2, none⟩ (.slice aV nV cV)).setCell ⟨v5.heap.size + 1, 0, none⟩ (.bool sY)).setCell ⟨v5.heap.size + 1, 1, none⟩ (.slice aY nY cY)).setCell ⟨v5.heap.size + 1, 2, none⟩ (.slice aZ nZ cZ)) (v5.heap.size) (v5.heap.size + 1) sU aU nU cU aV nV cV (Rt.plus (Rt.times (vrt x) (vrt y)) (Rt.times (virt x) (virt y))) sY aY nY cY aZ nZ cZ (Rt.minus (Rt.times (virt x) (vrt y)) (Rt.times (vrt x) (virt y))) 49 := rbox2_rq hv6 hU hY B3 B4 (hv5.size) (Nat.le_trans hv5.size (Nat.le_succ _)) (by omega)
          go_wp2_with fail
          go_meet
          with_reducible exact ⟨_, _, _, _, _, _, _, _, _, _, _, _, _, _, _, _, rfl, rfl, HBX⟩
        · have HBX : RBox2 W6 ((((v6.alloc (.cells #[.bool sU, .slice aU nU cU, .slice aV nV cV] 31)).setCell ⟨v5.heap.size, 0, none⟩ (.bool sY)).setCell ⟨v5.heap.size, 1, none⟩ (.slice aY nY cY)).setCell ⟨v5.heap.size, 2, none⟩ (.slice aZ nZ cZ)) (v6.heap.size) (v5.heap.size) sU aU nU cU aV nV cV (Rt.plus (Rt.times (vrt x) (vrt y)) (Rt.times (virt x) (virt y))) sY aY nY cY aZ nZ cZ (Rt.minus (Rt.times (virt x) (vrt y)) (Rt.times (vrt x) (virt y))) 49 := rbox2_q (Below.alloc' hv6 _) (hU.keep (Below.alloc' (Below.refl _ _) _)) (hY.keep (Below.alloc' (Below.refl _ _) _)) (RtBlk.new v6 _ rfl _ _ _ _ _ _ _) (ResBlk.kept B3 (Below.alloc' (Below.refl _ _) _)) (hv5.size) (Ne.symm (Nat.ne_of_lt B3.lt))
          go_wp2_with fail
          go_meet
          with_reducible exact ⟨_, _, _, _, _, _, _, _, _, _, _, _, _, _, _, _, rfl, rfl, HBX⟩
        · have HBX : RBox2 W6 ((((((v6.setCell ⟨v5.heap.size + 1, 0, none⟩ (.bool sU)).setCell ⟨v5.heap.size + 1, 1, none⟩ (.slice aU nU cU)).setCell ⟨v5.heap.size + 1, 2, none⟩ (.slice aV nV cV)).setCell ⟨v5.heap.size, 0, none⟩ (.bool sY)).setCell ⟨v5.heap.size, 1, none⟩ (.slice aY nY cY)).setCell ⟨v5.heap.size, 2, none⟩ (.slice aZ nZ cZ)) (v5.heap.size + 1) (v5.heap.size) sU aU nU cU aV nV cV (Rt.plus (Rt.times (vrt x) (vrt y)) (Rt.times (virt x) (virt y))) sY aY nY cY aZ nZ cZ (Rt.minus (Rt.times (virt x) (vrt y)) (Rt.times (vrt x) (virt y))) 49 := rbox2_rq hv6 hU hY B4 B3 (Nat.le_trans hv5.size (Nat.le_succ _)) (hv5.size) (by omega)
          go_wp2_with fail
          go_meet
          with_reducible exact ⟨_, _, _, _, _, _, _, _, _, _, _, _, _, _, _, _, rfl, rfl, HBX⟩
        · have HBX : RBox2 W6 (((((((v6.alloc (.cells #[.bool false, .slice none 0 0, .slice none 0 0] 31)).setCell ⟨W6.heap.size, 0, none⟩ (.bool sU)).setCell ⟨W6.heap.size, 1, none⟩ (.slice aU nU cU)).setCell ⟨W6.heap.size, 2, none⟩ (.slice aV nV cV)).setCell ⟨v6.heap.size, 0, none⟩ (.bool sY)).setCell ⟨v6.heap.size, 1, none⟩ (.slice aY nY cY)).setCell ⟨v6.heap.size, 2, none⟩ (.slice aZ nZ cZ)) (W6.heap.size) (v6.heap.size) sU aU nU cU aV nV cV (Rt.plus (Rt.times (vrt x) (vrt y)) (Rt.times (virt x) (virt y))) sY aY nY cY aZ nZ cZ (Rt.minus (Rt.times (virt x) (vrt y)) (Rt.times (vrt x) (virt y))) 49 := rbox2_rq (Below.alloc' hv6 _) (hU.keep (Below.alloc' (Below.refl _ _) _)) (hY.keep (Below.alloc' (Below.refl _ _) _)) CC1 (ResBlk.new v6 _ rfl) (Nat.le_refl _) hv6.size (Nat.ne_of_lt B1.lt)
          go_wp2_with fail
          go_meet
          with_reducible exact ⟨_, _, _, _, _, _, _, _, _, _, _, _, _, _, _, _, rfl, rfl, HBX⟩
        · have HBX : RBox2 W6 ((((((v6.setCell ⟨W6.heap.size, 0, none⟩ (.bool sU)).setCell ⟨W6.heap.size, 1, none⟩ (.slice aU nU cU)).setCell ⟨W6.heap.size, 2, none⟩ (.slice aV nV cV)).setCell ⟨v5.heap.size, 0, none⟩ (.bool sY)).setCell ⟨v5.heap.size, 1, none⟩ (.slice aY nY cY)).setCell ⟨v5.heap.size, 2, none⟩ (.slice aZ nZ cZ)) (W6.heap.size) (v5.heap.size) sU aU nU cU aV nV cV (Rt.plus (Rt.times (vrt x) (vrt y)) (Rt.times (virt x) (virt y))) sY aY nY cY aZ nZ cZ (Rt.minus (Rt.times (virt x) (vrt y)) (Rt.times (vrt x) (virt y))) 49 := rbox2_rq hv6 hU hY B1 B3 (Nat.le_refl _) (hv5.size) (Nat.ne_of_lt A1.lt)
          go_wp2_with fail
          go_meet
          with_reducible exact ⟨_, _, _, _, _, _, _, _, _, _, _, _, _, _, _, _, rfl, rfl, HBX⟩
        · have HBX : RBox2 W6 ((((((v6.setCell ⟨W6.heap.size, 0, none⟩ (.bool sU)).setCell ⟨W6.heap.size, 1, none⟩ (.slice aU nU cU)).setCell ⟨W6.heap.size, 2, none⟩ (.slice aV nV cV)).setCell ⟨W6.heap.size + 1, 0, none⟩ (.bool sY)).setCell ⟨W6.heap.size + 1, 1, none⟩ (.slice aY nY cY)).setCell ⟨W6.heap.size + 1, 2, none⟩ (.slice aZ nZ cZ)) (W6.heap.size) (W6.heap.size + 1) sU aU nU cU aV nV cV (Rt.plus (Rt.times (vrt x) (vrt y)) (Rt.times (virt x) (virt y))) sY aY nY cY aZ nZ cZ (Rt.minus (Rt.times (virt x) (vrt y)) (Rt.times (vrt x) (virt y))) 49 := rbox2_rq hv6 hU hY B1 B2 (Nat.le_refl _) (Nat.le_succ _) (by omega)
          go_wp2_with fail
          go_meet
          with_reducible exact ⟨_, _, _, _, _, _, _, _, _, _, _, _, _, _, _, _, rfl, rfl, HBX⟩
        · have HBX : RBox2 W6 ((((v6.alloc (.cells #[.bool sU, .slice aU nU cU, .slice aV nV cV] 31)).setCell ⟨W6.heap.size, 0, none⟩ (.bool sY)).setCell ⟨W6.heap.size, 1, none⟩ (.slice aY nY cY)).setCell ⟨W6.heap.size, 2, none⟩ (.slice aZ nZ cZ)) (v6.heap.size) (W6.heap.size) sU aU nU cU aV nV cV (Rt.plus (Rt.times (vrt x) (vrt y)) (Rt.times (virt x) (virt y))) sY aY nY cY aZ nZ cZ (Rt.minus (Rt.times (virt x) (vrt y)) (Rt.times (vrt x) (virt y))) 49 := rbox2_q (Below.alloc' hv6 _) (hU.keep (Below.alloc' (Below.refl _ _) _)) (hY.keep (Below.alloc' (Below.refl _ _) _)) (RtBlk.new v6 _ rfl _ _ _ _ _ _ _) (ResBlk.kept B1 (Below.alloc' (Below.refl _ _) _)) (Nat.le_refl _) (Ne.symm (Nat.ne_of_lt B1.lt))
          go_wp2_with fail
          go_meet
          with_reducible exact ⟨_, _, _, _, _, _, _, _, _, _, _, _, _, _, _, _, rfl, rfl, HBX⟩
        · have HBX : RBox2 W6 ((((((v6.setCell ⟨v5.heap.size, 0, none⟩ (.bool sU)).setCell ⟨v5.heap.size, 1, none⟩ (.slice aU nU cU)).setCell ⟨v5.heap.size, 2, none⟩ (.slice aV nV cV)).setCell ⟨W6.heap.size, 0, none⟩ (.bool sY)).setCell ⟨W6.heap.size, 1, none⟩ (.slice aY nY cY)).setCell ⟨W6.heap.size, 2, none⟩ (.slice aZ nZ cZ)) (v5.heap.size) (W6.heap.size) sU aU nU cU aV nV cV (Rt.plus (Rt.times (vrt x) (vrt y)) (Rt.times (virt x) (virt y))) sY aY nY cY aZ nZ cZ (Rt.minus (Rt.times (virt x) (vrt y)) (Rt.times (vrt x) (virt y))) 49 := rbox2_rq hv6 hU hY B3 B1 (hv5.size) (Nat.le_refl _) (Ne.symm (Nat.ne_of_lt A1.lt))
          go_wp2_with fail
          go_meet
          with_reducible exact ⟨_, _, _, _, _, _, _, _, _, _, _, _, _, _, _, _, rfl, rfl, HBX⟩
        · have HBX : RBox2 W6 ((((((v6.setCell ⟨W6.heap.size + 1, 0, none⟩ (.bool sU)).setCell ⟨W6.heap.size + 1, 1, none⟩ (.slice aU nU cU)).setCell ⟨W6.heap.size + 1, 2, none⟩ (.slice aV nV cV)).setCell ⟨W6.heap.size, 0, none⟩ (.bool sY)).setCell ⟨W6.heap.size, 1, none⟩ (.slice aY nY cY)).setCell ⟨W6.heap.size, 2, none⟩ (.slice aZ nZ cZ)) (W6.heap.size + 1) (W6.heap.size) sU aU nU cU aV nV cV (Rt.plus (Rt.times (vrt x) (vrt y)) (Rt.times (virt x) (virt y))) sY aY nY cY aZ nZ cZ (Rt.minus (Rt.times (virt x) (vrt y)) (Rt.times (vrt x) (virt y))) 49 := rbox2_rq hv6 hU hY B2 B1 (Nat.le_succ _) (Nat.le_refl _) (by omega)
          go_wp2_with fail
          go_meet
          with_reducible exact ⟨_, _, _, _, _, _, _, _, _, _, _, _, _, _, _, _, rfl, rfl, HBX⟩
      case rest =>
        obtain ⟨gU, gY, sU, aU, nU, cU, aV, nV, cV, sY, aY, nY, cY, aZ, nZ, cZ, rfl, rfl, HBX⟩ := hcut
        obtain ⟨W7, hW7⟩ : ∃ W7, W7 = wc := ⟨_, rfl⟩
        subst hW7
        have hb7 := HBX.below
        have U7 := HBX.boxr
        have V7 := HBX.boxq
        have RU7 := Lib.hid HBX.valr
        have RV7 := Lib.hid HBX.valq
        clear HBX hd0 hd1 hd2 HZ1 H4 HZ2a HZ2b
        have X7 := X6.keep hb7
        have Y7 := Y6.keep hb7
        have A7 := A6.keep hb7
        have C7 := C6.keep hb7
        have E7 := E6.keep hb7
        have G7 := G6.keep hb7
        have P7 := P6.keep hb7
        have HX7 := Lib.hid (HX6.out.keep hb7)
        have HY7 := Lib.hid (HY6.out.keep hb7)
        have HT7 := Lib.hid (HT6.out.keep hb7)
        have HD7 := Lib.hid (HD6.out.keep hb7)
        have HS7 := Lib.hid (HS6.out.keep hb7)
        have RA7 := Lib.hid (RA6.out.keep hb7)
        have RC7 := Lib.hid (RC6.out.keep hb7)
        have RE7 := Lib.hid (RE6.out.keep hb7)
        have RG7 := Lib.hid (RG6.out.keep hb7)
        have RP7 := Lib.hid (RP6.out.keep hb7)
        have HB7 := Lib.hid (Below.then HB6.out (Nat.le_refl _) hb7)
        clear X6 Y6 A6 C6 E6 G6 P6 HX6 HY6 HT6 HD6 HS6 RA6 RC6 RE6 RG6 RP6 HB6 hb7
        clear A7 C7 E7 G7 RA7 RC7 RE7 RG7
        have hd6 : Below W7.heap.size W7 W7.drew := (Below.refl _ _).drew
        go_upto_region 9 with fail
        go_region_held3 (fun w' => (w'.cell? ⟨w.heap.size, 0, none⟩ = some (.int .i64 x.kind) ∧ w'.cell? ⟨w.heap.size, 1, none⟩ = some (.bool x.truth) ∧ w'.cell? ⟨w.heap.size, 2, none⟩ = some (.string x.text) ∧ w'.cell? ⟨w.heap.size, 3, none⟩ = some (.bool x.neg) ∧ w'.cell? ⟨w.heap.size, 4, none⟩ = some (.slice x.wa x.wn x.wc) ∧ w'.cell? ⟨w.heap.size, 5, none⟩ = some (.slice x.da x.dn x.dc) ∧ w'.cell? ⟨w.heap.size, 6, none⟩ = some (.bool x.ineg) ∧ w'.cell? ⟨w.heap.size, 7, none⟩ = some (.slice x.ia x.inn x.ic) ∧ w'.cell? ⟨w.heap.size, 8, none⟩ = some (.slice x.ea x.en x.ec)) ∧ (w'.cell? ⟨(w.heap.size + 1), 0, none⟩ = some (.int .i64 y.kind) ∧ w'.cell? ⟨(w.heap.size + 1), 1, none⟩ = some (.bool y.truth) ∧ w'.cell? ⟨(w.heap.size + 1), 2, none⟩ = some (.string y.text) ∧ w'.cell? ⟨(w.heap.size + 1), 3, none⟩ = some (.bool y.neg) ∧ w'.cell? ⟨(w.heap.size + 1), 4, none⟩ = some (.slice y.wa y.wn y.wc) ∧ w'.cell? ⟨(w.heap.size + 1), 5, none⟩ = some (.slice y.da y.dn y.dc) ∧ w'.cell? ⟨(w.heap.size + 1), 6, none⟩ = some (.bool y.ineg) ∧ w'.cell? ⟨(w.heap.size + 1), 7, none⟩ = some (.slice y.ia y.inn y.ic) ∧ w'.cell? ⟨(w.heap.size + 1), 8, none⟩ = some (.slice y.ea y.en y.ec)) ∧ (w'.cell? ⟨gP, 0, none⟩ = some (.bool sP) ∧ w'.cell? ⟨gP, 1, none⟩ = some (.slice aP nP cP) ∧ w'.cell? ⟨gP, 2, none⟩ = some (.slice aQ nQ cQ)) ∧ (w'.cell? ⟨gU, 0, none⟩ = some (.bool sU) ∧ w'.cell? ⟨gU, 1, none⟩ = some (.slice aU nU cU) ∧ w'.cell? ⟨gU, 2, none⟩ = some (.slice aV nV cV)) ∧ (w'.cell? ⟨gY, 0, none⟩ = some (.bool sY) ∧ w'.cell? ⟨gY, 1, none⟩ = some (.slice aY nY cY) ∧ w'.cell? ⟨gY, 2, none⟩ = some (.slice aZ nZ cZ)))
          (first | with_reducible exact ⟨X7.all, Y7.all, P7.all, U7.all, V7.all⟩ | with_reducible exact ⟨(X7.keep (by assumption)).all, (Y7.keep (by assumption)).all, (P7.keep (by assumption)).all, (U7.keep (by assumption)).all, (V7.keep (by assumption)).all⟩)
          (first | (go_at_call 15; (with_reducible refine (implBinQuoC_any x y (vrt x) (virt x) (vrt y) (virt y) 3 _ ?_ ?_ ?_ ?_ ?_ MX.out MY.out PX.out PY.out H0.out (by omega)).mono ?_); exact HT7.out.keep (by assumption); exact HD7.out.keep (by assumption); exact HS7.out.keep (by assumption); exact HX7.out.keep (by assumption); exact HY7.out.keep (by assumption); rintro e w7 ⟨r, rfl, hy, hP, hB7⟩; have hb7 := Below.then hd6 (Nat.le_refl _) hB7) | (go_at_call 11; (with_reducible refine (times_any sU sP aU nU cU aV nV cV aP nP cP aQ nQ cQ (Rt.plus (Rt.times (vrt x) (vrt y)) (Rt.times (virt x) (virt y))) (sqS (vrt y) (virt y)).upside 49 _ ?_ ?_ QD.out.1 SP.out (by omega)).mono ?_); exact RU7.out.keep hb7; exact RP7.out.keep hb7; rintro e w8 ⟨sF1, aF1, nF1, cF1, aF2, nF2, cF2, rfl, hF1, hB8⟩; have hb8 := Below.then hb7 (Nat.le_refl _) hB8) | (go_at_call 11; (with_reducible refine (times_any sY sP aY nY cY aZ nZ cZ aP nP cP aQ nQ cQ (Rt.minus (Rt.times (virt x) (vrt y)) (Rt.times (vrt x) (virt y))) (sqS (vrt y) (virt y)).upside 49 _ ?_ ?_ QD.out.2 SP.out (by omega)).mono ?_); exact RV7.out.keep hb8; exact RP7.out.keep hb8; rintro e w9 ⟨sF3, aF3, nF3, cF3, aF4, nF4, cF4, rfl, hF3, hB9⟩; have hb9 := Below.then hb8 (Nat.le_refl _) hB9) | (go_at_call 14; (with_reducible refine (isPair_any r sF1 aF1 nF1 cF1 aF2 nF2 cF2 (Rt.times (Rt.plus (Rt.times (vrt x) (vrt y)) (Rt.times (virt x) (virt y))) (sqS (vrt y) (virt y)).upside) sF3 aF3 nF3 cF3 aF4 nF4 cF4 (Rt.times (Rt.minus (Rt.times (virt x) (vrt y)) (Rt.times (vrt x) (virt y))) (sqS (vrt y) (virt y)).upside) 98 _ ?_ ?_ ?_ ?_ ?_ ?_ ?_ ?_).mono ?_); exact (hy.keep hB8).keep hB9; exact hF1.keep hB9; exact hF3; omega; exact Nat.le_trans hP.2.2.2.1 (by omega); exact Nat.le_trans hP.2.2.2.2.1 (by omega); exact Nat.le_trans hP.2.2.2.2.2.1 (by omega); exact Nat.le_trans hP.2.2.2.2.2.2 (by omega); rintro e w10 ⟨rfl, hB10⟩; have hb10 := Below.then hb9 (Nat.le_refl _) hB10; rw [isC_same hP]))
        go_wp2
        go_ret
        exact ⟨rfl, Below.then HB7.out (Nat.le_refl _) hb10⟩
end Go.Proofs.YtgmienggfaahlaaGreatDoor
