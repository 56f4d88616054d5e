/-
  FnNot walked.
-/
import Derived.Test.YtdkipndepkblhaaGreatDoorBuUU
import Derived.Test.YtdkipndepkblhaaGreatDoorSpO
import Derived.Test.YtdkipndepkblhaaGreatDoorBuLL
import Derived.Test.YtdkipndepkblhaaGreatDoorBuN
import Derived.Test.YtdkipndepkblhaaGreatDoorBuE
import Derived.Test.YtdkipndepkblhaaGreatDoorBuB
import Derived.Test.YtdkipndepkblhaaGreatDoorBuD
set_option linter.unusedSimpArgs false
set_option linter.unusedVariables false
namespace Go.Proofs.YtdkipndepkblhaaGreatDoor
open Go.RowKit Go.Bg Dg

theorem pow16_lt {p L : Nat} (h : p < 16 * L) : 2 ^ p < 65536 ^ L := by
  rw [show (65536 : Nat) = 2 ^ 16 from rfl, ← Nat.pow_mul]
  exact Nat.pow_lt_pow_right (by decide) h
theorem bl_pow {N p : Nat} (h : bl N ≤ p) : N < 2 ^ p := Nat.lt_of_lt_of_le (bl_lt N) (Nat.pow_le_pow_right (by decide) h)

set_option maxRecDepth 100000 in
set_option maxHeartbeats 4000000 in
theorem lawFnNot_any (x : Vl) (m : Nat) (hm : m < 65536) (w : World) (h1 : VlAt w x) :
    Calls Tryz.prog 4 #[.agg #[.int .i64 x.kind, .bool x.truth, .string x.text, .bool x.neg, .slice x.wa x.wn x.wc, .slice x.da x.dn x.dc, .bool x.ineg, .slice x.ia x.inn x.ic, .slice x.ea x.en x.ec], .int .u16 m] w fun e w' => e = .returned (.bool true) ∧ Below w.heap.size w w' := by
  have HO := Lib.hid hm
  clear hm
  obtain ⟨W0, hW0⟩ : ∃ W0, W0 = w.alloc (.cells #[.int .i64 x.kind, .bool x.truth, .string x.text, .bool x.neg, .slice x.wa x.wn x.wc, .slice x.da x.dn x.dc, .bool x.ineg, .slice x.ia x.inn x.ic, .slice x.ea x.en x.ec] 26) := ⟨_, rfl⟩
  have HW := Lib.hid hW0
  have hb0 : Below w.heap.size w W0 := by rw [hW0]; exact Below.alloc' (Below.refl _ _) _
  have X : Box9 W0 w.heap.size x := by rw [hW0]; exact Box9.new w x _ rfl
  have HX := Lib.hid (h1.keep hb0)
  clear hW0 h1
  cases hf : fitsB x
  · have HF := Lib.hid hf
    clear hf
    go_enter Tryz.func4, Tryz.ntmps4
    go_upto_region 1 with fail
    rw [← HW.out]
    obtain ⟨xc0, xc1, xc2, xc3, xc4, xc5, xc6, xc7, xc8⟩ := (X).all
    go_wp2_with fail
    refine (fits1_any x _).mono ?_
    rintro e w1 ⟨rfl, hB1⟩
    rw [HF.out]
    go_wp2
    go_ret
    exact ⟨rfl, Below.then hb0 (Nat.le_refl _) hB1⟩
  have HF := Lib.hid hf
  clear hf
  go_enter Tryz.func4, Tryz.ntmps4
  go_upto_region 1 with fail
  rw [← HW.out]
  obtain ⟨xc0, xc1, xc2, xc3, xc4, xc5, xc6, xc7, xc8⟩ := (X).all
  go_wp2_with fail
  refine (fits1_any x _).mono ?_
  rintro e w1 ⟨rfl, hB1⟩
  rw [HF.out]
  clear xc0 xc1 xc2 xc3 xc4 xc5 xc6 xc7 xc8
  have hb1 := Below.then hb0 (Nat.le_refl _) hB1
  have X1 := X.keep hB1
  have HX1 := Lib.hid (HX.out.keep hB1)
  clear X HX hB1 hb0 HW
  go_upto_region 3 with fail
  obtain ⟨xc0, xc1, xc2, xc3, xc4, xc5, xc6, xc7, xc8⟩ := (X1).all
  go_wp2_with fail
  refine (lawWhole_any x 20 _ HX1.out (by omega)).mono ?_
  rintro e w2 ⟨sA, aA, nA, cA, aB, nB, cB, rfl, hR, hB2⟩
  clear xc0 xc1 xc2 xc3 xc4 xc5 xc6 xc7 xc8
  go_upto_region 4 with fail
  obtain ⟨W3, hW3⟩ : ∃ W3, W3 = w2.alloc (.cells #[.bool sA, .slice aA nA cA, .slice aB nB cB] 31) := ⟨_, rfl⟩
  rw [← hW3]
  have hB3 : Below w1.heap.size w1 W3 := by rw [hW3]; exact Below.alloc' hB2 _
  have A3 : RtBlk W3 w2.heap.size sA aA nA cA aB nB cB := by rw [hW3]; exact RtBlk.new _ _ rfl _ _ _ _ _ _ _
  have hb3 := Below.then hb1 (Nat.le_refl _) hB3
  have X3 := X1.keep hB3
  have HX3 := Lib.hid (HX1.out.keep hB3)
  have HB3 := Lib.hid hb3
  have HS3 := Lib.hid (show ∀ o : Obj, w2.heap.size < (w2.alloc o).heap.size from fun o => by simp)
  have R3 := Lib.hid (show wholeB x 20 = true → RtAt W3 sA aA nA cA aB nB cB (Rt.whole x.neg (val W64 x.wf x.wn)) 81 from fun hb => by
    rw [hW3]
    have := (wholeB_parts hb).2
    exact ((hR hb).keep ((Below.refl _ _).alloc (Nat.le_refl _) _)).mono (by omega))
  clear hW3 hR hB2 hB3 X1 HX1 hb1 hb3
  cases hb : wholeB x 20
  · clear R3 X3 A3
    go_wp2
    go_ret
    exact ⟨rfl, HB3.out⟩
  obtain ⟨kX, nX⟩ := wholeB_parts hb
  have KX := Lib.hid kX
  have hrA := R3.out hb
  have hneg := hrA.neg
  rw [whole_rz] at hrA
  have RA := Lib.hid hrA
  have HNG := Lib.hid hneg
  clear kX hb R3 hrA hneg
  have hm := HO.out
  go_upto_region 6 with fail
  go_wp2_with fail
  refine (of64_one _).mono ?_
  rintro e w5 ⟨sO, aO, nO, cO, aP, nP, cP, rfl, hO, hB5⟩
  obtain ⟨W6, hW6⟩ : ∃ W6, W6 = w5.alloc (.cells #[.bool sO, .slice aO nO cO, .slice aP nP cP] 31) := ⟨_, rfl⟩
  have hB6 : Below W3.heap.size W3 W6 := by rw [hW6]; exact Below.alloc' hB5 _
  have O6 : RtBlk W6 w5.heap.size sO aO nO cO aP nP cP := by rw [hW6]; exact RtBlk.new _ _ rfl _ _ _ _ _ _ _
  have RO6 := Lib.hid (show RtAt W6 sO aO nO cO aP nP cP (rz 1) 81 from by rw [hW6]; exact (hO.keep (Below.alloc' (Below.refl _ _) _)).mono (by omega))
  have A6 := A3.keep hB6
  have X6 := X3.keep hB6
  have HX6 := Lib.hid (HX3.out.keep hB6)
  have HB6 := Lib.hid (Below.then HB3.out (Nat.le_refl _) hB6)
  have RA6 := Lib.hid (RA.out.keep hB6)
  have HW6 := Lib.hid hW6
  clear hW6 A3 X3 HX3 HB3 RA hB5 hB6 hO
  go_upto_region 7 with fail
  rw [← HW6.out]
  have hd0 : Below W6.heap.size W6 W6.drew := (Below.refl _ _).drew
  go_region_held3 (fun w' => (w'.cell? ⟨w.heap.size, 0, none⟩ = some (.int .i64 x.kind) ∧ w'.cell? ⟨w.heap.size, 1, none⟩ = some (.bool x.truth) ∧ w'.cell? ⟨w.heap.size, 2, none⟩ = some (.string x.text) ∧ w'.cell? ⟨w.heap.size, 3, none⟩ = some (.bool x.neg) ∧ w'.cell? ⟨w.heap.size, 4, none⟩ = some (.slice x.wa x.wn x.wc) ∧ w'.cell? ⟨w.heap.size, 5, none⟩ = some (.slice x.da x.dn x.dc) ∧ w'.cell? ⟨w.heap.size, 6, none⟩ = some (.bool x.ineg) ∧ w'.cell? ⟨w.heap.size, 7, none⟩ = some (.slice x.ia x.inn x.ic) ∧ w'.cell? ⟨w.heap.size, 8, none⟩ = some (.slice x.ea x.en x.ec)) ∧ (w'.cell? ⟨w2.heap.size, 0, none⟩ = some (.bool sA) ∧ w'.cell? ⟨w2.heap.size, 1, none⟩ = some (.slice aA nA cA) ∧ w'.cell? ⟨w2.heap.size, 2, none⟩ = some (.slice aB nB cB)) ∧ (w'.cell? ⟨w5.heap.size, 0, none⟩ = some (.bool sO) ∧ w'.cell? ⟨w5.heap.size, 1, none⟩ = some (.slice aO nO cO) ∧ w'.cell? ⟨w5.heap.size, 2, none⟩ = some (.slice aP nP cP)))
    (first | with_reducible exact ⟨X6.all, A6.all, O6.all⟩ | with_reducible exact ⟨(X6.keep (by assumption)).all, (A6.keep (by assumption)).all, (O6.keep (by assumption)).all⟩)
    (first | (go_at_call 19; (with_reducible refine (implNot_any x 20 _ ?_ KX.out nX (by omega)).mono ?_); exact HX6.out.keep (by assumption); rintro e w7 ⟨y, rfl, hy, hP, hB7⟩; have hb7 := Below.then hd0 (Nat.le_refl _) hB7) | (go_at_call 21; (with_reducible refine (negated_any sA aA nA cA aB nB cB 81 (rz (sg x.neg (val W64 x.wf x.wn))) _ ?_ (by omega)).mono ?_); exact RA6.out.keep (by assumption); rintro e w8 ⟨sN, aN, nN, cN, aQ, nQ, cQ, rfl, hN, hB8⟩; have hb8 := Below.then hb7 (Nat.le_refl _) hB8) | (go_at_call 20; (refine (minus_any sN sO aN nN cN aQ nQ cQ aO nO cO aP nP cP _ _ 81 _ hN (RO6.out.keep hb8) Nat.zero_lt_one Nat.zero_lt_one (by omega)).mono ?_); rintro e w9 ⟨sM, aM, nM, cM, aS, nS, cS, rfl, hM, hB9⟩; have hb9 := Below.then hb8 (Nat.le_refl _) hB9) | (go_at_call 16; (refine (isInt_any y sM aM nM cM aS nS cS ((rz (sg x.neg (val W64 x.wf x.wn))).negated.minus (rz 1)) (2 * 81 + 1) _ ((hy.keep hB8).keep hB9) hM (by omega) (Nat.le_trans hP.2.2.2 (by omega))).mono ?_); rintro e w10 ⟨rfl, hB10⟩; have hb10 := Below.then hb9 (Nat.le_refl _) hB10; rw [isZ_same hP (by rw [negated_rz, minus_rz])]))
  have A10 := A6.keep hb10
  have O10 := O6.keep hb10
  have X10 := X6.keep hb10
  have HX10 := Lib.hid (HX6.out.keep hb10)
  have RA10 := Lib.hid (RA6.out.keep hb10)
  have RO10 := Lib.hid (RO6.out.keep hb10)
  have HB10 := Lib.hid (Below.then HB6.out (Nat.le_refl _) hb10)
  clear hd0 hb7 hb8 hb9 hb10 hB7 hB8 hB9 hB10 hy hP hN hM A6 O6 X6 HX6 RA6 RO6 HB6
  obtain ⟨a0, a1, a2⟩ := A10.all
  go_upto_region 10 with fail
  have hmk : (m : Int) % 1000 = ((m % 1000 : Nat) : Int) := by omega
  have hk : m % 1000 < 1000 := Nat.mod_lt _ (by decide)
  obtain ⟨p, hp⟩ : ∃ p, p = 1 + m % 1000 := ⟨_, rfl⟩
  have hpi : (1 : Int) + ((m % 1000 : Nat) : Int) = (p : Int) := by omega
  have hp0 : 0 < p := by omega
  have hp1 : p ≤ 1000 := by omega
  clear hp
  rw [hmk, hpi]
  clear hmk hpi hk hm HO
  have HNU := Lib.hid (show NatAt w10 aA nA cA (val W64 x.wf x.wn) from by have := RA10.out.num; rwa [show (rz (sg x.neg (val W64 x.wf x.wn))).num = val W64 x.wf x.wn from by rw [← whole_rz]; rfl] at this)
  have hnA := RA10.out.n_le
  cases hs : sA
  case true =>
    rw [hs] at a0
    go_wp2
    go_ret
    exact ⟨rfl, HB10.out⟩
  case false =>
    have hnum := HNG.out
    rw [hs] at a0
    by_cases hlp : bl (val W64 x.wf x.wn) ≤ p
    · have HLP := Lib.hid (bl_pow hlp)
      have HSG := Lib.hid (show x.neg = false ∨ val W64 x.wf x.wn = 0 from by
        rw [hs] at hnum
        have h2 : (x.neg && decide (0 < val W64 x.wf x.wn)) = false := hnum.symm
        simp at h2
        cases hx : x.neg
        · exact .inl rfl
        · exact .inr (by have := h2 hx; omega))
      have hg : ¬ ((bl (val W64 x.wf x.wn) : Nat) : Int) > p := by omega
      go_wp2_with fail
      refine (len_any aA nA cA _ _ HNU.out (by omega)).mono ?_
      rintro e w11 ⟨rfl, rfl⟩
      generalize bl (val W64 x.wf x.wn) = q at *
      clear a0 a1 a2 hlp hs hnum
      go_wp2_with fail
      refine (bit_any p _ (by omega)).mono ?_
      rintro e w12 ⟨aT, nT, cT, rfl, hT, hB12⟩
      clear hg
      go_wp2_with fail
      refine (whole_any false aT nT cT (2 ^ p) 81 _ hT (pow16_lt (by omega)) (by omega) (by omega)).mono ?_
      rintro e w13 ⟨sT, aU, nU, cU, aV, nV, cV, rfl, hU, hB13⟩
      obtain ⟨W14, hW14⟩ : ∃ W14, W14 = w13.alloc (.cells #[.bool sT, .slice aU nU cU, .slice aV nV cV] 31) := ⟨_, rfl⟩
      have hB14 : Below w10.heap.size w10 W14 := by rw [hW14]; exact Below.alloc' (Below.then hB12 (Nat.le_refl _) hB13) _
      have T14 : RtBlk W14 w13.heap.size sT aU nU cU aV nV cV := by rw [hW14]; exact RtBlk.new _ _ rfl _ _ _ _ _ _ _
      have h2p : ((2 ^ p : Nat) : Int) = 2 ^ p := by exact_mod_cast rfl
      have RT14 := Lib.hid (show RtAt W14 sT aU nU cU aV nV cV (rz (2 ^ p)) 81 from by
        rw [hW14]
        have h3 := hU.keep (Below.alloc' (Below.refl _ _) (.cells #[.bool sT, .slice aU nU cU, .slice aV nV cV] 31))
        rw [whole_rz, show sg false (2 ^ p) = 2 ^ p from by simp only [sg, Bool.false_eq_true, if_false]; exact h2p] at h3
        exact h3)
      have A14 := A10.keep hB14
      have O14 := O10.keep hB14
      have X14 := X10.keep hB14
      have HX14 := Lib.hid (HX10.out.keep hB14)
      have RA14 := Lib.hid ((RA10.out.keep hB14).mono (show 81 ≤ 2 * 81 + 1 by omega))
      have RO14 := Lib.hid (RO10.out.keep hB14)
      have HB14 := Lib.hid (Below.then HB10.out (Nat.le_refl _) hB14)
      have HW14 := Lib.hid hW14
      have hwk : IntKind.u64.wrap (p : Int) = p := by rw [IntKind.wrap_u64]; omega
      have HUN := Lib.hid (show ∀ w', VlAt w' x → Calls Tryz.prog 19 #[.int .i64 2, .agg #[.int .i64 x.kind, .bool x.truth, .string x.text, .bool x.neg, .slice x.wa x.wn x.wc, .slice x.da x.dn x.dc, .bool x.ineg, .slice x.ia x.inn x.ic, .slice x.ea x.en x.ec], .int .u64 p] w' (GivesV (IsZ (2 ^ p - 1 - sg x.neg (val W64 x.wf x.wn)) 40) w') from fun w' h' => implNotP_any x 20 p w' h' KX.out HSG.out nX (by omega) hp0 (by omega) HLP.out)
      clear hW14 hU hT hB12 hB13 hB14 A10 O10 X10 HX10 RA10 RO10 HB10
      go_upto_region 13 with fail
      rw [← HW14.out]
      have hd1 : Below W14.heap.size W14 W14.drew := (Below.refl _ _).drew
      go_region_held3 (fun w' => (w'.cell? ⟨w.heap.size, 0, none⟩ = some (.int .i64 x.kind) ∧ w'.cell? ⟨w.heap.size, 1, none⟩ = some (.bool x.truth) ∧ w'.cell? ⟨w.heap.size, 2, none⟩ = some (.string x.text) ∧ w'.cell? ⟨w.heap.size, 3, none⟩ = some (.bool x.neg) ∧ w'.cell? ⟨w.heap.size, 4, none⟩ = some (.slice x.wa x.wn x.wc) ∧ w'.cell? ⟨w.heap.size, 5, none⟩ = some (.slice x.da x.dn x.dc) ∧ w'.cell? ⟨w.heap.size, 6, none⟩ = some (.bool x.ineg) ∧ w'.cell? ⟨w.heap.size, 7, none⟩ = some (.slice x.ia x.inn x.ic) ∧ w'.cell? ⟨w.heap.size, 8, none⟩ = some (.slice x.ea x.en x.ec)) ∧ (w'.cell? ⟨w2.heap.size, 0, none⟩ = some (.bool sA) ∧ w'.cell? ⟨w2.heap.size, 1, none⟩ = some (.slice aA nA cA) ∧ w'.cell? ⟨w2.heap.size, 2, none⟩ = some (.slice aB nB cB)) ∧ (w'.cell? ⟨w5.heap.size, 0, none⟩ = some (.bool sO) ∧ w'.cell? ⟨w5.heap.size, 1, none⟩ = some (.slice aO nO cO) ∧ w'.cell? ⟨w5.heap.size, 2, none⟩ = some (.slice aP nP cP)) ∧ (w'.cell? ⟨w13.heap.size, 0, none⟩ = some (.bool sT) ∧ w'.cell? ⟨w13.heap.size, 1, none⟩ = some (.slice aU nU cU) ∧ w'.cell? ⟨w13.heap.size, 2, none⟩ = some (.slice aV nV cV)))
        (first | with_reducible exact ⟨X14.all, A14.all, O14.all, T14.all⟩ | with_reducible exact ⟨(X14.keep (by assumption)).all, (A14.keep (by assumption)).all, (O14.keep (by assumption)).all, (T14.keep (by assumption)).all⟩)
        (first | (go_at_call 19; (with_reducible refine (HUN.out _ ?_).mono ?_); exact HX14.out.keep (by assumption); rintro e w15 ⟨y, rfl, hy, hP, hB15⟩; have hb15 := Below.then hd1 (Nat.le_refl _) hB15) | (go_at_call 20; (refine (minus_any sT sO aU nU cU aV nV cV aO nO cO aP nP cP _ _ 81 _ (RT14.out.keep hb15) (RO14.out.keep hb15) Nat.zero_lt_one Nat.zero_lt_one (by omega)).mono ?_); rintro e w16 ⟨sM, aM, nM, cM, aS, nS, cS, rfl, hM, hB16⟩; have hb16 := Below.then hb15 (Nat.le_refl _) hB16; rw [minus_rz] at hM) | (go_at_call 20; (refine (minus_any sM sA aM nM cM aS nS cS aA nA cA aB nB cB _ _ (2 * 81 + 1) _ hM (RA14.out.keep hb16) Nat.zero_lt_one Nat.zero_lt_one (by omega)).mono ?_); rintro e w17 ⟨sR, aR, nR, cR, aZ, nZ, cZ, rfl, hR, hB17⟩; have hb17 := Below.then hb16 (Nat.le_refl _) hB17) | (go_at_call 16; (refine (isInt_any y sR aR nR cR aZ nZ cZ ((rz (2 ^ p - 1)).minus (rz (sg x.neg (val W64 x.wf x.wn)))) (2 * (2 * 81 + 1) + 1) _ ((hy.keep hB16).keep hB17) hR (by omega) (Nat.le_trans hP.2.2.2 (by omega))).mono ?_); rintro e w18 ⟨rfl, hB18⟩; have hb18 := Below.then hb17 (Nat.le_refl _) hB18; rw [isZ_same hP (by rw [minus_rz])]))
      go_wp2
      go_ret
      exact ⟨rfl, Below.then HB14.out (Nat.le_refl _) hb18⟩
    · have hg : ((bl (val W64 x.wf x.wn) : Nat) : Int) > p := by omega
      go_wp2_with fail
      refine (len_any aA nA cA _ _ HNU.out (by omega)).mono ?_
      rintro e w11 ⟨rfl, rfl⟩
      generalize bl (val W64 x.wf x.wn) = q at *
      go_wp2
      go_ret
      exact ⟨rfl, HB10.out⟩
end Go.Proofs.YtdkipndepkblhaaGreatDoor
