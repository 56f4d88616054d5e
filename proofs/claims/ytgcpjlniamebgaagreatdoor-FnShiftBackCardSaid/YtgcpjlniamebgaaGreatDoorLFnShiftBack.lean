/-
  FnShiftBack walked.
-/
import Derived.Test.YtgcpjlniamebgaaGreatDoorBuBB
import Derived.Test.YtgcpjlniamebgaaGreatDoorBuW
import Derived.Test.YtgcpjlniamebgaaGreatDoorBuN
import Derived.Test.YtgcpjlniamebgaaGreatDoorBuE
set_option linter.unusedSimpArgs false
set_option linter.unusedVariables false
namespace Go.Proofs.YtgcpjlniamebgaaGreatDoor
open Go.RowKit Go.Bg Dg

theorem shz_back (z : Int) (k : Nat) : shz (shz z true k) false k = z := by
  show (z * 2 ^ k) / 2 ^ k = z
  exact Int.mul_ediv_cancel _ (Int.ne_of_gt (Int.pow_pos (by decide)))

set_option maxRecDepth 100000 in
set_option maxHeartbeats 4000000 in
theorem lawFnShiftBack_any (x : Vl) (m : Nat) (hm : m < 65536) (w : World) (h1 : VlAt w x) :
    Calls Tryz.prog 7 #[.agg #[.int .i64 x.kind, .bool x.truth, .string x.text, .bool x.neg, .slice x.wa x.wn x.wc, .slice x.da x.dn x.dc, .bool x.ineg, .slice x.ia x.inn x.ic, .slice x.ea x.en x.ec], .int .u16 m] w fun e w' => e = .returned (.bool true) ∧ Below w.heap.size w w' := by
  have HO := Lib.hid hm
  clear hm
  obtain ⟨W0, hW0⟩ : ∃ W0, W0 = w.alloc (.cells #[.int .i64 x.kind, .bool x.truth, .string x.text, .bool x.neg, .slice x.wa x.wn x.wc, .slice x.da x.dn x.dc, .bool x.ineg, .slice x.ia x.inn x.ic, .slice x.ea x.en x.ec] 26) := ⟨_, rfl⟩
  have HW := Lib.hid hW0
  have hb0 : Below w.heap.size w W0 := by rw [hW0]; exact Below.alloc' (Below.refl _ _) _
  have X : Box9 W0 w.heap.size x := by rw [hW0]; exact Box9.new w x _ rfl
  have HX := Lib.hid (h1.keep hb0)
  clear hW0 h1
  cases hf : fitsB x
  · have HF := Lib.hid hf
    clear hf
    go_enter Tryz.func7, Tryz.ntmps7
    go_upto_region 1 with fail
    rw [← HW.out]
    obtain ⟨xc0, xc1, xc2, xc3, xc4, xc5, xc6, xc7, xc8⟩ := (X).all
    go_wp2_with fail
    refine (fits1_any x _).mono ?_
    rintro e w1 ⟨rfl, hB1⟩
    rw [HF.out]
    go_wp2
    go_ret
    exact ⟨rfl, Below.then hb0 (Nat.le_refl _) hB1⟩
  have HF := Lib.hid hf
  clear hf
  go_enter Tryz.func7, Tryz.ntmps7
  go_upto_region 1 with fail
  rw [← HW.out]
  obtain ⟨xc0, xc1, xc2, xc3, xc4, xc5, xc6, xc7, xc8⟩ := (X).all
  go_wp2_with fail
  refine (fits1_any x _).mono ?_
  rintro e w1 ⟨rfl, hB1⟩
  rw [HF.out]
  clear xc0 xc1 xc2 xc3 xc4 xc5 xc6 xc7 xc8
  have hb1 := Below.then hb0 (Nat.le_refl _) hB1
  have X1 := X.keep hB1
  have HX1 := Lib.hid (HX.out.keep hB1)
  clear X HX hB1 hb0 HW
  go_upto_region 3 with fail
  obtain ⟨xc0, xc1, xc2, xc3, xc4, xc5, xc6, xc7, xc8⟩ := (X1).all
  go_wp2_with fail
  refine (lawWhole_any x 15 _ HX1.out (by omega)).mono ?_
  rintro e w2 ⟨sA, aA, nA, cA, aB, nB, cB, rfl, hR, hB2⟩
  clear xc0 xc1 xc2 xc3 xc4 xc5 xc6 xc7 xc8
  go_upto_region 4 with fail
  obtain ⟨W3, hW3⟩ : ∃ W3, W3 = w2.alloc (.cells #[.bool sA, .slice aA nA cA, .slice aB nB cB] 31) := ⟨_, rfl⟩
  rw [← hW3]
  have hB3 : Below w1.heap.size w1 W3 := by rw [hW3]; exact Below.alloc' hB2 _
  have A3 : RtBlk W3 w2.heap.size sA aA nA cA aB nB cB := by rw [hW3]; exact RtBlk.new _ _ rfl _ _ _ _ _ _ _
  have hb3 := Below.then hb1 (Nat.le_refl _) hB3
  have X3 := X1.keep hB3
  have HX3 := Lib.hid (HX1.out.keep hB3)
  have HB3 := Lib.hid hb3
  have HS3 := Lib.hid (show ∀ o : Obj, w2.heap.size < (w2.alloc o).heap.size from fun o => by simp)
  have R3 := Lib.hid (show wholeB x 15 = true → RtAt W3 sA aA nA cA aB nB cB (Rt.whole x.neg (val W64 x.wf x.wn)) 61 from fun hb => by
    rw [hW3]
    have := (wholeB_parts hb).2
    exact ((hR hb).keep ((Below.refl _ _).alloc (Nat.le_refl _) _)).mono (by omega))
  clear hW3 hR hB2 hB3 X1 HX1 hb1 hb3
  have hm := HO.out
  go_upto_region 5 with fail
  have hmk : (m : Int) % 501 = ((m % 501 : Nat) : Int) := by omega
  rw [hmk]
  have hk : m % 501 ≤ 500 := by have := Nat.mod_lt m (show 0 < 501 by decide); omega
  clear hmk hm HO
  generalize m % 501 = k at *
  cases hb : wholeB x 15
  · clear R3
    clear X3 A3
    go_quiet (fail)
    go_wp2
    go_ret
    exact ⟨rfl, HB3.out.trans (below_of_drewN ⟨_, rfl⟩)⟩
  · obtain ⟨kX, nX⟩ := wholeB_parts hb
    have KX := Lib.hid kX
    have RA := Lib.hid (R3.out hb)
    clear kX hb R3
    have hd0 : Below W3.heap.size W3 W3.drew := (Below.refl _ _).drew
    go_region_held3 (fun w' => (w'.cell? ⟨w.heap.size, 0, none⟩ = some (.int .i64 x.kind) ∧ w'.cell? ⟨w.heap.size, 1, none⟩ = some (.bool x.truth) ∧ w'.cell? ⟨w.heap.size, 2, none⟩ = some (.string x.text) ∧ w'.cell? ⟨w.heap.size, 3, none⟩ = some (.bool x.neg) ∧ w'.cell? ⟨w.heap.size, 4, none⟩ = some (.slice x.wa x.wn x.wc) ∧ w'.cell? ⟨w.heap.size, 5, none⟩ = some (.slice x.da x.dn x.dc) ∧ w'.cell? ⟨w.heap.size, 6, none⟩ = some (.bool x.ineg) ∧ w'.cell? ⟨w.heap.size, 7, none⟩ = some (.slice x.ia x.inn x.ic) ∧ w'.cell? ⟨w.heap.size, 8, none⟩ = some (.slice x.ea x.en x.ec)) ∧ (w'.cell? ⟨w2.heap.size, 0, none⟩ = some (.bool sA) ∧ w'.cell? ⟨w2.heap.size, 1, none⟩ = some (.slice aA nA cA) ∧ w'.cell? ⟨w2.heap.size, 2, none⟩ = some (.slice aB nB cB)))
      (first | with_reducible exact ⟨X3.all, A3.all⟩ | with_reducible exact ⟨(X3.keep (by assumption)).all, (A3.keep (by assumption)).all⟩)
      (first | (go_at_call 19; (with_reducible refine (implShift_any x true k 15 8 _ ?_ KX.out nX ?_ ?_ ?_).mono ?_); exact HX3.out.keep (by assumption); omega; omega; omega; rintro e w5 ⟨y, rfl, hy, hP, hB5⟩; have hb5 := Below.then hd0 (Nat.le_refl _) hB5; have YK := Lib.hid (isZ_kind hP); have YS := Lib.hid (isZ_sg hP); have YN := Lib.hid hP.2.2.2) | (go_at_call 19; (with_reducible refine (implShift_any y false k 23 8 _ ?_ YK.out YN.out ?_ ?_ ?_).mono ?_); exact hy; omega; omega; omega; rintro e w6 ⟨q, rfl, hq, hQ, hB6⟩; have hb6 := Below.then hb5 (Nat.le_refl _) hB6; rw [YS.out, shz_back] at hQ) | (go_at_call 13; (with_reducible refine (isInt_any q sA aA nA cA aB nB cB (Rt.whole x.neg (val W64 x.wf x.wn)) 61 _ ?_ ?_ ?_ ?_).mono ?_); exact hq; exact RA.out.keep hb6; omega; exact Nat.le_trans hQ.2.2.2 (by omega); rintro e w7 ⟨rfl, hB7⟩; have hb7 := Below.then hb6 (Nat.le_refl _) hB7; rw [isZ_same hQ (whole_rz _ _)]))
    go_wp2
    go_ret
    exact ⟨rfl, Below.then HB3.out (Nat.le_refl _) hb7⟩
end Go.Proofs.YtgcpjlniamebgaaGreatDoor
