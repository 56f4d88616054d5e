/-
  FnConjugate walked. PRINTED BY wip/gen_lcpx.py.
-/
import Derived.Test.YtececkbcinmmpaaGreatDoorN5
import Derived.Test.YtececkbcinmmpaaGreatDoorN2
import Derived.Test.YtececkbcinmmpaaGreatDoorNB
import Derived.Test.YtececkbcinmmpaaGreatDoorK38
import Derived.Test.YtececkbcinmmpaaGreatDoorK07
set_option linter.unusedSimpArgs false
set_option linter.unusedVariables false
namespace Go.Proofs.YtececkbcinmmpaaGreatDoor
open Go.RowKit Go.Bg Dg

theorem conj_re {a b : Rt} (hb : ROk b) : Rt.minus (Rt.times a a) (Rt.times b b.negated) = Rt.plus (Rt.times a a) (Rt.times b b) := by
  rw [times_negated hb hb, minus_negated (rok_times hb hb)]
theorem conj_im {a b : Rt} (ha : ROk a) (hb : ROk b) : Rt.plus (Rt.times b a) (Rt.times a b.negated) = rz 0 := by
  rw [times_negated ha hb, times_comm b a, plus_negated (rok_times ha hb)]

set_option maxRecDepth 100000 in
set_option maxHeartbeats 8000000 in
theorem lawFnConjugate_any (x : Vl) (w : World) (hT : Thr w) (hDD : ThrD w) (h1 : VlAt w x) :
    Calls Tryz.prog 12 #[.agg #[.int .i64 x.kind, .bool x.truth, .string x.text, .bool x.neg, .slice x.wa x.wn x.wc, .slice x.da x.dn x.dc, .bool x.ineg, .slice x.ia x.inn x.ic, .slice x.ea x.en x.ec]] w fun e w' => e = .returned (.bool true) ∧ Below w.heap.size w w' := by
  have HT := Lib.hid hT
  have HDD := Lib.hid hDD
  clear hT hDD
  obtain ⟨W0, hW0⟩ : ∃ W0, W0 = w.alloc (.cells #[.int .i64 x.kind, .bool x.truth, .string x.text, .bool x.neg, .slice x.wa x.wn x.wc, .slice x.da x.dn x.dc, .bool x.ineg, .slice x.ia x.inn x.ic, .slice x.ea x.en x.ec] 26) := ⟨_, rfl⟩
  have HW := Lib.hid hW0
  have hb0 : Below w.heap.size w W0 := by rw [hW0]; exact Below.alloc' (Below.refl _ _) _
  have X : Box9 W0 w.heap.size x := by rw [hW0]; exact Box9.new w x _ rfl
  have HX := Lib.hid (h1.keep hb0)
  clear hW0 h1
  cases hf : fitsB x
  · have HF := Lib.hid hf
    clear hf
    go_enter Tryz.func12, Tryz.ntmps12
    go_upto_region 1 with fail
    rw [← HW.out]
    obtain ⟨xc0, xc1, xc2, xc3, xc4, xc5, xc6, xc7, xc8⟩ := (X).all
    go_wp2_with fail
    refine (fits1_any x _).mono ?_
    rintro e w1 ⟨rfl, hB1⟩
    rw [HF.out]
    go_wp2
    go_ret
    exact ⟨rfl, Below.then hb0 (Nat.le_refl _) hB1⟩
  have HF := Lib.hid hf
  clear hf
  go_enter Tryz.func12, Tryz.ntmps12
  go_upto_region 1 with fail
  rw [← HW.out]
  obtain ⟨xc0, xc1, xc2, xc3, xc4, xc5, xc6, xc7, xc8⟩ := (X).all
  go_wp2_with fail
  refine (fits1_any x _).mono ?_
  rintro e w1 ⟨rfl, hB1⟩
  rw [HF.out]
  clear xc0 xc1 xc2 xc3 xc4 xc5 xc6 xc7 xc8
  have hb1 := Below.then hb0 (Nat.le_refl _) hB1
  have X1 := X.keep hB1
  have HX1 := Lib.hid (HX.out.keep hB1)
  clear X HX hB1 hb0 HW
  go_upto_region 3 with fail
  obtain ⟨xc0, xc1, xc2, xc3, xc4, xc5, xc6, xc7, xc8⟩ := (X1).all
  go_wp2_with fail
  refine (lawPair_any x 3 _ HX1.out (by omega)).mono ?_
  rintro e w2 ⟨sA, aA, nA, cA, aB, nB, cB, sC, aC, nC, cC, aD, nD, cD, rfl, hR, hB2⟩
  clear xc0 xc1 xc2 xc3 xc4 xc5 xc6 xc7 xc8
  go_upto_region 4 with fail
  obtain ⟨W3, hW3⟩ : ∃ W3, W3 = (w2.alloc (.cells #[.bool sA, .slice aA nA cA, .slice aB nB cB] 31)).alloc (.cells #[.bool sC, .slice aC nC cC, .slice aD nD cD] 31) := ⟨_, rfl⟩
  rw [← hW3]
  have hk3 : Below w2.heap.size w2 W3 := by rw [hW3]; exact Below.alloc' (Below.alloc' (Below.refl _ _) _) _
  have hB3 : Below w1.heap.size w1 W3 := Below.then hB2 (Nat.le_refl _) hk3
  have A3 : RtBlk W3 w2.heap.size sA aA nA cA aB nB cB := by rw [hW3]; exact (RtBlk.new _ _ rfl _ _ _ _ _ _ _).keep ((Below.refl _ _).alloc (Nat.le_refl _) _)
  have C3 : RtBlk W3 (w2.heap.size + 1) sC aC nC cC aD nD cD := by rw [hW3]; exact RtBlk.new _ _ (by simp) _ _ _ _ _ _ _
  have R3 := Lib.hid (fun hb => show RtAt W3 sA aA nA cA aB nB cB (vrt x) (4 * 3) ∧ RtAt W3 sC aC nC cC aD nD cD (virt x) (4 * 3) from ⟨(hR hb).1.keep hk3, (hR hb).2.keep hk3⟩)
  have hb3 := Below.then hb1 (Nat.le_refl _) hB3
  have X3 := X1.keep hB3
  have HX3 := Lib.hid (HX1.out.keep hB3)
  have HB3 := Lib.hid hb3
  clear hW3 hR hB2 hB3 hk3 X1 HX1 hb1 hb3
  cases hb : lpairB x 3
  · clear R3
    clear X3 A3 C3
    go_wp2
    go_ret
    exact ⟨rfl, HB3.out⟩
  have MX := Lib.hid (madeC_pair hb (by omega) (by omega))
  have PX := Lib.hid (plt_pair HX3.out hb (by omega) (by omega))
  obtain ⟨rA, rC⟩ := R3.out hb
  have RA := Lib.hid rA
  have RC := Lib.hid rC
  have HT3 := Lib.hid (HT.out.keep HB3.out)
  have HD3 := Lib.hid (HDD.out.keep HB3.out)
  have CE := Lib.hid (⟨conj_re PX.out.ok2, conj_im PX.out.ok1 PX.out.ok2⟩ : Rt.minus (Rt.times (vrt x) (vrt x)) (Rt.times (virt x) (virt x).negated) = Rt.plus (Rt.times (vrt x) (vrt x)) (Rt.times (virt x) (virt x)) ∧ Rt.plus (Rt.times (virt x) (vrt x)) (Rt.times (vrt x) (virt x).negated) = rz 0)
  clear rA rC hb R3
  go_upto_region 6 with fail
  have hd0 : Below W3.heap.size W3 W3.drew := (Below.refl _ _).drew
  have hd1 : Below W3.heap.size W3 ((W3.alloc (.cells #[.int .i64 0, .bool false, .string ⟨#[]⟩, .bool false, .slice none 0 0, .slice none 0 0, .bool false, .slice none 0 0, .slice none 0 0] 26)).drew) := (Below.alloc' (Below.refl _ _) _).drew
  have hx3 : w.heap.size < W3.heap.size := block_lt X3.c0
  go_region_held3 (fun w' => w'.cell? ⟨w.heap.size, 0, none⟩ = some (.int .i64 x.kind) ∧ w'.cell? ⟨w.heap.size, 1, none⟩ = some (.bool x.truth) ∧ w'.cell? ⟨w.heap.size, 2, none⟩ = some (.string x.text) ∧ w'.cell? ⟨w.heap.size, 3, none⟩ = some (.bool x.neg) ∧ w'.cell? ⟨w.heap.size, 4, none⟩ = some (.slice x.wa x.wn x.wc) ∧ w'.cell? ⟨w.heap.size, 5, none⟩ = some (.slice x.da x.dn x.dc) ∧ w'.cell? ⟨w.heap.size, 6, none⟩ = some (.bool x.ineg) ∧ w'.cell? ⟨w.heap.size, 7, none⟩ = some (.slice x.ia x.inn x.ic) ∧ w'.cell? ⟨w.heap.size, 8, none⟩ = some (.slice x.ea x.en x.ec))
    (with_reducible refine (X3.keep ?_).all <;> (with_reducible first | assumption | exact Below.alloc' (by assumption) _ | exact Below.refl _ _ | (refine below_set9 ?_ ?_ _ _ _ _ _ _ _ _ _ <;> first | assumption | exact Below.alloc' (by assumption) _ | exact Nat.le_refl W3.heap.size | exact Below.size (by assumption) | (show W3.heap.size ≤ W3.heap.size; exact Nat.le_refl _))))
    (first | (go_at_call 33; (with_reducible refine (implRealC_any x (vrt x) (virt x) 3 _ ?_ ?_ ?_ MX.out PX.out).mono ?_); exact HT3.out.keep (by first | exact hd0 | exact hd1 | exact Below.alloc' hd0 _); exact HD3.out.keep (by first | exact hd0 | exact hd1 | exact Below.alloc' hd0 _); exact HX3.out.keep (by first | exact hd0 | exact hd1 | exact Below.alloc' hd0 _); rintro e w12 ⟨p, rfl, hp, hP, hB12⟩; have hb12 := Below.then (show Below W3.heap.size W3 _ from (by first | exact hd0 | exact hd1 | exact Below.alloc' hd0 _)) (Nat.le_refl _) hB12; (try have hz12 := BlkAt.keep (BlkAt.keep (BlkAt.new W3 #[.int .i64 0, .bool false, .string ⟨#[]⟩, .bool false, .slice none 0 0, .slice none 0 0, .bool false, .slice none 0 0, .slice none 0 0] 26) (Below.refl _ _).drew) hB12)) | (go_at_call 34; (with_reducible refine (implImagC_any x (vrt x) (virt x) 3 _ ?_ ?_ ?_ MX.out PX.out).mono ?_); exact HT3.out.keep (by first | exact hb12 | exact Below.alloc' hb12 _); exact HD3.out.keep (by first | exact hb12 | exact Below.alloc' hb12 _); exact HX3.out.keep (by first | exact hb12 | exact Below.alloc' hb12 _); rintro e w13 ⟨q, rfl, hq, hQ, hB13⟩; have hb13 := Below.then (show Below W3.heap.size W3 _ from (by first | exact hb12 | exact Below.alloc' hb12 _)) (Nat.le_refl _) hB13; have hp3 := VlAt.keep (show VlAt _ p from (by first | exact hp | exact hp.keep (Below.alloc' (Below.refl _ _) _))) hB13; (try have hz13 := BlkAt.keep hz12 hB13); (try have hz13 := BlkAt.keep (BlkAt.new w12 #[.int .i64 0, .bool false, .string ⟨#[]⟩, .bool false, .slice none 0 0, .slice none 0 0, .bool false, .slice none 0 0, .slice none 0 0] 26) hB13)) | (go_at_call 36; (with_reducible refine (implImaginary_any q (virt x) _ ?_ (isQ_num hQ (by omega))).mono ?_); exact (by first | exact hq | exact hq.keep (Below.alloc' (Below.refl _ _) _)); rintro e w14 ⟨u, rfl, hu, hU, hB14⟩; have hb14 := Below.then (show Below W3.heap.size W3 _ from (by first | exact hb13 | exact Below.alloc' hb13 _)) (Nat.le_refl _) hB14; have hp4 := VlAt.keep (show VlAt _ p from (by first | exact hp3 | exact hp3.keep (Below.alloc' (Below.refl _ _) _))) hB14; (try have hz14 := BlkAt.keep hz13 hB14); (try have hz14 := BlkAt.keep (BlkAt.new w13 #[.int .i64 0, .bool false, .string ⟨#[]⟩, .bool false, .slice none 0 0, .slice none 0 0, .bool false, .slice none 0 0, .slice none 0 0] 26) hB14)) | (go_at_call 20; (with_reducible refine (implConj_any p u (vrt x) (virt x) 3 _ ?_ ?_ ?_ ?_ hP hU PX.out (by omega)).mono ?_); exact HT3.out.keep (by first | exact hb14 | exact Below.alloc' hb14 _); exact HD3.out.keep (by first | exact hb14 | exact Below.alloc' hb14 _); exact (by first | exact hp4 | exact hp4.keep (Below.alloc' (Below.refl _ _) _)); exact (by first | exact hu | exact hu.keep (Below.alloc' (Below.refl _ _) _)); rintro e w15 ⟨r, rfl, hr, hR, hB15⟩; have hb15 := Below.then (show Below W3.heap.size W3 _ from (by first | exact hb14 | exact Below.alloc' hb14 _)) (Nat.le_refl _) hB15; (try have hz15 := BlkAt.keep hz14 hB15); (try have hz15 := BlkAt.keep (BlkAt.new w14 #[.int .i64 0, .bool false, .string ⟨#[]⟩, .bool false, .slice none 0 0, .slice none 0 0, .bool false, .slice none 0 0, .slice none 0 0] 26) hB15); try (have rc0 := (hz15).cell 0; have rc1 := (hz15).cell 1; have rc2 := (hz15).cell 2; have rc3 := (hz15).cell 3; have rc4 := (hz15).cell 4; have rc5 := (hz15).cell 5; have rc6 := (hz15).cell 6; have rc7 := (hz15).cell 7; have rc8 := (hz15).cell 8; simp only [List.getElem?_toArray, List.getElem?_cons_zero, List.getElem?_cons_succ] at rc0 rc1 rc2 rc3 rc4 rc5 rc6 rc7 rc8; have rf0 := (hz15).frozen 0; have rf1 := (hz15).frozen 1; have rf2 := (hz15).frozen 2; have rf3 := (hz15).frozen 3; have rf4 := (hz15).frozen 4; have rf5 := (hz15).frozen 5; have rf6 := (hz15).frozen 6; have rf7 := (hz15).frozen 7; have rf8 := (hz15).frozen 8)))
  · obtain ⟨W16, hW16⟩ : ∃ W16, W16 = (w15.alloc (.cells #[.int .i64 r.kind, .bool r.truth, .string r.text, .bool r.neg, .slice r.wa r.wn r.wc, .slice r.da r.dn r.dc, .bool r.ineg, .slice r.ia r.inn r.ic, .slice r.ea r.en r.ec] 26)) := ⟨_, rfl⟩
    obtain ⟨g, hg⟩ : ∃ g, g = w15.heap.size := ⟨_, rfl⟩
    have HBX : Boxed W3 W16 g r := by rw [hW16, hg]; exact ⟨Below.alloc' hb15 _, hr.keep (Below.alloc' (Below.refl _ _) _), Box9.new w15 r _ rfl⟩
    have HW16 := Lib.hid hW16
    have HG16 := Lib.hid hg
    clear hW16 hg
    go_upto_region 7 with fail
    rw [← HW16.out, ← HG16.out]
    clear HW16 HG16
    have hb16 := HBX.below
    have X16 := X3.keep hb16
    have A16 := A3.keep hb16
    have C16 := C3.keep hb16
    have R16 := HBX.box
    have HX16 := Lib.hid (HX3.out.keep hb16)
    have RA16 := Lib.hid (RA.out.keep hb16)
    have RC16 := Lib.hid (RC.out.keep hb16)
    have HT16 := Lib.hid (HT3.out.keep hb16)
    have HD16 := Lib.hid (HD3.out.keep hb16)
    have HR16 := Lib.hid HBX.val
    have PR := Lib.hid (⟨PX.out.l1, PX.out.l2, PX.out.n1, PX.out.d1, PX.out.n2, PX.out.d2, PX.out.ok1, rok_negated PX.out.ok2⟩ : PLt (vrt x) (virt x).negated 3)
    have MR := Lib.hid (madeC_of hR.1 hR.2.1 hR.2.2.1 (Nat.le_trans hR.2.2.2.1 (by omega)) (Nat.le_trans hR.2.2.2.2.1 (by omega)) (Nat.le_trans hR.2.2.2.2.2.1 (by omega)) (Nat.le_trans hR.2.2.2.2.2.2 (by omega)) PR.out (by omega))
    have HB16 := Lib.hid (Below.then HB3.out (Nat.le_refl _) hb16)
    clear HBX hb16 X3 A3 C3 hd0 hd1 hx3 HX3 hb12 hb13 hb14 hb15 hB12 hB13 hB14 hB15 hp hq hu hr hp3 hp4 hP hQ hU hR
    have hd2 : Below W16.heap.size W16 W16.drew := (Below.refl _ _).drew
    go_region_held3 (fun w' => (w'.cell? ⟨w.heap.size, 0, none⟩ = some (.int .i64 x.kind) ∧ w'.cell? ⟨w.heap.size, 1, none⟩ = some (.bool x.truth) ∧ w'.cell? ⟨w.heap.size, 2, none⟩ = some (.string x.text) ∧ w'.cell? ⟨w.heap.size, 3, none⟩ = some (.bool x.neg) ∧ w'.cell? ⟨w.heap.size, 4, none⟩ = some (.slice x.wa x.wn x.wc) ∧ w'.cell? ⟨w.heap.size, 5, none⟩ = some (.slice x.da x.dn x.dc) ∧ w'.cell? ⟨w.heap.size, 6, none⟩ = some (.bool x.ineg) ∧ w'.cell? ⟨w.heap.size, 7, none⟩ = some (.slice x.ia x.inn x.ic) ∧ w'.cell? ⟨w.heap.size, 8, none⟩ = some (.slice x.ea x.en x.ec)) ∧ (w'.cell? ⟨g, 0, none⟩ = some (.int .i64 r.kind) ∧ w'.cell? ⟨g, 1, none⟩ = some (.bool r.truth) ∧ w'.cell? ⟨g, 2, none⟩ = some (.string r.text) ∧ w'.cell? ⟨g, 3, none⟩ = some (.bool r.neg) ∧ w'.cell? ⟨g, 4, none⟩ = some (.slice r.wa r.wn r.wc) ∧ w'.cell? ⟨g, 5, none⟩ = some (.slice r.da r.dn r.dc) ∧ w'.cell? ⟨g, 6, none⟩ = some (.bool r.ineg) ∧ w'.cell? ⟨g, 7, none⟩ = some (.slice r.ia r.inn r.ic) ∧ w'.cell? ⟨g, 8, none⟩ = some (.slice r.ea r.en r.ec)) ∧ (w'.cell? ⟨w2.heap.size, 0, none⟩ = some (.bool sA) ∧ w'.cell? ⟨w2.heap.size, 1, none⟩ = some (.slice aA nA cA) ∧ w'.cell? ⟨w2.heap.size, 2, none⟩ = some (.slice aB nB cB)) ∧ (w'.cell? ⟨(w2.heap.size + 1), 0, none⟩ = some (.bool sC) ∧ w'.cell? ⟨(w2.heap.size + 1), 1, none⟩ = some (.slice aC nC cC) ∧ w'.cell? ⟨(w2.heap.size + 1), 2, none⟩ = some (.slice aD nD cD)))
      (first | with_reducible exact ⟨X16.all, R16.all, A16.all, C16.all⟩ | with_reducible exact ⟨(X16.keep (by assumption)).all, (R16.keep (by assumption)).all, (A16.keep (by assumption)).all, (C16.keep (by assumption)).all⟩)
      (first | (go_at_call 20; (with_reducible refine (implBinMulC_any x r (vrt x) (virt x) (vrt x) (virt x).negated 3 _ ?_ ?_ ?_ ?_ MX.out MR.out PX.out PR.out (by omega)).mono ?_); exact HT16.out.keep (by assumption); exact HD16.out.keep (by assumption); exact HX16.out.keep (by assumption); exact HR16.out.keep (by assumption); rintro e w17 ⟨z, rfl, hz, hZ0, hB17⟩; have hb17 := Below.then hd2 (Nat.le_refl _) hB17; have hZ := hZ0; rw [CE.out.1, CE.out.2] at hZ) | (go_at_call 23; (with_reducible refine (times_any sA sA aA nA cA aB nB cB aA nA cA aB nB cB (vrt x) (vrt x) 12 _ ?_ ?_ PX.out.ok1.den PX.out.ok1.den ?_).mono ?_); exact RA16.out.keep (by assumption); exact RA16.out.keep (by assumption); omega; rintro e w18 ⟨sM, aM, nM, cM, aN, nN, cN, rfl, hM, hB18⟩; have hb18 := Below.then hb17 (Nat.le_refl _) hB18) | (go_at_call 23; (with_reducible refine (times_any sC sC aC nC cC aD nD cD aC nC cC aD nD cD (virt x) (virt x) 12 _ ?_ ?_ PX.out.ok2.den PX.out.ok2.den ?_).mono ?_); exact RC16.out.keep (by assumption); exact RC16.out.keep (by assumption); omega; rintro e w19 ⟨sP, aP, nP, cP, aQ, nQ, cQ, rfl, hP2, hB19⟩; have hb19 := Below.then hb18 (Nat.le_refl _) hB19) | (go_at_call 21; (with_reducible refine (plus_any sM sP aM nM cM aN nN cN aP nP cP aQ nQ cQ (Rt.times (vrt x) (vrt x)) (Rt.times (virt x) (virt x)) (2 * 12) _ ?_ hP2 ?_ ?_ ?_).mono ?_); exact hM.keep hB19; exact (rok_times PX.out.ok1 PX.out.ok1).den; exact (rok_times PX.out.ok2 PX.out.ok2).den; omega; rintro e w20 ⟨sS, aS, nS, cS, aT, nT, cT, rfl, hS, hB20⟩; have hb20 := Below.then hb19 (Nat.le_refl _) hB20) | (go_at_call 37; (with_reducible refine (of64_rz _).mono ?_); rintro e w21 ⟨sZ, aZ, nZ, cZ, aY, nY, cY, rfl, hO, hB21⟩; have hb21 := Below.then hb20 (Nat.le_refl _) hB21) | (go_at_call 32; (with_reducible refine (isPair_any z sS aS nS cS aT nT cT (Rt.plus (Rt.times (vrt x) (vrt x)) (Rt.times (virt x) (virt x))) sZ aZ nZ cZ aY nY cY (rz 0) 49 _ ?_ ?_ ?_ ?_ ?_ ?_ ?_ ?_).mono ?_); exact (((hz.keep hB18).keep hB19).keep hB20).keep hB21; exact (hS.keep hB21).mono (by omega); exact hO.mono (by omega); omega; exact Nat.le_trans hZ.2.2.2.1 (by omega); exact Nat.le_trans hZ.2.2.2.2.1 (by omega); exact Nat.le_trans hZ.2.2.2.2.2.1 (by omega); exact Nat.le_trans hZ.2.2.2.2.2.2 (by omega); rintro e w22 ⟨rfl, hB22⟩; have hb22 := Below.then hb21 (Nat.le_refl _) hB22; rw [isC_same hZ]))
    go_wp2
    go_ret
    exact ⟨rfl, Below.then HB16.out (Nat.le_refl _) hb22⟩
  · obtain ⟨W16, hW16⟩ : ∃ W16, W16 = (((((((((w15.setCell ⟨w14.heap.size, 0, none⟩ (.int .i64 r.kind)).setCell ⟨w14.heap.size, 1, none⟩ (.bool r.truth)).setCell ⟨w14.heap.size, 2, none⟩ (.string r.text)).setCell ⟨w14.heap.size, 3, none⟩ (.bool r.neg)).setCell ⟨w14.heap.size, 4, none⟩ (.slice r.wa r.wn r.wc)).setCell ⟨w14.heap.size, 5, none⟩ (.slice r.da r.dn r.dc)).setCell ⟨w14.heap.size, 6, none⟩ (.bool r.ineg)).setCell ⟨w14.heap.size, 7, none⟩ (.slice r.ia r.inn r.ic)).setCell ⟨w14.heap.size, 8, none⟩ (.slice r.ea r.en r.ec)) := ⟨_, rfl⟩
    obtain ⟨g, hg⟩ : ∃ g, g = w14.heap.size := ⟨_, rfl⟩
    have HBX : Boxed W3 W16 g r := by rw [hW16, hg]; exact boxed_at hz15 hb15 hb14.size hr
    have HW16 := Lib.hid hW16
    have HG16 := Lib.hid hg
    clear hW16 hg
    go_upto_region 7 with fail
    rw [← HW16.out, ← HG16.out]
    clear HW16 HG16
    have hb16 := HBX.below
    have X16 := X3.keep hb16
    have A16 := A3.keep hb16
    have C16 := C3.keep hb16
    have R16 := HBX.box
    have HX16 := Lib.hid (HX3.out.keep hb16)
    have RA16 := Lib.hid (RA.out.keep hb16)
    have RC16 := Lib.hid (RC.out.keep hb16)
    have HT16 := Lib.hid (HT3.out.keep hb16)
    have HD16 := Lib.hid (HD3.out.keep hb16)
    have HR16 := Lib.hid HBX.val
    have PR := Lib.hid (⟨PX.out.l1, PX.out.l2, PX.out.n1, PX.out.d1, PX.out.n2, PX.out.d2, PX.out.ok1, rok_negated PX.out.ok2⟩ : PLt (vrt x) (virt x).negated 3)
    have MR := Lib.hid (madeC_of hR.1 hR.2.1 hR.2.2.1 (Nat.le_trans hR.2.2.2.1 (by omega)) (Nat.le_trans hR.2.2.2.2.1 (by omega)) (Nat.le_trans hR.2.2.2.2.2.1 (by omega)) (Nat.le_trans hR.2.2.2.2.2.2 (by omega)) PR.out (by omega))
    have HB16 := Lib.hid (Below.then HB3.out (Nat.le_refl _) hb16)
    clear HBX hb16 X3 A3 C3 hd0 hd1 hx3 HX3 hb12 hb13 hb14 hb15 hB12 hB13 hB14 hB15 hp hq hu hr hp3 hp4 hP hQ hU hR
    have hd2 : Below W16.heap.size W16 W16.drew := (Below.refl _ _).drew
    go_region_held3 (fun w' => (w'.cell? ⟨w.heap.size, 0, none⟩ = some (.int .i64 x.kind) ∧ w'.cell? ⟨w.heap.size, 1, none⟩ = some (.bool x.truth) ∧ w'.cell? ⟨w.heap.size, 2, none⟩ = some (.string x.text) ∧ w'.cell? ⟨w.heap.size, 3, none⟩ = some (.bool x.neg) ∧ w'.cell? ⟨w.heap.size, 4, none⟩ = some (.slice x.wa x.wn x.wc) ∧ w'.cell? ⟨w.heap.size, 5, none⟩ = some (.slice x.da x.dn x.dc) ∧ w'.cell? ⟨w.heap.size, 6, none⟩ = some (.bool x.ineg) ∧ w'.cell? ⟨w.heap.size, 7, none⟩ = some (.slice x.ia x.inn x.ic) ∧ w'.cell? ⟨w.heap.size, 8, none⟩ = some (.slice x.ea x.en x.ec)) ∧ (w'.cell? ⟨g, 0, none⟩ = some (.int .i64 r.kind) ∧ w'.cell? ⟨g, 1, none⟩ = some (.bool r.truth) ∧ w'.cell? ⟨g, 2, none⟩ = some (.string r.text) ∧ w'.cell? ⟨g, 3, none⟩ = some (.bool r.neg) ∧ w'.cell? ⟨g, 4, none⟩ = some (.slice r.wa r.wn r.wc) ∧ w'.cell? ⟨g, 5, none⟩ = some (.slice r.da r.dn r.dc) ∧ w'.cell? ⟨g, 6, none⟩ = some (.bool r.ineg) ∧ w'.cell? ⟨g, 7, none⟩ = some (.slice r.ia r.inn r.ic) ∧ w'.cell? ⟨g, 8, none⟩ = some (.slice r.ea r.en r.ec)) ∧ (w'.cell? ⟨w2.heap.size, 0, none⟩ = some (.bool sA) ∧ w'.cell? ⟨w2.heap.size, 1, none⟩ = some (.slice aA nA cA) ∧ w'.cell? ⟨w2.heap.size, 2, none⟩ = some (.slice aB nB cB)) ∧ (w'.cell? ⟨(w2.heap.size + 1), 0, none⟩ = some (.bool sC) ∧ w'.cell? ⟨(w2.heap.size + 1), 1, none⟩ = some (.slice aC nC cC) ∧ w'.cell? ⟨(w2.heap.size + 1), 2, none⟩ = some (.slice aD nD cD)))
      (first | with_reducible exact ⟨X16.all, R16.all, A16.all, C16.all⟩ | with_reducible exact ⟨(X16.keep (by assumption)).all, (R16.keep (by assumption)).all, (A16.keep (by assumption)).all, (C16.keep (by assumption)).all⟩)
      (first | (go_at_call 20; (with_reducible refine (implBinMulC_any x r (vrt x) (virt x) (vrt x) (virt x).negated 3 _ ?_ ?_ ?_ ?_ MX.out MR.out PX.out PR.out (by omega)).mono ?_); exact HT16.out.keep (by assumption); exact HD16.out.keep (by assumption); exact HX16.out.keep (by assumption); exact HR16.out.keep (by assumption); rintro e w17 ⟨z, rfl, hz, hZ0, hB17⟩; have hb17 := Below.then hd2 (Nat.le_refl _) hB17; have hZ := hZ0; rw [CE.out.1, CE.out.2] at hZ) | (go_at_call 23; (with_reducible refine (times_any sA sA aA nA cA aB nB cB aA nA cA aB nB cB (vrt x) (vrt x) 12 _ ?_ ?_ PX.out.ok1.den PX.out.ok1.den ?_).mono ?_); exact RA16.out.keep (by assumption); exact RA16.out.keep (by assumption); omega; rintro e w18 ⟨sM, aM, nM, cM, aN, nN, cN, rfl, hM, hB18⟩; have hb18 := Below.then hb17 (Nat.le_refl _) hB18) | (go_at_call 23; (with_reducible refine (times_any sC sC aC nC cC aD nD cD aC nC cC aD nD cD (virt x) (virt x) 12 _ ?_ ?_ PX.out.ok2.den PX.out.ok2.den ?_).mono ?_); exact RC16.out.keep (by assumption); exact RC16.out.keep (by assumption); omega; rintro e w19 ⟨sP, aP, nP, cP, aQ, nQ, cQ, rfl, hP2, hB19⟩; have hb19 := Below.then hb18 (Nat.le_refl _) hB19) | (go_at_call 21; (with_reducible refine (plus_any sM sP aM nM cM aN nN cN aP nP cP aQ nQ cQ (Rt.times (vrt x) (vrt x)) (Rt.times (virt x) (virt x)) (2 * 12) _ ?_ hP2 ?_ ?_ ?_).mono ?_); exact hM.keep hB19; exact (rok_times PX.out.ok1 PX.out.ok1).den; exact (rok_times PX.out.ok2 PX.out.ok2).den; omega; rintro e w20 ⟨sS, aS, nS, cS, aT, nT, cT, rfl, hS, hB20⟩; have hb20 := Below.then hb19 (Nat.le_refl _) hB20) | (go_at_call 37; (with_reducible refine (of64_rz _).mono ?_); rintro e w21 ⟨sZ, aZ, nZ, cZ, aY, nY, cY, rfl, hO, hB21⟩; have hb21 := Below.then hb20 (Nat.le_refl _) hB21) | (go_at_call 32; (with_reducible refine (isPair_any z sS aS nS cS aT nT cT (Rt.plus (Rt.times (vrt x) (vrt x)) (Rt.times (virt x) (virt x))) sZ aZ nZ cZ aY nY cY (rz 0) 49 _ ?_ ?_ ?_ ?_ ?_ ?_ ?_ ?_).mono ?_); exact (((hz.keep hB18).keep hB19).keep hB20).keep hB21; exact (hS.keep hB21).mono (by omega); exact hO.mono (by omega); omega; exact Nat.le_trans hZ.2.2.2.1 (by omega); exact Nat.le_trans hZ.2.2.2.2.1 (by omega); exact Nat.le_trans hZ.2.2.2.2.2.1 (by omega); exact Nat.le_trans hZ.2.2.2.2.2.2 (by omega); rintro e w22 ⟨rfl, hB22⟩; have hb22 := Below.then hb21 (Nat.le_refl _) hB22; rw [isC_same hZ]))
    go_wp2
    go_ret
    exact ⟨rfl, Below.then HB16.out (Nat.le_refl _) hb22⟩
  · obtain ⟨W16, hW16⟩ : ∃ W16, W16 = (((((((((w15.setCell ⟨w13.heap.size, 0, none⟩ (.int .i64 r.kind)).setCell ⟨w13.heap.size, 1, none⟩ (.bool r.truth)).setCell ⟨w13.heap.size, 2, none⟩ (.string r.text)).setCell ⟨w13.heap.size, 3, none⟩ (.bool r.neg)).setCell ⟨w13.heap.size, 4, none⟩ (.slice r.wa r.wn r.wc)).setCell ⟨w13.heap.size, 5, none⟩ (.slice r.da r.dn r.dc)).setCell ⟨w13.heap.size, 6, none⟩ (.bool r.ineg)).setCell ⟨w13.heap.size, 7, none⟩ (.slice r.ia r.inn r.ic)).setCell ⟨w13.heap.size, 8, none⟩ (.slice r.ea r.en r.ec)) := ⟨_, rfl⟩
    obtain ⟨g, hg⟩ : ∃ g, g = w13.heap.size := ⟨_, rfl⟩
    have HBX : Boxed W3 W16 g r := by rw [hW16, hg]; exact boxed_at hz15 hb15 hb13.size hr
    have HW16 := Lib.hid hW16
    have HG16 := Lib.hid hg
    clear hW16 hg
    go_upto_region 7 with fail
    rw [← HW16.out, ← HG16.out]
    clear HW16 HG16
    have hb16 := HBX.below
    have X16 := X3.keep hb16
    have A16 := A3.keep hb16
    have C16 := C3.keep hb16
    have R16 := HBX.box
    have HX16 := Lib.hid (HX3.out.keep hb16)
    have RA16 := Lib.hid (RA.out.keep hb16)
    have RC16 := Lib.hid (RC.out.keep hb16)
    have HT16 := Lib.hid (HT3.out.keep hb16)
    have HD16 := Lib.hid (HD3.out.keep hb16)
    have HR16 := Lib.hid HBX.val
    have PR := Lib.hid (⟨PX.out.l1, PX.out.l2, PX.out.n1, PX.out.d1, PX.out.n2, PX.out.d2, PX.out.ok1, rok_negated PX.out.ok2⟩ : PLt (vrt x) (virt x).negated 3)
    have MR := Lib.hid (madeC_of hR.1 hR.2.1 hR.2.2.1 (Nat.le_trans hR.2.2.2.1 (by omega)) (Nat.le_trans hR.2.2.2.2.1 (by omega)) (Nat.le_trans hR.2.2.2.2.2.1 (by omega)) (Nat.le_trans hR.2.2.2.2.2.2 (by omega)) PR.out (by omega))
    have HB16 := Lib.hid (Below.then HB3.out (Nat.le_refl _) hb16)
    clear HBX hb16 X3 A3 C3 hd0 hd1 hx3 HX3 hb12 hb13 hb14 hb15 hB12 hB13 hB14 hB15 hp hq hu hr hp3 hp4 hP hQ hU hR
    have hd2 : Below W16.heap.size W16 W16.drew := (Below.refl _ _).drew
    go_region_held3 (fun w' => (w'.cell? ⟨w.heap.size, 0, none⟩ = some (.int .i64 x.kind) ∧ w'.cell? ⟨w.heap.size, 1, none⟩ = some (.bool x.truth) ∧ w'.cell? ⟨w.heap.size, 2, none⟩ = some (.string x.text) ∧ w'.cell? ⟨w.heap.size, 3, none⟩ = some (.bool x.neg) ∧ w'.cell? ⟨w.heap.size, 4, none⟩ = some (.slice x.wa x.wn x.wc) ∧ w'.cell? ⟨w.heap.size, 5, none⟩ = some (.slice x.da x.dn x.dc) ∧ w'.cell? ⟨w.heap.size, 6, none⟩ = some (.bool x.ineg) ∧ w'.cell? ⟨w.heap.size, 7, none⟩ = some (.slice x.ia x.inn x.ic) ∧ w'.cell? ⟨w.heap.size, 8, none⟩ = some (.slice x.ea x.en x.ec)) ∧ (w'.cell? ⟨g, 0, none⟩ = some (.int .i64 r.kind) ∧ w'.cell? ⟨g, 1, none⟩ = some (.bool r.truth) ∧ w'.cell? ⟨g, 2, none⟩ = some (.string r.text) ∧ w'.cell? ⟨g, 3, none⟩ = some (.bool r.neg) ∧ w'.cell? ⟨g, 4, none⟩ = some (.slice r.wa r.wn r.wc) ∧ w'.cell? ⟨g, 5, none⟩ = some (.slice r.da r.dn r.dc) ∧ w'.cell? ⟨g, 6, none⟩ = some (.bool r.ineg) ∧ w'.cell? ⟨g, 7, none⟩ = some (.slice r.ia r.inn r.ic) ∧ w'.cell? ⟨g, 8, none⟩ = some (.slice r.ea r.en r.ec)) ∧ (w'.cell? ⟨w2.heap.size, 0, none⟩ = some (.bool sA) ∧ w'.cell? ⟨w2.heap.size, 1, none⟩ = some (.slice aA nA cA) ∧ w'.cell? ⟨w2.heap.size, 2, none⟩ = some (.slice aB nB cB)) ∧ (w'.cell? ⟨(w2.heap.size + 1), 0, none⟩ = some (.bool sC) ∧ w'.cell? ⟨(w2.heap.size + 1), 1, none⟩ = some (.slice aC nC cC) ∧ w'.cell? ⟨(w2.heap.size + 1), 2, none⟩ = some (.slice aD nD cD)))
      (first | with_reducible exact ⟨X16.all, R16.all, A16.all, C16.all⟩ | with_reducible exact ⟨(X16.keep (by assumption)).all, (R16.keep (by assumption)).all, (A16.keep (by assumption)).all, (C16.keep (by assumption)).all⟩)
      (first | (go_at_call 20; (with_reducible refine (implBinMulC_any x r (vrt x) (virt x) (vrt x) (virt x).negated 3 _ ?_ ?_ ?_ ?_ MX.out MR.out PX.out PR.out (by omega)).mono ?_); exact HT16.out.keep (by assumption); exact HD16.out.keep (by assumption); exact HX16.out.keep (by assumption); exact HR16.out.keep (by assumption); rintro e w17 ⟨z, rfl, hz, hZ0, hB17⟩; have hb17 := Below.then hd2 (Nat.le_refl _) hB17; have hZ := hZ0; rw [CE.out.1, CE.out.2] at hZ) | (go_at_call 23; (with_reducible refine (times_any sA sA aA nA cA aB nB cB aA nA cA aB nB cB (vrt x) (vrt x) 12 _ ?_ ?_ PX.out.ok1.den PX.out.ok1.den ?_).mono ?_); exact RA16.out.keep (by assumption); exact RA16.out.keep (by assumption); omega; rintro e w18 ⟨sM, aM, nM, cM, aN, nN, cN, rfl, hM, hB18⟩; have hb18 := Below.then hb17 (Nat.le_refl _) hB18) | (go_at_call 23; (with_reducible refine (times_any sC sC aC nC cC aD nD cD aC nC cC aD nD cD (virt x) (virt x) 12 _ ?_ ?_ PX.out.ok2.den PX.out.ok2.den ?_).mono ?_); exact RC16.out.keep (by assumption); exact RC16.out.keep (by assumption); omega; rintro e w19 ⟨sP, aP, nP, cP, aQ, nQ, cQ, rfl, hP2, hB19⟩; have hb19 := Below.then hb18 (Nat.le_refl _) hB19) | (go_at_call 21; (with_reducible refine (plus_any sM sP aM nM cM aN nN cN aP nP cP aQ nQ cQ (Rt.times (vrt x) (vrt x)) (Rt.times (virt x) (virt x)) (2 * 12) _ ?_ hP2 ?_ ?_ ?_).mono ?_); exact hM.keep hB19; exact (rok_times PX.out.ok1 PX.out.ok1).den; exact (rok_times PX.out.ok2 PX.out.ok2).den; omega; rintro e w20 ⟨sS, aS, nS, cS, aT, nT, cT, rfl, hS, hB20⟩; have hb20 := Below.then hb19 (Nat.le_refl _) hB20) | (go_at_call 37; (with_reducible refine (of64_rz _).mono ?_); rintro e w21 ⟨sZ, aZ, nZ, cZ, aY, nY, cY, rfl, hO, hB21⟩; have hb21 := Below.then hb20 (Nat.le_refl _) hB21) | (go_at_call 32; (with_reducible refine (isPair_any z sS aS nS cS aT nT cT (Rt.plus (Rt.times (vrt x) (vrt x)) (Rt.times (virt x) (virt x))) sZ aZ nZ cZ aY nY cY (rz 0) 49 _ ?_ ?_ ?_ ?_ ?_ ?_ ?_ ?_).mono ?_); exact (((hz.keep hB18).keep hB19).keep hB20).keep hB21; exact (hS.keep hB21).mono (by omega); exact hO.mono (by omega); omega; exact Nat.le_trans hZ.2.2.2.1 (by omega); exact Nat.le_trans hZ.2.2.2.2.1 (by omega); exact Nat.le_trans hZ.2.2.2.2.2.1 (by omega); exact Nat.le_trans hZ.2.2.2.2.2.2 (by omega); rintro e w22 ⟨rfl, hB22⟩; have hb22 := Below.then hb21 (Nat.le_refl _) hB22; rw [isC_same hZ]))
    go_wp2
    go_ret
    exact ⟨rfl, Below.then HB16.out (Nat.le_refl _) hb22⟩
  · obtain ⟨W16, hW16⟩ : ∃ W16, W16 = (((((((((w15.setCell ⟨w12.heap.size, 0, none⟩ (.int .i64 r.kind)).setCell ⟨w12.heap.size, 1, none⟩ (.bool r.truth)).setCell ⟨w12.heap.size, 2, none⟩ (.string r.text)).setCell ⟨w12.heap.size, 3, none⟩ (.bool r.neg)).setCell ⟨w12.heap.size, 4, none⟩ (.slice r.wa r.wn r.wc)).setCell ⟨w12.heap.size, 5, none⟩ (.slice r.da r.dn r.dc)).setCell ⟨w12.heap.size, 6, none⟩ (.bool r.ineg)).setCell ⟨w12.heap.size, 7, none⟩ (.slice r.ia r.inn r.ic)).setCell ⟨w12.heap.size, 8, none⟩ (.slice r.ea r.en r.ec)) := ⟨_, rfl⟩
    obtain ⟨g, hg⟩ : ∃ g, g = w12.heap.size := ⟨_, rfl⟩
    have HBX : Boxed W3 W16 g r := by rw [hW16, hg]; exact boxed_at hz15 hb15 hb12.size hr
    have HW16 := Lib.hid hW16
    have HG16 := Lib.hid hg
    clear hW16 hg
    go_upto_region 7 with fail
    rw [← HW16.out, ← HG16.out]
    clear HW16 HG16
    have hb16 := HBX.below
    have X16 := X3.keep hb16
    have A16 := A3.keep hb16
    have C16 := C3.keep hb16
    have R16 := HBX.box
    have HX16 := Lib.hid (HX3.out.keep hb16)
    have RA16 := Lib.hid (RA.out.keep hb16)
    have RC16 := Lib.hid (RC.out.keep hb16)
    have HT16 := Lib.hid (HT3.out.keep hb16)
    have HD16 := Lib.hid (HD3.out.keep hb16)
    have HR16 := Lib.hid HBX.val
    have PR := Lib.hid (⟨PX.out.l1, PX.out.l2, PX.out.n1, PX.out.d1, PX.out.n2, PX.out.d2, PX.out.ok1, rok_negated PX.out.ok2⟩ : PLt (vrt x) (virt x).negated 3)
    have MR := Lib.hid (madeC_of hR.1 hR.2.1 hR.2.2.1 (Nat.le_trans hR.2.2.2.1 (by omega)) (Nat.le_trans hR.2.2.2.2.1 (by omega)) (Nat.le_trans hR.2.2.2.2.2.1 (by omega)) (Nat.le_trans hR.2.2.2.2.2.2 (by omega)) PR.out (by omega))
    have HB16 := Lib.hid (Below.then HB3.out (Nat.le_refl _) hb16)
    clear HBX hb16 X3 A3 C3 hd0 hd1 hx3 HX3 hb12 hb13 hb14 hb15 hB12 hB13 hB14 hB15 hp hq hu hr hp3 hp4 hP hQ hU hR
    have hd2 : Below W16.heap.size W16 W16.drew := (Below.refl _ _).drew
    go_region_held3 (fun w' => (w'.cell? ⟨w.heap.size, 0, none⟩ = some (.int .i64 x.kind) ∧ w'.cell? ⟨w.heap.size, 1, none⟩ = some (.bool x.truth) ∧ w'.cell? ⟨w.heap.size, 2, none⟩ = some (.string x.text) ∧ w'.cell? ⟨w.heap.size, 3, none⟩ = some (.bool x.neg) ∧ w'.cell? ⟨w.heap.size, 4, none⟩ = some (.slice x.wa x.wn x.wc) ∧ w'.cell? ⟨w.heap.size, 5, none⟩ = some (.slice x.da x.dn x.dc) ∧ w'.cell? ⟨w.heap.size, 6, none⟩ = some (.bool x.ineg) ∧ w'.cell? ⟨w.heap.size, 7, none⟩ = some (.slice x.ia x.inn x.ic) ∧ w'.cell? ⟨w.heap.size, 8, none⟩ = some (.slice x.ea x.en x.ec)) ∧ (w'.cell? ⟨g, 0, none⟩ = some (.int .i64 r.kind) ∧ w'.cell? ⟨g, 1, none⟩ = some (.bool r.truth) ∧ w'.cell? ⟨g, 2, none⟩ = some (.string r.text) ∧ w'.cell? ⟨g, 3, none⟩ = some (.bool r.neg) ∧ w'.cell? ⟨g, 4, none⟩ = some (.slice r.wa r.wn r.wc) ∧ w'.cell? ⟨g, 5, none⟩ = some (.slice r.da r.dn r.dc) ∧ w'.cell? ⟨g, 6, none⟩ = some (.bool r.ineg) ∧ w'.cell? ⟨g, 7, none⟩ = some (.slice r.ia r.inn r.ic) ∧ w'.cell? ⟨g, 8, none⟩ = some (.slice r.ea r.en r.ec)) ∧ (w'.cell? ⟨w2.heap.size, 0, none⟩ = some (.bool sA) ∧ w'.cell? ⟨w2.heap.size, 1, none⟩ = some (.slice aA nA cA) ∧ w'.cell? ⟨w2.heap.size, 2, none⟩ = some (.slice aB nB cB)) ∧ (w'.cell? ⟨(w2.heap.size + 1), 0, none⟩ = some (.bool sC) ∧ w'.cell? ⟨(w2.heap.size + 1), 1, none⟩ = some (.slice aC nC cC) ∧ w'.cell? ⟨(w2.heap.size + 1), 2, none⟩ = some (.slice aD nD cD)))
      (first | with_reducible exact ⟨X16.all, R16.all, A16.all, C16.all⟩ | with_reducible exact ⟨(X16.keep (by assumption)).all, (R16.keep (by assumption)).all, (A16.keep (by assumption)).all, (C16.keep (by assumption)).all⟩)
      (first | (go_at_call 20; (with_reducible refine (implBinMulC_any x r (vrt x) (virt x) (vrt x) (virt x).negated 3 _ ?_ ?_ ?_ ?_ MX.out MR.out PX.out PR.out (by omega)).mono ?_); exact HT16.out.keep (by assumption); exact HD16.out.keep (by assumption); exact HX16.out.keep (by assumption); exact HR16.out.keep (by assumption); rintro e w17 ⟨z, rfl, hz, hZ0, hB17⟩; have hb17 := Below.then hd2 (Nat.le_refl _) hB17; have hZ := hZ0; rw [CE.out.1, CE.out.2] at hZ) | (go_at_call 23; (with_reducible refine (times_any sA sA aA nA cA aB nB cB aA nA cA aB nB cB (vrt x) (vrt x) 12 _ ?_ ?_ PX.out.ok1.den PX.out.ok1.den ?_).mono ?_); exact RA16.out.keep (by assumption); exact RA16.out.keep (by assumption); omega; rintro e w18 ⟨sM, aM, nM, cM, aN, nN, cN, rfl, hM, hB18⟩; have hb18 := Below.then hb17 (Nat.le_refl _) hB18) | (go_at_call 23; (with_reducible refine (times_any sC sC aC nC cC aD nD cD aC nC cC aD nD cD (virt x) (virt x) 12 _ ?_ ?_ PX.out.ok2.den PX.out.ok2.den ?_).mono ?_); exact RC16.out.keep (by assumption); exact RC16.out.keep (by assumption); omega; rintro e w19 ⟨sP, aP, nP, cP, aQ, nQ, cQ, rfl, hP2, hB19⟩; have hb19 := Below.then hb18 (Nat.le_refl _) hB19) | (go_at_call 21; (with_reducible refine (plus_any sM sP aM nM cM aN nN cN aP nP cP aQ nQ cQ (Rt.times (vrt x) (vrt x)) (Rt.times (virt x) (virt x)) (2 * 12) _ ?_ hP2 ?_ ?_ ?_).mono ?_); exact hM.keep hB19; exact (rok_times PX.out.ok1 PX.out.ok1).den; exact (rok_times PX.out.ok2 PX.out.ok2).den; omega; rintro e w20 ⟨sS, aS, nS, cS, aT, nT, cT, rfl, hS, hB20⟩; have hb20 := Below.then hb19 (Nat.le_refl _) hB20) | (go_at_call 37; (with_reducible refine (of64_rz _).mono ?_); rintro e w21 ⟨sZ, aZ, nZ, cZ, aY, nY, cY, rfl, hO, hB21⟩; have hb21 := Below.then hb20 (Nat.le_refl _) hB21) | (go_at_call 32; (with_reducible refine (isPair_any z sS aS nS cS aT nT cT (Rt.plus (Rt.times (vrt x) (vrt x)) (Rt.times (virt x) (virt x))) sZ aZ nZ cZ aY nY cY (rz 0) 49 _ ?_ ?_ ?_ ?_ ?_ ?_ ?_ ?_).mono ?_); exact (((hz.keep hB18).keep hB19).keep hB20).keep hB21; exact (hS.keep hB21).mono (by omega); exact hO.mono (by omega); omega; exact Nat.le_trans hZ.2.2.2.1 (by omega); exact Nat.le_trans hZ.2.2.2.2.1 (by omega); exact Nat.le_trans hZ.2.2.2.2.2.1 (by omega); exact Nat.le_trans hZ.2.2.2.2.2.2 (by omega); rintro e w22 ⟨rfl, hB22⟩; have hb22 := Below.then hb21 (Nat.le_refl _) hB22; rw [isC_same hZ]))
    go_wp2
    go_ret
    exact ⟨rfl, Below.then HB16.out (Nat.le_refl _) hb22⟩
  · obtain ⟨W16, hW16⟩ : ∃ W16, W16 = (((((((((w15.setCell ⟨W3.heap.size, 0, none⟩ (.int .i64 r.kind)).setCell ⟨W3.heap.size, 1, none⟩ (.bool r.truth)).setCell ⟨W3.heap.size, 2, none⟩ (.string r.text)).setCell ⟨W3.heap.size, 3, none⟩ (.bool r.neg)).setCell ⟨W3.heap.size, 4, none⟩ (.slice r.wa r.wn r.wc)).setCell ⟨W3.heap.size, 5, none⟩ (.slice r.da r.dn r.dc)).setCell ⟨W3.heap.size, 6, none⟩ (.bool r.ineg)).setCell ⟨W3.heap.size, 7, none⟩ (.slice r.ia r.inn r.ic)).setCell ⟨W3.heap.size, 8, none⟩ (.slice r.ea r.en r.ec)) := ⟨_, rfl⟩
    obtain ⟨g, hg⟩ : ∃ g, g = W3.heap.size := ⟨_, rfl⟩
    have HBX : Boxed W3 W16 g r := by rw [hW16, hg]; exact boxed_at hz15 hb15 (Nat.le_refl _) hr
    have HW16 := Lib.hid hW16
    have HG16 := Lib.hid hg
    clear hW16 hg
    go_upto_region 7 with fail
    rw [← HW16.out, ← HG16.out]
    clear HW16 HG16
    have hb16 := HBX.below
    have X16 := X3.keep hb16
    have A16 := A3.keep hb16
    have C16 := C3.keep hb16
    have R16 := HBX.box
    have HX16 := Lib.hid (HX3.out.keep hb16)
    have RA16 := Lib.hid (RA.out.keep hb16)
    have RC16 := Lib.hid (RC.out.keep hb16)
    have HT16 := Lib.hid (HT3.out.keep hb16)
    have HD16 := Lib.hid (HD3.out.keep hb16)
    have HR16 := Lib.hid HBX.val
    have PR := Lib.hid (⟨PX.out.l1, PX.out.l2, PX.out.n1, PX.out.d1, PX.out.n2, PX.out.d2, PX.out.ok1, rok_negated PX.out.ok2⟩ : PLt (vrt x) (virt x).negated 3)
    have MR := Lib.hid (madeC_of hR.1 hR.2.1 hR.2.2.1 (Nat.le_trans hR.2.2.2.1 (by omega)) (Nat.le_trans hR.2.2.2.2.1 (by omega)) (Nat.le_trans hR.2.2.2.2.2.1 (by omega)) (Nat.le_trans hR.2.2.2.2.2.2 (by omega)) PR.out (by omega))
    have HB16 := Lib.hid (Below.then HB3.out (Nat.le_refl _) hb16)
    clear HBX hb16 X3 A3 C3 hd0 hd1 hx3 HX3 hb12 hb13 hb14 hb15 hB12 hB13 hB14 hB15 hp hq hu hr hp3 hp4 hP hQ hU hR
    have hd2 : Below W16.heap.size W16 W16.drew := (Below.refl _ _).drew
    go_region_held3 (fun w' => (w'.cell? ⟨w.heap.size, 0, none⟩ = some (.int .i64 x.kind) ∧ w'.cell? ⟨w.heap.size, 1, none⟩ = some (.bool x.truth) ∧ w'.cell? ⟨w.heap.size, 2, none⟩ = some (.string x.text) ∧ w'.cell? ⟨w.heap.size, 3, none⟩ = some (.bool x.neg) ∧ w'.cell? ⟨w.heap.size, 4, none⟩ = some (.slice x.wa x.wn x.wc) ∧ w'.cell? ⟨w.heap.size, 5, none⟩ = some (.slice x.da x.dn x.dc) ∧ w'.cell? ⟨w.heap.size, 6, none⟩ = some (.bool x.ineg) ∧ w'.cell? ⟨w.heap.size, 7, none⟩ = some (.slice x.ia x.inn x.ic) ∧ w'.cell? ⟨w.heap.size, 8, none⟩ = some (.slice x.ea x.en x.ec)) ∧ (w'.cell? ⟨g, 0, none⟩ = some (.int .i64 r.kind) ∧ w'.cell? ⟨g, 1, none⟩ = some (.bool r.truth) ∧ w'.cell? ⟨g, 2, none⟩ = some (.string r.text) ∧ w'.cell? ⟨g, 3, none⟩ = some (.bool r.neg) ∧ w'.cell? ⟨g, 4, none⟩ = some (.slice r.wa r.wn r.wc) ∧ w'.cell? ⟨g, 5, none⟩ = some (.slice r.da r.dn r.dc) ∧ w'.cell? ⟨g, 6, none⟩ = some (.bool r.ineg) ∧ w'.cell? ⟨g, 7, none⟩ = some (.slice r.ia r.inn r.ic) ∧ w'.cell? ⟨g, 8, none⟩ = some (.slice r.ea r.en r.ec)) ∧ (w'.cell? ⟨w2.heap.size, 0, none⟩ = some (.bool sA) ∧ w'.cell? ⟨w2.heap.size, 1, none⟩ = some (.slice aA nA cA) ∧ w'.cell? ⟨w2.heap.size, 2, none⟩ = some (.slice aB nB cB)) ∧ (w'.cell? ⟨(w2.heap.size + 1), 0, none⟩ = some (.bool sC) ∧ w'.cell? ⟨(w2.heap.size + 1), 1, none⟩ = some (.slice aC nC cC) ∧ w'.cell? ⟨(w2.heap.size + 1), 2, none⟩ = some (.slice aD nD cD)))
      (first | with_reducible exact ⟨X16.all, R16.all, A16.all, C16.all⟩ | with_reducible exact ⟨(X16.keep (by assumption)).all, (R16.keep (by assumption)).all, (A16.keep (by assumption)).all, (C16.keep (by assumption)).all⟩)
      (first | (go_at_call 20; (with_reducible refine (implBinMulC_any x r (vrt x) (virt x) (vrt x) (virt x).negated 3 _ ?_ ?_ ?_ ?_ MX.out MR.out PX.out PR.out (by omega)).mono ?_); exact HT16.out.keep (by assumption); exact HD16.out.keep (by assumption); exact HX16.out.keep (by assumption); exact HR16.out.keep (by assumption); rintro e w17 ⟨z, rfl, hz, hZ0, hB17⟩; have hb17 := Below.then hd2 (Nat.le_refl _) hB17; have hZ := hZ0; rw [CE.out.1, CE.out.2] at hZ) | (go_at_call 23; (with_reducible refine (times_any sA sA aA nA cA aB nB cB aA nA cA aB nB cB (vrt x) (vrt x) 12 _ ?_ ?_ PX.out.ok1.den PX.out.ok1.den ?_).mono ?_); exact RA16.out.keep (by assumption); exact RA16.out.keep (by assumption); omega; rintro e w18 ⟨sM, aM, nM, cM, aN, nN, cN, rfl, hM, hB18⟩; have hb18 := Below.then hb17 (Nat.le_refl _) hB18) | (go_at_call 23; (with_reducible refine (times_any sC sC aC nC cC aD nD cD aC nC cC aD nD cD (virt x) (virt x) 12 _ ?_ ?_ PX.out.ok2.den PX.out.ok2.den ?_).mono ?_); exact RC16.out.keep (by assumption); exact RC16.out.keep (by assumption); omega; rintro e w19 ⟨sP, aP, nP, cP, aQ, nQ, cQ, rfl, hP2, hB19⟩; have hb19 := Below.then hb18 (Nat.le_refl _) hB19) | (go_at_call 21; (with_reducible refine (plus_any sM sP aM nM cM aN nN cN aP nP cP aQ nQ cQ (Rt.times (vrt x) (vrt x)) (Rt.times (virt x) (virt x)) (2 * 12) _ ?_ hP2 ?_ ?_ ?_).mono ?_); exact hM.keep hB19; exact (rok_times PX.out.ok1 PX.out.ok1).den; exact (rok_times PX.out.ok2 PX.out.ok2).den; omega; rintro e w20 ⟨sS, aS, nS, cS, aT, nT, cT, rfl, hS, hB20⟩; have hb20 := Below.then hb19 (Nat.le_refl _) hB20) | (go_at_call 37; (with_reducible refine (of64_rz _).mono ?_); rintro e w21 ⟨sZ, aZ, nZ, cZ, aY, nY, cY, rfl, hO, hB21⟩; have hb21 := Below.then hb20 (Nat.le_refl _) hB21) | (go_at_call 32; (with_reducible refine (isPair_any z sS aS nS cS aT nT cT (Rt.plus (Rt.times (vrt x) (vrt x)) (Rt.times (virt x) (virt x))) sZ aZ nZ cZ aY nY cY (rz 0) 49 _ ?_ ?_ ?_ ?_ ?_ ?_ ?_ ?_).mono ?_); exact (((hz.keep hB18).keep hB19).keep hB20).keep hB21; exact (hS.keep hB21).mono (by omega); exact hO.mono (by omega); omega; exact Nat.le_trans hZ.2.2.2.1 (by omega); exact Nat.le_trans hZ.2.2.2.2.1 (by omega); exact Nat.le_trans hZ.2.2.2.2.2.1 (by omega); exact Nat.le_trans hZ.2.2.2.2.2.2 (by omega); rintro e w22 ⟨rfl, hB22⟩; have hb22 := Below.then hb21 (Nat.le_refl _) hB22; rw [isC_same hZ]))
    go_wp2
    go_ret
    exact ⟨rfl, Below.then HB16.out (Nat.le_refl _) hb22⟩
end Go.Proofs.YtececkbcinmmpaaGreatDoor
