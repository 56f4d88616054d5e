/-
  Int.And into a new Int, case by case. PRINTED BY wip/gen_intb.py.
-/
import Derived.Test.YtdkipndepkblhaaGreatDoorIntBK
set_option linter.unusedSimpArgs false
set_option linter.unusedVariables false
namespace Go.Proofs.YtdkipndepkblhaaGreatDoor
open Go.RowKit Go.Bg Dg

set_option maxRecDepth 100000 in
set_option maxHeartbeats 4000000 in
theorem intAnd_00 (d p b1 o1 b2 o2 : Nat) (N M : Nat) (w : World) (h : NewInt w d p) (h1 : BigAt 151 w b1 o1 false N) (h2 : BigAt 151 w b2 o2 false M) (L : Nat) (hL : L ≤ 300000) (hN : N < W64 ^ L) (hM : M < W64 ^ L) :
    Calls Tryz.prog 74 #[.pointer (some ⟨d, p, none⟩), .pointer (some ⟨b1, o1, none⟩), .pointer (some ⟨b2, o2, none⟩)] w (IntIs d p false ((N) &&& (M)) w) := by
  obtain ⟨a, n, c, s0, p0, hNN⟩ := h1.val
  obtain ⟨a', n', c', t0, q0, hMM⟩ := h2.val
  have hn : n ≤ 300000 := Nat.le_trans (len_le W64_gt hNN.num.top hN) hL
  have hn' : n' ≤ 300000 := Nat.le_trans (len_le W64_gt hMM.num.top hM) hL
  have HNL := Lib.hid hN
  have HML := Lib.hid hM
  have HLT := Lib.hid h.blk
  have HH0 := Lib.hid h
  have HN0 := Lib.hid hNN
  have HM0 := Lib.hid hMM
  have HB0 := Lib.hid (Below.refl w.heap.size w)
  have k0 := h.c1
  clear h h1 h2 hNN hMM hN hM
  go_enter Tryz.func74, Tryz.ntmps74
  go_upto_region 1 with fail
  go_quiet (fail)
  go_upto_region 8 with fail
  have hbq : Below w.heap.size w (w.drewN nq) := below_drewN (Below.refl w.heap.size w) nq
  generalize w.drewN nq = W1 at *
  have k1 := cell_keep k0 hbq
  have p1 := cell_keep p0 hbq
  have q1 := cell_keep q0 hbq
  have HN1 := Lib.hid (HN0.out.keep hbq)
  have HM1 := Lib.hid (HM0.out.keep hbq)
  have HH1 := Lib.hid (HH0.out.keep hbq)
  have HB1 := Lib.hid (Below.then HB0.out (Nat.le_refl _) hbq)
  clear k0 p0 q0 HH0 HB0 HN0 HM0
  clear hbq s0 t0
  have HVL := Lib.hid (show (N &&& M) < W64 ^ (L + 1) from by exact Nat.lt_of_lt_of_le (and_lt (HNL.out) (HML.out) (Nat.le_refl L)) (Nat.pow_le_pow_right W64_pos (by omega)))
  have hdl : Below W1.heap.size W1 W1.drew := (Below.refl _ _).drew
  go_region_with
    ((go_at_call 137; (with_reducible refine (natAnd_nil a a' n n' c c' N M _ ?_ ?_ (by omega) (by omega)).mono ?_); exact HN1.out.keep hdl; exact HM1.out.keep hdl; rintro e w2 ⟨a2, n2, c2, rfl, hN2, hB⟩; have hB1 := Below.then hdl (Nat.le_refl _) hB; have HF := Lib.hid (HH1.out.made hB1 (s := false) hN2 (fun h => by cases h)); have h' := HH1.out.keep hB1; obtain ⟨u0, k0⟩ := h'.c0; have k1' := h'.c1; have f0 := h'.blk.frozen p; have f1 := h'.blk.frozen (p + 1); have k0' : ∀ v, (w2.setCell ⟨d, p + 1, none⟩ v).cell? ⟨d, p, none⟩ = some u0 := (fun v => by rw [World.cell?_setCell_other _ _ _ _ (fun hh => by injection hh with _ hh _; omega)]; exact k0); clear hN2 h'))
  all_goals
    clear k1 p1 q1
    go_wp2
    go_ret
    exact intIs_below HB1.out HF.out HLT.out

set_option maxRecDepth 100000 in
set_option maxHeartbeats 4000000 in
theorem intAnd_01 (d p b1 o1 b2 o2 : Nat) (N M : Nat) (w : World) (h : NewInt w d p) (h1 : BigAt 151 w b1 o1 false N) (h2 : BigAt 151 w b2 o2 true M) (L : Nat) (hL : L ≤ 300000) (hN : N < W64 ^ L) (hM : M < W64 ^ L) :
    Calls Tryz.prog 74 #[.pointer (some ⟨d, p, none⟩), .pointer (some ⟨b1, o1, none⟩), .pointer (some ⟨b2, o2, none⟩)] w (IntIs d p false (andn (N) (M - 1)) w) := by
  obtain ⟨a, n, c, s0, p0, hNN⟩ := h1.val
  obtain ⟨a', n', c', t0, q0, hMM⟩ := h2.val
  have hn : n ≤ 300000 := Nat.le_trans (len_le W64_gt hNN.num.top hN) hL
  have hn' : n' ≤ 300000 := Nat.le_trans (len_le W64_gt hMM.num.top hM) hL
  have HPM := Lib.hid (show 1 ≤ M from h2.zero rfl)
  have HNL := Lib.hid hN
  have HML := Lib.hid hM
  have HLT := Lib.hid h.blk
  have HH0 := Lib.hid h
  have HN0 := Lib.hid hNN
  have HM0 := Lib.hid hMM
  have HB0 := Lib.hid (Below.refl w.heap.size w)
  have k0 := h.c1
  clear h h1 h2 hNN hMM hN hM
  go_enter Tryz.func74, Tryz.ntmps74
  go_upto_region 1 with fail
  go_quiet (fail)
  go_upto_region 13 with fail
  have hbq : Below w.heap.size w (w.drewN nq) := below_drewN (Below.refl w.heap.size w) nq
  generalize w.drewN nq = W1 at *
  have k1 := cell_keep k0 hbq
  have p1 := cell_keep p0 hbq
  have q1 := cell_keep q0 hbq
  have HN1 := Lib.hid (HN0.out.keep hbq)
  have HM1 := Lib.hid (HM0.out.keep hbq)
  have HH1 := Lib.hid (HH0.out.keep hbq)
  have HB1 := Lib.hid (Below.then HB0.out (Nat.le_refl _) hbq)
  clear k0 p0 q0 HH0 HB0 HN0 HM0
  clear hbq s0 t0
  have hd1 : Below W1.heap.size W1 W1.drew := (Below.refl _ _).drew
  go_region_held3 (fun w' => w'.cell? ⟨b2, o2 + 1, none⟩ = some (.slice a' n' c'))
    (first | with_reducible exact q1 | exact cell_keep q1 (by assumption))
    (first | (go_at_call 135; (with_reducible refine (natOne_any _).mono ?_); rintro e u1 ⟨rfl, hw⟩; have hu1 : Below W1.heap.size W1 u1 := (by rw [hw]; exact Below.alloc' hd1 _); have ho1 : BigN 151 u1 (some ⟨W1.heap.size, 0, none⟩) 1 1 1 := (by rw [hw]; exact natOne_is W1.drew); clear hw) | (go_at_call 126; (with_reducible refine (natSub_nil a' (some ⟨W1.heap.size, 0, none⟩) n' 1 c' 1 M 1 _ ?_ ho1 (by omega) HPM.out).mono ?_); exact HM1.out.keep hu1; rintro e W2 ⟨aV, nV, cV, rfl, hNV, hBV⟩; have hbV := Below.then hu1 (Nat.le_refl _) hBV))
  have hnV : nV ≤ 900000 := Nat.le_trans (Nat.le_trans (len_le W64_gt hNV.num.top (Nat.lt_of_le_of_lt (Nat.sub_le _ _) HML.out)) hL) (by decide)
  have k2 := cell_keep k1 hbV
  have p2 := cell_keep p1 hbV
  have q2 := cell_keep q1 hbV
  have HN2 := Lib.hid (HN1.out.keep hbV)
  have HM2 := Lib.hid (HM1.out.keep hbV)
  have HH2 := Lib.hid (HH1.out.keep hbV)
  have HB2 := Lib.hid (Below.then HB1.out (Nat.le_refl _) hbV)
  clear k1 p1 q1 HH1 HB1 HN1 HM1
  have HV2 := Lib.hid hNV
  clear hNV hBV hbV hu1 ho1 hd1
  have HVL := Lib.hid (show (andn N (M - 1)) < W64 ^ (L + 1) from by exact Nat.lt_of_lt_of_le (andn_lt (HNL.out) _) (Nat.pow_le_pow_right W64_pos (by omega)))
  go_upto_region 14 with fail
  have hdl : Below W2.heap.size W2 W2.drew := (Below.refl _ _).drew
  go_region_with
    ((go_at_call 138; (with_reducible refine (natAndNot_nil a aV n nV c cV N (M - 1) _ ?_ ?_ (by omega)).mono ?_); exact HN2.out.keep hdl; exact HV2.out.keep hdl; rintro e w2 ⟨a2, n2, c2, rfl, hN2, hB⟩; have hB1 := Below.then hdl (Nat.le_refl _) hB; have HF := Lib.hid (HH2.out.made hB1 (s := false) hN2 (fun h => by cases h)); have h' := HH2.out.keep hB1; obtain ⟨u0, k0⟩ := h'.c0; have k1' := h'.c1; have f0 := h'.blk.frozen p; have f1 := h'.blk.frozen (p + 1); have k0' : ∀ v, (w2.setCell ⟨d, p + 1, none⟩ v).cell? ⟨d, p, none⟩ = some u0 := (fun v => by rw [World.cell?_setCell_other _ _ _ _ (fun hh => by injection hh with _ hh _; omega)]; exact k0); clear hN2 h'))
  all_goals
    clear k2 p2 q2
    go_wp2
    go_ret
    exact intIs_below HB2.out HF.out HLT.out

set_option maxRecDepth 100000 in
set_option maxHeartbeats 4000000 in
theorem intAnd_10 (d p b1 o1 b2 o2 : Nat) (N M : Nat) (w : World) (h : NewInt w d p) (h1 : BigAt 151 w b1 o1 true N) (h2 : BigAt 151 w b2 o2 false M) (L : Nat) (hL : L ≤ 300000) (hN : N < W64 ^ L) (hM : M < W64 ^ L) :
    Calls Tryz.prog 74 #[.pointer (some ⟨d, p, none⟩), .pointer (some ⟨b1, o1, none⟩), .pointer (some ⟨b2, o2, none⟩)] w (IntIs d p false (andn (M) (N - 1)) w) := by
  obtain ⟨a, n, c, s0, p0, hNN⟩ := h1.val
  obtain ⟨a', n', c', t0, q0, hMM⟩ := h2.val
  have hn : n ≤ 300000 := Nat.le_trans (len_le W64_gt hNN.num.top hN) hL
  have hn' : n' ≤ 300000 := Nat.le_trans (len_le W64_gt hMM.num.top hM) hL
  have HPN := Lib.hid (show 1 ≤ N from h1.zero rfl)
  have HNL := Lib.hid hN
  have HML := Lib.hid hM
  have HLT := Lib.hid h.blk
  have HH0 := Lib.hid h
  have HN0 := Lib.hid hNN
  have HM0 := Lib.hid hMM
  have HB0 := Lib.hid (Below.refl w.heap.size w)
  have k0 := h.c1
  clear h h1 h2 hNN hMM hN hM
  go_enter Tryz.func74, Tryz.ntmps74
  go_upto_region 1 with fail
  go_quiet (fail)
  go_upto_region 13 with fail
  have hbq : Below w.heap.size w (w.drewN nq) := below_drewN (Below.refl w.heap.size w) nq
  generalize w.drewN nq = W1 at *
  have k1 := cell_keep k0 hbq
  have p1 := cell_keep p0 hbq
  have q1 := cell_keep q0 hbq
  have HN1 := Lib.hid (HN0.out.keep hbq)
  have HM1 := Lib.hid (HM0.out.keep hbq)
  have HH1 := Lib.hid (HH0.out.keep hbq)
  have HB1 := Lib.hid (Below.then HB0.out (Nat.le_refl _) hbq)
  clear k0 p0 q0 HH0 HB0 HN0 HM0
  clear hbq s0 t0
  have hd1 : Below W1.heap.size W1 W1.drew := (Below.refl _ _).drew
  go_region_held3 (fun w' => w'.cell? ⟨b1, o1 + 1, none⟩ = some (.slice a n c))
    (first | with_reducible exact p1 | exact cell_keep p1 (by assumption))
    (first | (go_at_call 135; (with_reducible refine (natOne_any _).mono ?_); rintro e u1 ⟨rfl, hw⟩; have hu1 : Below W1.heap.size W1 u1 := (by rw [hw]; exact Below.alloc' hd1 _); have ho1 : BigN 151 u1 (some ⟨W1.heap.size, 0, none⟩) 1 1 1 := (by rw [hw]; exact natOne_is W1.drew); clear hw) | (go_at_call 126; (with_reducible refine (natSub_nil a (some ⟨W1.heap.size, 0, none⟩) n 1 c 1 N 1 _ ?_ ho1 (by omega) HPN.out).mono ?_); exact HN1.out.keep hu1; rintro e W2 ⟨aV, nV, cV, rfl, hNV, hBV⟩; have hbV := Below.then hu1 (Nat.le_refl _) hBV))
  have hnV : nV ≤ 900000 := Nat.le_trans (Nat.le_trans (len_le W64_gt hNV.num.top (Nat.lt_of_le_of_lt (Nat.sub_le _ _) HNL.out)) hL) (by decide)
  have k2 := cell_keep k1 hbV
  have p2 := cell_keep p1 hbV
  have q2 := cell_keep q1 hbV
  have HN2 := Lib.hid (HN1.out.keep hbV)
  have HM2 := Lib.hid (HM1.out.keep hbV)
  have HH2 := Lib.hid (HH1.out.keep hbV)
  have HB2 := Lib.hid (Below.then HB1.out (Nat.le_refl _) hbV)
  clear k1 p1 q1 HH1 HB1 HN1 HM1
  have HV2 := Lib.hid hNV
  clear hNV hBV hbV hu1 ho1 hd1
  have HVL := Lib.hid (show (andn M (N - 1)) < W64 ^ (L + 1) from by exact Nat.lt_of_lt_of_le (andn_lt (HML.out) _) (Nat.pow_le_pow_right W64_pos (by omega)))
  go_upto_region 14 with fail
  have hdl : Below W2.heap.size W2 W2.drew := (Below.refl _ _).drew
  go_region_with
    ((go_at_call 138; (with_reducible refine (natAndNot_nil a' aV n' nV c' cV M (N - 1) _ ?_ ?_ (by omega)).mono ?_); exact HM2.out.keep hdl; exact HV2.out.keep hdl; rintro e w2 ⟨a2, n2, c2, rfl, hN2, hB⟩; have hB1 := Below.then hdl (Nat.le_refl _) hB; have HF := Lib.hid (HH2.out.made hB1 (s := false) hN2 (fun h => by cases h)); have h' := HH2.out.keep hB1; obtain ⟨u0, k0⟩ := h'.c0; have k1' := h'.c1; have f0 := h'.blk.frozen p; have f1 := h'.blk.frozen (p + 1); have k0' : ∀ v, (w2.setCell ⟨d, p + 1, none⟩ v).cell? ⟨d, p, none⟩ = some u0 := (fun v => by rw [World.cell?_setCell_other _ _ _ _ (fun hh => by injection hh with _ hh _; omega)]; exact k0); clear hN2 h'))
  all_goals
    clear k2 p2 q2
    go_wp2
    go_ret
    exact intIs_below HB2.out HF.out HLT.out

set_option maxRecDepth 100000 in
set_option maxHeartbeats 4000000 in
theorem intAnd_11 (d p b1 o1 b2 o2 : Nat) (N M : Nat) (w : World) (h : NewInt w d p) (h1 : BigAt 151 w b1 o1 true N) (h2 : BigAt 151 w b2 o2 true M) (L : Nat) (hL : L ≤ 300000) (hN : N < W64 ^ L) (hM : M < W64 ^ L) :
    Calls Tryz.prog 74 #[.pointer (some ⟨d, p, none⟩), .pointer (some ⟨b1, o1, none⟩), .pointer (some ⟨b2, o2, none⟩)] w (IntIs d p true (((N - 1) ||| (M - 1)) + 1) w) := by
  obtain ⟨a, n, c, s0, p0, hNN⟩ := h1.val
  obtain ⟨a', n', c', t0, q0, hMM⟩ := h2.val
  have hn : n ≤ 300000 := Nat.le_trans (len_le W64_gt hNN.num.top hN) hL
  have hn' : n' ≤ 300000 := Nat.le_trans (len_le W64_gt hMM.num.top hM) hL
  have HPN := Lib.hid (show 1 ≤ N from h1.zero rfl)
  have HPM := Lib.hid (show 1 ≤ M from h2.zero rfl)
  have HNL := Lib.hid hN
  have HML := Lib.hid hM
  have HLT := Lib.hid h.blk
  have HH0 := Lib.hid h
  have HN0 := Lib.hid hNN
  have HM0 := Lib.hid hMM
  have HB0 := Lib.hid (Below.refl w.heap.size w)
  have k0 := h.c1
  clear h h1 h2 hNN hMM hN hM
  go_enter Tryz.func74, Tryz.ntmps74
  go_upto_region 1 with fail
  go_quiet (fail)
  go_upto_region 3 with fail
  have hbq : Below w.heap.size w (w.drewN nq) := below_drewN (Below.refl w.heap.size w) nq
  generalize w.drewN nq = W1 at *
  have k1 := cell_keep k0 hbq
  have p1 := cell_keep p0 hbq
  have q1 := cell_keep q0 hbq
  have HN1 := Lib.hid (HN0.out.keep hbq)
  have HM1 := Lib.hid (HM0.out.keep hbq)
  have HH1 := Lib.hid (HH0.out.keep hbq)
  have HB1 := Lib.hid (Below.then HB0.out (Nat.le_refl _) hbq)
  clear k0 p0 q0 HH0 HB0 HN0 HM0
  clear hbq s0 t0
  have hd1 : Below W1.heap.size W1 W1.drew := (Below.refl _ _).drew
  go_region_held3 (fun w' => w'.cell? ⟨b1, o1 + 1, none⟩ = some (.slice a n c))
    (first | with_reducible exact p1 | exact cell_keep p1 (by assumption))
    (first | (go_at_call 135; (with_reducible refine (natOne_any _).mono ?_); rintro e u1 ⟨rfl, hw⟩; have hu1 : Below W1.heap.size W1 u1 := (by rw [hw]; exact Below.alloc' hd1 _); have ho1 : BigN 151 u1 (some ⟨W1.heap.size, 0, none⟩) 1 1 1 := (by rw [hw]; exact natOne_is W1.drew); clear hw) | (go_at_call 126; (with_reducible refine (natSub_nil a (some ⟨W1.heap.size, 0, none⟩) n 1 c 1 N 1 _ ?_ ho1 (by omega) HPN.out).mono ?_); exact HN1.out.keep hu1; rintro e W2 ⟨aX, nX, cX, rfl, hNX, hBX⟩; have hbX := Below.then hu1 (Nat.le_refl _) hBX))
  have hnX : nX ≤ 900000 := Nat.le_trans (Nat.le_trans (len_le W64_gt hNX.num.top (Nat.lt_of_le_of_lt (Nat.sub_le _ _) HNL.out)) hL) (by decide)
  have k2 := cell_keep k1 hbX
  have p2 := cell_keep p1 hbX
  have q2 := cell_keep q1 hbX
  have HN2 := Lib.hid (HN1.out.keep hbX)
  have HM2 := Lib.hid (HM1.out.keep hbX)
  have HH2 := Lib.hid (HH1.out.keep hbX)
  have HB2 := Lib.hid (Below.then HB1.out (Nat.le_refl _) hbX)
  clear k1 p1 q1 HH1 HB1 HN1 HM1
  have HX2 := Lib.hid hNX
  clear hNX hBX hbX hu1 ho1 hd1
  go_upto_region 4 with fail
  have hd2 : Below W2.heap.size W2 W2.drew := (Below.refl _ _).drew
  go_region_held3 (fun w' => w'.cell? ⟨b2, o2 + 1, none⟩ = some (.slice a' n' c'))
    (first | with_reducible exact q2 | exact cell_keep q2 (by assumption))
    (first | (go_at_call 135; (with_reducible refine (natOne_any _).mono ?_); rintro e u2 ⟨rfl, hw⟩; have hu2 : Below W2.heap.size W2 u2 := (by rw [hw]; exact Below.alloc' hd2 _); have ho2 : BigN 151 u2 (some ⟨W2.heap.size, 0, none⟩) 1 1 1 := (by rw [hw]; exact natOne_is W2.drew); clear hw) | (go_at_call 126; (with_reducible refine (natSub_nil a' (some ⟨W2.heap.size, 0, none⟩) n' 1 c' 1 M 1 _ ?_ ho2 (by omega) HPM.out).mono ?_); exact HM2.out.keep hu2; rintro e W3 ⟨aY, nY, cY, rfl, hNY, hBY⟩; have hbY := Below.then hu2 (Nat.le_refl _) hBY))
  have hnY : nY ≤ 900000 := Nat.le_trans (Nat.le_trans (len_le W64_gt hNY.num.top (Nat.lt_of_le_of_lt (Nat.sub_le _ _) HML.out)) hL) (by decide)
  have k3 := cell_keep k2 hbY
  have p3 := cell_keep p2 hbY
  have q3 := cell_keep q2 hbY
  have HN3 := Lib.hid (HN2.out.keep hbY)
  have HM3 := Lib.hid (HM2.out.keep hbY)
  have HX3 := Lib.hid (HX2.out.keep hbY)
  have HH3 := Lib.hid (HH2.out.keep hbY)
  have HB3 := Lib.hid (Below.then HB2.out (Nat.le_refl _) hbY)
  clear k2 p2 q2 HH2 HB2 HN2 HM2 HX2
  have HY3 := Lib.hid hNY
  clear hNY hBY hbY hu2 ho2 hd2
  have HVL := Lib.hid (show ((N - 1) ||| (M - 1)) < W64 ^ (L + 1) from by exact Nat.lt_of_lt_of_le (or_lt (Nat.lt_of_le_of_lt (Nat.sub_le _ _) HNL.out) (Nat.lt_of_le_of_lt (Nat.sub_le _ _) HML.out) (Nat.le_refl L)) (Nat.pow_le_pow_right W64_pos (by omega)))
  go_upto_region 5 with fail
  have hdl : Below W3.heap.size W3 W3.drew := (Below.refl _ _).drew
  go_region_with
    (first | (go_at_call 136; (with_reducible refine (natOr_nil aX aY nX nY cX cY (N - 1) (M - 1) _ ?_ ?_ (by omega) (by omega)).mono ?_); exact HX3.out.keep hdl; exact HY3.out.keep hdl; rintro e wv ⟨av, nv, cv, rfl, hNv, hBv⟩; have hbv := Below.then hdl (Nat.le_refl _) hBv; have hnv : nv ≤ 900000 := Nat.le_trans (len_le W64_gt hNv.num.top HVL.out) (by omega); have kv := cell_keep k3 hbv; clear hBv) | (go_at_call 135; (with_reducible refine (natOne_any _).mono ?_); rintro e wo ⟨rfl, hwo⟩; have hbvo : Below wv.heap.size wv wo := (by rw [hwo]; exact Below.alloc' (Below.refl _ _) _); have hone : BigN 151 wo (some ⟨wv.heap.size, 0, none⟩) 1 1 1 := (by rw [hwo]; exact natOne_is wv); have hbo := Below.then hbv (Nat.le_refl _) hbvo; have ko := cell_keep k3 hbo; clear hwo) | (go_at_call 124; (with_reducible refine (natAdd_nil av (some ⟨wv.heap.size, 0, none⟩) nv 1 cv 1 ((N - 1) ||| (M - 1)) 1 _ ?_ hone hnv (by omega)).mono ?_); exact hNv.keep hbvo; rintro e w2 ⟨a2, n2, c2, rfl, hN2, hB⟩; have hB1 := Below.then hbo (Nat.le_refl _) hB; have HF := Lib.hid (HH3.out.made hB1 (s := true) hN2 (fun _ => Nat.succ_pos _)); have h' := HH3.out.keep hB1; obtain ⟨u0, k0⟩ := h'.c0; have k1' := h'.c1; have f0 := h'.blk.frozen p; have f1 := h'.blk.frozen (p + 1); have k0' : ∀ v, (w2.setCell ⟨d, p + 1, none⟩ v).cell? ⟨d, p, none⟩ = some u0 := (fun v => by rw [World.cell?_setCell_other _ _ _ _ (fun hh => by injection hh with _ hh _; omega)]; exact k0); clear hN2 h'; clear hone))
  all_goals
    clear k3 p3 q3
    go_wp2
    go_ret
    exact intIs_below HB3.out HF.out HLT.out

end Go.Proofs.YtdkipndepkblhaaGreatDoor
