/-
  Int.Not and Int.AndNot onto a number of one's own: constant.UnaryOp with so many bits.
  constant.UnaryOp, impl.Unary: so many bits turned.
-/
import Derived.Test.YtdkipndepkblhaaGreatDoorBitS
import Derived.Test.YtdkipndepkblhaaGreatDoorBuNN
import Derived.Test.YtdkipndepkblhaaGreatDoorBuTT
import Derived.Test.YtdkipndepkblhaaGreatDoorBuKK
import Derived.Test.YtdkipndepkblhaaGreatDoorBuBB
import Derived.Test.YtdkipndepkblhaaGreatDoorOpsBit
set_option linter.unusedSimpArgs false
set_option linter.unusedVariables false
namespace Go.Proofs.YtdkipndepkblhaaGreatDoor
open Go.RowKit Go.Bg Dg

set_option maxRecDepth 100000 in
set_option maxHeartbeats 1000000 in
theorem natAddSet0_new (b : Nat) (a : Option Addr) (c : Nat) (w : World) (h2 : BigN 151 w (some ⟨b, 0, none⟩) 1 1 1) :
    Calls Tryz.prog 124 #[.slice none 0 0, .slice (some ⟨b, 0, none⟩) 1 1, .slice a 0 c] w (GivesI 151 none 1 w) := by
  have HS := Lib.hid (natSet_into none 0 0 0 (some ⟨b, 0, none⟩) 1 1 1 w (BigN.nil _ _) h2.num (by omega) (by omega) (fun k _ h => inB_none h))
  clear h2
  go_enter Tryz.func124, Tryz.ntmps124
  go_wp2_with fail
  refine HS.out.mono ?_
  rintro e w1 ⟨a', n, c, rfl, hE⟩
  have HE := Lib.hid hE
  clear hE
  go_wp2
  go_ret
  exact ⟨_, _, _, rfl, HE.out⟩

set_option maxRecDepth 100000 in
set_option maxHeartbeats 1000000 in
theorem natAddOne_new (a : Option Addr) (n c N b : Nat) (w : World) (h1 : BigN 151 w a n c N) (h2 : BigN 151 w (some ⟨b, 0, none⟩) 1 1 1) (hb1 : n ≤ 300000) :
    Calls Tryz.prog 124 #[.slice none 0 0, .slice a n c, .slice (some ⟨b, 0, none⟩) 1 1] w (GivesI 151 none (N + 1) w) := by
  by_cases h0 : n = 0
  · subst h0
    have eN : N = 0 := by have := h1.num.lt; simpa using this
    subst eN
    have HS := Lib.hid (natAddSet0_new b a c w h2)
    clear h1 h2
    go_enter Tryz.func124, Tryz.ntmps124
    go_wp2_with fail
    refine HS.out.mono ?_
    rintro e w1 ⟨a', n, c, rfl, hE⟩
    have HE := Lib.hid hE
    clear hE
    go_wp2
    go_ret
    exact ⟨_, _, _, rfl, HE.out⟩
  · refine (natAdd_newO none 0 0 (Nat.le_refl _) (fun _ => rfl) a (some ⟨b, 0, none⟩) n 1 c 1 N 1 w h1 h2 (by omega) (by omega) (by omega) (by omega)).mono ?_
    rintro e w1 ⟨n', c', rfl, _, hN, hB⟩
    exact ⟨_, _, _, rfl, hN, Upd.of_below hB, fun k hk => .inr (by rw [← inB_some hk]; exact Nat.le_refl _)⟩

set_option maxRecDepth 100000 in
set_option maxHeartbeats 2000000 in
theorem intNot_own (d p b o : Nat) (N : Nat) (w : World) (h : NewInt w d p) (h1 : BigAt 151 w b o false N) (hne : b ≠ d) (L : Nat) (hL : L ≤ 300000) (hN : N < W64 ^ L) :
    Calls Tryz.prog 106 #[.pointer (some ⟨d, p, none⟩), .pointer (some ⟨b, o, none⟩)] w (IntOwn d p true (N + 1) w) := by
  obtain ⟨a, n, c, p0, p1, hNN⟩ := h1.val
  have hn : n ≤ 300000 := Nat.le_trans (len_le W64_gt hNN.num.top hN) hL
  have HH := Lib.hid h
  have HN := Lib.hid hNN
  have k1 := h.c1
  clear h h1 hNN hN
  go_enter Tryz.func106, Tryz.ntmps106
  go_upto_region 5 with fail
  clear p0
  have hd0 : ∀ q, Below w.heap.size w (w.drewN q) := fun q => below_drewN (Below.refl w.heap.size w) q
  have hd1 : Below w.heap.size w w.drew := (Below.refl _ _).drew
  go_region_with
    (first | (go_at_call 135; (with_reducible refine (natOne_any _).mono ?_); rintro e w1 ⟨rfl, hw1⟩; have hb1 : Below w.heap.size w w1 := (by rw [hw1]; exact Below.alloc' hd1 _); have hone : BigN 151 w1 (some ⟨w.heap.size, 0, none⟩) 1 1 1 := (by rw [hw1]; exact natOne_is w.drew); have k1w := cell_keep k1 hb1; have p1w := cell_keep p1 hb1; clear hw1) | (go_at_call 124; (with_reducible refine (natAddOne_new a n c N w.heap.size _ ?_ hone hn).mono ?_); exact HN.out.keep hb1; rintro e w2 ⟨a2, n2, c2, rfl, hN2, hU2, hP2⟩; have hB2 := hU2.toBelow (fun k _ h => inB_none h); have hb2 := Below.then hb1 (Nat.le_refl _) hB2; have HF := Lib.hid (HH.out.madeO hb2 (s := true) hN2 (fun k hk => (hP2 k hk).imp id (Nat.le_trans hb1.size)) (Nat.succ_pos _)); have h' := HH.out.keep hb2; obtain ⟨u0, k0⟩ := h'.c0; have k1' := h'.c1; have f0 := h'.blk.frozen p; have f1 := h'.blk.frozen (p + 1); have k0' : ∀ v, (w2.setCell ⟨d, p + 1, none⟩ v).cell? ⟨d, p, none⟩ = some u0 := (fun v => by rw [World.cell?_setCell_other _ _ _ _ (fun hh => by injection hh with _ hh _; omega)]; exact k0); clear hN2 h' hone))
  all_goals
    clear p1 k1
    go_wp2
    go_ret
    exact HF.out

set_option maxRecDepth 100000 in
set_option maxHeartbeats 4000000 in
/-- x of one's own, of which so many bits are left: x &^ y, both less than 0 -/
theorem intAndNot_own (d b2 g n c : Nat) (N M : Nat) (w : World) (h : OwnI 151 w d 0 true (some ⟨g, 0, none⟩) n c N) (hdg : d < g) (h2 : BigAt 151 w b2 0 true M) (h0 : 0 < N) (hNM : N ≤ M) (hM2 : 2 ≤ M) (L : Nat) (hL : L ≤ 300000) (hM : M < W64 ^ L) :
    Calls Tryz.prog 77 #[.pointer (some ⟨d, 0, none⟩), .pointer (some ⟨d, 0, none⟩), .pointer (some ⟨b2, 0, none⟩)] w fun e w' => e = .returned (.pointer (some ⟨d, 0, none⟩)) ∧ BigAt 151 w' d 0 false (andn (M - 1) (N - 1)) ∧ Below d w w' := by
  obtain ⟨a', n', c', t0, q0, hMM⟩ := h2.val
  have hN : N < W64 ^ L := Nat.lt_of_le_of_lt hNM hM
  have hn : n ≤ 300000 := Nat.le_trans (len_le W64_gt h.num.num.top hN) hL
  have hn' : n' ≤ 300000 := Nat.le_trans (len_le W64_gt hMM.num.top hM) hL
  have hn0 : 0 < n := by have := natAt_pos_len h.num.num; simpa [h0] using this
  have hc0 : 0 < c := Nat.lt_of_lt_of_le hn0 h.num.num.nc
  have hcm : c ≤ 9223372036854775807 := by have := h.num.num.cm; unfold maxLen at this; exact this
  have HPN := Lib.hid (show 1 ≤ N from h0)
  have HPM := Lib.hid (show 1 ≤ M ∧ N ≤ M ∧ 2 ≤ M from ⟨h2.zero rfl, hNM, hM2⟩)
  have HML := Lib.hid hM
  have HH0 := Lib.hid h
  have HM0 := Lib.hid hMM
  have s0 := h.c0
  have p0 := h.c1
  have hgw := h.num.inLt g (inB_is _ _ _)
  rw [Nat.zero_add] at p0 q0
  clear h h2 hMM hN hM hNM hM2
  go_enter Tryz.func77, Tryz.ntmps77
  go_upto_region 1 with fail
  go_quiet (fail)
  go_upto_region 3 with fail
  have hbq : Below w.heap.size w (w.drewN nq) := below_drewN (Below.refl w.heap.size w) nq
  generalize w.drewN nq = W1 at *
  have p1 := cell_keep p0 hbq
  have q1 := cell_keep q0 hbq
  have HM1 := Lib.hid (HM0.out.keep hbq)
  have HH1 := Lib.hid (HH0.out.keep hbq)
  have HB1 := Lib.hid (Below.then (Below.refl w.heap.size w) (Nat.le_refl _) hbq)
  clear p0 q0 HH0 HM0
  clear hbq s0 t0
  have hd1 : Below W1.heap.size W1 W1.drew := (Below.refl _ _).drew
  go_region_held3 (fun w' => w'.cell? ⟨d, 1, none⟩ = some (.slice (some ⟨g, 0, none⟩) n c))
    (first | with_reducible exact p1 | exact cell_keep p1 (by assumption))
    (first | (go_at_call 135; (with_reducible refine (natOne_any _).mono ?_); rintro e u1 ⟨rfl, hw⟩; have hu1 : Below W1.heap.size W1 u1 := (by rw [hw]; exact Below.alloc' hd1 _); have ho1 : BigN 151 u1 (some ⟨W1.heap.size, 0, none⟩) 1 1 1 := (by rw [hw]; exact natOne_is W1.drew); clear hw) | (go_at_call 126; (with_reducible refine (natSub_own (some ⟨g, 0, none⟩) (some ⟨W1.heap.size, 0, none⟩) n 1 c 1 N 1 _ ?_ ho1 (by omega) HPN.out (by omega)).mono ?_); exact HH1.out.num.keep hu1; rintro e W2 ⟨nX, cX, rfl, hcX, hNX, hBX⟩; have hbX := Below.then hu1 (Nat.le_refl _) hBX))
  obtain ⟨gX, hgX⟩ : ∃ gX, gX = u1.heap.size := ⟨_, rfl⟩
  rw [← hgX] at hNX
  rw [← hgX]
  have hgXg : gX ≠ g := by
    have h1 := HH1.out.num.inLt g (inB_is _ _ _)
    have h2 := hu1.size
    omega
  have p2 := cell_keep p1 hbX
  have q2 := cell_keep q1 hbX
  have HM2 := Lib.hid (HM1.out.keep hbX)
  have HH2 := Lib.hid (HH1.out.keep hbX)
  have HB2 := Lib.hid (Below.then HB1.out (Nat.le_refl _) hbX)
  clear p1 q1 HH1 HB1 HM1
  have HX2 := Lib.hid hNX
  clear hNX hBX hbX hu1 ho1 hd1 hgX
  go_upto_region 4 with fail
  have hd2 : Below W2.heap.size W2 W2.drew := (Below.refl _ _).drew
  go_region_held3 (fun w' => w'.cell? ⟨b2, 1, none⟩ = some (.slice a' n' c'))
    (first | with_reducible exact q2 | exact cell_keep q2 (by assumption))
    (first | (go_at_call 135; (with_reducible refine (natOne_any _).mono ?_); rintro e u2 ⟨rfl, hw⟩; have hu2 : Below W2.heap.size W2 u2 := (by rw [hw]; exact Below.alloc' hd2 _); have ho2 : BigN 151 u2 (some ⟨W2.heap.size, 0, none⟩) 1 1 1 := (by rw [hw]; exact natOne_is W2.drew); clear hw) | (go_at_call 126; (with_reducible refine (natSub_own a' (some ⟨W2.heap.size, 0, none⟩) n' 1 c' 1 M 1 _ ?_ ho2 (by omega) HPM.out.1 (by omega)).mono ?_); exact HM2.out.keep hu2; rintro e W3 ⟨nY, cY, rfl, hcY, hNY, hBY⟩; have hbY := Below.then hu2 (Nat.le_refl _) hBY))
  have hnY : nY ≤ 300000 := Nat.le_trans (len_le W64_gt hNY.num.top (Nat.lt_of_le_of_lt (Nat.sub_le _ _) HML.out)) hL
  obtain ⟨gY, hgY⟩ : ∃ gY, gY = u2.heap.size := ⟨_, rfl⟩
  rw [← hgY] at hNY
  rw [← hgY]
  have hgYg : gY ≠ g := by
    have h1 := HH2.out.num.inLt g (inB_is _ _ _)
    have h2 := hu2.size
    omega
  have p3 := cell_keep p2 hbY
  have q3 := cell_keep q2 hbY
  have HH3 := Lib.hid (HH2.out.keep hbY)
  have HX3 := Lib.hid (HX2.out.keep hbY)
  have HB3 := Lib.hid (Below.then HB2.out (Nat.le_refl _) hbY)
  clear p2 q2 HH2 HB2 HM2 HX2
  have HY3 := Lib.hid hNY
  clear hNY hBY hbY hu2 ho2 hd2 hgY
  have hge : nX ≤ nY := len_le W64_gt HX3.out.num.top (Nat.lt_of_le_of_lt (by have := HPM.out.2.1; omega) HY3.out.num.lt)
  have hY0 : 0 < nY := by
    have := natAt_pos_len HY3.out.num
    have h1 : 0 < M - 1 := by have := HPM.out.2.2; omega
    simpa [h1] using this
  have HA := Lib.hid (natAndNot_own g n c N (d + 1) (some ⟨gY, 0, none⟩) (some ⟨gX, 0, none⟩) nY nX cY cX (M - 1) (N - 1) W3 W3 (Below.refl _ _) hdg HH3.out.num hc0 hcm HY3.out HX3.out (by omega) hY0 hge (fun p hp => by injection hp with hp; rw [← hp]; exact hgYg) (fun p hp => by injection hp with hp; rw [← hp]; exact hgXg))
  go_upto_region 5 with fail
  go_wp2_with fail
  refine HA.out.mono ?_
  rintro e w2 ⟨a2, n2, c2, rfl, hN2, hB1⟩
  have hs : Strct 151 w2 d := by
    obtain ⟨cur, e, hb, hne⟩ := HH3.out.blk
    refine ⟨cur, e, ?_, hne⟩
    unfold BlkAt at hb ⊢
    rw [hB1.block d (Nat.lt_succ_self d)]; exact hb
  have k0 : w2.cell? ⟨d, 0, none⟩ = some (.bool true) := by rw [hB1.cell (p := ⟨d, 0, none⟩) (Nat.lt_succ_self d)]; exact HH3.out.c0
  have k1 : w2.cell? ⟨d, 1, none⟩ = some (.slice (some ⟨g, 0, none⟩) n c) := by rw [hB1.cell (p := ⟨d, 1, none⟩) (Nat.lt_succ_self d)]; exact HH3.out.c1
  have HF := Lib.hid (show BigAt 151 ((w2.setCell ⟨d, 1, none⟩ (.slice a2 n2 c2)).setCell ⟨d, 0, none⟩ (.bool false)) d 0 false (andn (M - 1) (N - 1)) from BigAt.stored hs ⟨_, k0⟩ ⟨_, k1⟩ hN2 (fun h => by cases h))
  have HFB := Lib.hid (show Below d w ((w2.setCell ⟨d, 1, none⟩ (.slice a2 n2 c2)).setCell ⟨d, 0, none⟩ (.bool false)) from ((((HB3.out.mono (Nat.le_of_lt (Nat.lt_of_lt_of_le hdg (Nat.le_of_lt hgw)))).trans (hB1.mono (Nat.le_succ d))).setCell (p := ⟨d, 1, none⟩) (Nat.le_refl _) _).setCell (p := ⟨d, 0, none⟩) (Nat.le_refl _) _))
  have f0 := hs.frozen 0
  have f1 := hs.frozen 1
  have k0' : ∀ v, (w2.setCell ⟨d, 1, none⟩ v).cell? ⟨d, 0, none⟩ = some (.bool true) := (fun v => by rw [World.cell?_setCell_other _ _ _ _ (fun hh => by injection hh with _ hh _; omega)]; exact k0)
  clear hN2 hs hB1
  clear p3 q3
  go_wp2
  go_ret
  exact ⟨rfl, HF.out, HFB.out⟩
end Go.Proofs.YtdkipndepkblhaaGreatDoor

set_option linter.unusedSimpArgs false
set_option linter.unusedVariables false
namespace Go.Proofs.YtdkipndepkblhaaGreatDoor
open Go.RowKit Go.Bg Dg

theorem one_bits (p z : Nat) (hz : z < 2 ^ p) : andn (1 * 2 ^ p - 1) (z + 1 - 1) = 2 ^ p - 1 - z := by
  rw [Nat.one_mul, Nat.add_sub_cancel]; exact andn_ones hz
theorem two_pow_W (p : Nat) (hp : p ≤ 2000) : 1 * 2 ^ p < W64 ^ 40 := by
  have h : ∀ L, p < 64 * L → 2 ^ p < W64 ^ L := fun L h => by
    rw [W64_eq, ← Nat.pow_mul]
    exact Nat.pow_lt_pow_right (by decide) h
  rw [Nat.one_mul]
  exact h 40 (by omega)

set_option maxRecDepth 100000 in
set_option maxHeartbeats 2000000 in
theorem unaryNotP64_any (z : Nat) (p : Nat) (w : World) (hf : fit64 (z : Int) = true) (hp0 : 0 < p) (hp1 : p ≤ 2000) (hzp : z < 2 ^ p) :
    Calls Tryz.prog 45 #[.int .i64 19, .iface 82 (.int .i64 (z : Int)), .int .u64 p] w fun e w' => ∃ u, e = .returned u ∧ CInt w' u (2 ^ p - 1 - (z : Int)) ∧ Below w.heap.size w w' := by
  have HF := Lib.hid (fit64_bd hf)
  have HP := Lib.hid (⟨hp0, hp1, hzp⟩ : 0 < p ∧ p ≤ 2000 ∧ z < 2 ^ p)
  have hpi : (0 : Int) < p := by omega
  clear hf hzp
  obtain ⟨t1, t2, t3, t4, t5, t6, t7, t8, t9⟩ := ta_int64Val
  go_enter Tryz.func45, Tryz.ntmps45
  go_wp2
  refine wp_scope_straight ?_
  go_wp2_with fail
  refine (newInt_any _).mono ?_
  rintro e w1 ⟨rfl, hw1⟩
  have hn1 : NewInt w1 w.heap.size 0 := by rw [hw1]; exact newInt_is w
  have hB1 : Below w.heap.size w w1 := by rw [hw1]; exact Below.alloc' (Below.refl _ _) _
  have HS1 := Lib.hid (show w1.heap.size = w.heap.size + 1 from by rw [hw1]; simp)
  clear hw1
  go_wp2_with fail
  refine (newIntOf_any (z : Int) HF.out _).mono ?_
  rintro e w2 ⟨b, rfl, hb2, hI, hB2⟩
  have hI' : BigAt 151 w2 b 0 false z := by
    have e1 : decide ((z : Int) < 0) = false := decide_eq_false (by omega)
    rw [e1, Int.natAbs_natCast] at hI
    exact hI
  have hn2 := hn1.keep hB2
  have hbf := Below.then hB1 (by have := HS1.out; omega) hB2
  have HS2 := Lib.hid hB2.size
  clear hn1 hB1 hB2 hI
  go_wp2_with fail
  refine (intNot_own w.heap.size 0 b 0 z _ hn2 hI' (by have := HS1.out; omega) 1 (by omega) (by rw [Nat.pow_one]; unfold W64; have := HF.out; omega)).mono ?_
  rintro e w3 ⟨rfl, hU3, g, n, c, hO3, hg3⟩
  have HB3 := Lib.hid (hU3.below hbf (by have := HS1.out; have := HS2.out; omega) (fun k _ e => by subst e; exact Nat.le_refl _))
  have HS3 := Lib.hid (show w.heap.size < w3.heap.size from by have := HS1.out; have := HS2.out; have := hU3.size; omega)
  have HG3 := Lib.hid (show w.heap.size < g ∧ g < w3.heap.size from ⟨by have := HS1.out; have := HS2.out; omega, hO3.num.inLt g (inB_is _ _ _)⟩)
  have hs3 := HS3.out
  clear hU3 hn2 hI' hbf hg3
  go_wp2_with fail
  refine (newInt_any _).mono ?_
  rintro e w4 ⟨rfl, hw4⟩
  have hn4 : NewInt w4 w3.heap.size 0 := by rw [hw4]; exact newInt_is w3
  have hB4 : Below w3.heap.size w3 w4 := by rw [hw4]; exact Below.alloc' (Below.refl _ _) _
  have HS4 := Lib.hid (show w4.heap.size = w3.heap.size + 1 from by rw [hw4]; simp)
  have hO4 := hO3.keep hB4
  clear hw4 hO3
  obtain ⟨d2, hd2⟩ : ∃ d2, d2 = w3.heap.size := ⟨_, rfl⟩
  rw [← hd2] at hn4
  rw [← hd2]
  have hdd : w.heap.size < d2 := by omega
  have hgd : g < d2 := by have := HG3.out; omega
  have HD2 := Lib.hid hd2
  clear hd2
  go_wp2_with fail
  refine (newIntOf_any (-1) (by omega) _).mono ?_
  rintro e w5 ⟨bb, rfl, hbb, hI5, hB5⟩
  have hI5' : BigAt 151 w5 bb 0 true 1 := hI5
  have hO5 := hO4.keep hB5
  have hn5 := hn4.keep hB5
  have HS5 := Lib.hid hB5.size
  have hne5 : bb ≠ d2 := by have := HS4.out; have := HD2.out; omega
  clear hI5 hO4 hn4
  go_wp2_with fail
  refine (intLsh_new d2 0 bb 0 true 1 p _ hn5 hI5' hne5 HP.out.1 (by omega) 1 (by omega) (by rw [Nat.pow_one]; exact W64_gt)).mono ?_
  rintro e w6 ⟨rfl, hJ6, hU6⟩
  have hO6 := hO5.apart hU6.upd (by omega) (fun k hk => by rw [← inB_some hk]; omega)
  have hB6 : Below w.heap.size w w6 := hU6.upd.below (Below.then (Below.then HB3.out (by have := HS3.out; omega) hB4) (by have := HS3.out; have := HS4.out; omega) hB5) (by have := HS3.out; have := HS4.out; have := HS5.out; omega) (fun k _ e => by subst e; omega)
  clear hO5 hn5 hU6 hI5' hB4 hB5
  have HO6 := Lib.hid hO6
  have HJ6 := Lib.hid hJ6
  have HB6 := Lib.hid hB6
  clear hO6 hJ6 hB6
  go_wp2_with fail
  refine (intAndNot_own w.heap.size d2 g n c (z + 1) (1 * 2 ^ p) _ HO6.out (by have := HG3.out; omega) HJ6.out (Nat.succ_pos _) (by rw [Nat.one_mul]; have := HP.out.2.2; omega) (by rw [Nat.one_mul]; have := HP.out.1; obtain ⟨q, rfl⟩ : ∃ q, p = q + 1 := ⟨p - 1, by omega⟩; rw [Nat.pow_succ]; have : 0 < 2 ^ q := Nat.pow_pos (by decide); omega) 40 (by omega) (two_pow_W p (by omega))).mono ?_
  rintro e w7 ⟨rfl, hJ, hB7⟩
  rw [one_bits p _ HP.out.2.2] at hJ
  have hbg := HB6.out.trans hB7
  go_wp2_with fail
  refine (makeInt_any w.heap.size 0 _ _ _ hJ).mono ?_
  rintro e w8 ⟨u, rfl, hu, rfl⟩
  have hzz : sg false (2 ^ p - 1 - z) = 2 ^ p - 1 - (z : Int) := by
    have := HP.out.2.2
    have h2 : ((2 ^ p : Nat) : Int) = 2 ^ p := by exact_mod_cast rfl
    simp only [sg, Bool.false_eq_true, if_false]
    omega
  rw [hzz] at hu
  clear HP
  go_wp2
  try rw [Exit.noGoto_ret]
  go_ret
  exact ⟨_, rfl, hu, hbg⟩

set_option maxRecDepth 100000 in
set_option maxHeartbeats 2000000 in
theorem unaryNotPBig_any (b o : Nat) (N p : Nat) (w : World) (h : BigAt 151 w b o false N) (L : Nat) (hL : L ≤ 100000) (hN : N < W64 ^ L) (hp0 : 0 < p) (hp1 : p ≤ 2000) (hzp : N < 2 ^ p) :
    Calls Tryz.prog 45 #[.int .i64 19, .iface 93 (.agg #[.pointer (some ⟨b, o, none⟩)]), .int .u64 p] w fun e w' => ∃ u, e = .returned u ∧ CInt w' u (2 ^ p - 1 - (N : Int)) ∧ Below w.heap.size w w' := by
  have hlt := h.blk.lt
  have HP := Lib.hid (⟨hp0, hp1, hzp⟩ : 0 < p ∧ p ≤ 2000 ∧ N < 2 ^ p)
  have hpi : (0 : Int) < p := by omega
  clear hzp
  obtain ⟨t1, t2, t3, t4, t5, t6, t7, t8, t9⟩ := ta_intVal
  go_enter Tryz.func45, Tryz.ntmps45
  go_wp2
  refine wp_scope_straight ?_
  go_wp2_with fail
  refine (newInt_any _).mono ?_
  rintro e w1 ⟨rfl, hw1⟩
  have hn1 : NewInt w1 w.heap.size 0 := by rw [hw1]; exact newInt_is w
  have hB1 : Below w.heap.size w w1 := by rw [hw1]; exact Below.alloc' (Below.refl _ _) _
  have HS1 := Lib.hid (show w1.heap.size = w.heap.size + 1 from by rw [hw1]; simp)
  clear hw1
  have h' := h.keep hB1
  obtain ⟨W0, hW0⟩ : ∃ W0, W0 = w1.alloc (.cells #[.pointer (some ⟨b, o, none⟩)] 93) := ⟨_, rfl⟩
  have HW := Lib.hid hW0
  have hb0 : Below w1.heap.size w1 W0 := by rw [hW0]; exact Below.alloc' (Below.refl _ _) _
  have hx : W0.cell? ⟨w1.heap.size, 0, none⟩ = some (.pointer (some ⟨b, o, none⟩)) := by rw [hW0]; exact alloc_new _ _ _ rfl rfl
  have HH := Lib.hid (h'.keep hb0)
  have HN := Lib.hid hN
  have hn0 := hn1.keep hb0
  have hbf := Below.then hB1 (by have := HS1.out; omega) hb0
  have HS2 := Lib.hid hb0.size
  clear hW0 h h' hN hn1 hB1 hb0
  go_wp2_with fail
  rw [← HW.out]
  go_wp2_with fail
  refine (intNot_own w.heap.size 0 b o N _ hn0 HH.out (by omega) L (by omega) HN.out).mono ?_
  rintro e w3 ⟨rfl, hU3, g, n, c, hO3, hg3⟩
  have HB3 := Lib.hid (hU3.below hbf (by have := HS1.out; have := HS2.out; omega) (fun k _ e => by subst e; exact Nat.le_refl _))
  have HS3 := Lib.hid (show w.heap.size < w3.heap.size from by have := HS1.out; have := HS2.out; have := hU3.size; omega)
  have HG3 := Lib.hid (show w.heap.size < g ∧ g < w3.heap.size from ⟨by have := HS1.out; have := HS2.out; omega, hO3.num.inLt g (inB_is _ _ _)⟩)
  have hs3 := HS3.out
  clear hU3 hn0 hbf hg3 hx
  go_wp2_with fail
  refine (newInt_any _).mono ?_
  rintro e w4 ⟨rfl, hw4⟩
  have hn4 : NewInt w4 w3.heap.size 0 := by rw [hw4]; exact newInt_is w3
  have hB4 : Below w3.heap.size w3 w4 := by rw [hw4]; exact Below.alloc' (Below.refl _ _) _
  have HS4 := Lib.hid (show w4.heap.size = w3.heap.size + 1 from by rw [hw4]; simp)
  have hO4 := hO3.keep hB4
  clear hw4 hO3
  obtain ⟨d2, hd2⟩ : ∃ d2, d2 = w3.heap.size := ⟨_, rfl⟩
  rw [← hd2] at hn4
  rw [← hd2]
  have hdd : w.heap.size < d2 := by omega
  have hgd : g < d2 := by have := HG3.out; omega
  have HD2 := Lib.hid hd2
  clear hd2
  go_wp2_with fail
  refine (newIntOf_any (-1) (by omega) _).mono ?_
  rintro e w5 ⟨bb, rfl, hbb, hI5, hB5⟩
  have hI5' : BigAt 151 w5 bb 0 true 1 := hI5
  have hO5 := hO4.keep hB5
  have hn5 := hn4.keep hB5
  have HS5 := Lib.hid hB5.size
  have hne5 : bb ≠ d2 := by have := HS4.out; have := HD2.out; omega
  clear hI5 hO4 hn4
  go_wp2_with fail
  refine (intLsh_new d2 0 bb 0 true 1 p _ hn5 hI5' hne5 HP.out.1 (by omega) 1 (by omega) (by rw [Nat.pow_one]; exact W64_gt)).mono ?_
  rintro e w6 ⟨rfl, hJ6, hU6⟩
  have hO6 := hO5.apart hU6.upd (by omega) (fun k hk => by rw [← inB_some hk]; omega)
  have hB6 : Below w.heap.size w w6 := hU6.upd.below (Below.then (Below.then HB3.out (by have := HS3.out; omega) hB4) (by have := HS3.out; have := HS4.out; omega) hB5) (by have := HS3.out; have := HS4.out; have := HS5.out; omega) (fun k _ e => by subst e; omega)
  clear hO5 hn5 hU6 hI5' hB4 hB5
  have HO6 := Lib.hid hO6
  have HJ6 := Lib.hid hJ6
  have HB6 := Lib.hid hB6
  clear hO6 hJ6 hB6
  go_wp2_with fail
  refine (intAndNot_own w.heap.size d2 g n c (N + 1) (1 * 2 ^ p) _ HO6.out (by have := HG3.out; omega) HJ6.out (Nat.succ_pos _) (by rw [Nat.one_mul]; have := HP.out.2.2; omega) (by rw [Nat.one_mul]; have := HP.out.1; obtain ⟨q, rfl⟩ : ∃ q, p = q + 1 := ⟨p - 1, by omega⟩; rw [Nat.pow_succ]; have : 0 < 2 ^ q := Nat.pow_pos (by decide); omega) 40 (by omega) (two_pow_W p (by omega))).mono ?_
  rintro e w7 ⟨rfl, hJ, hB7⟩
  rw [one_bits p _ HP.out.2.2] at hJ
  have hbg := HB6.out.trans hB7
  go_wp2_with fail
  refine (makeInt_any w.heap.size 0 _ _ _ hJ).mono ?_
  rintro e w8 ⟨u, rfl, hu, rfl⟩
  have hzz : sg false (2 ^ p - 1 - N) = 2 ^ p - 1 - (N : Int) := by
    have := HP.out.2.2
    have h2 : ((2 ^ p : Nat) : Int) = 2 ^ p := by exact_mod_cast rfl
    simp only [sg, Bool.false_eq_true, if_false]
    omega
  rw [hzz] at hu
  clear HP
  go_wp2
  try rw [Exit.noGoto_ret]
  go_ret
  exact ⟨_, rfl, hu, hbg⟩

theorem unaryNotPInt_any (v : Value) (z p : Nat) (w : World) (h : CInt w v (z : Int)) (L : Nat) (hL : L ≤ 100000) (hz : z < W64 ^ L) (hp0 : 0 < p) (hp1 : p ≤ 2000) (hzp : z < 2 ^ p) :
    Calls Tryz.prog 45 #[.int .i64 19, v, .int .u64 p] w fun e w' => ∃ u, e = .returned u ∧ CInt w' u (2 ^ p - 1 - (z : Int)) ∧ Below w.heap.size w w' := by
  rcases h with ⟨rfl, hf⟩ | ⟨b, o, s, N, rfl, hI, hs⟩
  · exact unaryNotP64_any z p w hf hp0 hp1 hzp
  · have hN : s = false ∧ N = z := by
      cases s
      · simp only [sg, Bool.false_eq_true, if_false] at hs; exact ⟨rfl, by omega⟩
      · have := hI.zero rfl; simp only [sg, if_true] at hs; omega
    obtain ⟨rfl, rfl⟩ := hN
    exact unaryNotPBig_any b o N p w hI L hL hz hp0 hp1 hzp

theorem implNotP_any (x : Vl) (K p : Nat) (w : World) (h1 : VlAt w x) (k1 : x.kind = 3) (hs : x.neg = false ∨ val W64 x.wf x.wn = 0) (n1 : x.wn ≤ K) (hK : K ≤ 1000) (hp0 : 0 < p) (hp1 : p ≤ 2000) (hzp : val W64 x.wf x.wn < 2 ^ p) :
    Calls Tryz.prog 19 #[.int .i64 2, .agg #[.int .i64 x.kind, .bool x.truth, .string x.text, .bool x.neg, .slice x.wa x.wn x.wc, .slice x.da x.dn x.dc, .bool x.ineg, .slice x.ia x.inn x.ic, .slice x.ea x.en x.ec], .int .u64 p] w (GivesV (IsZ (2 ^ p - 1 - sg x.neg (val W64 x.wf x.wn)) 40) w) := by
  have l1 := vl_lt h1 n1
  have hsg : sg x.neg (val W64 x.wf x.wn) = (val W64 x.wf x.wn : Nat) := by
    rcases hs with hs | hs
    · rw [hs]; rfl
    · rw [hs]; cases x.neg <;> rfl
  rw [sg_nat] at l1
  rw [hsg]
  have h2 : ((2 ^ p : Nat) : Int) = 2 ^ p := by exact_mod_cast rfl
  have hlt := two_pow_W p hp1
  refine implUnaryZ_any 2 (by omega) 19 rfl x p _ 40 w h1 k1 (by omega) (by omega) (by omega)
    (fun v w' _ c => ?_)
  rw [hsg] at c
  exact unaryNotPInt_any v _ p w' c K (by omega) l1 hp0 hp1 hzp
end Go.Proofs.YtdkipndepkblhaaGreatDoor
