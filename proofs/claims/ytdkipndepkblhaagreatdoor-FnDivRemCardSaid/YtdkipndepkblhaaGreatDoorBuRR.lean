/-
  Int.Quo into a number that holds nothing yet. PRINTED BY wip/gen_intq.py.
  Int.Rem into a number that holds nothing yet. PRINTED BY wip/gen_intq.py.
  constant.BinaryOp of integers: Quo (printed by gen_binq.py).
  constant.BinaryOp of integers: Rem (printed by gen_binq.py).
  impl.Binary of two integers: the quotient that is cut, the rest.
-/
import Derived.Test.YtdkipndepkblhaaGreatDoorBuQQ
import Derived.Test.YtdkipndepkblhaaGreatDoorBuS
import Derived.Test.YtdkipndepkblhaaGreatDoorBuV
set_option linter.unusedSimpArgs false
set_option linter.unusedVariables false
namespace Go.Proofs.YtdkipndepkblhaaGreatDoor
open Go.RowKit Go.Bg Dg

set_option maxRecDepth 100000 in
set_option maxHeartbeats 4000000 in
theorem intQuo_new (HD : NatDiv) (b o b1 o1 b2 o2 : Nat) (s t : Bool) (N M : Nat) (w : World) (hK : ThrD w) (h : NewInt w b o) (h1 : BigAt 151 w b1 o1 s N) (h2 : BigAt 151 w b2 o2 t M) (hM0 : 0 < M) (hb1 : b1 ≠ b) (hb2 : b2 ≠ b) (L : Nat) (hL : L < 40) (hN : N < W64 ^ L) (hM : M < W64 ^ L) :
    Calls Tryz.prog 72 #[.pointer (some ⟨b, o, none⟩), .pointer (some ⟨b1, o1, none⟩), .pointer (some ⟨b2, o2, none⟩)] w (IntIs b o (decide ((sg s N).tdiv (sg t M) < 0)) ((sg s N).tdiv (sg t M)).natAbs w) := by
  obtain ⟨a, n, c, p0, p1, hNN⟩ := h1.val
  obtain ⟨a', n', c', q0, q1, hMM⟩ := h2.val
  have hn : n < 40 := Nat.lt_of_le_of_lt (len_le W64_gt hNN.num.top hN) hL
  have hn' : n' < 40 := Nat.lt_of_le_of_lt (len_le W64_gt hMM.num.top hM) hL
  have HH := Lib.hid h
  have HN := Lib.hid hNN
  have HM := Lib.hid hMM
  have HK := Lib.hid hK
  have HDD := Lib.hid (show ∀ w', ThrD w' → BigN 151 w' a n c N → BigN 151 w' a' n' c' M → Calls Tryz.prog 134 #[.slice none 0 0, .pointer none, .slice none 0 0, .slice a n c, .slice a' n' c'] w' (GivesQN (N / M) (N % M) w') from fun w' x y z => HD _ _ _ _ _ _ _ _ w' x y z hM0 (by omega) hn')
  obtain ⟨z, hz⟩ : ∃ z, z = (sg s N).tdiv (sg t M) := ⟨_, rfl⟩
  rw [← hz]
  have HZ := Lib.hid hz
  clear hz
  have HP0 := Lib.hid p0
  have HQ0 := Lib.hid q0
  have k1 := h.c1
  clear h h1 h2 hNN hMM hN hM hK p0 q0 HD
  go_enter Tryz.func72, Tryz.ntmps72
  go_upto_region 1 with fail
  have hd0 : ∀ q, Below w.heap.size w (w.drewN q) := fun q => below_drewN (Below.refl w.heap.size w) q
  go_region_with
    ((go_at_call 134; (with_reducible refine (HDD.out _ ?_ ?_ ?_).mono ?_); exact HK.out.keep (hd0 _); exact HN.out.keep (hd0 _); exact HM.out.keep (hd0 _); rintro e w1 ⟨a2, n2, c2, a3, n3, c3, rfl, hN2, hN3, hB⟩; have hB1 := Below.then (hd0 _) (Nat.le_refl _) hB; have HP := Lib.hid (natAt_pos_len hN2.num); have hcm2 := hN2.num.cm; have hnc2 := hN2.num.nc; have HF := Lib.hid (fun (s' : Bool) (hs : s' = true → 0 < N / M) => HH.out.made hB1 hN2 hs); have h' := HH.out.keep hB1; obtain ⟨u0, k0⟩ := h'.c0; have k1' := h'.c1; have f0 := h'.blk.frozen o; have f1 := h'.blk.frozen (o + 1); have k0' : ∀ v, (w1.setCell ⟨b, o + 1, none⟩ v).cell? ⟨b, o, none⟩ = some u0 := (fun v => by rw [World.cell?_setCell_other _ _ _ _ (fun hh => by injection hh with _ hh _; omega)]; exact k0); have x0 := cell_keep HP0.out hB1; have y0 := cell_keep HQ0.out hB1; have x0' : ∀ v, (w1.setCell ⟨b, o + 1, none⟩ v).cell? ⟨b1, o1, none⟩ = some (.bool s) := (fun v => by rw [World.cell?_setCell_other _ _ _ _ (fun hh => by injection hh with hh _ _; exact hb1 hh.symm)]; exact x0); have y0' : ∀ v, (w1.setCell ⟨b, o + 1, none⟩ v).cell? ⟨b2, o2, none⟩ = some (.bool t) := (fun v => by rw [World.cell?_setCell_other _ _ _ _ (fun hh => by injection hh with hh _ _; exact hb2 hh.symm)]; exact y0); clear h' hN2 hN3 hB hB1 x0 y0))
  all_goals
    clear p1 q1 k1
    obtain ⟨W5, hW5⟩ : ∃ W5, W5 = w1.setCell ⟨b, o + 1, none⟩ (.slice a2 n2 c2) := ⟨_, rfl⟩
    have HW := Lib.hid hW5
    have cc1 : W5.cell? ⟨b, o + 1, none⟩ = some (.slice a2 n2 c2) := by rw [hW5]; exact World.cell?_setCell_same _ _ _ k1'
    have cc0 : W5.cell? ⟨b, o, none⟩ = some u0 := by rw [hW5]; exact k0' _
    have ccx : W5.cell? ⟨b1, o1, none⟩ = some (.bool s) := by rw [hW5]; exact x0' _
    have ccy : W5.cell? ⟨b2, o2, none⟩ = some (.bool t) := by rw [hW5]; exact y0' _
    have ff0 : W5.frozen? ⟨b, o, none⟩ = false := by rw [hW5, World.frozen?_setCell]; exact f0
    go_upto_region 2 with fail
    rw [← HW.out]
    rw [← HW.out] at HF
    clear hW5 k0' x0' y0' f0 f1 k1' k0
    by_cases hr : 0 < n2
    · have hdd : decide (0 < n2) = true := by simpa using hr
      go_region
      all_goals
        go_wp2
        go_ret
        have hp : 0 < N / M := by have := HP.out; simpa [hr] using this.symm
        refine intIs_z (intIs_drew (HF.out _ (fun _ => hp))) ?_
        have hpl := sg_quo s t N M
        rw [← HZ.out] at hpl
        have hbe : (s != t) = !(s == t) := rfl
        rw [hbe] at hpl
        simp only [hp, decide_true, Bool.and_true] at hpl
        exact hpl
    · have hdd : decide (0 < n2) = false := by simpa using hr
      go_region
      all_goals
        go_wp2
        go_ret
        have hp : ¬ 0 < N / M := by have := HP.out; simpa [hr] using this
        refine intIs_z (intIs_drew (HF.out false (by simp))) ?_
        have hpl := sg_quo s t N M
        rw [← HZ.out] at hpl
        simpa [hp] using hpl
end Go.Proofs.YtdkipndepkblhaaGreatDoor

set_option linter.unusedSimpArgs false
set_option linter.unusedVariables false
namespace Go.Proofs.YtdkipndepkblhaaGreatDoor
open Go.RowKit Go.Bg Dg

set_option maxRecDepth 100000 in
set_option maxHeartbeats 4000000 in
theorem intRem_new (HD : NatDiv) (b o b1 o1 b2 o2 : Nat) (s t : Bool) (N M : Nat) (w : World) (hK : ThrD w) (h : NewInt w b o) (h1 : BigAt 151 w b1 o1 s N) (h2 : BigAt 151 w b2 o2 t M) (hM0 : 0 < M) (hb1 : b1 ≠ b) (hb2 : b2 ≠ b) (L : Nat) (hL : L < 40) (hN : N < W64 ^ L) (hM : M < W64 ^ L) :
    Calls Tryz.prog 73 #[.pointer (some ⟨b, o, none⟩), .pointer (some ⟨b1, o1, none⟩), .pointer (some ⟨b2, o2, none⟩)] w (IntIs b o (decide ((sg s N).tmod (sg t M) < 0)) ((sg s N).tmod (sg t M)).natAbs w) := by
  obtain ⟨a, n, c, p0, p1, hNN⟩ := h1.val
  obtain ⟨a', n', c', q0, q1, hMM⟩ := h2.val
  have hn : n < 40 := Nat.lt_of_le_of_lt (len_le W64_gt hNN.num.top hN) hL
  have hn' : n' < 40 := Nat.lt_of_le_of_lt (len_le W64_gt hMM.num.top hM) hL
  have HH := Lib.hid h
  have HN := Lib.hid hNN
  have HM := Lib.hid hMM
  have HK := Lib.hid hK
  have HDD := Lib.hid (show ∀ w', ThrD w' → BigN 151 w' a n c N → BigN 151 w' a' n' c' M → Calls Tryz.prog 134 #[.slice none 0 0, .pointer none, .slice none 0 0, .slice a n c, .slice a' n' c'] w' (GivesQN (N / M) (N % M) w') from fun w' x y z => HD _ _ _ _ _ _ _ _ w' x y z hM0 (by omega) hn')
  obtain ⟨z, hz⟩ : ∃ z, z = (sg s N).tmod (sg t M) := ⟨_, rfl⟩
  rw [← hz]
  have HZ := Lib.hid hz
  clear hz
  have HP0 := Lib.hid p0
  have HQ0 := Lib.hid q0
  have k1 := h.c1
  clear h h1 h2 hNN hMM hN hM hK p0 q0 HD
  go_enter Tryz.func73, Tryz.ntmps73
  go_upto_region 1 with fail
  have hd0 : ∀ q, Below w.heap.size w (w.drewN q) := fun q => below_drewN (Below.refl w.heap.size w) q
  go_region_with
    ((go_at_call 134; (with_reducible refine (HDD.out _ ?_ ?_ ?_).mono ?_); exact HK.out.keep (hd0 _); exact HN.out.keep (hd0 _); exact HM.out.keep (hd0 _); rintro e w1 ⟨a3, n3, c3, a2, n2, c2, rfl, hN3, hN2, hB⟩; have hB1 := Below.then (hd0 _) (Nat.le_refl _) hB; have HP := Lib.hid (natAt_pos_len hN2.num); have hcm2 := hN2.num.cm; have hnc2 := hN2.num.nc; have HF := Lib.hid (fun (s' : Bool) (hs : s' = true → 0 < N % M) => HH.out.made hB1 hN2 hs); have h' := HH.out.keep hB1; obtain ⟨u0, k0⟩ := h'.c0; have k1' := h'.c1; have f0 := h'.blk.frozen o; have f1 := h'.blk.frozen (o + 1); have k0' : ∀ v, (w1.setCell ⟨b, o + 1, none⟩ v).cell? ⟨b, o, none⟩ = some u0 := (fun v => by rw [World.cell?_setCell_other _ _ _ _ (fun hh => by injection hh with _ hh _; omega)]; exact k0); have x0 := cell_keep HP0.out hB1; have y0 := cell_keep HQ0.out hB1; have x0' : ∀ v, (w1.setCell ⟨b, o + 1, none⟩ v).cell? ⟨b1, o1, none⟩ = some (.bool s) := (fun v => by rw [World.cell?_setCell_other _ _ _ _ (fun hh => by injection hh with hh _ _; exact hb1 hh.symm)]; exact x0); clear h' hN2 hN3 hB hB1 x0 y0))
  all_goals
    clear p1 q1 k1
    obtain ⟨W5, hW5⟩ : ∃ W5, W5 = w1.setCell ⟨b, o + 1, none⟩ (.slice a2 n2 c2) := ⟨_, rfl⟩
    have HW := Lib.hid hW5
    have cc1 : W5.cell? ⟨b, o + 1, none⟩ = some (.slice a2 n2 c2) := by rw [hW5]; exact World.cell?_setCell_same _ _ _ k1'
    have cc0 : W5.cell? ⟨b, o, none⟩ = some u0 := by rw [hW5]; exact k0' _
    have ccx : W5.cell? ⟨b1, o1, none⟩ = some (.bool s) := by rw [hW5]; exact x0' _
    have ff0 : W5.frozen? ⟨b, o, none⟩ = false := by rw [hW5, World.frozen?_setCell]; exact f0
    go_upto_region 2 with fail
    rw [← HW.out]
    rw [← HW.out] at HF
    clear hW5 k0' x0' f0 f1 k1' k0
    by_cases hr : 0 < n2
    · have hdd : decide (0 < n2) = true := by simpa using hr
      all_goals
        go_wp2
        go_ret
        have hp : 0 < N % M := by have := HP.out; simpa [hr] using this.symm
        refine intIs_z (HF.out _ (fun _ => hp)) ?_
        have hpl := sg_rem s t N M
        rw [← HZ.out] at hpl
        simp only [hp, decide_true, Bool.and_true] at hpl
        exact hpl
    · have hdd : decide (0 < n2) = false := by simpa using hr
      all_goals
        go_wp2
        go_ret
        have hp : ¬ 0 < N % M := by have := HP.out; simpa [hr] using this
        refine intIs_z (HF.out false (by simp)) ?_
        have hpl := sg_rem s t N M
        rw [← HZ.out] at hpl
        simpa [hp] using hpl
end Go.Proofs.YtdkipndepkblhaaGreatDoor

set_option linter.unusedSimpArgs false
set_option linter.unusedVariables false
namespace Go.Proofs.YtdkipndepkblhaaGreatDoor
open Go.RowKit Go.Bg Dg

theorem tdiv_fit {z1 z2 : Int} (h1 : fit64 z1 = true) (h2 : fit64 z2 = true) (h0 : z2 ≠ 0) (hex : ¬ (z1 = -9223372036854775808 ∧ z2 = -1)) : fit64 (z1.tdiv z2) = true := by
  have b1 := fit64_bd h1
  have b2 := fit64_bd h2
  have e := Int.natAbs_tdiv z1 z2
  by_cases h : z2.natAbs = 1
  · have h' : z2 = 1 ∨ z2 = -1 := by omega
    rcases h' with rfl | rfl
    · rw [Int.tdiv_one]; exact h1
    · rw [Int.tdiv_neg, Int.tdiv_one]
      unfold fit64
      simp
      omega
  · have h2' : 2 ≤ z2.natAbs := by omega
    have h3 : z1.natAbs / z2.natAbs ≤ z1.natAbs / 2 := Nat.div_le_div_left h2' (by omega)
    rw [show z1.natAbs.div z2.natAbs = z1.natAbs / z2.natAbs from rfl] at e
    rw [← e] at h3
    generalize z1.tdiv z2 = q at *
    clear e
    unfold fit64
    simp
    omega

set_option maxRecDepth 100000 in
set_option maxHeartbeats 4000000 in
theorem binQuo_any (HD : NatDiv) (v1 v2 : Value) (z1 z2 : Int) (w : World) (hK : ThrD w) (h1 : CInt w v1 z1) (h2 : CInt w v2 z2) (h0 : z2 ≠ 0) (hex : ¬ (z1 = -9223372036854775808 ∧ z2 = -1)) (L : Nat) (hL : L < 40) (l1 : z1.natAbs < W64 ^ L) (l2 : z2.natAbs < W64 ^ L) :
    Calls Tryz.prog 38 #[v1, .int .i64 26, v2] w fun e w' => ∃ u, e = .returned u ∧ CInt w' u (z1.tdiv z2) ∧ Below w.heap.size w w' := by
  have H1 := Lib.hid h1
  have H2 := Lib.hid h2
  have L1 := Lib.hid l1
  have L2 := Lib.hid l2
  have HK := Lib.hid hK
  have HDD := Lib.hid HD
  have H0 := Lib.hid h0
  have HX := Lib.hid hex
  obtain ⟨z, hz⟩ : ∃ z, z = z1.tdiv z2 := ⟨_, rfl⟩
  rw [← hz]
  have HZ := Lib.hid hz
  clear h1 h2 l1 l2 hK HD h0 hex hz
  go_enter Tryz.func38, Tryz.ntmps38
  go_wp2
  refine wp_scope_straight ?_
  go_wp2_with fail
  refine (matchInt_any v1 v2 z1 z2 _ H1.out H2.out).mono ?_
  rintro e W ⟨u1, u2, rfl, hS, hB⟩
  have HB := Lib.hid hB
  have HKW := Lib.hid (HK.out.keep hB)
  clear hB
  rcases hS with ⟨rfl, f1, rfl, f2⟩ | ⟨⟨b1, o1, s, N, rfl, hI, e1⟩, ⟨b2, o2, t, M, rfl, hJ, e2⟩⟩
  · obtain ⟨t1, t2, t3, t4, t5, t6, t7, t8, t9⟩ := ta_int64Val
    have HG := Lib.hid (tdiv_fit f1 f2 H0.out HX.out)
    have h0 : ¬ z2 = 0 := H0.out
    clear f1 f2
    go_wp2
    try rw [Exit.noGoto_ret]
    go_ret
    refine ⟨_, rfl, .inl ⟨?_, by rw [HZ.out]; exact HG.out⟩, HB.out⟩
    rw [HZ.out]
    have hw : wrap64 (z1.tdiv z2) = z1.tdiv z2 := by
      have := fit64_bd HG.out
      generalize z1.tdiv z2 = q at *
      unfold wrap64
      omega
    first | rfl | (rw [hw]; rfl) | (rw [hw])
  · obtain ⟨t1, t2, t3, t4, t5, t6, t7, t8, t9⟩ := ta_intVal
    have hfld := field_intVal
    have LN := Lib.hid (show N < W64 ^ L from by have := L1.out; rw [← e1, sg_nat] at this; exact this)
    have LM := Lib.hid (show M < W64 ^ L from by have := L2.out; rw [← e2, sg_nat] at this; exact this)
    have M0 := Lib.hid (show 0 < M from Nat.pos_of_ne_zero (fun h => H0.out (by rw [← e2, h]; cases t <;> simp [sg])))
    have HI := Lib.hid hI
    have HJ := Lib.hid hJ
    have E1 := Lib.hid e1
    have E2 := Lib.hid e2
    have HL := Lib.hid hL
    clear hI hJ e1 e2 L1 L2 hL
    obtain ⟨W0, hW0⟩ : ∃ W0, W0 = W.alloc (.cells #[.pointer (some ⟨b1, o1, none⟩)] 93) := ⟨_, rfl⟩
    have HW := Lib.hid hW0
    have hb0 : Below W.heap.size W W0 := by rw [hW0]; exact Below.alloc' (Below.refl _ _) _
    have hx : W0.cell? ⟨W.heap.size, 0, none⟩ = some (.pointer (some ⟨b1, o1, none⟩)) := by rw [hW0]; exact alloc_new _ _ _ rfl rfl
    have HI0 := Lib.hid (HI.out.keep hb0)
    have HJ0 := Lib.hid (HJ.out.keep hb0)
    have HK0 := Lib.hid (HKW.out.keep hb0)
    clear hW0 HI HJ
    go_upto_region 49 with fail
    rw [← HW.out]
    go_wp2_with fail
    refine (newInt_any _).mono ?_
    rintro e w1 ⟨rfl, hw1⟩
    have hn1 : NewInt w1 W0.heap.size 0 := by rw [hw1]; exact newInt_is W0
    have hB1 : Below W0.heap.size W0 w1 := by rw [hw1]; exact Below.alloc' (Below.refl _ _) _
    have HS1 := Lib.hid (show w1.heap.size = W0.heap.size + 1 from by rw [hw1]; simp)
    clear hw1
    go_wp2_with fail
    refine (intQuo_new HDD.out W0.heap.size 0 b1 o1 b2 o2 s t N M _ (HK0.out.keep hB1) hn1 (HI0.out.keep hB1) (HJ0.out.keep hB1) M0.out (Nat.ne_of_lt HI0.out.blk.lt) (Nat.ne_of_lt HJ0.out.blk.lt) L HL.out LN.out LM.out).mono ?_
    rintro e w4 ⟨rfl, hK, hU⟩
    rw [E1.out, E2.out, ← HZ.out] at hK
    have hbg := hU.upd.below hB1 (by have := HS1.out; omega) (fun k _ e => by subst e; exact Nat.le_refl _)
    go_wp2_with fail
    refine (makeInt_any W0.heap.size 0 _ _ _ hK).mono ?_
    rintro e w5 ⟨u, rfl, hu, rfl⟩
    rw [sg_natAbs] at hu
    go_wp2
    try rw [Exit.noGoto_ret]
    go_ret
    exact ⟨_, rfl, hu, Below.then HB.out (Nat.le_refl _) (Below.then hb0 (Nat.le_refl _) hbg)⟩
end Go.Proofs.YtdkipndepkblhaaGreatDoor

set_option linter.unusedSimpArgs false
set_option linter.unusedVariables false
namespace Go.Proofs.YtdkipndepkblhaaGreatDoor
open Go.RowKit Go.Bg Dg

theorem tmod_fit {z1 z2 : Int} (h1 : fit64 z1 = true) (h2 : fit64 z2 = true) (h0 : z2 ≠ 0) : fit64 (z1.tmod z2) = true := by
  have b1 := fit64_bd h1
  have b2 := fit64_bd h2
  have e := Int.natAbs_tmod z1 z2
  have h3 : z1.natAbs % z2.natAbs < z2.natAbs := Nat.mod_lt _ (by omega)
  rw [← e] at h3
  generalize z1.tmod z2 = q at *
  clear e
  unfold fit64
  simp
  omega

set_option maxRecDepth 100000 in
set_option maxHeartbeats 4000000 in
theorem binRem_any (HD : NatDiv) (v1 v2 : Value) (z1 z2 : Int) (w : World) (hK : ThrD w) (h1 : CInt w v1 z1) (h2 : CInt w v2 z2) (h0 : z2 ≠ 0) (L : Nat) (hL : L < 40) (l1 : z1.natAbs < W64 ^ L) (l2 : z2.natAbs < W64 ^ L) :
    Calls Tryz.prog 38 #[v1, .int .i64 16, v2] w fun e w' => ∃ u, e = .returned u ∧ CInt w' u (z1.tmod z2) ∧ Below w.heap.size w w' := by
  have H1 := Lib.hid h1
  have H2 := Lib.hid h2
  have L1 := Lib.hid l1
  have L2 := Lib.hid l2
  have HK := Lib.hid hK
  have HDD := Lib.hid HD
  have H0 := Lib.hid h0
  obtain ⟨z, hz⟩ : ∃ z, z = z1.tmod z2 := ⟨_, rfl⟩
  rw [← hz]
  have HZ := Lib.hid hz
  clear h1 h2 l1 l2 hK HD h0 hz
  go_enter Tryz.func38, Tryz.ntmps38
  go_wp2
  refine wp_scope_straight ?_
  go_wp2_with fail
  refine (matchInt_any v1 v2 z1 z2 _ H1.out H2.out).mono ?_
  rintro e W ⟨u1, u2, rfl, hS, hB⟩
  have HB := Lib.hid hB
  have HKW := Lib.hid (HK.out.keep hB)
  clear hB
  rcases hS with ⟨rfl, f1, rfl, f2⟩ | ⟨⟨b1, o1, s, N, rfl, hI, e1⟩, ⟨b2, o2, t, M, rfl, hJ, e2⟩⟩
  · obtain ⟨t1, t2, t3, t4, t5, t6, t7, t8, t9⟩ := ta_int64Val
    have HG := Lib.hid (tmod_fit f1 f2 H0.out)
    have h0 : ¬ z2 = 0 := H0.out
    clear f1 f2
    go_wp2
    try rw [Exit.noGoto_ret]
    go_ret
    refine ⟨_, rfl, .inl ⟨?_, by rw [HZ.out]; exact HG.out⟩, HB.out⟩
    rw [HZ.out]
    have hw : wrap64 (z1.tmod z2) = z1.tmod z2 := by
      have := fit64_bd HG.out
      generalize z1.tmod z2 = q at *
      unfold wrap64
      omega
    first | rfl | (rw [hw]; rfl) | (rw [hw])
  · obtain ⟨t1, t2, t3, t4, t5, t6, t7, t8, t9⟩ := ta_intVal
    have hfld := field_intVal
    have LN := Lib.hid (show N < W64 ^ L from by have := L1.out; rw [← e1, sg_nat] at this; exact this)
    have LM := Lib.hid (show M < W64 ^ L from by have := L2.out; rw [← e2, sg_nat] at this; exact this)
    have M0 := Lib.hid (show 0 < M from Nat.pos_of_ne_zero (fun h => H0.out (by rw [← e2, h]; cases t <;> simp [sg])))
    have HI := Lib.hid hI
    have HJ := Lib.hid hJ
    have E1 := Lib.hid e1
    have E2 := Lib.hid e2
    have HL := Lib.hid hL
    clear hI hJ e1 e2 L1 L2 hL
    obtain ⟨W0, hW0⟩ : ∃ W0, W0 = W.alloc (.cells #[.pointer (some ⟨b1, o1, none⟩)] 93) := ⟨_, rfl⟩
    have HW := Lib.hid hW0
    have hb0 : Below W.heap.size W W0 := by rw [hW0]; exact Below.alloc' (Below.refl _ _) _
    have hx : W0.cell? ⟨W.heap.size, 0, none⟩ = some (.pointer (some ⟨b1, o1, none⟩)) := by rw [hW0]; exact alloc_new _ _ _ rfl rfl
    have HI0 := Lib.hid (HI.out.keep hb0)
    have HJ0 := Lib.hid (HJ.out.keep hb0)
    have HK0 := Lib.hid (HKW.out.keep hb0)
    clear hW0 HI HJ
    go_upto_region 49 with fail
    rw [← HW.out]
    go_wp2_with fail
    refine (newInt_any _).mono ?_
    rintro e w1 ⟨rfl, hw1⟩
    have hn1 : NewInt w1 W0.heap.size 0 := by rw [hw1]; exact newInt_is W0
    have hB1 : Below W0.heap.size W0 w1 := by rw [hw1]; exact Below.alloc' (Below.refl _ _) _
    have HS1 := Lib.hid (show w1.heap.size = W0.heap.size + 1 from by rw [hw1]; simp)
    clear hw1
    go_wp2_with fail
    refine (intRem_new HDD.out W0.heap.size 0 b1 o1 b2 o2 s t N M _ (HK0.out.keep hB1) hn1 (HI0.out.keep hB1) (HJ0.out.keep hB1) M0.out (Nat.ne_of_lt HI0.out.blk.lt) (Nat.ne_of_lt HJ0.out.blk.lt) L HL.out LN.out LM.out).mono ?_
    rintro e w4 ⟨rfl, hK, hU⟩
    rw [E1.out, E2.out, ← HZ.out] at hK
    have hbg := hU.upd.below hB1 (by have := HS1.out; omega) (fun k _ e => by subst e; exact Nat.le_refl _)
    go_wp2_with fail
    refine (makeInt_any W0.heap.size 0 _ _ _ hK).mono ?_
    rintro e w5 ⟨u, rfl, hu, rfl⟩
    rw [sg_natAbs] at hu
    go_wp2
    try rw [Exit.noGoto_ret]
    go_ret
    exact ⟨_, rfl, hu, Below.then HB.out (Nat.le_refl _) (Below.then hb0 (Nat.le_refl _) hbg)⟩
end Go.Proofs.YtdkipndepkblhaaGreatDoor

set_option linter.unusedSimpArgs false
set_option linter.unusedVariables false
namespace Go.Proofs.YtdkipndepkblhaaGreatDoor
open Go.RowKit Go.Bg Dg

theorem implQuo_any (x y : Vl) (K : Nat) (w : World) (hT : ThrD w) (h1 : VlAt w x) (h2 : VlAt w y) (k1 : x.kind = 3) (k2 : y.kind = 3) (n1 : x.wn ≤ K) (n2 : y.wn ≤ K) (hK : K < 40) (h0 : sg y.neg (val W64 y.wf y.wn) ≠ 0) (hex : ¬ (sg x.neg (val W64 x.wf x.wn) = -9223372036854775808 ∧ sg y.neg (val W64 y.wf y.wn) = -1)) :
    Calls Tryz.prog 15 #[.int .i64 4, .agg #[.int .i64 x.kind, .bool x.truth, .string x.text, .bool x.neg, .slice x.wa x.wn x.wc, .slice x.da x.dn x.dc, .bool x.ineg, .slice x.ia x.inn x.ic, .slice x.ea x.en x.ec], .agg #[.int .i64 y.kind, .bool y.truth, .string y.text, .bool y.neg, .slice y.wa y.wn y.wc, .slice y.da y.dn y.dc, .bool y.ineg, .slice y.ia y.inn y.ic, .slice y.ea y.en y.ec]] w (GivesV (IsZ ((sg x.neg (val W64 x.wf x.wn)).tdiv (sg y.neg (val W64 y.wf y.wn))) K) w) := by
  have l1 := vl_lt h1 n1
  have l2 := vl_lt h2 n2
  have hz : ((sg x.neg (val W64 x.wf x.wn)).tdiv (sg y.neg (val W64 y.wf y.wn))).natAbs < W64 ^ K := by
    rw [Int.natAbs_tdiv]
    exact Nat.lt_of_le_of_lt (Nat.div_le_self _ _) l1
  exact implBinary_any 4 (by omega) x y _ K w h1 h2 k1 k2 (by omega) (by omega) (by omega) hz
    (fun v1 v2 w' hb c1 c2 _ => binQuo_any natDiv_is v1 v2 _ _ w' (hT.keep hb) c1 c2 h0 hex K hK l1 l2)

theorem implRem_any (x y : Vl) (K : Nat) (w : World) (hT : ThrD w) (h1 : VlAt w x) (h2 : VlAt w y) (k1 : x.kind = 3) (k2 : y.kind = 3) (n1 : x.wn ≤ K) (n2 : y.wn ≤ K) (hK : K < 40) (h0 : sg y.neg (val W64 y.wf y.wn) ≠ 0) :
    Calls Tryz.prog 15 #[.int .i64 5, .agg #[.int .i64 x.kind, .bool x.truth, .string x.text, .bool x.neg, .slice x.wa x.wn x.wc, .slice x.da x.dn x.dc, .bool x.ineg, .slice x.ia x.inn x.ic, .slice x.ea x.en x.ec], .agg #[.int .i64 y.kind, .bool y.truth, .string y.text, .bool y.neg, .slice y.wa y.wn y.wc, .slice y.da y.dn y.dc, .bool y.ineg, .slice y.ia y.inn y.ic, .slice y.ea y.en y.ec]] w (GivesV (IsZ ((sg x.neg (val W64 x.wf x.wn)).tmod (sg y.neg (val W64 y.wf y.wn))) K) w) := by
  have l1 := vl_lt h1 n1
  have l2 := vl_lt h2 n2
  have hz : ((sg x.neg (val W64 x.wf x.wn)).tmod (sg y.neg (val W64 y.wf y.wn))).natAbs < W64 ^ K := by
    rw [Int.natAbs_tmod]
    exact Nat.lt_of_le_of_lt (Nat.mod_le _ _) l1
  exact implBinary_any 5 (by omega) x y _ K w h1 h2 k1 k2 (by omega) (by omega) (by omega) hz
    (fun v1 v2 w' hb c1 c2 _ => binRem_any natDiv_is v1 v2 _ _ w' (hT.keep hb) c1 c2 h0 K hK l1 l2)
end Go.Proofs.YtdkipndepkblhaaGreatDoor
