/-
  Int.Add, Int.Sub into a number that holds nothing yet (printed by gen_inta.py).
-/
import Derived.Test.YtdkipndepkblhaaGreatDoorBuP
set_option linter.unusedSimpArgs false
set_option linter.unusedVariables false
namespace Go.Proofs.YtdkipndepkblhaaGreatDoor
open Go.RowKit Go.Bg Dg

set_option maxRecDepth 100000 in
set_option maxHeartbeats 4000000 in
theorem intSub_new (b o b1 o1 b2 o2 : Nat) (s t : Bool) (N M : Nat) (w : World) (h : NewInt w b o) (h1 : BigAt 151 w b1 o1 s N) (h2 : BigAt 151 w b2 o2 t M) (L : Nat) (hL : L ≤ 900000) (hN : N < W64 ^ L) (hM : M < W64 ^ L) :
    Calls Tryz.prog 65 #[.pointer (some ⟨b, o, none⟩), .pointer (some ⟨b1, o1, none⟩), .pointer (some ⟨b2, o2, none⟩)] w (IntIs b o (decide ((sg s N - sg t M) < 0)) ((sg s N - sg t M)).natAbs w) := by
  obtain ⟨a, n, c, p0, p1, hNN⟩ := h1.val
  obtain ⟨a', n', c', q0, q1, hMM⟩ := h2.val
  have hn : n ≤ 900000 := Nat.le_trans (len_le W64_gt hNN.num.top hN) hL
  have hn' : n' ≤ 900000 := Nat.le_trans (len_le W64_gt hMM.num.top hM) hL
  have HH := Lib.hid h
  have HN := Lib.hid hNN
  have HM := Lib.hid hMM
  have k1 := h.c1
  clear h h1 h2 hNN hMM hN hM
  by_cases hst : s = !t
  · subst hst
    have hsb : ((!t) != t) = true := by cases t <;> rfl
    have H1 := HN
    have H2 := HM
    go_enter Tryz.func65, Tryz.ntmps65
    go_upto_region 2 with fail
    go_quiet (fail)
    go_upto_region 3 with fail
    have hd0 : ∀ q, Below w.heap.size w (w.drewN q) := fun q => below_drewN (Below.refl w.heap.size w) q
    go_region_with
      ((go_at_call 124; (with_reducible refine (natAdd_nil a a' n n' c c' N M _ ?_ ?_ hn hn').mono ?_); exact H1.out.keep (hd0 _); exact H2.out.keep (hd0 _); rintro e w1 ⟨a2, n2, c2, rfl, hN2, hB⟩; have hB1 := Below.then (hd0 _) (Nat.le_refl _) hB; have HP := Lib.hid (natAt_pos_len hN2.num); have hcm2 := hN2.num.cm; have hnc2 := hN2.num.nc; have HF := Lib.hid (fun (s' : Bool) (hs : s' = true → 0 < (N + M)) => HH.out.made hB1 hN2 hs); have h' := HH.out.keep hB1; obtain ⟨u0, k0⟩ := h'.c0; have k1' := h'.c1; have f0 := h'.blk.frozen o; have f1 := h'.blk.frozen (o + 1); have k0' : ∀ v, (w1.setCell ⟨b, o + 1, none⟩ v).cell? ⟨b, o, none⟩ = some u0 := (fun v => by rw [World.cell?_setCell_other _ _ _ _ (fun hh => by injection hh with _ hh _; omega)]; exact k0); clear h' hN2 hB hB1))
    all_goals
      clear p0 p1 q0 q1 k1
      by_cases hr : 0 < n2
      · go_wp2
        go_ret
        have hp : 0 < (N + M) := by have := HP.out; simpa [hr] using this.symm
        refine intIs_z (HF.out _ (fun _ => hp)) ?_
        have hpl := (show sg (!t && decide (0 < N + M)) (N + M) = sg (!t) N - sg t M from by rw [sum_same, sg_not t M]; omega)
        simpa [hp] using hpl
      · go_wp2
        go_ret
        have hp : ¬ 0 < (N + M) := by have := HP.out; simpa [hr] using this
        refine intIs_z (HF.out false (by simp)) ?_
        have hpl := (show sg (!t && decide (0 < N + M)) (N + M) = sg (!t) N - sg t M from by rw [sum_same, sg_not t M]; omega)
        simpa [hp] using hpl
  · obtain rfl : s = t := by cases s <;> cases t <;> simp_all
    by_cases hle : M ≤ N
    · have H1 := HN
      have H2 := HM
      have hc := cmpK_ge hle
      go_enter Tryz.func65, Tryz.ntmps65
      go_upto_region 2 with fail
      go_quiet (fail)
      go_upto_region 4 with fail
      go_quiet (first | (go_at_call 125; refine quiet_of2 (natCmp_any _ _ _ _ _ _ N M _ (HN.out.num.drewN _) (HM.out.num.drewN _))))
      generalize cmpI N M = k at *
      go_upto_region 5 with fail
      have hd0 : ∀ q, Below w.heap.size w (w.drewN q) := fun q => below_drewN (Below.refl w.heap.size w) q
      go_region_with
        ((go_at_call 126; (with_reducible refine (natSub_nil a a' n n' c c' N M _ ?_ ?_ hn hle).mono ?_); exact H1.out.keep (hd0 _); exact H2.out.keep (hd0 _); rintro e w1 ⟨a2, n2, c2, rfl, hN2, hB⟩; have hB1 := Below.then (hd0 _) (Nat.le_refl _) hB; have HP := Lib.hid (natAt_pos_len hN2.num); have hcm2 := hN2.num.cm; have hnc2 := hN2.num.nc; have HF := Lib.hid (fun (s' : Bool) (hs : s' = true → 0 < (N - M)) => HH.out.made hB1 hN2 hs); have h' := HH.out.keep hB1; obtain ⟨u0, k0⟩ := h'.c0; have k1' := h'.c1; have f0 := h'.blk.frozen o; have f1 := h'.blk.frozen (o + 1); have k0' : ∀ v, (w1.setCell ⟨b, o + 1, none⟩ v).cell? ⟨b, o, none⟩ = some u0 := (fun v => by rw [World.cell?_setCell_other _ _ _ _ (fun hh => by injection hh with _ hh _; omega)]; exact k0); clear h' hN2 hB hB1))
      all_goals
        clear p0 p1 q0 q1 k1
        by_cases hr : 0 < n2
        · go_wp2
          go_ret
          have hp : 0 < (N - M) := by have := HP.out; simpa [hr] using this.symm
          refine intIs_z (HF.out _ (fun _ => hp)) ?_
          have hpl := (show sg (s && decide (0 < N - M)) (N - M) = sg s N - sg s M from by rw [sum_other (t := !s) (by cases s <;> decide) hle, sg_not]; omega)
          simpa [hp] using hpl
        · go_wp2
          go_ret
          have hp : ¬ 0 < (N - M) := by have := HP.out; simpa [hr] using this
          refine intIs_z (HF.out false (by simp)) ?_
          have hpl := (show sg (s && decide (0 < N - M)) (N - M) = sg s N - sg s M from by rw [sum_other (t := !s) (by cases s <;> decide) hle, sg_not]; omega)
          simpa [hp] using hpl
    · have hlt : N < M := by omega
      have H1 := HM
      have H2 := HN
      have hc := cmpK_lt hlt
      go_enter Tryz.func65, Tryz.ntmps65
      go_upto_region 2 with fail
      go_quiet (fail)
      go_upto_region 4 with fail
      go_quiet (first | (go_at_call 125; refine quiet_of2 (natCmp_any _ _ _ _ _ _ N M _ (HN.out.num.drewN _) (HM.out.num.drewN _))))
      generalize cmpI N M = k at *
      go_upto_region 7 with fail
      have hd0 : ∀ q, Below w.heap.size w (w.drewN q) := fun q => below_drewN (Below.refl w.heap.size w) q
      go_region_with
        ((go_at_call 126; (with_reducible refine (natSub_nil a' a n' n c' c M N _ ?_ ?_ hn' (Nat.le_of_lt hlt)).mono ?_); exact H1.out.keep (hd0 _); exact H2.out.keep (hd0 _); rintro e w1 ⟨a2, n2, c2, rfl, hN2, hB⟩; have hB1 := Below.then (hd0 _) (Nat.le_refl _) hB; have HP := Lib.hid (natAt_pos_len hN2.num); have hcm2 := hN2.num.cm; have hnc2 := hN2.num.nc; have HF := Lib.hid (fun (s' : Bool) (hs : s' = true → 0 < (M - N)) => HH.out.made hB1 hN2 hs); have h' := HH.out.keep hB1; obtain ⟨u0, k0⟩ := h'.c0; have k1' := h'.c1; have f0 := h'.blk.frozen o; have f1 := h'.blk.frozen (o + 1); have k0' : ∀ v, (w1.setCell ⟨b, o + 1, none⟩ v).cell? ⟨b, o, none⟩ = some u0 := (fun v => by rw [World.cell?_setCell_other _ _ _ _ (fun hh => by injection hh with _ hh _; omega)]; exact k0); clear h' hN2 hB hB1))
      all_goals
        clear p0 p1 q0 q1 k1
        by_cases hr : 0 < n2
        · go_wp2
          go_ret
          have hp : 0 < (M - N) := by have := HP.out; simpa [hr] using this.symm
          refine intIs_z (HF.out _ (fun _ => hp)) ?_
          have hpl := (show sg (!s && decide (0 < M - N)) (M - N) = sg s N - sg s M from by rw [sum_other' (t := !s) (by cases s <;> decide) hlt, sg_not]; omega)
          simpa [hp] using hpl
        · go_wp2
          go_ret
          have hp : ¬ 0 < (M - N) := by have := HP.out; simpa [hr] using this
          refine intIs_z (HF.out false (by simp)) ?_
          have hpl := (show sg (!s && decide (0 < M - N)) (M - N) = sg s N - sg s M from by rw [sum_other' (t := !s) (by cases s <;> decide) hlt, sg_not]; omega)
          simpa [hp] using hpl
end Go.Proofs.YtdkipndepkblhaaGreatDoor
