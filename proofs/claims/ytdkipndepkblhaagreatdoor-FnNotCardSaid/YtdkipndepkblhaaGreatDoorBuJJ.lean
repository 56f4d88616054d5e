/-
  Int.Not into a new Int.
-/
import Derived.Test.YtdkipndepkblhaaGreatDoorBuHH
import Derived.Test.YtdkipndepkblhaaGreatDoorBuBB
import Derived.Test.YtdkipndepkblhaaGreatDoorBuP
import Derived.Test.YtdkipndepkblhaaGreatDoorBuX
set_option linter.unusedSimpArgs false
set_option linter.unusedVariables false
namespace Go.Proofs.YtdkipndepkblhaaGreatDoor
open Go.RowKit Go.Bg Dg

set_option maxRecDepth 100000 in
set_option maxHeartbeats 2000000 in
theorem intNot_pos (d p b o : Nat) (N : Nat) (w : World) (h : NewInt w d p) (h1 : BigAt 151 w b o false N) (hne : b ≠ d) (L : Nat) (hL : L ≤ 300000) (hN : N < W64 ^ L) :
    Calls Tryz.prog 106 #[.pointer (some ⟨d, p, none⟩), .pointer (some ⟨b, o, none⟩)] w (IntIs d p true (N + 1) w) := by
  obtain ⟨a, n, c, p0, p1, hNN⟩ := h1.val
  have hn : n ≤ 300000 := Nat.le_trans (len_le W64_gt hNN.num.top hN) hL

  have HH := Lib.hid h
  have HN := Lib.hid hNN
  have k1 := h.c1
  clear h h1 hNN hN
  go_enter Tryz.func106, Tryz.ntmps106
  go_upto_region 5 with fail
  clear p0
  have hd0 : ∀ q, Below w.heap.size w (w.drewN q) := fun q => below_drewN (Below.refl w.heap.size w) q
  have hd1 : Below w.heap.size w w.drew := (Below.refl _ _).drew
  go_region_with
    (first | (go_at_call 135; (with_reducible refine (natOne_any _).mono ?_); rintro e w1 ⟨rfl, hw1⟩; have hb1 : Below w.heap.size w w1 := (by rw [hw1]; exact Below.alloc' hd1 _); have hone : BigN 151 w1 (some ⟨w.heap.size, 0, none⟩) 1 1 1 := (by rw [hw1]; exact natOne_is w.drew); have k1w := cell_keep k1 hb1; have p1w := cell_keep p1 hb1; clear hw1) | (go_at_call 124; (with_reducible refine (natAdd_nil a (some ⟨w.heap.size, 0, none⟩) n 1 c 1 N 1 _ ?_ hone (by omega) (by omega)).mono ?_); exact HN.out.keep hb1; rintro e w2 ⟨a2, n2, c2, rfl, hN2, hB2⟩; have hb2 := Below.then hb1 (Nat.le_refl _) hB2; have HF := Lib.hid (HH.out.made hb2 (s := true) hN2 (fun _ => Nat.succ_pos _)); have h' := HH.out.keep hb2; obtain ⟨u0, k0⟩ := h'.c0; have k1' := h'.c1; have f0 := h'.blk.frozen p; have f1 := h'.blk.frozen (p + 1); have k0' : ∀ v, (w2.setCell ⟨d, p + 1, none⟩ v).cell? ⟨d, p, none⟩ = some u0 := (fun v => by rw [World.cell?_setCell_other _ _ _ _ (fun hh => by injection hh with _ hh _; omega)]; exact k0); clear hN2 h' hone))
  all_goals
    clear p1 k1
    go_wp2
    go_ret
    exact HF.out

set_option maxRecDepth 100000 in
set_option maxHeartbeats 2000000 in
theorem intNot_neg (d p b o : Nat) (N : Nat) (w : World) (h : NewInt w d p) (h1 : BigAt 151 w b o true N) (hne : b ≠ d) (L : Nat) (hL : L ≤ 300000) (hN : N < W64 ^ L) :
    Calls Tryz.prog 106 #[.pointer (some ⟨d, p, none⟩), .pointer (some ⟨b, o, none⟩)] w (IntIs d p false (N - 1) w) := by
  obtain ⟨a, n, c, p0, p1, hNN⟩ := h1.val
  have hn : n ≤ 300000 := Nat.le_trans (len_le W64_gt hNN.num.top hN) hL
  have HPO := Lib.hid (show 1 ≤ N from h1.zero rfl)
  have HH := Lib.hid h
  have HN := Lib.hid hNN
  have k1 := h.c1
  clear h h1 hNN hN
  go_enter Tryz.func106, Tryz.ntmps106
  go_upto_region 2 with fail
  clear p0
  have hd0 : ∀ q, Below w.heap.size w (w.drewN q) := fun q => below_drewN (Below.refl w.heap.size w) q
  have hd1 : Below w.heap.size w w.drew := (Below.refl _ _).drew
  go_region_with
    (first | (go_at_call 135; (with_reducible refine (natOne_any _).mono ?_); rintro e w1 ⟨rfl, hw1⟩; have hb1 : Below w.heap.size w w1 := (by rw [hw1]; exact Below.alloc' hd1 _); have hone : BigN 151 w1 (some ⟨w.heap.size, 0, none⟩) 1 1 1 := (by rw [hw1]; exact natOne_is w.drew); have k1w := cell_keep k1 hb1; have p1w := cell_keep p1 hb1; clear hw1) | (go_at_call 126; (with_reducible refine (natSub_nil a (some ⟨w.heap.size, 0, none⟩) n 1 c 1 N 1 _ ?_ hone (by omega) HPO.out).mono ?_); exact HN.out.keep hb1; rintro e w2 ⟨a2, n2, c2, rfl, hN2, hB2⟩; have hb2 := Below.then hb1 (Nat.le_refl _) hB2; have HF := Lib.hid (HH.out.made hb2 (s := false) hN2 (fun h => by cases h)); have h' := HH.out.keep hb2; obtain ⟨u0, k0⟩ := h'.c0; have k1' := h'.c1; have f0 := h'.blk.frozen p; have f1 := h'.blk.frozen (p + 1); have k0' : ∀ v, (w2.setCell ⟨d, p + 1, none⟩ v).cell? ⟨d, p, none⟩ = some u0 := (fun v => by rw [World.cell?_setCell_other _ _ _ _ (fun hh => by injection hh with _ hh _; omega)]; exact k0); clear hN2 h' hone))
  all_goals
    clear p1 k1
    go_wp2
    go_ret
    exact HF.out

end Go.Proofs.YtdkipndepkblhaaGreatDoor
