/-
  The reference's Of64 of 1.
-/
import Derived.Test.YtdkipndepkblhaaGreatDoorBuK
import Derived.Test.YtdkipndepkblhaaGreatDoorBuN
import Derived.Test.YtdkipndepkblhaaGreatDoorBuW
set_option linter.unusedSimpArgs false
set_option linter.unusedVariables false
namespace Go.Proofs.YtdkipndepkblhaaGreatDoor
open Go.RowKit Go.Bg Dg

set_option maxRecDepth 100000 in
set_option maxHeartbeats 1000000 in
theorem of64_one (w : World) : Calls Tryz.prog 18 #[.int .i64 1] w (GivesR (rz 1) 4 w) := by
  obtain ⟨W0, hW0⟩ : ∃ W0, W0 = (w.alloc (.cells #[.bool false, .slice none 0 0, .slice none 0 0] 31)).alloc (.cells #[.int .u64 1] 44) := ⟨_, rfl⟩
  have HW := Lib.hid hW0
  have hb0 : Below w.heap.size w W0 := by rw [hW0]; exact Below.alloc' (Below.alloc' (Below.refl _ _) _) _
  have R : ResBlk W0 w.heap.size := by rw [hW0]; exact (ResBlk.new _ _ rfl).alloc1 _
  have hc : W0.cell? ⟨w.heap.size + 1, 0, none⟩ = some (.int .u64 1) := by rw [hW0]; exact alloc_new _ _ _ (by simp) rfl
  clear hW0
  go_enter Tryz.func18, Tryz.ntmps18
  go_wp2_with fail
  rw [← HW.out]
  have hcc : Cells W0 (some ⟨w.heap.size + 1, 0, none⟩) 1 (fun i => .int .u64 ((fun _ => 1 : Nat → Nat) i : Nat)) := fun _ => ⟨_, _, rfl, fun i hi => by
    have h0 : i = 0 := by omega
    rw [h0]; exact hc⟩
  refine (of_any (some ⟨w.heap.size + 1, 0, none⟩) 1 1 (fun _ => 1) _ hcc (fun _ _ => W64_gt) (by omega)).mono ?_
  rintro e w1 ⟨aO, nO, cO, rfl, hO, hB1⟩
  have hb1 := Below.then hb0 (Nat.le_refl _) hB1
  have R1 := R.below R.lt hB1
  go_wp2_with fail
  refine (small_one _).mono ?_
  rintro e w2 ⟨aS, nS, cS, rfl, hS, hB2⟩
  have hb2 := Below.then hb1 (Nat.le_refl _) hB2
  have R2 := R1.below R1.lt hB2
  have hV : RtAt w2 false aO nO cO aS nS cS (rz 1) 4 := ⟨rfl, (show NatAt w2 aO nO cO 1 from by simpa [val] using hO.keep hB2), hS, by decide, by decide⟩
  obtain ⟨⟨u0, r0⟩, ⟨u1, r1⟩, ⟨u2, r2⟩⟩ := (R2).cells; have f0 := (R2).frozen 0; have f1 := (R2).frozen 1; have f2 := (R2).frozen 2
  clear hc hcc hO hS
  go_wp2
  exact bodyPost_ret (v := .agg #[.bool false, .slice aO nO cO, .slice aS nS cS]) (by simp [results, Tryz.results18, go_sem, r0, r1, r2]) rfl (givesR_end R2 (Nat.le_refl _) hb2 hV)

theorem rz_pos {s : Bool} {z : Int} (h : s = (rz z).neg) (hs : s = true) : 1 ≤ (rz z).num := by
  rw [hs] at h
  have h' : decide (z < 0) = true := h.symm
  simp at h'
  show 1 ≤ z.natAbs
  omega
theorem isZ_of_whole {x : Vl} {K : Nat} (h : wholeB x K = true) : IsZ (sg x.neg (val W64 x.wf x.wn)) K x := by
  unfold wholeB at h
  simp only [Bool.and_eq_true, decide_eq_true_eq] at h
  have hs : x.neg = true → 0 < val W64 x.wf x.wn := by
    have h2 := h.2
    unfold intB isNumB at h2
    simp only [Bool.and_eq_true] at h2
    have h3 := h2.1.1.2.1
    intro hn
    rw [hn] at h3
    simpa using h3
  obtain ⟨e1, e2⟩ := sg_abs hs
  exact ⟨h.2, e1.symm, e2.symm, h.1⟩
end Go.Proofs.YtdkipndepkblhaaGreatDoor
