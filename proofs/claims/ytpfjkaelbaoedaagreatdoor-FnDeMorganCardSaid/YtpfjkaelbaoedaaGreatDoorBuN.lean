/-
  The thin package's functions of one number (printed by gen_impl1.py).
  FnNegative walked.
  What the laws of one number share.
-/
import Derived.Test.YtpfjkaelbaoedaaGreatDoorBuM
import Derived.Test.YtpfjkaelbaoedaaGreatDoorBuL
import Derived.Test.YtpfjkaelbaoedaaGreatDoorBuH
set_option linter.unusedSimpArgs false
set_option linter.unusedVariables false
namespace Go.Proofs.YtpfjkaelbaoedaaGreatDoor
open Go.RowKit Go.Bg Dg

end Go.Proofs.YtpfjkaelbaoedaaGreatDoor

set_option linter.unusedSimpArgs false
set_option linter.unusedVariables false
namespace Go.Proofs.YtpfjkaelbaoedaaGreatDoor
open Go.RowKit Go.Bg Dg

theorem isZ_same {z : Int} {L : Nat} {y : Vl} {r : Rt} (h : IsZ z L y) (hr : r = rz z) : (intB y && sameB (Rt.whole y.neg (val W64 y.wf y.wn)) r) = true := by
  obtain ⟨h1, h2, h3, _⟩ := h
  rw [h1, h2, h3, whole_abs, hr, sameB_refl]; rfl
theorem wholeB_parts {x : Vl} {k : Nat} (h : wholeB x k = true) : x.kind = 3 ∧ x.wn ≤ k := by
  unfold wholeB intB at h
  simp only [Bool.and_eq_true, decide_eq_true_eq] at h
  obtain ⟨nX, ⟨⟨⟨kX, -⟩, -⟩, -⟩⟩ := h
  exact ⟨kX, nX⟩

end Go.Proofs.YtpfjkaelbaoedaaGreatDoor

set_option linter.unusedSimpArgs false
set_option linter.unusedVariables false
namespace Go.Bg
open Go.RowKit Dg
theorem Box9.setOther {w : World} {b s : Nat} {v : Vl} (h : Box9 w b v) (hne : b ≠ s) (i : Nat) (u : Value) : Box9 (w.setCell ⟨s, i, none⟩ u) b v := by
  have e : ∀ j, (w.setCell ⟨s, i, none⟩ u).cell? ⟨b, j, none⟩ = w.cell? ⟨b, j, none⟩ := fun j => cell?_setCell_ne hne
  exact ⟨by rw [e]; exact h.c0, by rw [e]; exact h.c1, by rw [e]; exact h.c2, by rw [e]; exact h.c3, by rw [e]; exact h.c4, by rw [e]; exact h.c5, by rw [e]; exact h.c6, by rw [e]; exact h.c7, by rw [e]; exact h.c8⟩
theorem resBlk_new (w : World) (T : TypeId) (s : Bool) (a : Option Addr) (n c : Nat) (a' : Option Addr) (n' c' : Nat) : ResBlk (w.alloc (.cells #[.bool s, .slice a n c, .slice a' n' c'] T)) w.heap.size := by
  refine ⟨⟨⟨_, by simp; rfl⟩, ⟨_, by simp; rfl⟩, ⟨_, by simp; rfl⟩⟩, fun o => by simp, fun o k v h => ?_, by simp⟩
  rw [World.cell?_alloc_new] at h
  match o, h with
  | 0, h => simp at h
  | 1, h => simp at h
  | 2, h => simp at h
  | n + 3, h => simp at h
end Go.Bg

namespace Go.Proofs.YtpfjkaelbaoedaaGreatDoor
open Go.RowKit Go.Bg Dg

theorem rz_zero : rz 0 = ⟨false, 0, 1⟩ := rfl
theorem of64_rz (w : World) : Calls Tryz.prog 23 #[.int .i64 0] w (GivesR (rz 0) 4 w) := of64_zero w

theorem isC_same {r q : Rt} {L : Nat} {y : Vl} (h : IsC r q L y) : (pairB y && sameB (vrt y) r && sameB (virt y) q) = true := by
  obtain ⟨h1, h2, h3, _⟩ := h
  rw [h1, h2, h3, sameB_refl, sameB_refl]; rfl
theorem isQ_same {r : Rt} {L : Nat} {y : Vl} (h : IsQ r L y) : (ratB y && sameB (vrt y) r) = true := by
  obtain ⟨h1, h2, _⟩ := h
  rw [h1, h2, sameB_refl]; rfl
theorem isN_same {r : Rt} {L : Nat} {y : Vl} (h : IsN r L y) : (intB y && sameB (Rt.whole y.neg (val W64 y.wf y.wn)) r || ratB y && sameB (vrt y) r) = true := by
  rcases h with ⟨z, rfl, h⟩ | h
  · rw [isZ_same h rfl, Bool.true_or]
  · rw [isQ_same h, Bool.or_true]
theorem IsN.lens {r : Rt} {L : Nat} {y : Vl} (h : IsN r L y) : y.wn ≤ L ∧ y.dn ≤ 1000 ∨ True := .inr trivial
theorem intB_dn {y : Vl} (h : intB y = true) : y.dn = 0 := by
  unfold intB at h
  simp only [Bool.and_eq_true, decide_eq_true_eq] at h
  exact h.1.2
theorem isZ_len {z : Int} {L : Nat} {y : Vl} (h : IsZ z L y) : y.wn ≤ L ∧ y.dn ≤ L := ⟨h.2.2.2, by rw [intB_dn h.1]; omega⟩
theorem isN_len {r : Rt} {L : Nat} {y : Vl} (h : IsN r L y) : y.wn ≤ L ∧ y.dn ≤ L := by
  rcases h with ⟨z, _, h⟩ | h
  · exact isZ_len h
  · exact h.2.2

/-- a whole number that the reference reads is made as that number -/
theorem numV_whole {x : Vl} {k : Nat} (h : wholeB x k = true) (hk : k ≤ 63) : NumV x (Rt.whole x.neg (val W64 x.wf x.wn)) := by
  obtain ⟨h1, h2⟩ := wholeB_parts h
  have h3 : intB x = true := by
    unfold wholeB at h
    simp only [Bool.and_eq_true] at h
    exact h.2
  refine ⟨.inl ⟨h1, whole_rz _ _⟩, by omega, by rw [intB_dn h3]; omega, by rw [whole_rz]; exact rok_rz _⟩
theorem fracB_parts {s : Bool} {f : Nat → Nat} {n : Nat} {f' : Nat → Nat} {n' : Nat} (h : fracB s f n f' n' = true) :
    ROk (frt s f n f' n') ∧ s = (s && decide (0 < val W64 f n)) := by
  unfold fracB isNumB at h
  simp only [Bool.and_eq_true, decide_eq_true_eq, beq_iff_eq] at h
  obtain ⟨⟨⟨h1, h2, h3⟩, h4⟩, h5⟩ := h
  refine ⟨⟨h1, fun hs => ?_, h5⟩, h2⟩
  have hs : s = true := hs
  rw [hs] at h2
  show 0 < val W64 f n
  simpa using h2.symm
theorem lratB_parts {x : Vl} {k : Nat} (h : lratB x k = true) : x.kind = 4 ∧ x.wn ≤ k ∧ x.dn ≤ k ∧ fracB x.neg x.wf x.wn x.df x.dn = true := by
  unfold lratB ratB at h
  simp only [Bool.and_eq_true, decide_eq_true_eq] at h
  exact ⟨h.2.1.1, h.1.1, h.1.2, h.2.2⟩
/-- a fraction that the reference reads is made as that fraction -/
theorem numV_rat {x : Vl} {k : Nat} (h : lratB x k = true) (hk : k ≤ 63) : NumV x (vrt x) := by
  obtain ⟨h1, h2, h3, h4⟩ := lratB_parts h
  obtain ⟨h5, h6⟩ := fracB_parts h4
  refine ⟨.inr ⟨h1, h5.den, ?_⟩, by omega, by omega, h5⟩
  unfold vrt mrt frt
  rw [← h6]
end Go.Proofs.YtpfjkaelbaoedaaGreatDoor
