/-
  Contracts and lemmas: BoxS.
-/
import Derived.Test.YtececkbcinmmpaaGreatDoorK12
import Derived.Test.YtececkbcinmmpaaGreatDoorK37
set_option linter.unusedSimpArgs false
set_option linter.unusedVariables false
set_option maxRecDepth 100000
set_option maxHeartbeats 8000000
namespace Go.Proofs.YtececkbcinmmpaaGreatDoor
open Go.RowKit Go.Bg Dg
theorem box9_stored {w : World} {g : Nat} {T : TypeId} (hR : BlkAt w g #[.int .i64 0, .bool false, .string ⟨#[]⟩, .bool false, .slice none 0 0, .slice none 0 0, .bool false, .slice none 0 0, .slice none 0 0] T) (y : Vl) :
    Box9 (((((((((w.setCell ⟨g, 0, none⟩ (.int .i64 y.kind)).setCell ⟨g, 1, none⟩ (.bool y.truth)).setCell ⟨g, 2, none⟩ (.string y.text)).setCell ⟨g, 3, none⟩ (.bool y.neg)).setCell ⟨g, 4, none⟩ (.slice y.wa y.wn y.wc)).setCell ⟨g, 5, none⟩ (.slice y.da y.dn y.dc)).setCell ⟨g, 6, none⟩ (.bool y.ineg)).setCell ⟨g, 7, none⟩ (.slice y.ia y.inn y.ic)).setCell ⟨g, 8, none⟩ (.slice y.ea y.en y.ec)) g y := by
  have e : ∀ (i j : Nat) (v : Value) (w : World), i ≠ j → (w.setCell ⟨g, i, none⟩ v).cell? ⟨g, j, none⟩ = w.cell? ⟨g, j, none⟩ := fun i j v w h => World.cell?_setCell_other _ _ _ _ (fun hh => h (by injection hh))
  have c0 : w.cell? ⟨g, 0, none⟩ = some (.int .i64 0) := by rw [hR.cell]; rfl
  have c1 : w.cell? ⟨g, 1, none⟩ = some (.bool false) := by rw [hR.cell]; rfl
  have c2 : w.cell? ⟨g, 2, none⟩ = some (.string ⟨#[]⟩) := by rw [hR.cell]; rfl
  have c3 : w.cell? ⟨g, 3, none⟩ = some (.bool false) := by rw [hR.cell]; rfl
  have c4 : w.cell? ⟨g, 4, none⟩ = some (.slice none 0 0) := by rw [hR.cell]; rfl
  have c5 : w.cell? ⟨g, 5, none⟩ = some (.slice none 0 0) := by rw [hR.cell]; rfl
  have c6 : w.cell? ⟨g, 6, none⟩ = some (.bool false) := by rw [hR.cell]; rfl
  have c7 : w.cell? ⟨g, 7, none⟩ = some (.slice none 0 0) := by rw [hR.cell]; rfl
  have c8 : w.cell? ⟨g, 8, none⟩ = some (.slice none 0 0) := by rw [hR.cell]; rfl
  refine ⟨?_, ?_, ?_, ?_, ?_, ?_, ?_, ?_, ?_⟩
  · rw [e _ _ _ _ (by decide), e _ _ _ _ (by decide), e _ _ _ _ (by decide), e _ _ _ _ (by decide), e _ _ _ _ (by decide), e _ _ _ _ (by decide), e _ _ _ _ (by decide), e _ _ _ _ (by decide)]; refine World.cell?_setCell_same (u := .int .i64 0) _ _ _ ?_; exact c0
  · rw [e _ _ _ _ (by decide), e _ _ _ _ (by decide), e _ _ _ _ (by decide), e _ _ _ _ (by decide), e _ _ _ _ (by decide), e _ _ _ _ (by decide), e _ _ _ _ (by decide)]; refine World.cell?_setCell_same (u := .bool false) _ _ _ ?_; rw [e _ _ _ _ (by decide)]; exact c1
  · rw [e _ _ _ _ (by decide), e _ _ _ _ (by decide), e _ _ _ _ (by decide), e _ _ _ _ (by decide), e _ _ _ _ (by decide), e _ _ _ _ (by decide)]; refine World.cell?_setCell_same (u := .string ⟨#[]⟩) _ _ _ ?_; rw [e _ _ _ _ (by decide), e _ _ _ _ (by decide)]; exact c2
  · rw [e _ _ _ _ (by decide), e _ _ _ _ (by decide), e _ _ _ _ (by decide), e _ _ _ _ (by decide), e _ _ _ _ (by decide)]; refine World.cell?_setCell_same (u := .bool false) _ _ _ ?_; rw [e _ _ _ _ (by decide), e _ _ _ _ (by decide), e _ _ _ _ (by decide)]; exact c3
  · rw [e _ _ _ _ (by decide), e _ _ _ _ (by decide), e _ _ _ _ (by decide), e _ _ _ _ (by decide)]; refine World.cell?_setCell_same (u := .slice none 0 0) _ _ _ ?_; rw [e _ _ _ _ (by decide), e _ _ _ _ (by decide), e _ _ _ _ (by decide), e _ _ _ _ (by decide)]; exact c4
  · rw [e _ _ _ _ (by decide), e _ _ _ _ (by decide), e _ _ _ _ (by decide)]; refine World.cell?_setCell_same (u := .slice none 0 0) _ _ _ ?_; rw [e _ _ _ _ (by decide), e _ _ _ _ (by decide), e _ _ _ _ (by decide), e _ _ _ _ (by decide), e _ _ _ _ (by decide)]; exact c5
  · rw [e _ _ _ _ (by decide), e _ _ _ _ (by decide)]; refine World.cell?_setCell_same (u := .bool false) _ _ _ ?_; rw [e _ _ _ _ (by decide), e _ _ _ _ (by decide), e _ _ _ _ (by decide), e _ _ _ _ (by decide), e _ _ _ _ (by decide), e _ _ _ _ (by decide)]; exact c6
  · rw [e _ _ _ _ (by decide)]; refine World.cell?_setCell_same (u := .slice none 0 0) _ _ _ ?_; rw [e _ _ _ _ (by decide), e _ _ _ _ (by decide), e _ _ _ _ (by decide), e _ _ _ _ (by decide), e _ _ _ _ (by decide), e _ _ _ _ (by decide), e _ _ _ _ (by decide)]; exact c7
  · refine World.cell?_setCell_same (u := .slice none 0 0) _ _ _ ?_; rw [e _ _ _ _ (by decide), e _ _ _ _ (by decide), e _ _ _ _ (by decide), e _ _ _ _ (by decide), e _ _ _ _ (by decide), e _ _ _ _ (by decide), e _ _ _ _ (by decide), e _ _ _ _ (by decide)]; exact c8
theorem below_set9 {w0 w : World} {B g : Nat} (hb : Below B w0 w) (hg : B ≤ g) (v0 v1 v2 v3 v4 v5 v6 v7 v8 : Value) :
    Below B w0 (((((((((w.setCell ⟨g, 0, none⟩ v0).setCell ⟨g, 1, none⟩ v1).setCell ⟨g, 2, none⟩ v2).setCell ⟨g, 3, none⟩ v3).setCell ⟨g, 4, none⟩ v4).setCell ⟨g, 5, none⟩ v5).setCell ⟨g, 6, none⟩ v6).setCell ⟨g, 7, none⟩ v7).setCell ⟨g, 8, none⟩ v8) :=
  ((((((((hb.setCell hg _).setCell hg _).setCell hg _).setCell hg _).setCell hg _).setCell hg _).setCell hg _).setCell hg _).setCell hg _
structure Boxed (w0 W : World) (g : Nat) (y : Vl) : Prop where
  below : Below w0.heap.size w0 W
  val : VlAt W y
  box : Box9 W g y
theorem boxed_at {w0 w4 : World} {T : TypeId} {y : Vl} {g : Nat} (hR : BlkAt w4 g #[.int .i64 0, .bool false, .string ⟨#[]⟩, .bool false, .slice none 0 0, .slice none 0 0, .bool false, .slice none 0 0, .slice none 0 0] T) (hb4 : Below w0.heap.size w0 w4) (hs : w0.heap.size ≤ g) (hy4 : VlAt w4 y) :
    Boxed w0 (((((((((w4.setCell ⟨g, 0, none⟩ (.int .i64 y.kind)).setCell ⟨g, 1, none⟩ (.bool y.truth)).setCell ⟨g, 2, none⟩ (.string y.text)).setCell ⟨g, 3, none⟩ (.bool y.neg)).setCell ⟨g, 4, none⟩ (.slice y.wa y.wn y.wc)).setCell ⟨g, 5, none⟩ (.slice y.da y.dn y.dc)).setCell ⟨g, 6, none⟩ (.bool y.ineg)).setCell ⟨g, 7, none⟩ (.slice y.ia y.inn y.ic)).setCell ⟨g, 8, none⟩ (.slice y.ea y.en y.ec)) g y := by
  have hU : Upd (· = g) w4 (((((((((w4.setCell ⟨g, 0, none⟩ (.int .i64 y.kind)).setCell ⟨g, 1, none⟩ (.bool y.truth)).setCell ⟨g, 2, none⟩ (.string y.text)).setCell ⟨g, 3, none⟩ (.bool y.neg)).setCell ⟨g, 4, none⟩ (.slice y.wa y.wn y.wc)).setCell ⟨g, 5, none⟩ (.slice y.da y.dn y.dc)).setCell ⟨g, 6, none⟩ (.bool y.ineg)).setCell ⟨g, 7, none⟩ (.slice y.ia y.inn y.ic)).setCell ⟨g, 8, none⟩ (.slice y.ea y.en y.ec)) := by
    iterate 9 refine Upd.setCell ?_ (by exact rfl) _
    exact Upd.refl _ _
  have hS : ∀ k, k = g → NoU w4 k := fun k e => by subst e; exact noU_of_blk hR (noU_vals _)
  exact ⟨hU.below hb4 hb4.size (fun k _ e => by subst e; exact hs), ⟨hy4.ws.updU hU hS, hy4.ds.updU hU hS, hy4.is.updU hU hS, hy4.es.updU hU hS, hy4.text, hy4.kind⟩, box9_stored hR y⟩
end Go.Proofs.YtececkbcinmmpaaGreatDoor
