/-
  Contracts and lemmas: Box3.
-/
import Derived.Test.YtgmienggfaahlaaGreatDoorK02
import Derived.Test.YtgmienggfaahlaaGreatDoorUQ
set_option linter.unusedSimpArgs false
set_option linter.unusedVariables false
set_option maxRecDepth 100000
set_option maxHeartbeats 8000000
namespace Go.Bg
open Go.RowKit
theorem ResBlk.kept {w w1 : World} {s : Nat} (h : ResBlk w s) (hb : Below w.heap.size w w1) : ResBlk w1 s := h.below h.lt hb
end Go.Bg
namespace Go.Proofs.YtgmienggfaahlaaGreatDoor
open Go.RowKit Go.Bg Dg
theorem below_set3 {w0 w : World} {B g : Nat} (hb : Below B w0 w) (hg : B ≤ g) (v0 v1 v2 : Value) :
    Below B w0 (((w.setCell ⟨g, 0, none⟩ v0).setCell ⟨g, 1, none⟩ v1).setCell ⟨g, 2, none⟩ v2) :=
  ((hb.setCell hg _).setCell hg _).setCell hg _
theorem rtAt_set3b {w1 : World} {g L : Nat} {s1 : Bool} {a1 : Option Addr} {n1 c1 : Nat} {a1' : Option Addr} {n1' c1' : Nat} {sg : Bool} {a : Option Addr} {n c : Nat} {a' : Option Addr} {n' c' : Nat} {r : Rt} (R : NoInt w1 g) (h : RtAt w1 sg a n c a' n' c' r L) :
    RtAt (((w1.setCell ⟨g, 0, none⟩ (.bool s1)).setCell ⟨g, 1, none⟩ (.slice a1 n1 c1)).setCell ⟨g, 2, none⟩ (.slice a1' n1' c1')) sg a n c a' n' c' r L := by
  have m1 : NoInt (w1.setCell ⟨g, 0, none⟩ (.bool s1)) g := R.setCell (by intro k n h; cases h)
  have m2 : NoInt ((w1.setCell ⟨g, 0, none⟩ (.bool s1)).setCell ⟨g, 1, none⟩ (.slice a1 n1 c1)) g := m1.setCell (by intro k n h; cases h)
  exact ⟨h.neg, ((h.num.setCell _ R).setCell _ m1).setCell _ m2, ((h.den.setCell _ R).setCell _ m1).setCell _ m2, h.numL, h.denL⟩
structure RBox (w0 W : World) (g : Nat) (s : Bool) (a : Option Addr) (n c : Nat) (a' : Option Addr) (n' c' : Nat) (r : Rt) (L : Nat) : Prop where
  below : Below w0.heap.size w0 W
  box : RtBlk W g s a n c a' n' c'
  val : RtAt W s a n c a' n' c' r L
theorem rbox_new {w0 w : World} (T : TypeId) {s : Bool} {a : Option Addr} {n c : Nat} {a' : Option Addr} {n' c' : Nat} {r : Rt} {L : Nat} (hb : Below w0.heap.size w0 w) (hr : RtAt w s a n c a' n' c' r L) :
    RBox w0 (w.alloc (.cells #[.bool s, .slice a n c, .slice a' n' c'] T)) w.heap.size s a n c a' n' c' r L :=
  ⟨Below.alloc' hb _, RtBlk.new _ _ rfl _ _ _ _ _ _ _, hr.keep ((Below.refl _ _).alloc (Nat.le_refl _) _)⟩
theorem rbox_at {w0 w : World} {g : Nat} {s : Bool} {a : Option Addr} {n c : Nat} {a' : Option Addr} {n' c' : Nat} {r : Rt} {L : Nat} (R : ResBlk w g) (hb : Below w0.heap.size w0 w) (hg : w0.heap.size ≤ g) (hr : RtAt w s a n c a' n' c' r L) :
    RBox w0 (((w.setCell ⟨g, 0, none⟩ (.bool s)).setCell ⟨g, 1, none⟩ (.slice a n c)).setCell ⟨g, 2, none⟩ (.slice a' n' c')) g s a n c a' n' c' r L :=
  ⟨below_set3 hb hg _ _ _, rtBlk_stored R _ _ _ _ _ _ _, rtAt_set3b R.noInt hr⟩
structure RBox2 (w0 W : World) (g h : Nat) (s : Bool) (a : Option Addr) (n c : Nat) (a' : Option Addr) (n' c' : Nat) (r : Rt) (t : Bool) (p : Option Addr) (m d : Nat) (p' : Option Addr) (m' d' : Nat) (q : Rt) (L : Nat) : Prop where
  below : Below w0.heap.size w0 W
  boxr : RtBlk W g s a n c a' n' c'
  boxq : RtBlk W h t p m d p' m' d'
  valr : RtAt W s a n c a' n' c' r L
  valq : RtAt W t p m d p' m' d' q L
section
variable {w0 w : World} {g h : Nat} {s : Bool} {a : Option Addr} {n c : Nat} {a' : Option Addr} {n' c' : Nat} {r : Rt} {t : Bool} {p : Option Addr} {m d : Nat} {p' : Option Addr} {m' d' : Nat} {q : Rt} {L : Nat}
theorem rbox2_q (hb : Below w0.heap.size w0 w) (hr : RtAt w s a n c a' n' c' r L) (hq : RtAt w t p m d p' m' d' q L) (hG : RtBlk w g s a n c a' n' c') (R : ResBlk w h) (hh : w0.heap.size ≤ h) (hne : g ≠ h) :
    RBox2 w0 (((w.setCell ⟨h, 0, none⟩ (.bool t)).setCell ⟨h, 1, none⟩ (.slice p m d)).setCell ⟨h, 2, none⟩ (.slice p' m' d')) g h s a n c a' n' c' r t p m d p' m' d' q L :=
  ⟨below_set3 hb hh _ _ _, rtBlk_set3 hG hne _ _ _, rtBlk_stored R _ _ _ _ _ _ _, rtAt_set3b R.noInt hr, rtAt_set3b R.noInt hq⟩
theorem resBlk_set3 (R : ResBlk w h) (hne : h ≠ g) (s1 : Bool) (a1 : Option Addr) (n1 c1 : Nat) (a1' : Option Addr) (n1' c1' : Nat) :
    ResBlk (((w.setCell ⟨g, 0, none⟩ (.bool s1)).setCell ⟨g, 1, none⟩ (.slice a1 n1 c1)).setCell ⟨g, 2, none⟩ (.slice a1' n1' c1')) h := by
  have e : ∀ (W : World) i j (v : Value), (W.setCell ⟨g, i, none⟩ v).cell? ⟨h, j, none⟩ = W.cell? ⟨h, j, none⟩ := fun W i j v => World.cell?_setCell_other _ _ _ _ (fun hh => by injection hh with hh _ _; exact hne hh.symm)
  have x1 := (R.noInt.setCell (t := g) (o := 0) (v := .bool s1) (by intro k n h; cases h)).setCell (t := g) (o := 1) (v := .slice a1 n1 c1) (by intro k n h; cases h)
  obtain ⟨⟨u0, r0⟩, ⟨u1, r1⟩, ⟨u2, r2⟩⟩ := R.cells
  refine ⟨⟨⟨u0, by rw [e, e, e]; exact r0⟩, ⟨u1, by rw [e, e, e]; exact r1⟩, ⟨u2, by rw [e, e, e]; exact r2⟩⟩, fun o => ?_, x1.setCell (by intro k n h; cases h), ?_⟩
  · have := R.frozen o
    simp [this]
  · have := R.lt
    simpa [World.setCell] using this
theorem rbox2_rq (hb : Below w0.heap.size w0 w) (hr : RtAt w s a n c a' n' c' r L) (hq : RtAt w t p m d p' m' d' q L) (G : ResBlk w g) (R : ResBlk w h) (hg : w0.heap.size ≤ g) (hh : w0.heap.size ≤ h) (hne : g ≠ h) :
    RBox2 w0 ((((((w.setCell ⟨g, 0, none⟩ (.bool s)).setCell ⟨g, 1, none⟩ (.slice a n c)).setCell ⟨g, 2, none⟩ (.slice a' n' c')).setCell ⟨h, 0, none⟩ (.bool t)).setCell ⟨h, 1, none⟩ (.slice p m d)).setCell ⟨h, 2, none⟩ (.slice p' m' d')) g h s a n c a' n' c' r t p m d p' m' d' q L :=
  rbox2_q (below_set3 hb hg _ _ _) (rtAt_set3b G.noInt hr) (rtAt_set3b G.noInt hq) (rtBlk_stored G _ _ _ _ _ _ _) (resBlk_set3 R (Ne.symm hne) _ _ _ _ _ _ _) hh hne
end
end Go.Proofs.YtgmienggfaahlaaGreatDoor
