/-
  More small lemmas on fractions in memory.
-/
import Derived.Test.YtdepmbpickonoaaGreatDoorVl
set_option linter.unusedSimpArgs false
set_option linter.unusedVariables false
namespace Go.Bg
open Go.RowKit Dg

theorem RtAt.mono {w : World} {s : Bool} {a : Option Addr} {n c : Nat} {a' : Option Addr} {n' c' : Nat} {r : Rt} {L L' : Nat} (h : RtAt w s a n c a' n' c' r L) (hL : L ≤ L') : RtAt w s a n c a' n' c' r L' :=
  ⟨h.neg, h.num, h.den, Nat.lt_of_lt_of_le h.numL (Nat.pow_le_pow_right (by decide) hL), Nat.lt_of_lt_of_le h.denL (Nat.pow_le_pow_right (by decide) hL)⟩

/-- two fractions' cells, whatever they hold, and whether both readings stand; if they do, they are r and q -/
def Reads2 (b : Bool) (r q : Rt) (L : Nat) (w : World) (e : Ending) (w' : World) : Prop :=
  ∃ s a n c a' n' c' t p m d p' m' d', e = .returned (.tuple #[.agg #[.bool s, .slice a n c, .slice a' n' c'], .agg #[.bool t, .slice p m d, .slice p' m' d'], .bool b]) ∧
    (b = true → RtAt w' s a n c a' n' c' r L ∧ RtAt w' t p m d p' m' d' q L) ∧ Below w.heap.size w w'

theorem RtAt.drew {w : World} {s : Bool} {a : Option Addr} {n c : Nat} {a' : Option Addr} {n' c' : Nat} {r : Rt} {L : Nat} (h : RtAt w s a n c a' n' c' r L) : RtAt w.drew s a n c a' n' c' r L :=
  h.keep (Below.refl _ _).drew

theorem below33 {B : Nat} {w w1 : World} (h : Below B w w1) {s1 s2 : Nat} (h1 : B ≤ s1) (h2 : B ≤ s2) (x0 x1 x2 y0 y1 y2 : Value) :
    Below B w ((((((w1.setCell ⟨s1, 0, none⟩ x0).setCell ⟨s1, 1, none⟩ x1).setCell ⟨s1, 2, none⟩ x2).setCell ⟨s2, 0, none⟩ y0).setCell ⟨s2, 1, none⟩ y1).setCell ⟨s2, 2, none⟩ y2).drew :=
  ((((((h.setCell h1 _).setCell h1 _).setCell h1 _).setCell h2 _).setCell h2 _).setCell h2 _).drew

/-- the stores of two fractions into two variables -/
theorem stored33 {w1 : World} {s1 s2 L : Nat} {sg : Bool} {a : Option Addr} {n c : Nat} {a' : Option Addr} {n' c' : Nat} {sg2 : Bool} {p : Option Addr} {m d : Nat} {p' : Option Addr} {m' d' : Nat} {r : Rt} (N1 : NoInt w1 s1) (N2 : NoInt w1 s2)
    {t : Bool} {x : Option Addr} {y z : Nat} {x' : Option Addr} {y' z' : Nat} (h : RtAt w1 t x y z x' y' z' r L) :
    RtAt ((((((w1.setCell ⟨s1, 0, none⟩ (.bool sg)).setCell ⟨s1, 1, none⟩ (.slice a n c)).setCell ⟨s1, 2, none⟩ (.slice a' n' c')).setCell ⟨s2, 0, none⟩ (.bool sg2)).setCell ⟨s2, 1, none⟩ (.slice p m d)).setCell ⟨s2, 2, none⟩ (.slice p' m' d')) t x y z x' y' z' r L := by
  have b0 : ∀ k n, Value.bool sg ≠ .int k n := fun k n h => by cases h
  have b1 : ∀ k n, Value.slice a n c ≠ .int k n := fun k n h => by cases h
  have NB : ∀ (w : World) (s t o : Nat) (b : Bool), NoInt w s → NoInt (w.setCell ⟨t, o, none⟩ (.bool b)) s := fun w s t o b h => h.setCell (by intro k n h; cases h)
  have NS : ∀ (w : World) (s t o : Nat) (a : Option Addr) (n c : Nat), NoInt w s → NoInt (w.setCell ⟨t, o, none⟩ (.slice a n c)) s := fun w s t o a n c h => h.setCell (by intro k n h; cases h)
  have x1 := NB w1 s1 s1 0 sg N1
  have x2 := NS _ s1 s1 1 a n c x1
  have y1 := NB w1 s2 s1 0 sg N2
  have y2 := NS _ s2 s1 1 a n c y1
  have y3 := NS _ s2 s1 2 a' n' c' y2
  have y4 := NB _ s2 s2 0 sg2 y3
  have y5 := NS _ s2 s2 1 p m d y4
  exact ⟨h.neg, (((((h.num.setCell _ N1).setCell _ x1).setCell _ x2).setCell _ y3).setCell _ y4).setCell _ y5, (((((h.den.setCell _ N1).setCell _ x1).setCell _ x2).setCell _ y3).setCell _ y4).setCell _ y5, h.numL, h.denL⟩
end Go.Bg

namespace Go.Bg
open Go.RowKit Dg
/-- a value's nine cells in its variable -/
structure Box9 (W : World) (b : Nat) (v : Vl) : Prop where
  c0 : W.cell? ⟨b, 0, none⟩ = some (.int .i64 v.kind)
  c1 : W.cell? ⟨b, 1, none⟩ = some (.bool v.truth)
  c2 : W.cell? ⟨b, 2, none⟩ = some (.string v.text)
  c3 : W.cell? ⟨b, 3, none⟩ = some (.bool v.neg)
  c4 : W.cell? ⟨b, 4, none⟩ = some (.slice v.wa v.wn v.wc)
  c5 : W.cell? ⟨b, 5, none⟩ = some (.slice v.da v.dn v.dc)
  c6 : W.cell? ⟨b, 6, none⟩ = some (.bool v.ineg)
  c7 : W.cell? ⟨b, 7, none⟩ = some (.slice v.ia v.inn v.ic)
  c8 : W.cell? ⟨b, 8, none⟩ = some (.slice v.ea v.en v.ec)
theorem Box9.keep {w w1 : World} {b : Nat} {v : Vl} (h : Box9 w b v) (hb : Below w.heap.size w w1) : Box9 w1 b v :=
  ⟨cell_keep h.c0 hb, cell_keep h.c1 hb, cell_keep h.c2 hb, cell_keep h.c3 hb, cell_keep h.c4 hb, cell_keep h.c5 hb, cell_keep h.c6 hb, cell_keep h.c7 hb, cell_keep h.c8 hb⟩
theorem Box9.alloc {w : World} {b : Nat} {v : Vl} (h : Box9 w b v) (o : Obj) : Box9 (w.alloc o) b v := h.keep ((Below.refl _ _).alloc (Nat.le_refl _) _)
theorem Box9.new (w : World) (v : Vl) (T : TypeId) {b : Nat} (hb : b = w.heap.size) : Box9 (w.alloc (.cells #[.int .i64 v.kind, .bool v.truth, .string v.text, .bool v.neg, .slice v.wa v.wn v.wc, .slice v.da v.dn v.dc, .bool v.ineg, .slice v.ia v.inn v.ic, .slice v.ea v.en v.ec] T)) b v :=
  ⟨alloc_new _ _ _ hb rfl, alloc_new _ _ _ hb rfl, alloc_new _ _ _ hb rfl, alloc_new _ _ _ hb rfl, alloc_new _ _ _ hb rfl, alloc_new _ _ _ hb rfl, alloc_new _ _ _ hb rfl, alloc_new _ _ _ hb rfl, alloc_new _ _ _ hb rfl⟩
theorem Box9.all {W : World} {b : Nat} {v : Vl} (h : Box9 W b v) : W.cell? ⟨b, 0, none⟩ = some (.int .i64 v.kind) ∧ W.cell? ⟨b, 1, none⟩ = some (.bool v.truth) ∧ W.cell? ⟨b, 2, none⟩ = some (.string v.text) ∧ W.cell? ⟨b, 3, none⟩ = some (.bool v.neg) ∧ W.cell? ⟨b, 4, none⟩ = some (.slice v.wa v.wn v.wc) ∧ W.cell? ⟨b, 5, none⟩ = some (.slice v.da v.dn v.dc) ∧ W.cell? ⟨b, 6, none⟩ = some (.bool v.ineg) ∧ W.cell? ⟨b, 7, none⟩ = some (.slice v.ia v.inn v.ic) ∧ W.cell? ⟨b, 8, none⟩ = some (.slice v.ea v.en v.ec) := ⟨h.c0, h.c1, h.c2, h.c3, h.c4, h.c5, h.c6, h.c7, h.c8⟩
theorem ResBlk.new (w : World) (T : TypeId) {b : Nat} (hb : b = w.heap.size) : ResBlk (w.alloc (.cells #[.bool false, .slice none 0 0, .slice none 0 0] T)) b := by subst hb; exact ResBlk.alloc w T
theorem ResBlk.alloc1 {w : World} {b : Nat} (h : ResBlk w b) (o : Obj) : ResBlk (w.alloc o) b := h.below h.lt ((Below.refl _ _).alloc (Nat.le_refl _) _)
theorem RtBlk.all {W : World} {b : Nat} {s : Bool} {a : Option Addr} {n c : Nat} {a' : Option Addr} {n' c' : Nat} (h : RtBlk W b s a n c a' n' c') : W.cell? ⟨b, 0, none⟩ = some (.bool s) ∧ W.cell? ⟨b, 1, none⟩ = some (.slice a n c) ∧ W.cell? ⟨b, 2, none⟩ = some (.slice a' n' c') := ⟨h.c0, h.c1, h.c2⟩
theorem RtBlk.new (w : World) (T : TypeId) {b : Nat} (hb : b = w.heap.size) (sg : Bool) (a : Option Addr) (n c : Nat) (a' : Option Addr) (n' c' : Nat) :
    RtBlk (w.alloc (.cells #[.bool sg, .slice a n c, .slice a' n' c'] T)) b sg a n c a' n' c' := by subst hb; exact rtBlk_new _ _ _ _ _ _ _ _ _
end Go.Bg
