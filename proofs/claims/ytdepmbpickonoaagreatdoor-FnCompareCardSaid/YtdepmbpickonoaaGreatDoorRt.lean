/-
  Fractions of the reference, plain: what its functions compute.
-/
import Derived.Test.YtdepmbpickonoaaGreatDoorKit
set_option linter.unusedSimpArgs false
set_option linter.unusedVariables false
namespace Go.Bg
open Go.RowKit Dg

structure Rt where
  neg : Bool
  num : Nat
  den : Nat

namespace Rt
def over (neg : Bool) (n d : Nat) : Rt := ⟨neg && decide (0 < n), n / Nat.gcd n d, d / Nat.gcd n d⟩
def whole (neg : Bool) (n : Nat) : Rt := ⟨neg && decide (0 < n), n, 1⟩
def negated (a : Rt) : Rt := ⟨!a.neg && decide (0 < a.num), a.num, a.den⟩
def plus (a b : Rt) : Rt :=
  if a.neg = b.neg then over a.neg (a.num * b.den + b.num * a.den) (a.den * b.den)
  else if b.num * a.den ≤ a.num * b.den then over a.neg (a.num * b.den - b.num * a.den) (a.den * b.den)
  else over b.neg (b.num * a.den - a.num * b.den) (a.den * b.den)
def minus (a b : Rt) : Rt := plus a (negated b)
def times (a b : Rt) : Rt := over (a.neg != b.neg) (a.num * b.num) (a.den * b.den)
def upside (a : Rt) : Rt := ⟨a.neg, a.den, a.num⟩
def signOf (a : Rt) : Int := if a.num = 0 then 0 else if a.neg then -1 else 1
end Rt

/-- the struct's three cells read as the fraction r, both numbers below 65536^L -/
structure RtAt (w : World) (s : Bool) (a : Option Addr) (n c : Nat) (a' : Option Addr) (n' c' : Nat) (r : Rt) (L : Nat) : Prop where
  neg : s = r.neg
  num : NatAt w a n c r.num
  den : NatAt w a' n' c' r.den
  numL : r.num < 65536 ^ L
  denL : r.den < 65536 ^ L

theorem RtAt.keep {w w' : World} {s : Bool} {a : Option Addr} {n c : Nat} {a' : Option Addr} {n' c' : Nat} {r : Rt} {L : Nat} (h : RtAt w s a n c a' n' c' r L) (hb : Below w.heap.size w w') : RtAt w' s a n c a' n' c' r L :=
  ⟨h.neg, h.num.keep hb, h.den.keep hb, h.numL, h.denL⟩
theorem RtAt.n_le {w : World} {s : Bool} {a : Option Addr} {n c : Nat} {a' : Option Addr} {n' c' : Nat} {r : Rt} {L : Nat} (h : RtAt w s a n c a' n' c' r L) : n ≤ L := h.num.len16 h.numL
theorem RtAt.d_le {w : World} {s : Bool} {a : Option Addr} {n c : Nat} {a' : Option Addr} {n' c' : Nat} {r : Rt} {L : Nat} (h : RtAt w s a n c a' n' c' r L) : n' ≤ L := h.den.len16 h.denL

/-- a result that is the fraction r -/
def GivesR (r : Rt) (L : Nat) (w : World) (e : Ending) (w' : World) : Prop :=
  ∃ s a n c a' n' c', e = .returned (.agg #[.bool s, .slice a n c, .slice a' n' c']) ∧ RtAt w' s a n c a' n' c' r L ∧ Below w.heap.size w w'

theorem natAt_pos_len {k : IntKind} {B : Nat} {w : World} {a : Option Addr} {n c N : Nat} (h : NumAt k B w a n c N) : decide (0 < n) = decide (0 < N) := by
  by_cases h0 : n = 0
  · subst h0
    have : N = 0 := by have := h.lt; simpa using this
    subst this; rfl
  · rcases h.top with h1 | h1
    · omega
    · rcases Nat.eq_zero_or_pos B with hB | hB
      · have hl := h.lt
        rw [hB, Nat.zero_pow (by omega)] at hl; omega
      · have : 0 < N := Nat.lt_of_lt_of_le (Nat.pow_pos hB) h1
        simp [this]; omega
end Go.Bg

namespace Go.Bg
open Go.RowKit Dg
/-- no number lies in this block -/
def NoInt (w : World) (s : Nat) : Prop := ∀ o k v, w.cell? ⟨s, o, none⟩ ≠ some (.int k v)

theorem cell?_setCell_ne {w : World} {s o b p : Nat} {v : Value} (h : b ≠ s) : (w.setCell ⟨s, o, none⟩ v).cell? ⟨b, p, none⟩ = w.cell? ⟨b, p, none⟩ :=
  World.cell?_of_block (w := w) (Below.heap_setCell w ⟨s, o, none⟩ v b h)

theorem NumAt.setCell {k : IntKind} {B : Nat} {w : World} {a : Option Addr} {n c N s o : Nat} (h : NumAt k B w a n c N) (v : Value) (hs : NoInt w s) : NumAt k B (w.setCell ⟨s, o, none⟩ v) a n c N := by
  refine ⟨h.lt, h.top, h.nc, h.cm, fun hn => ?_⟩
  obtain ⟨b, off, rfl, hc⟩ := h.cells hn
  refine ⟨b, off, rfl, fun i hi => ?_⟩
  have h1 := hc i hi
  rw [cell?_setCell_ne]
  · exact h1
  · intro e; subst e; exact hs _ _ _ h1

theorem NoInt.setCell {w : World} {s t o : Nat} {v : Value} (hs : NoInt w s) (hv : ∀ k n, v ≠ .int k n) : NoInt (w.setCell ⟨t, o, none⟩ v) s := by
  intro p k n h
  by_cases e : s = t
  · subst e
    by_cases e2 : p = o
    · subst e2
      cases hc : w.cell? ⟨s, p, none⟩ with
      | none =>
        have : (w.setCell ⟨s, p, none⟩ v).cell? ⟨s, p, none⟩ = none := by
          simp only [World.cell?, World.setCell, Array.getElem?_modify, if_true] at hc ⊢
          cases hh : w.heap[s]? with
          | none => rfl
          | some x =>
            rw [hh] at hc
            cases x with
            | cells c e f =>
              simp only [Option.isSome_none, Bool.false_eq_true, if_false, Option.map_some, Array.getElem?_eq_none_iff, Array.size_setIfInBounds] at hc ⊢
              exact hc
            | _ => rfl
        rw [this] at h; cases h
      | some u =>
        rw [World.cell?_setCell_same (u := u) _ _ _ hc] at h
        exact hv k n (Option.some.inj h)
    · rw [World.cell?_setCell_other _ _ _ _ (by intro hh; apply e2; simpa using hh.symm)] at h
      exact hs _ _ _ h
  · rw [cell?_setCell_ne e] at h
    exact hs _ _ _ h

/-- the three cells of a fraction's variable -/
structure ResBlk (w : World) (s : Nat) : Prop where
  cells : (∃ v, w.cell? ⟨s, 0, none⟩ = some v) ∧ (∃ v, w.cell? ⟨s, 1, none⟩ = some v) ∧ (∃ v, w.cell? ⟨s, 2, none⟩ = some v)
  frozen : ∀ o, w.frozen? ⟨s, o, none⟩ = false
  noInt : NoInt w s
  lt : s < w.heap.size
end Go.Bg

namespace Go.Bg
open Go.RowKit Dg
theorem ResBlk.alloc (wa : World) (T : TypeId) : ResBlk (wa.alloc (.cells #[.bool false, .slice none 0 0, .slice none 0 0] T)) wa.heap.size := by
  refine ⟨⟨⟨_, by simp; rfl⟩, ⟨_, by simp; rfl⟩, ⟨_, by simp; rfl⟩⟩, fun o => by simp, fun o k v h => ?_, by simp⟩
  rw [World.cell?_alloc_new] at h
  match o, h with
  | 0, h => simp at h
  | 1, h => simp at h
  | 2, h => simp at h
  | n + 3, h => simp at h

theorem ResBlk.below {w w1 : World} {s B : Nat} (h : ResBlk w s) (hs : s < B) (hb : Below B w w1) : ResBlk w1 s := by
  have hc : ∀ o, w1.cell? ⟨s, o, none⟩ = w.cell? ⟨s, o, none⟩ := fun o => hb.cell (p := ⟨s, o, none⟩) hs
  obtain ⟨⟨u0, h0⟩, ⟨u1, h1⟩, ⟨u2, h2⟩⟩ := h.cells
  exact ⟨⟨⟨u0, by rw [hc]; exact h0⟩, ⟨u1, by rw [hc]; exact h1⟩, ⟨u2, by rw [hc]; exact h2⟩⟩, fun o => by rw [hb.frozen (p := ⟨s, o, none⟩) hs]; exact h.frozen o,
    fun o k v hh => h.noInt o k v (by rw [← hc]; exact hh), Nat.lt_of_lt_of_le h.lt hb.size⟩

theorem givesR_end {w w1 : World} {s L : Nat} {sg : Bool} {a : Option Addr} {n c : Nat} {a' : Option Addr} {n' c' : Nat} {r : Rt} (R : ResBlk w1 s) (hs : w.heap.size ≤ s) (hb : Below w.heap.size w w1)
    (h : RtAt w1 sg a n c a' n' c' r L) :
    GivesR r L w (.returned (.agg #[.bool sg, .slice a n c, .slice a' n' c'])) (((w1.setCell ⟨s, 0, none⟩ (.bool sg)).setCell ⟨s, 1, none⟩ (.slice a n c)).setCell ⟨s, 2, none⟩ (.slice a' n' c')) := by
  have n1 : NoInt (w1.setCell ⟨s, 0, none⟩ (.bool sg)) s := R.noInt.setCell (by intro k n h; cases h)
  have n2 : NoInt ((w1.setCell ⟨s, 0, none⟩ (.bool sg)).setCell ⟨s, 1, none⟩ (.slice a n c)) s := n1.setCell (by intro k n h; cases h)
  exact ⟨_, _, _, _, _, _, _, rfl, ⟨h.neg, ((h.num.setCell _ R.noInt).setCell _ n1).setCell _ n2, ((h.den.setCell _ R.noInt).setCell _ n1).setCell _ n2, h.numL, h.denL⟩,
    ((hb.setCell (by exact hs) _).setCell (by exact hs) _).setCell (by exact hs) _⟩
end Go.Bg

namespace Go.Bg
open Go.RowKit
theorem cell_keep {w w1 : World} {p : Addr} {v : Value} (h : w.cell? p = some v) (hb : Below w.heap.size w w1) : w1.cell? p = some v := by
  rw [hb.cell (block_lt h)]; exact h
theorem alloc_keep (w : World) (o : Obj) {p : Addr} {v : Value} (h : w.cell? p = some v) : (w.alloc o).cell? p = some v := by
  rw [World.cell?_alloc_lt _ _ _ (block_lt h)]; exact h
theorem alloc_new (w : World) (c : Array Value) (T : TypeId) {i s : Nat} {v : Value} (hs : s = w.heap.size) (h : c[i]? = some v) : (w.alloc (.cells c T)).cell? ⟨s, i, none⟩ = some v := by
  subst hs; rw [World.cell?_alloc_new]; exact h
end Go.Bg

namespace Go.Bg
open Go.RowKit
theorem Below.alloc' {a w : World} (h : Below a.heap.size a w) (o : Obj) : Below a.heap.size a (w.alloc o) := h.alloc h.size o

/-- a block of three cells that holds a fraction, at its first cell -/
structure RtBlk (w : World) (g : Nat) (s : Bool) (a : Option Addr) (n c : Nat) (a' : Option Addr) (n' c' : Nat) : Prop where
  c0 : w.cell? ⟨g, 0, none⟩ = some (.bool s)
  c1 : w.cell? ⟨g, 1, none⟩ = some (.slice a n c)
  c2 : w.cell? ⟨g, 2, none⟩ = some (.slice a' n' c')

theorem RtBlk.keep {w w1 : World} {g : Nat} {s : Bool} {a : Option Addr} {n c : Nat} {a' : Option Addr} {n' c' : Nat} (h : RtBlk w g s a n c a' n' c') (hb : Below w.heap.size w w1) : RtBlk w1 g s a n c a' n' c' :=
  ⟨cell_keep h.c0 hb, cell_keep h.c1 hb, cell_keep h.c2 hb⟩

theorem RtBlk.lt {w : World} {g : Nat} {s : Bool} {a : Option Addr} {n c : Nat} {a' : Option Addr} {n' c' : Nat} (h : RtBlk w g s a n c a' n' c') : g < w.heap.size := block_lt h.c0

/-- the three stores of a fraction into a variable that holds none yet -/
theorem stored3 {w1 : World} {s L : Nat} {sg : Bool} {a : Option Addr} {n c : Nat} {a' : Option Addr} {n' c' : Nat} {r : Rt} (R : ResBlk w1 s) (h : RtAt w1 sg a n c a' n' c' r L) :
    RtAt (((w1.setCell ⟨s, 0, none⟩ (.bool sg)).setCell ⟨s, 1, none⟩ (.slice a n c)).setCell ⟨s, 2, none⟩ (.slice a' n' c')) sg a n c a' n' c' r L := by
  have n1 : NoInt (w1.setCell ⟨s, 0, none⟩ (.bool sg)) s := R.noInt.setCell (by intro k n h; cases h)
  have n2 : NoInt ((w1.setCell ⟨s, 0, none⟩ (.bool sg)).setCell ⟨s, 1, none⟩ (.slice a n c)) s := n1.setCell (by intro k n h; cases h)
  exact ⟨h.neg, ((h.num.setCell _ R.noInt).setCell _ n1).setCell _ n2, ((h.den.setCell _ R.noInt).setCell _ n1).setCell _ n2, h.numL, h.denL⟩

theorem rtBlk_stored {w1 : World} {s : Nat} (R : ResBlk w1 s) (sg : Bool) (a : Option Addr) (n c : Nat) (a' : Option Addr) (n' c' : Nat) :
    RtBlk (((w1.setCell ⟨s, 0, none⟩ (.bool sg)).setCell ⟨s, 1, none⟩ (.slice a n c)).setCell ⟨s, 2, none⟩ (.slice a' n' c')) s sg a n c a' n' c' := by
  obtain ⟨⟨u0, r0⟩, ⟨u1, r1⟩, ⟨u2, r2⟩⟩ := R.cells
  have e : ∀ (i j : Nat) (v : Value) (w : World), i ≠ j → (w.setCell ⟨s, i, none⟩ v).cell? ⟨s, j, none⟩ = w.cell? ⟨s, j, none⟩ := fun i j v w h => World.cell?_setCell_other _ _ _ _ (fun hh => h (by injection hh))
  refine ⟨?_, ?_, ?_⟩
  · rw [e _ _ _ _ (by decide), e _ _ _ _ (by decide)]; exact World.cell?_setCell_same (u := u0) _ _ _ r0
  · rw [e _ _ _ _ (by decide)]; refine World.cell?_setCell_same (u := u1) _ _ _ ?_; rw [e _ _ _ _ (by decide)]; exact r1
  · refine World.cell?_setCell_same (u := u2) _ _ _ ?_; rw [e _ _ _ _ (by decide), e _ _ _ _ (by decide)]; exact r2
theorem rtBlk_new (w : World) (T : TypeId) (sg : Bool) (a : Option Addr) (n c : Nat) (a' : Option Addr) (n' c' : Nat) :
    RtBlk (w.alloc (.cells #[.bool sg, .slice a n c, .slice a' n' c'] T)) w.heap.size sg a n c a' n' c' := ⟨alloc_new _ _ _ rfl rfl, alloc_new _ _ _ rfl rfl, alloc_new _ _ _ rfl rfl⟩
end Go.Bg
