/-
  Big numbers in memory: their words, their sign; what a call may turn. No program.
-/
import Derived.Test.YtdepmbpickonoaaGreatDoorKit
set_option linter.unusedSimpArgs false
set_option linter.unusedVariables false
namespace Go.Bg
open Go.RowKit Dg

/-- a block of cells of the type e, not frozen -/
def BlkAt (w : World) (g : Nat) (cur : Array Value) (e : TypeId) : Prop := w.heap[g]? = some (.cells cur e (0, 0))

theorem BlkAt.lt {w : World} {g : Nat} {cur : Array Value} {e : TypeId} (h : BlkAt w g cur e) : g < w.heap.size := (Array.getElem?_eq_some_iff.1 h).1
theorem BlkAt.cell {w : World} {g : Nat} {cur : Array Value} {e : TypeId} (h : BlkAt w g cur e) (i : Nat) : w.cell? ⟨g, i, none⟩ = cur[i]? := cell_of_row w g i cur e (0, 0) h
theorem BlkAt.frozen {w : World} {g : Nat} {cur : Array Value} {e : TypeId} (h : BlkAt w g cur e) (i : Nat) : w.frozen? ⟨g, i, none⟩ = false := by
  unfold BlkAt at h
  simp [World.frozen?, h]
theorem BlkAt.new (w : World) (cur : Array Value) (e : TypeId) : BlkAt (w.alloc (.cells cur e)) w.heap.size cur e := by
  show (w.heap.push _)[w.heap.size]? = _
  rw [Array.getElem?_push, if_pos rfl]
theorem BlkAt.set {w : World} {g : Nat} {cur : Array Value} {e : TypeId} (h : BlkAt w g cur e) (i : Nat) (v : Value) : BlkAt (w.setCell ⟨g, i, none⟩ v) g (cur.setIfInBounds i v) e := by
  unfold BlkAt at *
  simp [World.setCell, Array.getElem?_modify, h]

/-- what a call may turn: the blocks of S; all else that was there is as it was -/
structure Upd (S : Nat → Prop) (w w' : World) : Prop where
  os : w'.os = w.os
  tape : w'.tape = w.tape
  output : w'.output = w.output
  size : w.heap.size ≤ w'.heap.size
  block : ∀ k, k < w.heap.size → ¬ S k → w'.heap[k]? = w.heap[k]?

theorem Upd.refl (S : Nat → Prop) (w : World) : Upd S w w := ⟨rfl, rfl, rfl, Nat.le_refl _, fun _ _ _ => rfl⟩
theorem Upd.trans {S : Nat → Prop} {a b c : World} (h : Upd S a b) (k : Upd S b c) : Upd S a c :=
  ⟨k.os.trans h.os, k.tape.trans h.tape, k.output.trans h.output, Nat.le_trans h.size k.size, fun i hi hs => (k.block i (Nat.lt_of_lt_of_le hi h.size) hs).trans (h.block i hi hs)⟩
theorem Upd.mono {S S' : Nat → Prop} {w w' : World} (h : Upd S w w') (hs : ∀ k, k < w.heap.size → S k → S' k) : Upd S' w w' := ⟨h.os, h.tape, h.output, h.size, fun k hk hn => h.block k hk (fun x => hn (hs k hk x))⟩
theorem Upd.of_below {S : Nat → Prop} {w w' : World} (h : Below w.heap.size w w') : Upd S w w' := ⟨h.os, h.tape, h.output, h.size, fun k hk _ => h.block k hk⟩
theorem Upd.drew {S : Nat → Prop} {a w : World} (h : Upd S a w) : Upd S a w.drew := ⟨h.os, h.tape, h.output, h.size, h.block⟩
theorem Upd.alloc {S : Nat → Prop} {a w : World} (h : Upd S a w) (o : Obj) : Upd S a (w.alloc o) := h.trans (Upd.of_below ((Below.refl _ _).alloc (Nat.le_refl _) _))
theorem Upd.setCell {S : Nat → Prop} {a w : World} (h : Upd S a w) {p : Addr} (hp : S p.block) (u : Value) : Upd S a (w.setCell p u) :=
  ⟨h.os, h.tape, h.output, by simpa [World.setCell] using h.size, fun k hk hs => (Below.heap_setCell w p u k (fun e => hs (e ▸ hp))).trans (h.block k hk hs)⟩
theorem Upd.setNew {S : Nat → Prop} {a w : World} (h : Upd S a w) {p : Addr} (hp : a.heap.size ≤ p.block) (u : Value) : Upd S a (w.setCell p u) :=
  ⟨h.os, h.tape, h.output, by simpa [World.setCell] using h.size, fun k hk hs => (Below.heap_setCell w p u k (by omega)).trans (h.block k hk hs)⟩
theorem Upd.below {S : Nat → Prop} {B : Nat} {a w w' : World} (h : Upd S w w') (hb : Below B a w) (hB : B ≤ w.heap.size) (hS : ∀ k, k < w.heap.size → S k → B ≤ k) : Below B a w' :=
  hb.trans ⟨h.os, h.tape, h.output, h.size, fun k hk => h.block k (by omega) (fun s => by have := hS k (by omega) s; omega)⟩
theorem Upd.then {S : Nat → Prop} {a w w' : World} (h : Upd S a w) (hb : Below w.heap.size w w') : Upd S a w' := h.trans (Upd.of_below hb)
theorem Upd.cell {S : Nat → Prop} {w w' : World} (h : Upd S w w') {p : Addr} (hp : p.block < w.heap.size) (hs : ¬ S p.block) : w'.cell? p = w.cell? p := World.cell?_of_block (w := w) (h.block p.block hp hs)
theorem Upd.blk {S : Nat → Prop} {w w' : World} (h : Upd S w w') {g : Nat} {cur : Array Value} {e : TypeId} (hg : BlkAt w g cur e) (hs : ¬ S g) : BlkAt w' g cur e := by
  unfold BlkAt at *
  rw [h.block g (BlkAt.lt hg) hs]; exact hg
theorem BlkAt.keep {w w' : World} {g : Nat} {cur : Array Value} {e : TypeId} (hg : BlkAt w g cur e) (h : Below w.heap.size w w') : BlkAt w' g cur e :=
  Upd.blk (S := fun _ => False) (Upd.of_below h) hg (fun x => x)

/-- words in a block of their own; T is the words' type -/
def Buf (T : TypeId) (w : World) (a : Option Addr) (c : Nat) : Prop :=
  (a = none ∧ c = 0) ∨ ∃ g cur, a = some ⟨g, 0, none⟩ ∧ BlkAt w g cur T ∧ cur.size = c

/-- a slice that is the number N by its words, the top one not 0 -/
structure BigN (T : TypeId) (w : World) (a : Option Addr) (n c N : Nat) : Prop where
  num : NumAt .u64 W64 w a n c N
  buf : Buf T w a c

/-- a struct's block: not of words -/
def Strct (T : TypeId) (w : World) (b : Nat) : Prop := ∃ cur e, BlkAt w b cur e ∧ e ≠ T

theorem Strct.lt {T : TypeId} {w : World} {b : Nat} (h : Strct T w b) : b < w.heap.size := by
  obtain ⟨cur, e, h, _⟩ := h; exact h.lt
theorem Strct.frozen {T : TypeId} {w : World} {b : Nat} (h : Strct T w b) (i : Nat) : w.frozen? ⟨b, i, none⟩ = false := by
  obtain ⟨cur, e, h, _⟩ := h; exact h.frozen i
theorem Strct.keep {T : TypeId} {w w' : World} {b : Nat} (h : Strct T w b) (hb : Below w.heap.size w w') : Strct T w' b := by
  obtain ⟨cur, e, h, hne⟩ := h; exact ⟨cur, e, h.keep hb, hne⟩
theorem Strct.upd {T : TypeId} {w w' : World} {b : Nat} {S : Nat → Prop} (h : Strct T w b) (hu : Upd S w w') (hs : ¬ S b) : Strct T w' b := by
  obtain ⟨cur, e, h, hne⟩ := h; exact ⟨cur, e, hu.blk h hs, hne⟩
theorem Strct.set {T : TypeId} {w : World} {b d : Nat} (h : Strct T w b) (i : Nat) (v : Value) : Strct T (w.setCell ⟨d, i, none⟩ v) b := by
  obtain ⟨cur, e, h, hne⟩ := h
  by_cases hd : d = b
  · subst hd; exact ⟨_, e, h.set i v, hne⟩
  · refine ⟨cur, e, ?_, hne⟩
    unfold BlkAt at *
    rw [Below.heap_setCell _ _ _ _ (fun x => hd x.symm)]; exact h

theorem Buf.upd {T : TypeId} {w w' : World} {a : Option Addr} {c : Nat} {S : Nat → Prop} (h : Buf T w a c) (hu : Upd S w w') (hS : ∀ k, k < w.heap.size → S k → Strct T w k) : Buf T w' a c := by
  rcases h with h | ⟨g, cur, rfl, hg, hc⟩
  · exact .inl h
  · refine .inr ⟨g, cur, rfl, hu.blk hg (fun hs => ?_), hc⟩
    obtain ⟨cur2, e2, h2, hne⟩ := hS g hg.lt hs
    unfold BlkAt at hg h2
    rw [hg] at h2; injection h2 with h2; injection h2 with _ h2 _; exact hne h2.symm

theorem BigN.upd {T : TypeId} {w w' : World} {a : Option Addr} {n c N : Nat} {S : Nat → Prop} (h : BigN T w a n c N) (hu : Upd S w w') (hS : ∀ k, k < w.heap.size → S k → Strct T w k) : BigN T w' a n c N := by
  refine ⟨⟨h.num.lt, h.num.top, h.num.nc, h.num.cm, fun hn => ?_⟩, h.buf.upd hu hS⟩
  obtain ⟨b, off, rfl, hc⟩ := h.num.cells hn
  refine ⟨b, off, rfl, fun i hi => ?_⟩
  rcases h.buf with h' | ⟨g, cur, e, hg, _⟩
  · cases h'.1
  · cases e
    rw [hu.cell (p := ⟨b, 0 + i, none⟩) hg.lt]
    · exact hc i hi
    · intro hs
      obtain ⟨cur2, e2, h2, hne⟩ := hS b hg.lt hs
      unfold BlkAt at hg h2
      rw [hg] at h2; injection h2 with h2; injection h2 with _ h2 _; exact hne h2.symm
theorem BigN.keep {T : TypeId} {w w' : World} {a : Option Addr} {n c N : Nat} (h : BigN T w a n c N) (hb : Below w.heap.size w w') : BigN T w' a n c N :=
  h.upd (S := fun _ => False) (Upd.of_below hb) (fun _ _ x => x.elim)
theorem Upd.set1 (w : World) (b i : Nat) (v : Value) : Upd (· = b) w (w.setCell ⟨b, i, none⟩ v) := Upd.setCell (S := (· = b)) (Upd.refl _ _) (p := ⟨b, i, none⟩) rfl v
theorem BigN.set {T : TypeId} {w : World} {a : Option Addr} {n c N : Nat} (h : BigN T w a n c N) {b : Nat} (hb : Strct T w b) (i : Nat) (v : Value) : BigN T (w.setCell ⟨b, i, none⟩ v) a n c N :=
  h.upd (Upd.set1 w b i v) (fun k _ e => by subst e; exact hb)
theorem BigN.nil (T : TypeId) (w : World) : BigN T w none 0 0 0 := ⟨⟨by simp, .inl rfl, Nat.le_refl _, by simp [maxLen], fun h => by omega⟩, .inl ⟨rfl, rfl⟩⟩

/-- a big integer: its sign and its words, at a place of a struct's block -/
structure BigAt (T : TypeId) (w : World) (b o : Nat) (s : Bool) (N : Nat) : Prop where
  blk : Strct T w b
  val : ∃ a n c, w.cell? ⟨b, o, none⟩ = some (.bool s) ∧ w.cell? ⟨b, o + 1, none⟩ = some (.slice a n c) ∧ BigN T w a n c N
  zero : s = true → 0 < N

theorem BigAt.upd {T : TypeId} {w w' : World} {b o : Nat} {s : Bool} {N : Nat} {S : Nat → Prop} (h : BigAt T w b o s N) (hu : Upd S w w') (hs : ¬ S b) (hS : ∀ k, k < w.heap.size → S k → Strct T w k) : BigAt T w' b o s N := by
  obtain ⟨a, n, c, h0, h1, hN⟩ := h.val
  exact ⟨h.blk.upd hu hs, ⟨a, n, c, by rw [hu.cell (p := ⟨b, o, none⟩) h.blk.lt hs]; exact h0, by rw [hu.cell (p := ⟨b, o + 1, none⟩) h.blk.lt hs]; exact h1, hN.upd hu hS⟩, h.zero⟩
theorem BigAt.keep {T : TypeId} {w w' : World} {b o : Nat} {s : Bool} {N : Nat} (h : BigAt T w b o s N) (hb : Below w.heap.size w w') : BigAt T w' b o s N :=
  h.upd (S := fun _ => False) (Upd.of_below hb) (fun x => x) (fun _ _ x => x.elim)

/-- the number of a sign and a magnitude -/
def sg (s : Bool) (N : Nat) : Int := if s then -(N : Int) else N

theorem sg_inj {s t : Bool} {N M : Nat} (h : sg s N = sg t M) (hs : s = true → 0 < N) (ht : t = true → 0 < M) : s = t ∧ N = M := by
  cases s <;> cases t <;> simp [sg] at h hs ht <;> first | exact ⟨rfl, by omega⟩ | omega
end Go.Bg

namespace Go.Bg
open Go.RowKit Dg
/-- what a call on the big integer at (b, o) may turn: that one, and new memory -/
structure UpdI (T : TypeId) (b o : Nat) (w w' : World) : Prop where
  upd : Upd (· = b) w w'
  rest : ∀ i, i ≠ o → i ≠ o + 1 → w'.cell? ⟨b, i, none⟩ = w.cell? ⟨b, i, none⟩
  blk : Strct T w b → Strct T w' b

theorem UpdI.refl (T : TypeId) (b o : Nat) (w : World) : UpdI T b o w w := ⟨Upd.refl _ _, fun _ _ _ => rfl, id⟩
theorem UpdI.trans {T : TypeId} {b o : Nat} {w w1 w2 : World} (h : UpdI T b o w w1) (k : UpdI T b o w1 w2) : UpdI T b o w w2 :=
  ⟨h.upd.trans k.upd, fun i h1 h2 => (k.rest i h1 h2).trans (h.rest i h1 h2), fun x => k.blk (h.blk x)⟩
theorem UpdI.drew {T : TypeId} {b o : Nat} {w w1 : World} (h : UpdI T b o w w1) : UpdI T b o w w1.drew := ⟨h.upd.drew, h.rest, fun x => by obtain ⟨cur, e, hb, hne⟩ := h.blk x; exact ⟨cur, e, hb, hne⟩⟩
theorem UpdI.of_below {T : TypeId} {b o : Nat} {w w' : World} (h : Below w.heap.size w w') (hs : Strct T w b) : UpdI T b o w w' :=
  ⟨Upd.of_below h, fun i _ _ => h.cell (p := ⟨b, i, none⟩) hs.lt, fun x => x.keep h⟩
theorem UpdI.then {T : TypeId} {b o : Nat} {w w1 w2 : World} (h : UpdI T b o w w1) (hb : Below w1.heap.size w1 w2) (hs : Strct T w b) : UpdI T b o w w2 := h.trans (UpdI.of_below hb (h.blk hs))
theorem UpdI.set0 {T : TypeId} (w : World) (b o : Nat) (v : Value) : UpdI T b o w (w.setCell ⟨b, o, none⟩ v) :=
  ⟨Upd.set1 w b o v, fun i h1 _ => World.cell?_setCell_other _ _ _ _ (fun h => h1 (by injection h with _ h _; exact h.symm)), fun x => x.set _ _⟩
theorem UpdI.set1 {T : TypeId} (w : World) (b o : Nat) (v : Value) : UpdI T b o w (w.setCell ⟨b, o + 1, none⟩ v) :=
  ⟨Upd.set1 w b (o + 1) v, fun i _ h2 => World.cell?_setCell_other _ _ _ _ (fun h => h2 (by injection h with _ h _; exact h.symm)), fun x => x.set _ _⟩

theorem BigAt.other {T : TypeId} {w w' : World} {b o d p : Nat} {s : Bool} {N : Nat} (h : BigAt T w b o s N) (hs : Strct T w d) (hu : UpdI T d p w w') (hne : b ≠ d ∨ (o + 1 < p ∨ p + 1 < o)) : BigAt T w' b o s N := by
  obtain ⟨a, n, c, h0, h1, hN⟩ := h.val
  have hS : ∀ k, k < w.heap.size → (k = d) → Strct T w k := fun k _ e => e ▸ hs
  by_cases e : b = d
  · subst e
    have hne : o + 1 < p ∨ p + 1 < o := by rcases hne with h | h; exact absurd rfl h; exact h
    exact ⟨hu.blk h.blk, ⟨a, n, c, by rw [hu.rest _ (by omega) (by omega)]; exact h0, by rw [hu.rest _ (by omega) (by omega)]; exact h1, hN.upd hu.upd hS⟩, h.zero⟩
  · exact h.upd hu.upd e hS
theorem BigN.other {T : TypeId} {w w' : World} {d p : Nat} {a : Option Addr} {n c N : Nat} (h : BigN T w a n c N) (hs : Strct T w d) (hu : UpdI T d p w w') : BigN T w' a n c N :=
  h.upd hu.upd (fun k _ e => e ▸ hs)

/-- a number's two cells, both stored: the words first -/
theorem BigAt.stored {T : TypeId} {w : World} {b o : Nat} {a : Option Addr} {n c N : Nat} {s : Bool} (hb : Strct T w b) (h0 : ∃ u, w.cell? ⟨b, o, none⟩ = some u) (h1 : ∃ u, w.cell? ⟨b, o + 1, none⟩ = some u)
    (hN : BigN T w a n c N) (hz : s = true → 0 < N) : BigAt T ((w.setCell ⟨b, o + 1, none⟩ (.slice a n c)).setCell ⟨b, o, none⟩ (.bool s)) b o s N := by
  obtain ⟨u0, h0⟩ := h0
  obtain ⟨u1, h1⟩ := h1
  have e : ∀ (i j : Nat) (v : Value) (w : World), i ≠ j → (w.setCell ⟨b, i, none⟩ v).cell? ⟨b, j, none⟩ = w.cell? ⟨b, j, none⟩ := fun i j v w h => World.cell?_setCell_other _ _ _ _ (fun hh => h (by injection hh))
  refine ⟨(hb.set _ _).set _ _, ⟨a, n, c, ?_, ?_, (hN.set hb _ _).set (hb.set _ _) _ _⟩, hz⟩
  · refine World.cell?_setCell_same (u := u0) _ _ _ ?_
    rw [e _ _ _ _ (by omega)]; exact h0
  · rw [e _ _ _ _ (by omega)]
    exact World.cell?_setCell_same (u := u1) _ _ _ h1

/-- the first cell of a number, stored anew -/
theorem BigAt.signed {T : TypeId} {w : World} {b o : Nat} {N : Nat} {s t : Bool} (h : BigAt T w b o s N) (hz : t = true → 0 < N) : BigAt T (w.setCell ⟨b, o, none⟩ (.bool t)) b o t N := by
  obtain ⟨a, n, c, h0, h1, hN⟩ := h.val
  refine ⟨h.blk.set _ _, ⟨a, n, c, World.cell?_setCell_same (u := .bool s) _ _ _ h0, ?_, hN.set h.blk _ _⟩, hz⟩
  rw [World.cell?_setCell_other _ _ _ _ (fun hh => by injection hh with _ hh _; omega)]; exact h1

theorem tlen_congr {f g : Nat → Nat} : ∀ {n : Nat}, (∀ i, i < n → f i = g i) → tlen f n = tlen g n := by
  intro n
  induction n with
  | zero => intro _; rfl
  | succ n ih => intro h; simp only [tlen]; rw [h n (by omega), ih (fun i hi => h i (by omega))]

/-- a slice of raw words without those that are 0 at its end -/
theorem bigN_of_words {T : TypeId} {w : World} {a : Option Addr} {n c : Nat} {f : Nat → Nat} (hf : ∀ i, i < n → f i < W64) (hnc : n ≤ c) (hcm : c ≤ maxLen) (hc : Cells w a n (fun i => .int .u64 (f i : Nat))) (hb : Buf T w a c) :
    BigN T w a (tlen f n) c (val W64 f n) := by
  have hlt := val_lt (B := W64) hf
  have ht : tlen f n = tlen (dg W64 (val W64 f n)) n := tlen_congr (fun i hi => (dg_val hf i hi).symm)
  refine ⟨⟨by rw [ht]; exact tlen_lt hlt, by rw [ht]; exact tlen_top hlt, Nat.le_trans (tlen_le _ _) hnc, hcm, fun hn => ?_⟩, hb⟩
  have hn' := tlen_le f n
  obtain ⟨b, off, rfl, hcell⟩ := hc (by omega)
  refine ⟨b, off, rfl, fun i hi => ?_⟩
  rw [hcell i (by omega)]; show some (Value.int .u64 (f i : Nat)) = some (Value.int .u64 (dg W64 (val W64 f n) i : Nat)); rw [dg_val hf i (by omega)]

/-- an owned row of words -/
theorem buf_of_own {T : TypeId} {w : World} {B n : Nat} {v : Value} {xs : List Value} (h : w.ownsRow B T 1 v n xs) :
    ∃ a c, v = .slice a n c ∧ Buf T w a c ∧ n ≤ c ∧ c ≤ maxLen ∧ (a = none → c = 0) ∧ (∀ f : Nat → Value, (∀ i, i < n → xs[i]? = some (f i)) → Cells w a n f) := by
  rcases h.2 with ⟨rfl, rfl⟩ | ⟨g, cap, cur, rfl, hb, hg, hnc, hcm, hcs, htake⟩
  · exact ⟨none, 0, rfl, .inl ⟨rfl, rfl⟩, Nat.le_refl _, by simp [maxLen], fun _ => rfl, fun f _ => fun h => by omega⟩
  · refine ⟨_, cap, rfl, .inr ⟨g, cur, rfl, hg, by simpa using hcs⟩, hnc, hcm, by simp, fun f hf => fun hn => ⟨g, 0, rfl, fun i hi => ?_⟩⟩
    rw [cell_of_row w g _ cur T (0, 0) hg, ← hf i hi, ← htake]
    simp [hi]
end Go.Bg

namespace Go.Bg
open Go.RowKit Dg
theorem madeCells_one (z : Value) (m : Nat) : madeCells #[z] m = Array.replicate m z := by
  apply Array.ext
  · simp [madeCells]
  · intro i h1 h2
    simp [madeCells, Nat.mod_one]

/-- make of n words with room for m -/
theorem run_make_nat {P : Program} (t e : TypeId) (ht : P.underlying t = some (.slice e)) (hinfo : (P.info? e).map (fun i => (i.zero, i.size, i.bytes)) = some (some (.int .u64 0), 1, 8))
    (n m : Nat) (hn : n ≤ m) (hm : m ≤ 1000000000) (w : World) :
    (Instr.makeSlice t (.int .i64 (n : Int)) (.int .i64 (m : Int))).run P w = .ok (.slice (some ⟨w.heap.size, 0, none⟩) n m) (w.alloc (.cells (Array.replicate m (.int .u64 0)) e)) := by
  obtain ⟨i, hi, hzz⟩ := Option.map_eq_some_iff.1 hinfo
  simp only [Prod.mk.injEq] at hzz
  obtain ⟨hz, hs, hb⟩ := hzz
  have hr := run_make (P := P) w t e i _ ht hi hz .i64 .i64 n m (by omega) (by omega) (by rw [hb]; omega) (by omega)
  simp only [Int.toNat_natCast, hs, Nat.mul_one] at hr
  rw [hr, show (Value.int IntKind.u64 0).cells = #[.int .u64 0] from rfl, madeCells_one]

/-- a slice of n words of which nothing else knows, or none -/
def MadeIs (T : TypeId) (n : Nat) (w : World) (e : Ending) (w' : World) : Prop :=
  (n = 0 ∧ e = .returned (.slice none 0 0) ∧ w' = w) ∨
  ∃ c, 0 < n ∧ n ≤ c ∧ c ≤ n + 4 ∧ e = .returned (.slice (some ⟨w.heap.size, 0, none⟩) n c) ∧ w' = w.alloc (.cells (Array.replicate c (.int .u64 0)) T)
end Go.Bg
