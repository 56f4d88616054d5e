/-
  Contracts and lemmas: BigA Rt Vl BigB BigC.
-/
import Derived.Test.YtgmienggfaahlaaGreatDoorK00
import Derived.Deep.RegionHeld3
import Derived.Deep.DeepCutAuto
import Derived.Lib.Builder
set_option linter.unusedSimpArgs false
set_option linter.unusedVariables false
set_option maxRecDepth 100000
set_option maxHeartbeats 8000000
namespace Go.Bg
open Go.RowKit Dg
def BlkAt (w : World) (g : Nat) (cur : Array Value) (e : TypeId) : Prop := w.heap[g]? = some (.cells cur e (0, 0))
theorem BlkAt.lt {w : World} {g : Nat} {cur : Array Value} {e : TypeId} (h : BlkAt w g cur e) : g < w.heap.size := (Array.getElem?_eq_some_iff.1 h).1
theorem BlkAt.cell {w : World} {g : Nat} {cur : Array Value} {e : TypeId} (h : BlkAt w g cur e) (i : Nat) : w.cell? ⟨g, i, none⟩ = cur[i]? := cell_of_row w g i cur e (0, 0) h
theorem BlkAt.frozen {w : World} {g : Nat} {cur : Array Value} {e : TypeId} (h : BlkAt w g cur e) (i : Nat) : w.frozen? ⟨g, i, none⟩ = false := by
  unfold BlkAt at h
  simp [World.frozen?, h]
theorem BlkAt.new (w : World) (cur : Array Value) (e : TypeId) : BlkAt (w.alloc (.cells cur e)) w.heap.size cur e := by
  show (w.heap.push _)[w.heap.size]? = _
  rw [Array.getElem?_push, if_pos rfl]
theorem BlkAt.set {w : World} {g : Nat} {cur : Array Value} {e : TypeId} (h : BlkAt w g cur e) (i : Nat) (v : Value) : BlkAt (w.setCell ⟨g, i, none⟩ v) g (cur.setIfInBounds i v) e := by
  unfold BlkAt at *
  simp [World.setCell, Array.getElem?_modify, h]
structure Upd (S : Nat → Prop) (w w' : World) : Prop where
  os : w'.os = w.os
  tape : w'.tape = w.tape
  output : w'.output = w.output
  size : w.heap.size ≤ w'.heap.size
  block : ∀ k, k < w.heap.size → ¬ S k → w'.heap[k]? = w.heap[k]?
theorem Upd.refl (S : Nat → Prop) (w : World) : Upd S w w := ⟨rfl, rfl, rfl, Nat.le_refl _, fun _ _ _ => rfl⟩
theorem Upd.trans {S : Nat → Prop} {a b c : World} (h : Upd S a b) (k : Upd S b c) : Upd S a c :=
  ⟨k.os.trans h.os, k.tape.trans h.tape, k.output.trans h.output, Nat.le_trans h.size k.size, fun i hi hs => (k.block i (Nat.lt_of_lt_of_le hi h.size) hs).trans (h.block i hi hs)⟩
theorem Upd.mono {S S' : Nat → Prop} {w w' : World} (h : Upd S w w') (hs : ∀ k, k < w.heap.size → S k → S' k) : Upd S' w w' := ⟨h.os, h.tape, h.output, h.size, fun k hk hn => h.block k hk (fun x => hn (hs k hk x))⟩
theorem Upd.of_below {S : Nat → Prop} {w w' : World} (h : Below w.heap.size w w') : Upd S w w' := ⟨h.os, h.tape, h.output, h.size, fun k hk _ => h.block k hk⟩
theorem Upd.drew {S : Nat → Prop} {a w : World} (h : Upd S a w) : Upd S a w.drew := ⟨h.os, h.tape, h.output, h.size, h.block⟩
theorem Upd.alloc {S : Nat → Prop} {a w : World} (h : Upd S a w) (o : Obj) : Upd S a (w.alloc o) := h.trans (Upd.of_below ((Below.refl _ _).alloc (Nat.le_refl _) _))
theorem Upd.setCell {S : Nat → Prop} {a w : World} (h : Upd S a w) {p : Addr} (hp : S p.block) (u : Value) : Upd S a (w.setCell p u) :=
  ⟨h.os, h.tape, h.output, by simpa [World.setCell] using h.size, fun k hk hs => (Below.heap_setCell w p u k (fun e => hs (e ▸ hp))).trans (h.block k hk hs)⟩
theorem Upd.setNew {S : Nat → Prop} {a w : World} (h : Upd S a w) {p : Addr} (hp : a.heap.size ≤ p.block) (u : Value) : Upd S a (w.setCell p u) :=
  ⟨h.os, h.tape, h.output, by simpa [World.setCell] using h.size, fun k hk hs => (Below.heap_setCell w p u k (by omega)).trans (h.block k hk hs)⟩
theorem Upd.below {S : Nat → Prop} {B : Nat} {a w w' : World} (h : Upd S w w') (hb : Below B a w) (hB : B ≤ w.heap.size) (hS : ∀ k, k < w.heap.size → S k → B ≤ k) : Below B a w' :=
  hb.trans ⟨h.os, h.tape, h.output, h.size, fun k hk => h.block k (by omega) (fun s => by have := hS k (by omega) s; omega)⟩
theorem Upd.then {S : Nat → Prop} {a w w' : World} (h : Upd S a w) (hb : Below w.heap.size w w') : Upd S a w' := h.trans (Upd.of_below hb)
theorem Upd.cell {S : Nat → Prop} {w w' : World} (h : Upd S w w') {p : Addr} (hp : p.block < w.heap.size) (hs : ¬ S p.block) : w'.cell? p = w.cell? p := World.cell?_of_block (w := w) (h.block p.block hp hs)
theorem Upd.blk {S : Nat → Prop} {w w' : World} (h : Upd S w w') {g : Nat} {cur : Array Value} {e : TypeId} (hg : BlkAt w g cur e) (hs : ¬ S g) : BlkAt w' g cur e := by
  unfold BlkAt at *
  rw [h.block g (BlkAt.lt hg) hs]; exact hg
theorem BlkAt.keep {w w' : World} {g : Nat} {cur : Array Value} {e : TypeId} (hg : BlkAt w g cur e) (h : Below w.heap.size w w') : BlkAt w' g cur e :=
  Upd.blk (S := fun _ => False) (Upd.of_below h) hg (fun x => x)
def Buf (T : TypeId) (w : World) (a : Option Addr) (c : Nat) : Prop :=
  (a = none ∧ c = 0) ∨ ∃ g cur, a = some ⟨g, 0, none⟩ ∧ BlkAt w g cur T ∧ cur.size = c
structure BigN (T : TypeId) (w : World) (a : Option Addr) (n c N : Nat) : Prop where
  num : NumAt .u64 W64 w a n c N
  buf : Buf T w a c
def Strct (T : TypeId) (w : World) (b : Nat) : Prop := ∃ cur e, BlkAt w b cur e ∧ e ≠ T
theorem Strct.lt {T : TypeId} {w : World} {b : Nat} (h : Strct T w b) : b < w.heap.size := by
  obtain ⟨cur, e, h, _⟩ := h; exact h.lt
theorem Strct.frozen {T : TypeId} {w : World} {b : Nat} (h : Strct T w b) (i : Nat) : w.frozen? ⟨b, i, none⟩ = false := by
  obtain ⟨cur, e, h, _⟩ := h; exact h.frozen i
theorem Strct.keep {T : TypeId} {w w' : World} {b : Nat} (h : Strct T w b) (hb : Below w.heap.size w w') : Strct T w' b := by
  obtain ⟨cur, e, h, hne⟩ := h; exact ⟨cur, e, h.keep hb, hne⟩
theorem Strct.upd {T : TypeId} {w w' : World} {b : Nat} {S : Nat → Prop} (h : Strct T w b) (hu : Upd S w w') (hs : ¬ S b) : Strct T w' b := by
  obtain ⟨cur, e, h, hne⟩ := h; exact ⟨cur, e, hu.blk h hs, hne⟩
theorem Strct.set {T : TypeId} {w : World} {b d : Nat} (h : Strct T w b) (i : Nat) (v : Value) : Strct T (w.setCell ⟨d, i, none⟩ v) b := by
  obtain ⟨cur, e, h, hne⟩ := h
  by_cases hd : d = b
  · subst hd; exact ⟨_, e, h.set i v, hne⟩
  · refine ⟨cur, e, ?_, hne⟩
    unfold BlkAt at *
    rw [Below.heap_setCell _ _ _ _ (fun x => hd x.symm)]; exact h
theorem Buf.upd {T : TypeId} {w w' : World} {a : Option Addr} {c : Nat} {S : Nat → Prop} (h : Buf T w a c) (hu : Upd S w w') (hS : ∀ k, k < w.heap.size → S k → Strct T w k) : Buf T w' a c := by
  rcases h with h | ⟨g, cur, rfl, hg, hc⟩
  · exact .inl h
  · refine .inr ⟨g, cur, rfl, hu.blk hg (fun hs => ?_), hc⟩
    obtain ⟨cur2, e2, h2, hne⟩ := hS g hg.lt hs
    unfold BlkAt at hg h2
    rw [hg] at h2; injection h2 with h2; injection h2 with _ h2 _; exact hne h2.symm
theorem BigN.upd {T : TypeId} {w w' : World} {a : Option Addr} {n c N : Nat} {S : Nat → Prop} (h : BigN T w a n c N) (hu : Upd S w w') (hS : ∀ k, k < w.heap.size → S k → Strct T w k) : BigN T w' a n c N := by
  refine ⟨⟨h.num.lt, h.num.top, h.num.nc, h.num.cm, fun hn => ?_⟩, h.buf.upd hu hS⟩
  obtain ⟨b, off, rfl, hc⟩ := h.num.cells hn
  refine ⟨b, off, rfl, fun i hi => ?_⟩
  rcases h.buf with h' | ⟨g, cur, e, hg, _⟩
  · cases h'.1
  · cases e
    rw [hu.cell (p := ⟨b, 0 + i, none⟩) hg.lt]
    · exact hc i hi
    · intro hs
      obtain ⟨cur2, e2, h2, hne⟩ := hS b hg.lt hs
      unfold BlkAt at hg h2
      rw [hg] at h2; injection h2 with h2; injection h2 with _ h2 _; exact hne h2.symm
theorem BigN.keep {T : TypeId} {w w' : World} {a : Option Addr} {n c N : Nat} (h : BigN T w a n c N) (hb : Below w.heap.size w w') : BigN T w' a n c N :=
  h.upd (S := fun _ => False) (Upd.of_below hb) (fun _ _ x => x.elim)
theorem Upd.set1 (w : World) (b i : Nat) (v : Value) : Upd (· = b) w (w.setCell ⟨b, i, none⟩ v) := Upd.setCell (S := (· = b)) (Upd.refl _ _) (p := ⟨b, i, none⟩) rfl v
theorem BigN.set {T : TypeId} {w : World} {a : Option Addr} {n c N : Nat} (h : BigN T w a n c N) {b : Nat} (hb : Strct T w b) (i : Nat) (v : Value) : BigN T (w.setCell ⟨b, i, none⟩ v) a n c N :=
  h.upd (Upd.set1 w b i v) (fun k _ e => by subst e; exact hb)
theorem BigN.nil (T : TypeId) (w : World) : BigN T w none 0 0 0 := ⟨⟨by simp, .inl rfl, Nat.le_refl _, by simp [maxLen], fun h => by omega⟩, .inl ⟨rfl, rfl⟩⟩
structure BigAt (T : TypeId) (w : World) (b o : Nat) (s : Bool) (N : Nat) : Prop where
  blk : Strct T w b
  val : ∃ a n c, w.cell? ⟨b, o, none⟩ = some (.bool s) ∧ w.cell? ⟨b, o + 1, none⟩ = some (.slice a n c) ∧ BigN T w a n c N
  zero : s = true → 0 < N
theorem BigAt.upd {T : TypeId} {w w' : World} {b o : Nat} {s : Bool} {N : Nat} {S : Nat → Prop} (h : BigAt T w b o s N) (hu : Upd S w w') (hs : ¬ S b) (hS : ∀ k, k < w.heap.size → S k → Strct T w k) : BigAt T w' b o s N := by
  obtain ⟨a, n, c, h0, h1, hN⟩ := h.val
  exact ⟨h.blk.upd hu hs, ⟨a, n, c, by rw [hu.cell (p := ⟨b, o, none⟩) h.blk.lt hs]; exact h0, by rw [hu.cell (p := ⟨b, o + 1, none⟩) h.blk.lt hs]; exact h1, hN.upd hu hS⟩, h.zero⟩
theorem BigAt.keep {T : TypeId} {w w' : World} {b o : Nat} {s : Bool} {N : Nat} (h : BigAt T w b o s N) (hb : Below w.heap.size w w') : BigAt T w' b o s N :=
  h.upd (S := fun _ => False) (Upd.of_below hb) (fun x => x) (fun _ _ x => x.elim)
def sg (s : Bool) (N : Nat) : Int := if s then -(N : Int) else N
structure UpdI (T : TypeId) (b o : Nat) (w w' : World) : Prop where
  upd : Upd (· = b) w w'
  rest : ∀ i, i ≠ o → i ≠ o + 1 → w'.cell? ⟨b, i, none⟩ = w.cell? ⟨b, i, none⟩
  blk : Strct T w b → Strct T w' b
theorem UpdI.refl (T : TypeId) (b o : Nat) (w : World) : UpdI T b o w w := ⟨Upd.refl _ _, fun _ _ _ => rfl, id⟩
theorem UpdI.trans {T : TypeId} {b o : Nat} {w w1 w2 : World} (h : UpdI T b o w w1) (k : UpdI T b o w1 w2) : UpdI T b o w w2 :=
  ⟨h.upd.trans k.upd, fun i h1 h2 => (k.rest i h1 h2).trans (h.rest i h1 h2), fun x => k.blk (h.blk x)⟩
theorem UpdI.drew {T : TypeId} {b o : Nat} {w w1 : World} (h : UpdI T b o w w1) : UpdI T b o w w1.drew := ⟨h.upd.drew, h.rest, fun x => by obtain ⟨cur, e, hb, hne⟩ := h.blk x; exact ⟨cur, e, hb, hne⟩⟩
theorem UpdI.of_below {T : TypeId} {b o : Nat} {w w' : World} (h : Below w.heap.size w w') (hs : Strct T w b) : UpdI T b o w w' :=
  ⟨Upd.of_below h, fun i _ _ => h.cell (p := ⟨b, i, none⟩) hs.lt, fun x => x.keep h⟩
theorem UpdI.then {T : TypeId} {b o : Nat} {w w1 w2 : World} (h : UpdI T b o w w1) (hb : Below w1.heap.size w1 w2) (hs : Strct T w b) : UpdI T b o w w2 := h.trans (UpdI.of_below hb (h.blk hs))
theorem UpdI.set0 {T : TypeId} (w : World) (b o : Nat) (v : Value) : UpdI T b o w (w.setCell ⟨b, o, none⟩ v) :=
  ⟨Upd.set1 w b o v, fun i h1 _ => World.cell?_setCell_other _ _ _ _ (fun h => h1 (by injection h with _ h _; exact h.symm)), fun x => x.set _ _⟩
theorem UpdI.set1 {T : TypeId} (w : World) (b o : Nat) (v : Value) : UpdI T b o w (w.setCell ⟨b, o + 1, none⟩ v) :=
  ⟨Upd.set1 w b (o + 1) v, fun i _ h2 => World.cell?_setCell_other _ _ _ _ (fun h => h2 (by injection h with _ h _; exact h.symm)), fun x => x.set _ _⟩
theorem BigAt.other {T : TypeId} {w w' : World} {b o d p : Nat} {s : Bool} {N : Nat} (h : BigAt T w b o s N) (hs : Strct T w d) (hu : UpdI T d p w w') (hne : b ≠ d ∨ (o + 1 < p ∨ p + 1 < o)) : BigAt T w' b o s N := by
  obtain ⟨a, n, c, h0, h1, hN⟩ := h.val
  have hS : ∀ k, k < w.heap.size → (k = d) → Strct T w k := fun k _ e => e ▸ hs
  by_cases e : b = d
  · subst e
    have hne : o + 1 < p ∨ p + 1 < o := by rcases hne with h | h; exact absurd rfl h; exact h
    exact ⟨hu.blk h.blk, ⟨a, n, c, by rw [hu.rest _ (by omega) (by omega)]; exact h0, by rw [hu.rest _ (by omega) (by omega)]; exact h1, hN.upd hu.upd hS⟩, h.zero⟩
  · exact h.upd hu.upd e hS
theorem BigN.other {T : TypeId} {w w' : World} {d p : Nat} {a : Option Addr} {n c N : Nat} (h : BigN T w a n c N) (hs : Strct T w d) (hu : UpdI T d p w w') : BigN T w' a n c N :=
  h.upd hu.upd (fun k _ e => e ▸ hs)
theorem BigAt.stored {T : TypeId} {w : World} {b o : Nat} {a : Option Addr} {n c N : Nat} {s : Bool} (hb : Strct T w b) (h0 : ∃ u, w.cell? ⟨b, o, none⟩ = some u) (h1 : ∃ u, w.cell? ⟨b, o + 1, none⟩ = some u)
    (hN : BigN T w a n c N) (hz : s = true → 0 < N) : BigAt T ((w.setCell ⟨b, o + 1, none⟩ (.slice a n c)).setCell ⟨b, o, none⟩ (.bool s)) b o s N := by
  obtain ⟨u0, h0⟩ := h0
  obtain ⟨u1, h1⟩ := h1
  have e : ∀ (i j : Nat) (v : Value) (w : World), i ≠ j → (w.setCell ⟨b, i, none⟩ v).cell? ⟨b, j, none⟩ = w.cell? ⟨b, j, none⟩ := fun i j v w h => World.cell?_setCell_other _ _ _ _ (fun hh => h (by injection hh))
  refine ⟨(hb.set _ _).set _ _, ⟨a, n, c, ?_, ?_, (hN.set hb _ _).set (hb.set _ _) _ _⟩, hz⟩
  · refine World.cell?_setCell_same (u := u0) _ _ _ ?_
    rw [e _ _ _ _ (by omega)]; exact h0
  · rw [e _ _ _ _ (by omega)]
    exact World.cell?_setCell_same (u := u1) _ _ _ h1
theorem BigAt.signed {T : TypeId} {w : World} {b o : Nat} {N : Nat} {s t : Bool} (h : BigAt T w b o s N) (hz : t = true → 0 < N) : BigAt T (w.setCell ⟨b, o, none⟩ (.bool t)) b o t N := by
  obtain ⟨a, n, c, h0, h1, hN⟩ := h.val
  refine ⟨h.blk.set _ _, ⟨a, n, c, World.cell?_setCell_same (u := .bool s) _ _ _ h0, ?_, hN.set h.blk _ _⟩, hz⟩
  rw [World.cell?_setCell_other _ _ _ _ (fun hh => by injection hh with _ hh _; omega)]; exact h1
theorem tlen_congr {f g : Nat → Nat} : ∀ {n : Nat}, (∀ i, i < n → f i = g i) → tlen f n = tlen g n := by
  intro n
  induction n with
  | zero => intro _; rfl
  | succ n ih => intro h; simp only [tlen]; rw [h n (by omega), ih (fun i hi => h i (by omega))]
theorem bigN_of_words {T : TypeId} {w : World} {a : Option Addr} {n c : Nat} {f : Nat → Nat} (hf : ∀ i, i < n → f i < W64) (hnc : n ≤ c) (hcm : c ≤ maxLen) (hc : Cells w a n (fun i => .int .u64 (f i : Nat))) (hb : Buf T w a c) :
    BigN T w a (tlen f n) c (val W64 f n) := by
  have hlt := val_lt (B := W64) hf
  have ht : tlen f n = tlen (dg W64 (val W64 f n)) n := tlen_congr (fun i hi => (dg_val hf i hi).symm)
  refine ⟨⟨by rw [ht]; exact tlen_lt hlt, by rw [ht]; exact tlen_top hlt, Nat.le_trans (tlen_le _ _) hnc, hcm, fun hn => ?_⟩, hb⟩
  have hn' := tlen_le f n
  obtain ⟨b, off, rfl, hcell⟩ := hc (by omega)
  refine ⟨b, off, rfl, fun i hi => ?_⟩
  rw [hcell i (by omega)]; show some (Value.int .u64 (f i : Nat)) = some (Value.int .u64 (dg W64 (val W64 f n) i : Nat)); rw [dg_val hf i (by omega)]
theorem buf_of_own {T : TypeId} {w : World} {B n : Nat} {v : Value} {xs : List Value} (h : w.ownsRow B T 1 v n xs) :
    ∃ a c, v = .slice a n c ∧ Buf T w a c ∧ n ≤ c ∧ c ≤ maxLen ∧ (a = none → c = 0) ∧ (∀ f : Nat → Value, (∀ i, i < n → xs[i]? = some (f i)) → Cells w a n f) := by
  rcases h.2 with ⟨rfl, rfl⟩ | ⟨g, cap, cur, rfl, hb, hg, hnc, hcm, hcs, htake⟩
  · exact ⟨none, 0, rfl, .inl ⟨rfl, rfl⟩, Nat.le_refl _, by simp [maxLen], fun _ => rfl, fun f _ => fun h => by omega⟩
  · refine ⟨_, cap, rfl, .inr ⟨g, cur, rfl, hg, by simpa using hcs⟩, hnc, hcm, by simp, fun f hf => fun hn => ⟨g, 0, rfl, fun i hi => ?_⟩⟩
    rw [cell_of_row w g _ cur T (0, 0) hg, ← hf i hi, ← htake]
    simp [hi]
theorem madeCells_one (z : Value) (m : Nat) : madeCells #[z] m = Array.replicate m z := by
  apply Array.ext
  · simp [madeCells]
  · intro i h1 h2
    simp [madeCells, Nat.mod_one]
theorem run_make_nat {P : Program} (t e : TypeId) (ht : P.underlying t = some (.slice e)) (hinfo : (P.info? e).map (fun i => (i.zero, i.size, i.bytes)) = some (some (.int .u64 0), 1, 8))
    (n m : Nat) (hn : n ≤ m) (hm : m ≤ 1000000000) (w : World) :
    (Instr.makeSlice t (.int .i64 (n : Int)) (.int .i64 (m : Int))).run P w = .ok (.slice (some ⟨w.heap.size, 0, none⟩) n m) (w.alloc (.cells (Array.replicate m (.int .u64 0)) e)) := by
  obtain ⟨i, hi, hzz⟩ := Option.map_eq_some_iff.1 hinfo
  simp only [Prod.mk.injEq] at hzz
  obtain ⟨hz, hs, hb⟩ := hzz
  have hr := run_make (P := P) w t e i _ ht hi hz .i64 .i64 n m (by omega) (by omega) (by rw [hb]; omega) (by omega)
  simp only [Int.toNat_natCast, hs, Nat.mul_one] at hr
  rw [hr, show (Value.int IntKind.u64 0).cells = #[.int .u64 0] from rfl, madeCells_one]
def MadeIs (T : TypeId) (n : Nat) (w : World) (e : Ending) (w' : World) : Prop :=
  (n = 0 ∧ e = .returned (.slice none 0 0) ∧ w' = w) ∨
  ∃ c, 0 < n ∧ n ≤ c ∧ c ≤ n + 4 ∧ e = .returned (.slice (some ⟨w.heap.size, 0, none⟩) n c) ∧ w' = w.alloc (.cells (Array.replicate c (.int .u64 0)) T)
structure Rt where
  neg : Bool
  num : Nat
  den : Nat
namespace Rt
def over (neg : Bool) (n d : Nat) : Rt := ⟨neg && decide (0 < n), n / Nat.gcd n d, d / Nat.gcd n d⟩
def whole (neg : Bool) (n : Nat) : Rt := ⟨neg && decide (0 < n), n, 1⟩
def negated (a : Rt) : Rt := ⟨!a.neg && decide (0 < a.num), a.num, a.den⟩
def plus (a b : Rt) : Rt :=
  if a.neg = b.neg then over a.neg (a.num * b.den + b.num * a.den) (a.den * b.den)
  else if b.num * a.den ≤ a.num * b.den then over a.neg (a.num * b.den - b.num * a.den) (a.den * b.den)
  else over b.neg (b.num * a.den - a.num * b.den) (a.den * b.den)
def minus (a b : Rt) : Rt := plus a (negated b)
def times (a b : Rt) : Rt := over (a.neg != b.neg) (a.num * b.num) (a.den * b.den)
def upside (a : Rt) : Rt := ⟨a.neg, a.den, a.num⟩
def signOf (a : Rt) : Int := if a.num = 0 then 0 else if a.neg then -1 else 1
end Rt
structure RtAt (w : World) (s : Bool) (a : Option Addr) (n c : Nat) (a' : Option Addr) (n' c' : Nat) (r : Rt) (L : Nat) : Prop where
  neg : s = r.neg
  num : NatAt w a n c r.num
  den : NatAt w a' n' c' r.den
  numL : r.num < 65536 ^ L
  denL : r.den < 65536 ^ L
theorem RtAt.keep {w w' : World} {s : Bool} {a : Option Addr} {n c : Nat} {a' : Option Addr} {n' c' : Nat} {r : Rt} {L : Nat} (h : RtAt w s a n c a' n' c' r L) (hb : Below w.heap.size w w') : RtAt w' s a n c a' n' c' r L :=
  ⟨h.neg, h.num.keep hb, h.den.keep hb, h.numL, h.denL⟩
theorem RtAt.n_le {w : World} {s : Bool} {a : Option Addr} {n c : Nat} {a' : Option Addr} {n' c' : Nat} {r : Rt} {L : Nat} (h : RtAt w s a n c a' n' c' r L) : n ≤ L := h.num.len16 h.numL
theorem RtAt.d_le {w : World} {s : Bool} {a : Option Addr} {n c : Nat} {a' : Option Addr} {n' c' : Nat} {r : Rt} {L : Nat} (h : RtAt w s a n c a' n' c' r L) : n' ≤ L := h.den.len16 h.denL
def GivesR (r : Rt) (L : Nat) (w : World) (e : Ending) (w' : World) : Prop :=
  ∃ s a n c a' n' c', e = .returned (.agg #[.bool s, .slice a n c, .slice a' n' c']) ∧ RtAt w' s a n c a' n' c' r L ∧ Below w.heap.size w w'
theorem natAt_pos_len {k : IntKind} {B : Nat} {w : World} {a : Option Addr} {n c N : Nat} (h : NumAt k B w a n c N) : decide (0 < n) = decide (0 < N) := by
  by_cases h0 : n = 0
  · subst h0
    have : N = 0 := by have := h.lt; simpa using this
    subst this; rfl
  · rcases h.top with h1 | h1
    · omega
    · rcases Nat.eq_zero_or_pos B with hB | hB
      · have hl := h.lt
        rw [hB, Nat.zero_pow (by omega)] at hl; omega
      · have : 0 < N := Nat.lt_of_lt_of_le (Nat.pow_pos hB) h1
        simp [this]; omega
end Go.Bg
namespace Go.Bg
open Go.RowKit Dg
def NoInt (w : World) (s : Nat) : Prop := ∀ o k v, w.cell? ⟨s, o, none⟩ ≠ some (.int k v)
theorem cell?_setCell_ne {w : World} {s o b p : Nat} {v : Value} (h : b ≠ s) : (w.setCell ⟨s, o, none⟩ v).cell? ⟨b, p, none⟩ = w.cell? ⟨b, p, none⟩ :=
  World.cell?_of_block (w := w) (Below.heap_setCell w ⟨s, o, none⟩ v b h)
theorem NumAt.setCell {k : IntKind} {B : Nat} {w : World} {a : Option Addr} {n c N s o : Nat} (h : NumAt k B w a n c N) (v : Value) (hs : NoInt w s) : NumAt k B (w.setCell ⟨s, o, none⟩ v) a n c N := by
  refine ⟨h.lt, h.top, h.nc, h.cm, fun hn => ?_⟩
  obtain ⟨b, off, rfl, hc⟩ := h.cells hn
  refine ⟨b, off, rfl, fun i hi => ?_⟩
  have h1 := hc i hi
  rw [cell?_setCell_ne]
  · exact h1
  · intro e; subst e; exact hs _ _ _ h1
theorem NoInt.setCell {w : World} {s t o : Nat} {v : Value} (hs : NoInt w s) (hv : ∀ k n, v ≠ .int k n) : NoInt (w.setCell ⟨t, o, none⟩ v) s := by
  intro p k n h
  by_cases e : s = t
  · subst e
    by_cases e2 : p = o
    · subst e2
      cases hc : w.cell? ⟨s, p, none⟩ with
      | none =>
        have : (w.setCell ⟨s, p, none⟩ v).cell? ⟨s, p, none⟩ = none := by
          simp only [World.cell?, World.setCell, Array.getElem?_modify, if_true] at hc ⊢
          cases hh : w.heap[s]? with
          | none => rfl
          | some x =>
            rw [hh] at hc
            cases x with
            | cells c e f =>
              simp only [Option.isSome_none, Bool.false_eq_true, if_false, Option.map_some, Array.getElem?_eq_none_iff, Array.size_setIfInBounds] at hc ⊢
              exact hc
            | _ => rfl
        rw [this] at h; cases h
      | some u =>
        rw [World.cell?_setCell_same (u := u) _ _ _ hc] at h
        exact hv k n (Option.some.inj h)
    · rw [World.cell?_setCell_other _ _ _ _ (by intro hh; apply e2; simpa using hh.symm)] at h
      exact hs _ _ _ h
  · rw [cell?_setCell_ne e] at h
    exact hs _ _ _ h
structure ResBlk (w : World) (s : Nat) : Prop where
  cells : (∃ v, w.cell? ⟨s, 0, none⟩ = some v) ∧ (∃ v, w.cell? ⟨s, 1, none⟩ = some v) ∧ (∃ v, w.cell? ⟨s, 2, none⟩ = some v)
  frozen : ∀ o, w.frozen? ⟨s, o, none⟩ = false
  noInt : NoInt w s
  lt : s < w.heap.size
theorem ResBlk.alloc (wa : World) (T : TypeId) : ResBlk (wa.alloc (.cells #[.bool false, .slice none 0 0, .slice none 0 0] T)) wa.heap.size := by
  refine ⟨⟨⟨_, by simp; rfl⟩, ⟨_, by simp; rfl⟩, ⟨_, by simp; rfl⟩⟩, fun o => by simp, fun o k v h => ?_, by simp⟩
  rw [World.cell?_alloc_new] at h
  match o, h with
  | 0, h => simp at h
  | 1, h => simp at h
  | 2, h => simp at h
  | n + 3, h => simp at h
theorem ResBlk.below {w w1 : World} {s B : Nat} (h : ResBlk w s) (hs : s < B) (hb : Below B w w1) : ResBlk w1 s := by
  have hc : ∀ o, w1.cell? ⟨s, o, none⟩ = w.cell? ⟨s, o, none⟩ := fun o => hb.cell (p := ⟨s, o, none⟩) hs
  obtain ⟨⟨u0, h0⟩, ⟨u1, h1⟩, ⟨u2, h2⟩⟩ := h.cells
  exact ⟨⟨⟨u0, by rw [hc]; exact h0⟩, ⟨u1, by rw [hc]; exact h1⟩, ⟨u2, by rw [hc]; exact h2⟩⟩, fun o => by rw [hb.frozen (p := ⟨s, o, none⟩) hs]; exact h.frozen o,
    fun o k v hh => h.noInt o k v (by rw [← hc]; exact hh), Nat.lt_of_lt_of_le h.lt hb.size⟩
theorem givesR_end {w w1 : World} {s L : Nat} {sg : Bool} {a : Option Addr} {n c : Nat} {a' : Option Addr} {n' c' : Nat} {r : Rt} (R : ResBlk w1 s) (hs : w.heap.size ≤ s) (hb : Below w.heap.size w w1)
    (h : RtAt w1 sg a n c a' n' c' r L) :
    GivesR r L w (.returned (.agg #[.bool sg, .slice a n c, .slice a' n' c'])) (((w1.setCell ⟨s, 0, none⟩ (.bool sg)).setCell ⟨s, 1, none⟩ (.slice a n c)).setCell ⟨s, 2, none⟩ (.slice a' n' c')) := by
  have n1 : NoInt (w1.setCell ⟨s, 0, none⟩ (.bool sg)) s := R.noInt.setCell (by intro k n h; cases h)
  have n2 : NoInt ((w1.setCell ⟨s, 0, none⟩ (.bool sg)).setCell ⟨s, 1, none⟩ (.slice a n c)) s := n1.setCell (by intro k n h; cases h)
  exact ⟨_, _, _, _, _, _, _, rfl, ⟨h.neg, ((h.num.setCell _ R.noInt).setCell _ n1).setCell _ n2, ((h.den.setCell _ R.noInt).setCell _ n1).setCell _ n2, h.numL, h.denL⟩,
    ((hb.setCell (by exact hs) _).setCell (by exact hs) _).setCell (by exact hs) _⟩
end Go.Bg
namespace Go.Bg
open Go.RowKit
theorem cell_keep {w w1 : World} {p : Addr} {v : Value} (h : w.cell? p = some v) (hb : Below w.heap.size w w1) : w1.cell? p = some v := by
  rw [hb.cell (block_lt h)]; exact h
theorem alloc_keep (w : World) (o : Obj) {p : Addr} {v : Value} (h : w.cell? p = some v) : (w.alloc o).cell? p = some v := by
  rw [World.cell?_alloc_lt _ _ _ (block_lt h)]; exact h
theorem alloc_new (w : World) (c : Array Value) (T : TypeId) {i s : Nat} {v : Value} (hs : s = w.heap.size) (h : c[i]? = some v) : (w.alloc (.cells c T)).cell? ⟨s, i, none⟩ = some v := by
  subst hs; rw [World.cell?_alloc_new]; exact h
theorem Below.alloc' {a w : World} (h : Below a.heap.size a w) (o : Obj) : Below a.heap.size a (w.alloc o) := h.alloc h.size o
structure RtBlk (w : World) (g : Nat) (s : Bool) (a : Option Addr) (n c : Nat) (a' : Option Addr) (n' c' : Nat) : Prop where
  c0 : w.cell? ⟨g, 0, none⟩ = some (.bool s)
  c1 : w.cell? ⟨g, 1, none⟩ = some (.slice a n c)
  c2 : w.cell? ⟨g, 2, none⟩ = some (.slice a' n' c')
theorem RtBlk.keep {w w1 : World} {g : Nat} {s : Bool} {a : Option Addr} {n c : Nat} {a' : Option Addr} {n' c' : Nat} (h : RtBlk w g s a n c a' n' c') (hb : Below w.heap.size w w1) : RtBlk w1 g s a n c a' n' c' :=
  ⟨cell_keep h.c0 hb, cell_keep h.c1 hb, cell_keep h.c2 hb⟩
theorem RtBlk.lt {w : World} {g : Nat} {s : Bool} {a : Option Addr} {n c : Nat} {a' : Option Addr} {n' c' : Nat} (h : RtBlk w g s a n c a' n' c') : g < w.heap.size := block_lt h.c0
theorem stored3 {w1 : World} {s L : Nat} {sg : Bool} {a : Option Addr} {n c : Nat} {a' : Option Addr} {n' c' : Nat} {r : Rt} (R : ResBlk w1 s) (h : RtAt w1 sg a n c a' n' c' r L) :
    RtAt (((w1.setCell ⟨s, 0, none⟩ (.bool sg)).setCell ⟨s, 1, none⟩ (.slice a n c)).setCell ⟨s, 2, none⟩ (.slice a' n' c')) sg a n c a' n' c' r L := by
  have n1 : NoInt (w1.setCell ⟨s, 0, none⟩ (.bool sg)) s := R.noInt.setCell (by intro k n h; cases h)
  have n2 : NoInt ((w1.setCell ⟨s, 0, none⟩ (.bool sg)).setCell ⟨s, 1, none⟩ (.slice a n c)) s := n1.setCell (by intro k n h; cases h)
  exact ⟨h.neg, ((h.num.setCell _ R.noInt).setCell _ n1).setCell _ n2, ((h.den.setCell _ R.noInt).setCell _ n1).setCell _ n2, h.numL, h.denL⟩
theorem rtBlk_stored {w1 : World} {s : Nat} (R : ResBlk w1 s) (sg : Bool) (a : Option Addr) (n c : Nat) (a' : Option Addr) (n' c' : Nat) :
    RtBlk (((w1.setCell ⟨s, 0, none⟩ (.bool sg)).setCell ⟨s, 1, none⟩ (.slice a n c)).setCell ⟨s, 2, none⟩ (.slice a' n' c')) s sg a n c a' n' c' := by
  obtain ⟨⟨u0, r0⟩, ⟨u1, r1⟩, ⟨u2, r2⟩⟩ := R.cells
  have e : ∀ (i j : Nat) (v : Value) (w : World), i ≠ j → (w.setCell ⟨s, i, none⟩ v).cell? ⟨s, j, none⟩ = w.cell? ⟨s, j, none⟩ := fun i j v w h => World.cell?_setCell_other _ _ _ _ (fun hh => h (by injection hh))
  refine ⟨?_, ?_, ?_⟩
  · rw [e _ _ _ _ (by decide), e _ _ _ _ (by decide)]; exact World.cell?_setCell_same (u := u0) _ _ _ r0
  · rw [e _ _ _ _ (by decide)]; refine World.cell?_setCell_same (u := u1) _ _ _ ?_; rw [e _ _ _ _ (by decide)]; exact r1
  · refine World.cell?_setCell_same (u := u2) _ _ _ ?_; rw [e _ _ _ _ (by decide), e _ _ _ _ (by decide)]; exact r2
theorem rtBlk_new (w : World) (T : TypeId) (sg : Bool) (a : Option Addr) (n c : Nat) (a' : Option Addr) (n' c' : Nat) :
    RtBlk (w.alloc (.cells #[.bool sg, .slice a n c, .slice a' n' c'] T)) w.heap.size sg a n c a' n' c' := ⟨alloc_new _ _ _ rfl rfl, alloc_new _ _ _ rfl rfl, alloc_new _ _ _ rfl rfl⟩
end Go.Bg
namespace Go.Bg
open Go.RowKit Dg
structure Vl where
  kind : Int
  truth : Bool
  text : ByteArray
  neg : Bool
  wa : Option Addr
  wn : Nat
  wc : Nat
  wf : Nat → Nat
  da : Option Addr
  dn : Nat
  dc : Nat
  df : Nat → Nat
  ineg : Bool
  ia : Option Addr
  inn : Nat
  ic : Nat
  jf : Nat → Nat
  ea : Option Addr
  en : Nat
  ec : Nat
  ef : Nat → Nat
structure WordsAt (w : World) (a : Option Addr) (n c : Nat) (f : Nat → Nat) : Prop where
  cells : Cells w a n (fun i => .int .u64 (f i : Nat))
  lt : ∀ i, i < n → f i < W64
  nc : n ≤ c
  cm : c ≤ maxLen
  nil : a = none → c = 0
theorem WordsAt.keep {w w' : World} {a : Option Addr} {n c : Nat} {f : Nat → Nat} (h : WordsAt w a n c f) (hb : Below w.heap.size w w') : WordsAt w' a n c f :=
  ⟨h.cells.keep hb, h.lt, h.nc, h.cm, h.nil⟩
structure VlAt (w : World) (v : Vl) : Prop where
  ws : WordsAt w v.wa v.wn v.wc v.wf
  ds : WordsAt w v.da v.dn v.dc v.df
  is : WordsAt w v.ia v.inn v.ic v.jf
  es : WordsAt w v.ea v.en v.ec v.ef
  text : v.text.size ≤ maxLen
  kind : -9223372036854775808 ≤ v.kind ∧ v.kind ≤ 9223372036854775807
theorem VlAt.keep {w w' : World} {v : Vl} (h : VlAt w v) (hb : Below w.heap.size w w') : VlAt w' v :=
  ⟨h.ws.keep hb, h.ds.keep hb, h.is.keep hb, h.es.keep hb, h.text, h.kind⟩
def Vl.restB (v : Vl) : Bool := !v.truth && v.text.toList.isEmpty && !v.ineg && decide (v.inn = 0) && decide (v.en = 0)
end Go.Bg
namespace Go.Proofs.YtgmienggfaahlaaGreatDoor
open Go.RowKit Go.Bg Dg
theorem norm_any (a : Option Addr) (n c : Nat) (f : Nat → Nat) (w : World)
    (hn : n ≤ 1000000000) (hnc : n ≤ c) (hcm : c ≤ maxLen) (hnil : a = none → c = 0) (hc : Cells w a n (fun i => .int .u64 (f i : Nat))) :
    Calls Tryz.prog 186 #[.slice a n c] w fun e w' => e = .returned (.slice a (tlen f n) c) ∧ w = w' := by
  go_enter Tryz.func186, Tryz.ntmps186
  go_wp2
  go_loop [3] (fun v => ∃ m : Nat, m ≤ n ∧ v = .int .i64 m ∧ tlen f m = tlen f n) (fun v => (intOf v).toNat)
  case atStart => exact ⟨n, Nat.le_refl _, rfl, rfl⟩
  case round =>
    obtain ⟨m, hm, rfl, ht⟩ := hrel
    have HT := Lib.hid ht; clear ht
    by_cases h0 : 0 < m
    · obtain ⟨b, off, rfl, hcell⟩ := hc (by omega)
      have hcm := hcell (m - 1) (by omega)
      obtain ⟨k, rfl⟩ : ∃ k, m = k + 1 := ⟨m - 1, by omega⟩
      clear hc hcell
      simp only [Nat.add_sub_cancel] at hcm
      by_cases hz : f k = 0
      · have hz2 : ((f k : Int) == 0) = true := by simpa using hz
        go_wp2
        go_round
        case rel => exact ⟨k, by omega, by go_num, by rw [← HT.out, tlen, if_pos hz]⟩
        case measure => simp [intOf]; try omega
      · have hz2 : ((f k : Int) == 0) = false := by simpa using hz
        go_wp2
        go_ret
        exact ⟨ret_slice (by rw [← HT.out, tlen, if_neg hz]), rfl⟩
    · obtain rfl : m = 0 := by omega
      go_wp2
      go_ret
      exact ⟨ret_slice HT.out, rfl⟩
def wv (f : Nat → Nat) (i : Nat) : Value := .int .u64 (f i : Nat)
theorem wordsOf_any (a : Option Addr) (n c : Nat) (f : Nat → Nat) (w : World) (h : WordsAt w a n c f) (hn : n ≤ 1000000) :
    Calls Tryz.prog 166 #[.slice a n c] w fun e w' => ∃ v, e = .returned v ∧ w'.ownsRow w.heap.size 155 1 v n ((List.range n).map (wv f)) ∧ Below w.heap.size w w' := by
  obtain ⟨i0, hi, hz0, hz1, hz2⟩ := info_parts infoWord
  go_enter Tryz.func166, Tryz.ntmps166
  go_wp2
  go_loopw [3, 5, 8] (fun out _ i wr => ∃ k : Nat, k ≤ n ∧ i = .int .i64 k ∧ wr.ownsRow w.heap.size 155 1 out k ((List.range k).map (wv f)) ∧ Below w.heap.size w wr)
    (fun _ _ i _ => n - (intOf i).toNat)
  case atStart => exact ⟨0, Nat.zero_le _, rfl, World.ownsRow_nil _ _ _ _, Below.refl _ _⟩
  case round =>
    obtain ⟨k, hk, rfl, hown, hbel⟩ := hrel
    by_cases k1 : k < n
    · have h' := h.keep hbel
      obtain ⟨b1, o1, rfl, hcell⟩ := h'.cells (by omega)
      have e1 := hcell k k1
      have hnc := h'.nc
      have hcm := h'.cm
      clear hcell h' h
      go_wp2_with (at_builtin; refine wpList_app1 rfl _ _ 146 rfl w.heap.size 155 i0 _ 8 Tryz.underlying146 hi hz0 hz1 hz2 rfl (by decide) _ _ _ _ rfl rfl rfl hown rfl (by omega) hbel.size ?_; intro v' w1 hown1 hbel1 hne1)
      go_roundw
      case rel => exact ⟨k + 1, by omega, by go_num, by rw [map_range_succ]; simpa [wv] using hown1, hbel.trans hbel1⟩
      case measure => simp [intOf]; omega
    · obtain rfl : k = n := by omega
      go_wp2
      go_ret
      exact ⟨_, rfl, hown, hbel⟩
theorem infoBigInt : ∃ j, Tryz.prog.info? 168 = some j := Option.isSome_iff_exists.1 (by kernel_rfl)
def IntIs (b o : Nat) (s : Bool) (N : Nat) (w : World) (e : Ending) (w' : World) : Prop :=
  e = .returned (.pointer (some ⟨b, o, none⟩)) ∧ BigAt 155 w' b o s N ∧ UpdI 155 b o w w'
theorem setBits_any (b o : Nat) (a : Option Addr) (n c : Nat) (f : Nat → Nat) (w : World) (hb : Strct 155 w b) (h0 : ∃ u, w.cell? ⟨b, o, none⟩ = some u) (h1 : ∃ u, w.cell? ⟨b, o + 1, none⟩ = some u)
    (hn : n ≤ 1000000000) (hnc : n ≤ c) (hcm : c ≤ maxLen) (hnil : a = none → c = 0) (hf : ∀ i, i < n → f i < W64) (hc : Cells w a n (fun i => .int .u64 (f i : Nat))) (hbuf : Buf 155 w a c) :
    Calls Tryz.prog 117 #[.pointer (some ⟨b, o, none⟩), .slice a n c] w (IntIs b o false (val W64 f n) w) := by
  have HN := Lib.hid (bigN_of_words hf hnc hcm hc hbuf)
  have HS := Lib.hid (fun a n c N hN => BigAt.stored (T := 155) (s := false) (a := a) (n := n) (c := c) (N := N) hb h0 h1 hN (by simp))
  have HB := Lib.hid hb
  obtain ⟨u0, h0⟩ := h0
  obtain ⟨u1, h1⟩ := h1
  have f0 := hb.frozen o
  have f1 := hb.frozen (o + 1)
  have h0' : ∀ v, (w.setCell ⟨b, o + 1, none⟩ v).cell? ⟨b, o, none⟩ = some u0 := fun v => by
    rw [World.cell?_setCell_other _ _ _ _ (fun hh => by injection hh with _ hh _; omega)]; exact h0
  clear hb
  go_enter Tryz.func117, Tryz.ntmps117
  go_wp2_with fail
  refine (norm_any a n c f _ hn hnc hcm hnil hc).mono ?_
  rintro e w1 ⟨rfl, rfl⟩
  go_wp2
  go_ret
  exact ⟨rfl, HS.out _ _ _ _ HN.out, (UpdI.set1 _ _ _ _).trans (UpdI.set0 _ _ _ _)⟩
theorem setSelf_any (b o : Nat) (w : World) : Calls Tryz.prog 205 #[.pointer (some ⟨b, o, none⟩), .pointer (some ⟨b, o, none⟩)] w (fun e w' => e = .returned (.pointer (some ⟨b, o, none⟩)) ∧ w = w') := by
  obtain ⟨j, hj⟩ := infoBigInt
  have hq := Lib.run_neq_ptr_same (P := Tryz.prog) w ⟨b, o, none⟩ Tryz.underlying90 hj
  go_enter Tryz.func205, Tryz.ntmps205
  go_wp2
  go_ret
  exact ⟨rfl, rfl⟩
theorem negSelf_any (b o : Nat) (s : Bool) (N : Nat) (w : World) (h : BigAt 155 w b o s N) :
    Calls Tryz.prog 167 #[.pointer (some ⟨b, o, none⟩), .pointer (some ⟨b, o, none⟩)] w (IntIs b o (!s && decide (0 < N)) N w) := by
  have HS := Lib.hid (fun t ht => h.signed (t := t) ht)
  have f0 := h.blk.frozen o
  obtain ⟨a, n, c, h0, h1, hN⟩ := h.val
  have HP := Lib.hid (natAt_pos_len hN.num)
  clear hN h
  by_cases hn : 0 < n
  · go_enter Tryz.func167, Tryz.ntmps167
    go_wp2_with fail
    refine (setSelf_any b o _).mono ?_
    rintro e w1 ⟨rfl, rfl⟩
    go_wp2
    go_ret
    have hp : 0 < N := by have := HP.out; simpa [hn] using this.symm
    exact ⟨rfl, by simpa [hp] using HS.out (!s) (fun _ => hp), UpdI.set0 _ _ _ _⟩
  · go_enter Tryz.func167, Tryz.ntmps167
    go_wp2_with fail
    refine (setSelf_any b o _).mono ?_
    rintro e w1 ⟨rfl, rfl⟩
    go_wp2
    go_ret
    have hp : ¬ 0 < N := by have := HP.out; simpa [hn] using this
    exact ⟨rfl, by simpa [hp] using HS.out false (by simp), UpdI.set0 _ _ _ _⟩
theorem of_any' (s : Bool) (a : Option Addr) (n c : Nat) (f : Nat → Nat) (w : World) (h : WordsAt w a n c f) (hn : n ≤ 1000000) :
    Calls Tryz.prog 94 #[.agg #[.bool s, .slice a n c]] w fun e w' => ∃ b, e = .returned (.pointer (some ⟨b, 0, none⟩)) ∧ w.heap.size ≤ b ∧ BigAt 155 w' b 0 (s && decide (0 < val W64 f n)) (val W64 f n) ∧ Below w.heap.size w w' := by
  obtain ⟨W0, hW0⟩ : ∃ W0, W0 = (w.alloc (.cells #[.bool s, .slice a n c] 24)).alloc (.cells #[.bool false, .slice none 0 0] 168) := ⟨_, rfl⟩
  have hs0 : W0.heap.size = w.heap.size + 1 + 1 := by rw [hW0]; simp
  have HW := Lib.hid hW0
  have hb0 : Below w.heap.size w W0 := by rw [hW0]; exact Below.alloc' (Below.alloc' (Below.refl _ _) _) _
  have hz : BlkAt W0 (w.heap.size + 1) #[.bool false, .slice none 0 0] 168 := by
    rw [hW0]
    have := BlkAt.new (w.alloc (.cells #[.bool s, .slice a n c] 24)) #[.bool false, .slice none 0 0] 168
    simpa using this
  have hx : BlkAt W0 w.heap.size #[.bool s, .slice a n c] 24 := by
    rw [hW0]; exact (BlkAt.new _ _ _).keep ((Below.refl _ _).alloc (Nat.le_refl _) _)
  have hw0 := h.keep hb0
  have HX0 := hx.cell 0
  have HX1 := hx.cell 1
  simp only [List.getElem?_toArray, List.getElem?_cons_zero, List.getElem?_cons_succ] at HX0 HX1
  clear hW0 h
  have HB := Lib.hid hb0
  have HX0' := Lib.hid HX0
  clear HX0
  cases s
  · go_enter Tryz.func94, Tryz.ntmps94
    go_wp2_with fail
    rw [← HW.out]
    refine (wordsOf_any a n c f _ hw0 hn).mono ?_
    rintro e w1 ⟨v, rfl, hown, hb1⟩
    obtain ⟨a1, c1, rfl, hbuf, hnc, hcm, hnil, hcells⟩ := buf_of_own hown
    have hw1 := hcells (wv f) (fun i hi => by simp [hi])
    have hz1 := hz.keep hb1
    have hx0 := hx.keep hb1
    have hs1 : Strct 155 w1 (w.heap.size + 1) := ⟨_, _, hz1, by decide⟩
    go_wp2_with fail
    refine (setBits_any (w.heap.size + 1) 0 a1 n c1 f _ hs1 ⟨_, hz1.cell 0⟩ ⟨_, hz1.cell 1⟩ (by omega) hnc hcm hnil hw0.lt hw1 hbuf).mono ?_
    rintro e w2 ⟨rfl, hI, hU⟩
    have hx2 := (hU.upd.blk hx0 (Nat.ne_of_lt (Nat.lt_succ_self _))).cell 0
    simp only [List.getElem?_toArray, List.getElem?_cons_zero, List.getElem?_cons_succ] at hx2
    go_wp2
    go_ret
    exact ⟨_, rfl, Nat.le_add_right _ 1, by simpa using hI, hU.upd.below (Below.then hb0 (by omega) hb1) (Nat.le_trans HB.out.size hb1.size) (fun k _ e => by subst e; exact Nat.le_add_right _ 1)⟩
  · go_enter Tryz.func94, Tryz.ntmps94
    go_wp2_with fail
    rw [← HW.out]
    refine (wordsOf_any a n c f _ hw0 hn).mono ?_
    rintro e w1 ⟨v, rfl, hown, hb1⟩
    obtain ⟨a1, c1, rfl, hbuf, hnc, hcm, hnil, hcells⟩ := buf_of_own hown
    have hw1 := hcells (wv f) (fun i hi => by simp [hi])
    have hz1 := hz.keep hb1
    have hx0 := hx.keep hb1
    have hs1 : Strct 155 w1 (w.heap.size + 1) := ⟨_, _, hz1, by decide⟩
    go_wp2_with fail
    refine (setBits_any (w.heap.size + 1) 0 a1 n c1 f _ hs1 ⟨_, hz1.cell 0⟩ ⟨_, hz1.cell 1⟩ (by omega) hnc hcm hnil hw0.lt hw1 hbuf).mono ?_
    rintro e w2 ⟨rfl, hI, hU⟩
    have hx2 := (hU.upd.blk hx0 (Nat.ne_of_lt (Nat.lt_succ_self _))).cell 0
    simp only [List.getElem?_toArray, List.getElem?_cons_zero, List.getElem?_cons_succ] at hx2
    go_wp2_with fail
    refine (negSelf_any (w.heap.size + 1) 0 false _ _ hI).mono ?_
    rintro e w3 ⟨rfl, hI3, hU3⟩
    go_wp2
    go_ret
    exact ⟨_, rfl, Nat.le_add_right _ 1, by simpa using hI3, (hU.trans hU3).upd.below (Below.then hb0 (by omega) hb1) (Nat.le_trans HB.out.size hb1.size) (fun k _ e => by subst e; exact Nat.le_add_right _ 1)⟩
end Go.Proofs.YtgmienggfaahlaaGreatDoor
