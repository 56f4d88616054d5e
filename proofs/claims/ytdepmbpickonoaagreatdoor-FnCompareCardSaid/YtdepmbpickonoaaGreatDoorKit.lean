/-
  What a slice of memory reads as; small laws for the walks. No program.
-/
import Derived.WalkKit
import Derived.WalkSpells
import Derived.WalkLawsBesides
import Derived.Lib.Hide
import Derived.Deep.QuietTactic
import Derived.BigQuiet
import Derived.Deep.OwnRows
import Derived.Deep.LoopGhost
import Derived.Test.YtdepmbpickonoaaGreatDoorDg
set_option linter.unusedSimpArgs false
set_option linter.unusedVariables false
namespace Go.Bg
open Go.RowKit Dg

def Cells (w : World) (a : Option Addr) (n : Nat) (g : Nat → Value) : Prop :=
  0 < n → ∃ b off, a = some ⟨b, off, none⟩ ∧ ∀ i, i < n → w.cell? ⟨b, off + i, none⟩ = some (g i)

/-- the slice reads as the number N in base B, no leading zero -/
structure NumAt (k : IntKind) (B : Nat) (w : World) (a : Option Addr) (n c N : Nat) : Prop where
  lt : N < B ^ n
  top : n = 0 ∨ B ^ (n - 1) ≤ N
  nc : n ≤ c
  cm : c ≤ maxLen
  cells : Cells w a n (fun i => .int k (dg B N i : Nat))

abbrev NatAt := NumAt .i64 65536

theorem block_lt {w : World} {a : Addr} {v : Value} (h : w.cell? a = some v) : a.block < w.heap.size := World.block_lt_of_cell? w a h

theorem Cells.keep {w w' : World} {a : Option Addr} {n : Nat} {g : Nat → Value} (h : Cells w a n g) (hb : Below w.heap.size w w') : Cells w' a n g := by
  intro hn
  obtain ⟨b, off, rfl, hc⟩ := h hn
  refine ⟨b, off, rfl, fun i hi => ?_⟩
  have h1 := hc i hi
  rw [hb.cell (p := ⟨b, off + i, none⟩) (block_lt h1)]; exact h1

theorem NumAt.keep {k : IntKind} {B : Nat} {w w' : World} {a : Option Addr} {n c N : Nat} (h : NumAt k B w a n c N) (hb : Below w.heap.size w w') : NumAt k B w' a n c N :=
  ⟨h.lt, h.top, h.nc, h.cm, h.cells.keep hb⟩

theorem NumAt.form {k : IntKind} {B : Nat} {w : World} {a : Option Addr} {n c N : Nat} (h : NumAt k B w a n c N) (hn : 0 < n) : ∃ b off, a = some ⟨b, off, none⟩ ∧ b < w.heap.size := by
  obtain ⟨b, off, rfl, hc⟩ := h.cells hn
  exact ⟨b, off, rfl, block_lt (hc 0 hn)⟩

theorem NumAt.cell {k : IntKind} {B : Nat} {w : World} {b off : Nat} {n c N i : Nat} (h : NumAt k B w (some ⟨b, off, none⟩) n c N) (hi : i < n) : w.cell? ⟨b, off + i, none⟩ = some (.int k (dg B N i : Nat)) := by
  obtain ⟨b', off', e, hc⟩ := h.cells (by omega)
  cases e
  exact hc i hi

theorem NumAt.len16 {k : IntKind} {w : World} {a : Option Addr} {n c N m : Nat} (h : NumAt k 65536 w a n c N) (hN : N < 65536 ^ m) : n ≤ m := len_le (by decide) h.top hN

theorem below_of_drewN {w w1 : World} {B : Nat} (h : ∃ m, w1 = w.drewN m) : Below B w w1 := by
  obtain ⟨m, rfl⟩ := h
  exact below_drewN (Below.refl _ _) m

/-- two calls, one behind the other -/
theorem Below.then {w w1 w2 : World} {B : Nat} (h : Below B w w1) (hB : B ≤ w.heap.size) (k : Below w1.heap.size w1 w2) : Below B w w2 :=
  h.trans (k.mono (Nat.le_trans hB h.size))

/-- a result that is the number N, in new memory or old; nothing that was there has turned -/
def Gives (k : IntKind) (B : Nat) (N : Nat) (w : World) (e : Ending) (w' : World) : Prop :=
  ∃ a n c, e = .returned (.slice a n c) ∧ NumAt k B w' a n c N ∧ Below w.heap.size w w'

theorem ret_slice {a : Option Addr} {n m c : Nat} (h : n = m) : Ending.returned (.slice a n c) = .returned (.slice a m c) := by rw [h]
theorem ret_int {k : IntKind} {a b : Int} (h : a = b) : Ending.returned (.int k a) = .returned (.int k b) := by rw [h]
theorem ret_bool {a b : Bool} (h : a = b) : Ending.returned (.bool a) = .returned (.bool b) := by rw [h]

theorem drewN_ex {w w' : World} {n : Nat} (h : w' = w.drewN n) : ∃ m, w' = w.drewN m := ⟨n, h⟩

def sliceLen : Value → Nat | .slice _ m _ => m | _ => 0

section
variable {P : Program}
/-- append of one element that the statement has just laid in a block of its own -/
theorem wpList_app1 {w wr : World} {ops : Array Oper} {rest : List Oper} {o : Oper} {a : Act} {Q : Exit → Act → World → Prop} (hgd : o.guard = none) (s x : Operand) (t : TypeId)
    (ho : o.op = .call { callee := .builtin .append, args := #[s, x], argTypes := #[t, t] })
    (base : Nat) (e : TypeId) (i : TypeInfo) (z : Value) (bytes : Nat) (ht : P.underlying t = some (.slice e)) (hi : P.info? e = some i) (hz : i.zero = some z)
    (hsize : i.size = 1) (hby : i.bytes = bytes) (hzs : z.cells.size = 1) (hb8 : bytes ≤ 24)
    (v : Value) (n : Nat) (xs : List Value) (u : Value) (hs : a.eval s = v) (hx : a.eval x = .slice (some ⟨wr.heap.size, 0, none⟩) 1 1)
    (hw : w = wr.alloc (.cells #[u] e)) (hown : wr.ownsRow base e 1 v n xs)
    (h1 : u.oneCell' = true) (hn : n ≤ 1000000000) (hbase : base ≤ wr.heap.size)
    (h : ∀ v' w', w'.ownsRow base e 1 v' (n + 1) (xs ++ [u]) → Below base wr w' → v' ≠ .slice none 0 0 → wpList P ops Q rest (a.put o.dst v') w') : wpList P ops Q (o :: rest) a w := by
  subst hw
  refine wpList_append_own _ hgd s x t ho base e i z 1 bytes ht hi hz hsize hby hzs (by decide) v n xs hs (hown.alloc _) ⟨wr.heap.size, 0, none⟩ 1 1 [u] hx rfl ?_ ?_ ?_ ?_ ?_ ?_
  · intro j y hj
    match j, hj with
    | 0, hj => simp at hj; subst hj; simp [Addr.add]
  · intro y hy; simp at hy; subst hy; exact h1
  · unfold maxLen; omega
  · have : (n + 1) * bytes ≤ (n + 1) * 24 := Nat.mul_le_mul_left _ hb8
    omega
  · simp; omega
  · intro v' w' ho' hg' hnil
    refine h v' w' ho' ?_ ?_
    · refine ((Below.refl base wr).alloc hbase _).grown hg' (by simp; omega) ?_
      intro k hk
      exact (hown.lt k hk).1
    · intro e; have := hnil.1 e; omega
end

section
variable {P : Program}
/-- make of a row of n zeros: the new world is a variable of which the row is known -/
theorem wpList_mkrow {w : World} {ops : Array Oper} {rest : List Oper} {o : Oper} {a : Act} {Q : Exit → Act → World → Prop}
    (hg : o.guard = none) (l c : Operand) (t : TypeId) (hop : o.op = Op.makeSlice t l c)
    (e : TypeId) (z : Value) (ht : P.underlying t = some (.slice e)) (hinfo : (P.info? e).map (fun i => (i.zero, i.size, i.bytes)) = some (some z, 1, 8)) (hz1 : z.cells = #[z])
    (n : Nat) (kl kc : IntKind) (L C : Int) (hl : a.eval l = .int kl L) (hc : a.eval c = .int kc C) (hL : L = n) (hC : C = n) (hn : n ≤ 1000000000)
    (hK : ∀ w', w'.rowIs w.heap.size e n (fun _ => z) → Below w.heap.size w w' → w'.heap.size = w.heap.size + 1 → wpList P ops Q rest (a.put o.dst (.slice (some ⟨w.heap.size, 0, none⟩) n n)) w') :
    wpList P ops Q (o :: rest) a w := by
  subst hL
  subst hC
  obtain ⟨i, hi, hzz⟩ := Option.map_eq_some_iff.1 hinfo
  simp only [Prod.mk.injEq] at hzz
  obtain ⟨hz, hs, hb⟩ := hzz
  refine wpList_make_row w hg l c t hop e i z ht hi hz hs hz1 kl kc n ?_ hc ?_ (by omega) ?_
  all_goals first | exact hl | (rw [hb]; omega) | skip
  exact hK _ (World.rowIs_made w z n e) ((Below.refl _ _).alloc (Nat.le_refl _) _) (by simp)
end

theorem own_form {w : World} {B : Nat} {e : TypeId} {v : Value} {n : Nat} {xs : List Value} (h : w.ownsRow B e 1 v n xs) (hne : v ≠ .slice none 0 0) :
    ∃ g cap, v = .slice (some ⟨g, 0, none⟩) n cap ∧ B ≤ g ∧ g < w.heap.size ∧ n ≤ cap ∧ cap ≤ maxLen ∧ ∀ i, i < n → w.cell? ⟨g, i, none⟩ = xs[i]? := by
  rcases h.2 with ⟨rfl, _⟩ | ⟨g, cap, cur, rfl, hb, hg, hnc, hcm, hcs, htake⟩
  · exact absurd rfl hne
  · refine ⟨g, cap, rfl, hb, (Array.getElem?_eq_some_iff.1 hg).1, hnc, hcm, fun i hi => ?_⟩
    rw [cell_of_row w g i cur e (0, 0) hg, ← htake]
    simp [hi]
end Go.Bg

namespace Go.Bg
/-- the base of the words -/
def W64 : Nat := 18446744073709551616
theorem W64_eq : W64 = 2 ^ 64 := by unfold W64; decide
theorem W64_pos : 0 < W64 := by unfold W64; decide
theorem W64_gt : 1 < W64 := by unfold W64; decide
theorem W64_16 : W64 = 65536 ^ 4 := by unfold W64; decide
theorem W64_lt {n : Nat} (h : n < W64) : n < 18446744073709551616 := h
end Go.Bg
