/-
  Contracts and lemmas: Dg Kit Rt Vl Open OpenS BigA.
-/
import Derived.WalkKit
import Derived.WalkSpells
import Derived.WalkLawsBesides
import Derived.Lib.Hide
import Derived.Deep.QuietTactic
import Derived.BigQuiet
import Derived.Deep.OwnRows
import Derived.Deep.LoopGhost
import Derived.Test.YteidappcoicceaaGreatDoorProg
import Derived.KernelRfl
import Derived.ChangeSlices
import Derived.WideShapes
import Derived.LaidLaws
import Derived.ChangeArms
import Derived.ChangeMaps5
set_option linter.unusedSimpArgs false
set_option linter.unusedVariables false
set_option maxRecDepth 100000
set_option maxHeartbeats 8000000
namespace Dg
def dg (B N i : Nat) : Nat := N / B ^ i % B
theorem dg_lt {B : Nat} (hB : 0 < B) (N i : Nat) : dg B N i < B := Nat.mod_lt _ hB
theorem mod_succ (B N k : Nat) : N % B ^ (k + 1) = N % B ^ k + B ^ k * dg B N k := by
  unfold dg
  rw [Nat.pow_succ, Nat.mod_mul]
theorem dg_of_lt {B N i : Nat} (h : N < B ^ i) : dg B N i = 0 := by
  unfold dg; rw [Nat.div_eq_of_lt h]; exact Nat.zero_mod _
def val (B : Nat) (f : Nat → Nat) : Nat → Nat
  | 0 => 0
  | n + 1 => val B f n + B ^ n * f n
end Dg
namespace Dg
def tlen (f : Nat → Nat) : Nat → Nat
  | 0 => 0
  | n + 1 => if f n = 0 then tlen f n else n + 1
theorem tlen_le (f : Nat → Nat) (n : Nat) : tlen f n ≤ n := by
  induction n with
  | zero => exact Nat.le_refl _
  | succ n ih => simp only [tlen]; split <;> omega
theorem tlen_lt {B N : Nat} : ∀ {n : Nat}, N < B ^ n → N < B ^ tlen (dg B N) n := by
  intro n
  induction n with
  | zero => exact fun h => h
  | succ n ih =>
    intro h
    simp only [tlen]
    split
    · rename_i h0
      refine ih ?_
      have := mod_succ B N n
      rw [Nat.mod_eq_of_lt h, h0, Nat.mul_zero, Nat.add_zero] at this
      rw [this]
      refine Nat.mod_lt _ ?_
      rcases Nat.eq_zero_or_pos (B ^ n) with hz | hp
      · rw [Nat.pow_succ, hz] at h; omega
      · exact hp
    · exact h
theorem tlen_top {B N : Nat} : ∀ {n : Nat}, N < B ^ n → (tlen (dg B N) n = 0 ∨ B ^ (tlen (dg B N) n - 1) ≤ N) := by
  intro n
  induction n with
  | zero => exact fun _ => .inl rfl
  | succ n ih =>
    intro h
    simp only [tlen]
    split
    · rename_i h0
      refine ih ?_
      have := mod_succ B N n
      rw [Nat.mod_eq_of_lt h, h0, Nat.mul_zero, Nat.add_zero] at this
      rw [this]
      refine Nat.mod_lt _ ?_
      rcases Nat.eq_zero_or_pos (B ^ n) with hz | hp
      · rw [Nat.pow_succ, hz] at h; omega
      · exact hp
    · rename_i h0
      refine .inr ?_
      simp only [Nat.add_sub_cancel]
      refine Nat.le_of_not_lt fun hl => h0 (dg_of_lt hl)
theorem len_le {B N n k : Nat} (hB : 1 < B) (top : n = 0 ∨ B ^ (n - 1) ≤ N) (h : N < B ^ k) : n ≤ k := by
  rcases top with h0 | h1
  · omega
  · have : n - 1 < k := (Nat.pow_lt_pow_iff_right hB).1 (Nat.lt_of_le_of_lt h1 h)
    omega
theorem map_range_succ {α : Type} (g : Nat → α) (k : Nat) : (List.range (k + 1)).map g = (List.range k).map g ++ [g k] := by
  rw [List.range_succ, List.map_append]; rfl
end Dg
namespace Dg
theorem cut_succ {B : Nat} (N k : Nat) : N / B ^ k = B * (N / B ^ (k + 1)) + dg B N k := by
  unfold dg
  rw [Nat.pow_succ, ← Nat.div_div_eq_div_mul]
  exact (Nat.div_add_mod _ _).symm
end Dg
namespace Dg
theorem byDigit_step {B : Nat} (hB : 0 < B) (N d k : Nat) (hd : 0 < d) :
    (N / B ^ (k + 1) % d * B + dg B N k) / d = dg B (N / d) k ∧ (N / B ^ (k + 1) % d * B + dg B N k) % d = N / B ^ k % d := by
  have h := cut_succ (B := B) N k
  have e := Nat.div_add_mod (N / B ^ (k + 1)) d
  have s : N / B ^ k = d * (B * (N / B ^ (k + 1) / d)) + (N / B ^ (k + 1) % d * B + dg B N k) := by
    rw [h]
    conv => lhs; rw [← e]
    rw [Nat.mul_add, Nat.mul_left_comm B d, Nat.mul_comm B (N / B ^ (k + 1) % d)]
    omega
  have hb : dg B N k < B := dg_lt hB _ _
  constructor
  · have t : N / d / B ^ k = B * (N / B ^ (k + 1) / d) + (N / B ^ (k + 1) % d * B + dg B N k) / d := by
      rw [Nat.div_div_eq_div_mul, Nat.mul_comm d, ← Nat.div_div_eq_div_mul, s, Nat.mul_add_div hd]
    have hlt : (N / B ^ (k + 1) % d * B + dg B N k) / d < B := by
      refine (Nat.div_lt_iff_lt_mul hd).2 ?_
      have := Nat.mod_lt (N / B ^ (k + 1)) hd
      have h2 : (N / B ^ (k + 1) % d + 1) * B ≤ d * B := Nat.mul_le_mul_right _ this
      rw [Nat.add_mul, Nat.mul_comm d B] at h2
      omega
    show _ = N / d / B ^ k % B
    rw [t, Nat.mul_add_mod, Nat.mod_eq_of_lt hlt]
  · rw [s, Nat.mul_add_mod]
end Dg
namespace Go.Bg
open Go.RowKit Dg
def Cells (w : World) (a : Option Addr) (n : Nat) (g : Nat → Value) : Prop :=
  0 < n → ∃ b off, a = some ⟨b, off, none⟩ ∧ ∀ i, i < n → w.cell? ⟨b, off + i, none⟩ = some (g i)
structure NumAt (k : IntKind) (B : Nat) (w : World) (a : Option Addr) (n c N : Nat) : Prop where
  lt : N < B ^ n
  top : n = 0 ∨ B ^ (n - 1) ≤ N
  nc : n ≤ c
  cm : c ≤ maxLen
  cells : Cells w a n (fun i => .int k (dg B N i : Nat))
abbrev NatAt := NumAt .i64 65536
theorem block_lt {w : World} {a : Addr} {v : Value} (h : w.cell? a = some v) : a.block < w.heap.size := World.block_lt_of_cell? w a h
theorem Cells.keep {w w' : World} {a : Option Addr} {n : Nat} {g : Nat → Value} (h : Cells w a n g) (hb : Below w.heap.size w w') : Cells w' a n g := by
  intro hn
  obtain ⟨b, off, rfl, hc⟩ := h hn
  refine ⟨b, off, rfl, fun i hi => ?_⟩
  have h1 := hc i hi
  rw [hb.cell (p := ⟨b, off + i, none⟩) (block_lt h1)]; exact h1
theorem NumAt.keep {k : IntKind} {B : Nat} {w w' : World} {a : Option Addr} {n c N : Nat} (h : NumAt k B w a n c N) (hb : Below w.heap.size w w') : NumAt k B w' a n c N :=
  ⟨h.lt, h.top, h.nc, h.cm, h.cells.keep hb⟩
theorem NumAt.form {k : IntKind} {B : Nat} {w : World} {a : Option Addr} {n c N : Nat} (h : NumAt k B w a n c N) (hn : 0 < n) : ∃ b off, a = some ⟨b, off, none⟩ ∧ b < w.heap.size := by
  obtain ⟨b, off, rfl, hc⟩ := h.cells hn
  exact ⟨b, off, rfl, block_lt (hc 0 hn)⟩
theorem NumAt.cell {k : IntKind} {B : Nat} {w : World} {b off : Nat} {n c N i : Nat} (h : NumAt k B w (some ⟨b, off, none⟩) n c N) (hi : i < n) : w.cell? ⟨b, off + i, none⟩ = some (.int k (dg B N i : Nat)) := by
  obtain ⟨b', off', e, hc⟩ := h.cells (by omega)
  cases e
  exact hc i hi
theorem NumAt.len16 {k : IntKind} {w : World} {a : Option Addr} {n c N m : Nat} (h : NumAt k 65536 w a n c N) (hN : N < 65536 ^ m) : n ≤ m := len_le (by decide) h.top hN
theorem below_of_drewN {w w1 : World} {B : Nat} (h : ∃ m, w1 = w.drewN m) : Below B w w1 := by
  obtain ⟨m, rfl⟩ := h
  exact below_drewN (Below.refl _ _) m
theorem Below.then {w w1 w2 : World} {B : Nat} (h : Below B w w1) (hB : B ≤ w.heap.size) (k : Below w1.heap.size w1 w2) : Below B w w2 :=
  h.trans (k.mono (Nat.le_trans hB h.size))
def Gives (k : IntKind) (B : Nat) (N : Nat) (w : World) (e : Ending) (w' : World) : Prop :=
  ∃ a n c, e = .returned (.slice a n c) ∧ NumAt k B w' a n c N ∧ Below w.heap.size w w'
theorem ret_slice {a : Option Addr} {n m c : Nat} (h : n = m) : Ending.returned (.slice a n c) = .returned (.slice a m c) := by rw [h]
def sliceLen : Value → Nat | .slice _ m _ => m | _ => 0
section
variable {P : Program}
theorem wpList_app1 {w wr : World} {ops : Array Oper} {rest : List Oper} {o : Oper} {a : Act} {Q : Exit → Act → World → Prop} (hgd : o.guard = none) (s x : Operand) (t : TypeId)
    (ho : o.op = .call { callee := .builtin .append, args := #[s, x], argTypes := #[t, t] })
    (base : Nat) (e : TypeId) (i : TypeInfo) (z : Value) (bytes : Nat) (ht : P.underlying t = some (.slice e)) (hi : P.info? e = some i) (hz : i.zero = some z)
    (hsize : i.size = 1) (hby : i.bytes = bytes) (hzs : z.cells.size = 1) (hb8 : bytes ≤ 24)
    (v : Value) (n : Nat) (xs : List Value) (u : Value) (hs : a.eval s = v) (hx : a.eval x = .slice (some ⟨wr.heap.size, 0, none⟩) 1 1)
    (hw : w = wr.alloc (.cells #[u] e)) (hown : wr.ownsRow base e 1 v n xs)
    (h1 : u.oneCell' = true) (hn : n ≤ 1000000000) (hbase : base ≤ wr.heap.size)
    (h : ∀ v' w', w'.ownsRow base e 1 v' (n + 1) (xs ++ [u]) → Below base wr w' → v' ≠ .slice none 0 0 → wpList P ops Q rest (a.put o.dst v') w') : wpList P ops Q (o :: rest) a w := by
  subst hw
  refine wpList_append_own _ hgd s x t ho base e i z 1 bytes ht hi hz hsize hby hzs (by decide) v n xs hs (hown.alloc _) ⟨wr.heap.size, 0, none⟩ 1 1 [u] hx rfl ?_ ?_ ?_ ?_ ?_ ?_
  · intro j y hj
    match j, hj with
    | 0, hj => simp at hj; subst hj; simp [Addr.add]
  · intro y hy; simp at hy; subst hy; exact h1
  · unfold maxLen; omega
  · have : (n + 1) * bytes ≤ (n + 1) * 24 := Nat.mul_le_mul_left _ hb8
    omega
  · simp; omega
  · intro v' w' ho' hg' hnil
    refine h v' w' ho' ?_ ?_
    · refine ((Below.refl base wr).alloc hbase _).grown hg' (by simp; omega) ?_
      intro k hk
      exact (hown.lt k hk).1
    · intro e; have := hnil.1 e; omega
end
section
variable {P : Program}
end
theorem own_form {w : World} {B : Nat} {e : TypeId} {v : Value} {n : Nat} {xs : List Value} (h : w.ownsRow B e 1 v n xs) (hne : v ≠ .slice none 0 0) :
    ∃ g cap, v = .slice (some ⟨g, 0, none⟩) n cap ∧ B ≤ g ∧ g < w.heap.size ∧ n ≤ cap ∧ cap ≤ maxLen ∧ ∀ i, i < n → w.cell? ⟨g, i, none⟩ = xs[i]? := by
  rcases h.2 with ⟨rfl, _⟩ | ⟨g, cap, cur, rfl, hb, hg, hnc, hcm, hcs, htake⟩
  · exact absurd rfl hne
  · refine ⟨g, cap, rfl, hb, (Array.getElem?_eq_some_iff.1 hg).1, hnc, hcm, fun i hi => ?_⟩
    rw [cell_of_row w g i cur e (0, 0) hg, ← htake]
    simp [hi]
def NoInt (w : World) (s : Nat) : Prop := ∀ o k v, w.cell? ⟨s, o, none⟩ ≠ some (.int k v)
theorem cell?_setCell_ne {w : World} {s o b p : Nat} {v : Value} (h : b ≠ s) : (w.setCell ⟨s, o, none⟩ v).cell? ⟨b, p, none⟩ = w.cell? ⟨b, p, none⟩ :=
  World.cell?_of_block (w := w) (Below.heap_setCell w ⟨s, o, none⟩ v b h)
theorem NumAt.setCell {k : IntKind} {B : Nat} {w : World} {a : Option Addr} {n c N s o : Nat} (h : NumAt k B w a n c N) (v : Value) (hs : NoInt w s) : NumAt k B (w.setCell ⟨s, o, none⟩ v) a n c N := by
  refine ⟨h.lt, h.top, h.nc, h.cm, fun hn => ?_⟩
  obtain ⟨b, off, rfl, hc⟩ := h.cells hn
  refine ⟨b, off, rfl, fun i hi => ?_⟩
  have h1 := hc i hi
  rw [cell?_setCell_ne]
  · exact h1
  · intro e; subst e; exact hs _ _ _ h1
theorem NoInt.setCell {w : World} {s t o : Nat} {v : Value} (hs : NoInt w s) (hv : ∀ k n, v ≠ .int k n) : NoInt (w.setCell ⟨t, o, none⟩ v) s := by
  intro p k n h
  by_cases e : s = t
  · subst e
    by_cases e2 : p = o
    · subst e2
      cases hc : w.cell? ⟨s, p, none⟩ with
      | none =>
        have : (w.setCell ⟨s, p, none⟩ v).cell? ⟨s, p, none⟩ = none := by
          simp only [World.cell?, World.setCell, Array.getElem?_modify, if_true] at hc ⊢
          cases hh : w.heap[s]? with
          | none => rfl
          | some x =>
            rw [hh] at hc
            cases x with
            | cells c e f =>
              simp only [Option.isSome_none, Bool.false_eq_true, if_false, Option.map_some, Array.getElem?_eq_none_iff, Array.size_setIfInBounds] at hc ⊢
              exact hc
            | _ => rfl
        rw [this] at h; cases h
      | some u =>
        rw [World.cell?_setCell_same (u := u) _ _ _ hc] at h
        exact hv k n (Option.some.inj h)
    · rw [World.cell?_setCell_other _ _ _ _ (by intro hh; apply e2; simpa using hh.symm)] at h
      exact hs _ _ _ h
  · rw [cell?_setCell_ne e] at h
    exact hs _ _ _ h
end Go.Bg
namespace Go.Bg
open Go.RowKit
theorem Below.alloc' {a w : World} (h : Below a.heap.size a w) (o : Obj) : Below a.heap.size a (w.alloc o) := h.alloc h.size o
end Go.Bg
namespace Go.Bg
theorem trodVars_len {H : Type} {enc : TypeId × Value → H} {P : Program} {w : World} {sp : Nat → Bool} : ∀ {ns : List String} {gs : List (DataW H)} {ps : List MemPlace}, DataW.TrodVars enc P w sp ns gs ps → gs.length = ns.length
  | [], [], _, _ => rfl
  | [], _ :: _, _, h => h.elim
  | _ :: _, [], _, h => h.elim
  | n :: ns, d :: ds, ps, h => by
    obtain ⟨_, _, _, _, _, _, _, _, _, _, hs, _⟩ := h
    simp [trodVars_len hs]
theorem list7 {α : Type} {l : List α} (h : l.length = 7) : ∃ c0 c1 c2 c3 c4 c5 c6, l = [c0, c1, c2, c3, c4, c5, c6] := by
  match l, h with
  | [c0, c1, c2, c3, c4, c5, c6], _ => exact ⟨c0, c1, c2, c3, c4, c5, c6, rfl⟩
theorem list2 {α : Type} {l : List α} (h : l.length = 2) : ∃ c0 c1, l = [c0, c1] := by
  match l, h with
  | [c0, c1], _ => exact ⟨c0, c1, rfl⟩
end Go.Bg
namespace Go.Bg
open Go.RowKit Dg
theorem laid_iface {P : Program} {w : World} {n : String} {nm : String} {d : DataW Unit} {g : Nat} {t : TypeId} {ms : Array (String × TypeId)} (hg : P.globalNamed n = some g) (ht : (P.globals[g]?).map (·.type) = some t) (hu : P.underlying t = some (.interface ms)) :
    ∀ {laid : List (String × DataW Unit)} {ps : List MemPlace}, DataW.LaidVars P w laid ps → (n, DataW.iface nm d) ∈ laid → ∃ te pe, w.cell? ⟨g, 0, none⟩ = some (.iface te pe)
  | [], _, _, hm => by cases hm
  | (m, d) :: r, _, ⟨g', t', cs, fuel, p, q, hg', ht', hv, hd, hr, _⟩, hm => by
    rcases List.mem_cons.1 hm with e | hm
    · obtain ⟨rfl, rfl⟩ := Prod.mk.inj e
      obtain rfl := Option.some.inj (hg.symm.trans hg')
      obtain rfl := Option.some.inj (ht.symm.trans ht')
      obtain ⟨f1, u, v, hc, hn, h1⟩ := iface_of_trod hu hd
      have h0 := World.var?_cell hg hv 0
      refine ⟨u, v, ?_⟩
      rw [h0, ← Array.getElem?_toList, hc]
      rfl
    · exact laid_iface hg ht hu hr hm
theorem mem_at {α : Type} {l : List α} {x : α} (i : Nat) (h : l[i]? = some x) : x ∈ l := List.mem_of_getElem? h
def BlkAt (w : World) (g : Nat) (cur : Array Value) (e : TypeId) : Prop := w.heap[g]? = some (.cells cur e (0, 0))
theorem BlkAt.lt {w : World} {g : Nat} {cur : Array Value} {e : TypeId} (h : BlkAt w g cur e) : g < w.heap.size := (Array.getElem?_eq_some_iff.1 h).1
theorem BlkAt.cell {w : World} {g : Nat} {cur : Array Value} {e : TypeId} (h : BlkAt w g cur e) (i : Nat) : w.cell? ⟨g, i, none⟩ = cur[i]? := cell_of_row w g i cur e (0, 0) h
theorem BlkAt.frozen {w : World} {g : Nat} {cur : Array Value} {e : TypeId} (h : BlkAt w g cur e) (i : Nat) : w.frozen? ⟨g, i, none⟩ = false := by
  unfold BlkAt at h
  simp [World.frozen?, h]
theorem BlkAt.new (w : World) (cur : Array Value) (e : TypeId) : BlkAt (w.alloc (.cells cur e)) w.heap.size cur e := by
  show (w.heap.push _)[w.heap.size]? = _
  rw [Array.getElem?_push, if_pos rfl]
theorem BlkAt.set {w : World} {g : Nat} {cur : Array Value} {e : TypeId} (h : BlkAt w g cur e) (i : Nat) (v : Value) : BlkAt (w.setCell ⟨g, i, none⟩ v) g (cur.setIfInBounds i v) e := by
  unfold BlkAt at *
  simp [World.setCell, Array.getElem?_modify, h]
structure Upd (S : Nat → Prop) (w w' : World) : Prop where
  os : w'.os = w.os
  tape : w'.tape = w.tape
  output : w'.output = w.output
  size : w.heap.size ≤ w'.heap.size
  block : ∀ k, k < w.heap.size → ¬ S k → w'.heap[k]? = w.heap[k]?
theorem Upd.refl (S : Nat → Prop) (w : World) : Upd S w w := ⟨rfl, rfl, rfl, Nat.le_refl _, fun _ _ _ => rfl⟩
theorem Upd.trans {S : Nat → Prop} {a b c : World} (h : Upd S a b) (k : Upd S b c) : Upd S a c :=
  ⟨k.os.trans h.os, k.tape.trans h.tape, k.output.trans h.output, Nat.le_trans h.size k.size, fun i hi hs => (k.block i (Nat.lt_of_lt_of_le hi h.size) hs).trans (h.block i hi hs)⟩
theorem Upd.mono {S S' : Nat → Prop} {w w' : World} (h : Upd S w w') (hs : ∀ k, k < w.heap.size → S k → S' k) : Upd S' w w' := ⟨h.os, h.tape, h.output, h.size, fun k hk hn => h.block k hk (fun x => hn (hs k hk x))⟩
theorem Upd.of_below {S : Nat → Prop} {w w' : World} (h : Below w.heap.size w w') : Upd S w w' := ⟨h.os, h.tape, h.output, h.size, fun k hk _ => h.block k hk⟩
theorem Upd.alloc {S : Nat → Prop} {a w : World} (h : Upd S a w) (o : Obj) : Upd S a (w.alloc o) := h.trans (Upd.of_below ((Below.refl _ _).alloc (Nat.le_refl _) _))
theorem Upd.setCell {S : Nat → Prop} {a w : World} (h : Upd S a w) {p : Addr} (hp : S p.block) (u : Value) : Upd S a (w.setCell p u) :=
  ⟨h.os, h.tape, h.output, by simpa [World.setCell] using h.size, fun k hk hs => (Below.heap_setCell w p u k (fun e => hs (e ▸ hp))).trans (h.block k hk hs)⟩
theorem Upd.below {S : Nat → Prop} {B : Nat} {a w w' : World} (h : Upd S w w') (hb : Below B a w) (hB : B ≤ w.heap.size) (hS : ∀ k, k < w.heap.size → S k → B ≤ k) : Below B a w' :=
  hb.trans ⟨h.os, h.tape, h.output, h.size, fun k hk => h.block k (by omega) (fun s => by have := hS k (by omega) s; omega)⟩
theorem Upd.then {S : Nat → Prop} {a w w' : World} (h : Upd S a w) (hb : Below w.heap.size w w') : Upd S a w' := h.trans (Upd.of_below hb)
theorem Upd.cell {S : Nat → Prop} {w w' : World} (h : Upd S w w') {p : Addr} (hp : p.block < w.heap.size) (hs : ¬ S p.block) : w'.cell? p = w.cell? p := World.cell?_of_block (w := w) (h.block p.block hp hs)
theorem Upd.blk {S : Nat → Prop} {w w' : World} (h : Upd S w w') {g : Nat} {cur : Array Value} {e : TypeId} (hg : BlkAt w g cur e) (hs : ¬ S g) : BlkAt w' g cur e := by
  unfold BlkAt at *
  rw [h.block g (BlkAt.lt hg) hs]; exact hg
theorem BlkAt.keep {w w' : World} {g : Nat} {cur : Array Value} {e : TypeId} (hg : BlkAt w g cur e) (h : Below w.heap.size w w') : BlkAt w' g cur e :=
  Upd.blk (S := fun _ => False) (Upd.of_below h) hg (fun x => x)
end Go.Bg
