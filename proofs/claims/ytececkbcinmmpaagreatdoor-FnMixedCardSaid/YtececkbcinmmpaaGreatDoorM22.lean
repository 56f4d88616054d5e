/-
  Contracts and lemmas: DivG DivS DivR.
-/
import Derived.Test.YtececkbcinmmpaaGreatDoorM17
import Derived.Test.YtececkbcinmmpaaGreatDoorM21
import Derived.Test.YtececkbcinmmpaaGreatDoorM18
import Derived.Test.YtececkbcinmmpaaGreatDoorM14
set_option linter.unusedSimpArgs false
set_option linter.unusedVariables false
set_option maxRecDepth 100000
set_option maxHeartbeats 8000000
namespace Go.Proofs.YtececkbcinmmpaaGreatDoor
open Go.RowKit Go.Bg Dg
theorem mulWW_any (x y : Nat) (hx : x < 18446744073709551616) (hy : y < 18446744073709551616) (w : World) :
    Calls Tryz.prog 218 #[.int .u64 x, .int .u64 y] w fun e w' => e = .returned (.tuple #[.int .u64 ((x * y / 18446744073709551616 : Nat) : Int), .int .u64 ((x * y % 18446744073709551616 : Nat) : Int)]) ∧ w = w' := by
  have HM := Lib.hid (two_mul x y hx hy)
  have h1 : x * y / 18446744073709551616 < 18446744073709551616 := by
    rw [Nat.div_lt_iff_lt_mul (by decide)]
    exact Nat.lt_of_le_of_lt (Nat.mul_le_mul_left _ (Nat.le_of_lt hy)) (Nat.mul_lt_mul_of_pos_right hx (by decide))
  have h2 : x * y % 18446744073709551616 < 18446744073709551616 := Nat.mod_lt _ (by decide)
  generalize x * y / 18446744073709551616 = a at *
  generalize x * y % 18446744073709551616 = b at *
  go_enter Tryz.func218, Tryz.ntmps218
  go_wp2_with fail
  refine (HM.out _).mono ?_
  rintro e w1 ⟨rfl, rfl⟩
  go_wp2
  exact bodyPost_ret (v := .tuple #[.int .u64 (a : Nat), .int .u64 (b : Nat)]) (by simp [results, Tryz.results218, go_sem]) rfl ⟨rfl, rfl⟩
theorem greaterThan_any (x1 x2 y1 y2 : Nat) (h1 : x1 < 18446744073709551616) (h2 : x2 < 18446744073709551616) (h3 : y1 < 18446744073709551616) (h4 : y2 < 18446744073709551616) (w : World) :
    Calls Tryz.prog 286 #[.int .u64 x1, .int .u64 x2, .int .u64 y1, .int .u64 y2] w fun e w' => e = .returned (.bool (decide (y1 * W64 + y2 < x1 * W64 + x2))) ∧ w = w' := by
  by_cases c1 : y1 < x1
  · have k1 : ¬ ((x1 : Int) ≤ (y1 : Int)) := by omega
    have HE := Lib.hid (show decide (y1 * W64 + y2 < x1 * W64 + x2) = true from by
      have : (y1 + 1) * W64 ≤ x1 * W64 := Nat.mul_le_mul_right _ c1
      unfold W64 at *; simp; omega)
    clear c1
    rw [HE.out]
    go_enter Tryz.func286, Tryz.ntmps286
    go_wp2
    go_ret
    exact ⟨rfl, rfl⟩
  · have k1 : ((x1 : Int) ≤ (y1 : Int)) := by omega
    by_cases c2 : x1 = y1
    · subst c2
      have HE := Lib.hid (show decide (y2 < x2) = decide (x1 * W64 + y2 < x1 * W64 + x2) from by
        have e : y2 < x2 ↔ x1 * W64 + y2 < x1 * W64 + x2 := by omega
        exact decide_eq_decide.2 e)
      clear c1
      go_enter Tryz.func286, Tryz.ntmps286
      go_wp2
      go_ret
      exact ⟨ret_bool HE.out, rfl⟩
    · have k2 : ((x1 : Int) == (y1 : Int)) = false := by simp; omega
      have k2' : ¬ (x1 : Int) = (y1 : Int) := by omega
      have HE := Lib.hid (show decide (y1 * W64 + y2 < x1 * W64 + x2) = false from by
        have : (x1 + 1) * W64 ≤ y1 * W64 := Nat.mul_le_mul_right _ (by omega)
        unfold W64 at *; simp; omega)
      have HE2 := Lib.hid (show decide (y1 < x1) = false from by simp; omega)
      clear c1 c2
      rw [HE.out]
      go_enter Tryz.func286, Tryz.ntmps286
      go_wp2
      go_ret
      exact ⟨ret_bool HE2.out, rfl⟩
end Go.Proofs.YtececkbcinmmpaaGreatDoor
namespace Go.Bg
open Go.RowKit
theorem Upd.into {S S' : Nat → Prop} {a w w' : World} (h : Upd S' w w') (hb : Upd S a w) (hS : ∀ k, k < w.heap.size → S' k → S k) : Upd S a w' := hb.trans (h.mono hS)
end Go.Bg
namespace Go.Proofs.YtececkbcinmmpaaGreatDoor
open Go.RowKit Go.Bg Dg
def New (S : Nat → Prop) (w : World) : Prop := ∀ x, w.heap.size ≤ x → S x
theorem New.up {S : Nat → Prop} {w w' : World} (h : New S w) (k : w.heap.size ≤ w'.heap.size) : New S w' := fun x hx => h x (Nat.le_trans k hx)
structure WrAt (g : Nat) (w w' : World) : Prop where
  upd : Upd (· = g) w w'
  blk : ∀ cur, BlkAt w g cur 139 → ∃ cur', BlkAt w' g cur' 139 ∧ cur'.size = cur.size
theorem WrAt.refl (g : Nat) (w : World) : WrAt g w w := ⟨Upd.refl _ _, fun cur h => ⟨cur, h, rfl⟩⟩
theorem WrAt.trans {g : Nat} {a b c : World} (h : WrAt g a b) (k : WrAt g b c) : WrAt g a c :=
  ⟨h.upd.trans k.upd, fun cur hc => by obtain ⟨c1, h1, e1⟩ := h.blk cur hc; obtain ⟨c2, h2, e2⟩ := k.blk c1 h1; exact ⟨c2, h2, e2.trans e1⟩⟩
theorem WrAt.setCell (g i : Nat) (v : Value) (w : World) : WrAt g w (w.setCell ⟨g, i, none⟩ v) :=
  ⟨Upd.set1 w g i v, fun cur h => ⟨_, h.set i v, by simp⟩⟩
theorem WrAt.of_row {w w' : World} {g o n : Nat} {cur : Array Value} {h : Nat → Nat} (hg : BlkAt w g cur 139) (r : RowUp 139 w w' g o n cur h) : WrAt g w w' :=
  ⟨r.upd, fun c hc => by
    obtain ⟨cur', h1, h2, h3, h4⟩ := r.blk
    have e : c = cur := by
      unfold BlkAt at hc hg
      rw [hg] at hc
      injection hc with hc
      injection hc with e
      exact e.symm
    exact ⟨cur', h1, by rw [h2, e]⟩⟩
theorem WrAt.drewN (g : Nat) (w : World) (q : Nat) : WrAt g w (w.drewN q) := ⟨Upd.of_below (below_drewN (Below.refl _ _) q), fun cur h => ⟨cur, h.keep (below_drewN (Below.refl _ _) q), rfl⟩⟩
def WBlk (w : World) (g c : Nat) : Prop := ∃ cur, BlkAt w g cur 139 ∧ cur.size = c
theorem WBlk.wr {w w' : World} {g x c : Nat} (h : WBlk w x c) (k : WrAt g w w') : WBlk w' x c := by
  obtain ⟨cur, h1, h2⟩ := h
  by_cases e : x = g
  · subst e
    obtain ⟨c1, h3, h4⟩ := k.blk cur h1
    exact ⟨c1, h3, h4.trans h2⟩
  · exact ⟨cur, k.upd.blk h1 e, h2⟩
theorem WBlk.keep {w w' : World} {x c : Nat} (h : WBlk w x c) (k : Below w.heap.size w w') : WBlk w' x c := by
  obtain ⟨cur, h1, h2⟩ := h
  exact ⟨cur, h1.keep k, h2⟩
theorem StkAt.wr {w w' : World} {g sb l c : Nat} {st : Option (Nat × Nat)} (h : StkAt w sb st l) (hg : WBlk w g c) (k : WrAt g w w') : StkAt w' sb st l := by
  obtain ⟨cur, hgb, -⟩ := hg
  rcases st with _ | ⟨ib, gi⟩
  · exact ⟨h.1, k.upd.blk h.2 (fun e => words_ne hgb h.2 (by decide) e.symm)⟩
  · obtain ⟨c, cur2, e1, e2, e3, e4, e5, e6⟩ := h
    obtain ⟨c3, f1, f2⟩ := WBlk.wr ⟨cur2, e3, e4⟩ k
    exact ⟨c, c3, k.upd.blk e1 (fun e => words_ne hgb e1 (by decide) e.symm), k.upd.blk e2 (fun e => words_ne hgb e2 (by decide) e.symm), f1, f2, e5, e6⟩
theorem WrAt.into {B : Nat → Prop} {g : Nat} {w0 w w' : World} (k : WrAt g w w') (hb : Upd B w0 w) (hg : B g) : Upd B w0 w' :=
  k.upd.into hb (fun x _ e => by subst e; exact hg)
theorem WrAt.cell {g b p c : Nat} {w w' : World} (k : WrAt g w w') (hb : WBlk w b c) (hne : b ≠ g) : w'.cell? ⟨b, p, none⟩ = w.cell? ⟨b, p, none⟩ := by
  obtain ⟨cur, h1, -⟩ := hb
  exact k.upd.cell (p := ⟨b, p, none⟩) h1.lt hne
structure DivInv (sb gu gv ov gq gh n m cu cv cq ch U V : Nat) (st : Option (Nat × Nat)) (l : Nat) (B : Nat → Prop) (w0 : World) (k : Nat) (w : World) : Prop where
  ub : WBlk w gu cu
  vb : WBlk w gv cv
  qb : WBlk w gq cq
  hb : WBlk w gh ch
  uw : WCells w gu 0 (m + n) (dg W64 (urest W64 U V k))
  qw : ∀ i, k ≤ i → i < m → w.cell? ⟨gq, i, none⟩ = some (.int .u64 (dg W64 (U / V) i : Nat))
  vw : WCells w gv ov n (dg W64 V)
  stk : StkAt w sb st l
  bel : Upd B w0 w
  siz : New B w
theorem DivInv.keep {sb gu gv ov gq gh n m cu cv cq ch U V : Nat} {st : Option (Nat × Nat)} {l : Nat} {B : Nat → Prop} {w0 : World} {k : Nat} {w w' : World} (h : DivInv sb gu gv ov gq gh n m cu cv cq ch U V st l B w0 k w) (hb : Below w.heap.size w w') :
    DivInv sb gu gv ov gq gh n m cu cv cq ch U V st l B w0 k w' :=
  ⟨h.ub.keep hb, h.vb.keep hb, h.qb.keep hb, h.hb.keep hb, fun i hi => cell_keep (h.uw i hi) hb, fun i h1 h2 => cell_keep (h.qw i h1 h2) hb, fun i hi => cell_keep (h.vw i hi) hb, h.stk.keep hb, h.bel.then hb, h.siz.up hb.size⟩
theorem divInv_start {sb gu gv ov gq n m cu cv cq l U V : Nat} {B : Nat → Prop} {st : Option (Nat × Nat)} {w0 w w2 : World} (hm : U < V * W64 ^ m) (hV : V < W64 ^ n) (hV0 : 0 < V)
    (ub : WBlk w gu cu) (vb : WBlk w gv cv) (qb : WBlk w gq cq) (hu : WCells w gu 0 (m + n) (dg W64 U)) (hv : WCells w gv ov n (dg W64 V)) (hst : StkAt w sb st l) (hus : ¬ StkBlk sb st gu) (hqs : ¬ StkBlk sb st gq) (hvs : ∀ ib, st = some (ib, gv) → ov + n ≤ l) (hsB : ∀ x, StkBlk sb st x → B x) (bel : Upd B w0 w) (siz : New B w)
    {st' : Option (Nat × Nat)} {l' gh oh : Nat} {curh : Array Value} (hbh : BlkAt w2 gh curh 139) (hst' : StkAt w2 sb st' l') (hloc : (w.heap.size ≤ gh) ∨ ((∃ ib, st = some (ib, gh)) ∧ l ≤ oh)) (hUpd : Upd (StkBlk sb st) w w2) (hwd : ∀ x cx, BlkAt w x cx 139 → ∃ c', BlkAt w2 x c' 139 ∧ c'.size = cx.size) (hlow : ∀ ib g0, st = some (ib, g0) → ∀ i, i < l → w2.cell? ⟨g0, i, none⟩ = w.cell? ⟨g0, i, none⟩) :
    DivInv sb gu gv ov gq gh n m cu cv cq curh.size U V st' l' B w0 (m + 1) w2 ∧ gh ≠ gu ∧ gh ≠ gq ∧ (gv ≠ gh ∨ ov + n ≤ oh) ∧ B gh := by
  have wb : ∀ {x c}, WBlk w x c → WBlk w2 x c := fun {x c} h => by
    obtain ⟨cur, h1, h2⟩ := h
    obtain ⟨c', h3, h4⟩ := hwd x cur h1
    exact ⟨c', h3, h4.trans h2⟩
  have hlt : ∀ {x c}, WBlk w x c → x < w.heap.size := fun {x c} h => by obtain ⟨cur, h1, _⟩ := h; exact h1.lt
  have hne : ∀ {x c}, WBlk w x c → ¬ StkBlk sb st x → gh ≠ x := fun {x c} h hs e => by
    rcases hloc with h1 | ⟨⟨ib, h1⟩, _⟩
    · have := hlt h; omega
    · exact hs (.inr ⟨ib, gh, h1, .inr e.symm⟩)
  have hU1 : U < V * W64 ^ (m + 1) := Nat.lt_of_lt_of_le hm (Nat.mul_le_mul_left _ (Nat.pow_le_pow_right W64_pos (by omega)))
  refine ⟨⟨wb ub, wb vb, wb qb, ⟨curh, hbh, rfl⟩, ?_, fun i h1 h2 => by omega, ?_, hst', hUpd.into bel (fun k _ hk => hsB k hk), siz.up hUpd.size⟩, hne ub hus, hne qb hqs, ?_, by rcases hloc with h1 | ⟨⟨ib, h1⟩, _⟩; exact siz _ h1; exact hsB gh (.inr ⟨ib, gh, h1, .inr rfl⟩)⟩
  · intro i hi
    rw [urest_start hU1, hUpd.cell (p := ⟨gu, 0 + i, none⟩) (hlt ub) hus]
    exact hu i hi
  · intro i hi
    by_cases hs : StkBlk sb st gv
    · rcases hs with e | ⟨ib, g, e, h | h⟩
      · obtain ⟨cur, h1, _⟩ := vb
        rcases st with _ | ⟨ib, g⟩
        · exact absurd e (words_ne h1 hst.2 (by decide))
        · obtain ⟨c, cur2, e1, _⟩ := hst
          exact absurd e (words_ne h1 e1 (by decide))
      · subst e
        obtain ⟨cur, h1, _⟩ := vb
        obtain ⟨c, cur2, e1, e2, _⟩ := hst
        exact absurd h (words_ne h1 e2 (by decide))
      · subst h
        rw [hlow ib gv e (ov + i) (by have := hvs ib e; omega)]
        exact hv i hi
    · rw [hUpd.cell (p := ⟨gv, ov + i, none⟩) (hlt vb) hs]
      exact hv i hi
  · by_cases e : gv = gh
    · rcases hloc with h1 | ⟨⟨ib, h1⟩, h2⟩
      · have := hlt vb; omega
      · right
        have := hvs ib (by rw [e]; exact h1)
        omega
    · exact .inl e
theorem wcells_out {w w' : World} {g o n b p m : Nat} {cur : Array Value} {h f : Nat → Nat} (hg : BlkAt w g cur 139) (r : RowUp 139 w w' g o n cur h) (hc : WCells w b p m f) (hne : b ≠ g ∨ p + m ≤ o ∨ o + n ≤ p) : WCells w' b p m f :=
  fun i hi => r.readOut hg (hc i hi) (by rcases hne with h | h | h; exact .inl h; exact .inr (.inl (by omega)); exact .inr (.inr (by omega)))
theorem wcells_set {w : World} {g j b p m : Nat} {v : Value} {f : Nat → Nat} (hc : WCells w b p m f) (hne : b ≠ g ∨ p + m ≤ j ∨ j < p) : WCells (w.setCell ⟨g, j, none⟩ v) b p m f :=
  fun i hi => by
    rw [World.cell?_setCell_other _ _ _ _ (fun hh => by injection hh with e1 e2 _; rcases hne with h | h | h <;> omega)]
    exact hc i hi
theorem urest_zero {U V n k i : Nat} (hV : V < W64 ^ n) (h0 : 0 < V) (hi : n + k ≤ i) : dg W64 (urest W64 U V k) i = 0 := by
  refine dg_of_lt (Nat.lt_of_lt_of_le (urest_lt W64_pos h0) ?_)
  refine Nat.le_trans (Nat.mul_le_mul_right _ (Nat.le_of_lt hV)) ?_
  rw [← Nat.pow_add]
  exact Nat.pow_le_pow_right W64_pos hi
theorem add_top {T V n : Nat} (hV : V < W64 ^ n) : (dg W64 T n + (T % W64 ^ n + V % W64 ^ n) / W64 ^ n) % W64 = dg W64 (T + V) n := by
  unfold dg
  rw [addw_div W64_pos T V n, Nat.mod_eq_of_lt hV, Nat.mod_add_mod]
theorem dg_over {X M n i : Nat} (hM : M = W64 ^ n) (hi : i < n) : dg W64 (X + M) i = dg W64 X i := by
  rw [← dg_mod (X + M) hi, hM, Nat.add_mod_right, dg_mod _ hi]
theorem sec_top {U V m S j : Nat} (hU : U < V * W64 ^ m) (hV0 : 0 < V) (hS : S = urest W64 U V (j + 1) / W64 ^ j) (hj : j = m) : S < V := by
  subst hj
  rw [hS, urest_start (Nat.lt_of_lt_of_le hU (Nat.mul_le_mul_left _ (Nat.pow_le_pow_right W64_pos (Nat.le_succ j))))]
  exact (Nat.div_lt_iff_lt_mul (Nat.pow_pos W64_pos)).2 hU
theorem cell_drew' (w : World) (p : Addr) : w.drew.cell? p = w.cell? p := rfl
theorem row_out {w w' : World} {g o n i : Nat} {cur : Array Value} {h : Nat → Nat} (hg : BlkAt w g cur 139) (r : RowUp 139 w w' g o n cur h) (hi : i < o ∨ o + n ≤ i) : w'.cell? ⟨g, i, none⟩ = w.cell? ⟨g, i, none⟩ := by
  obtain ⟨cur', h1, h2, h3, h4⟩ := r.blk
  rw [h1.cell, hg.cell]
  exact h4 i (by omega)
theorem DivInv.beside {sb gu gv ov gq gh n m cu cv cq ch U V l : Nat} {B : Nat → Prop} {st : Option (Nat × Nat)} {w0 : World} {k : Nat} {w w' : World} (h : DivInv sb gu gv ov gq gh n m cu cv cq ch U V st l B w0 k w) (k1 : WrAt gh w w') (hgu : gh ≠ gu) (hgq : gh ≠ gq) (hv : WCells w' gv ov n (dg W64 V)) (hB : B gh) :
    DivInv sb gu gv ov gq gh n m cu cv cq ch U V st l B w0 k w' :=
  ⟨h.ub.wr k1, h.vb.wr k1, h.qb.wr k1, h.hb.wr k1, fun i hi => by rw [k1.cell h.ub (Ne.symm hgu)]; exact h.uw i hi, fun i h1 h2 => by rw [k1.cell h.qb (Ne.symm hgq)]; exact h.qw i h1 h2, hv, h.stk.wr h.hb k1, k1.into h.bel hB, h.siz.up k1.upd.size⟩
theorem DivInv.sect {sb gu gv ov gq gh n m cu cv cq ch U V l : Nat} {B : Nat → Prop} {st : Option (Nat × Nat)} {w0 : World} {j : Nat} {w : World} (h : DivInv sb gu gv ov gq gh n m cu cv cq ch U V st l B w0 (j + 1) w) {S : Nat} (hS : S = urest W64 U V (j + 1) / W64 ^ j) (r : Nat) (hr : j + r ≤ m + n) : WCells w gu j r (dg W64 S) := fun i hi => by
  have := h.uw (j + i) (by omega)
  rw [Nat.zero_add] at this
  rw [this, hS, Dg.dg_div]
theorem DivInv.next {sb gu gv ov gq gh n m cu cv cq ch U V l : Nat} {B : Nat → Prop} {st : Option (Nat × Nat)} {w0 : World} {j : Nat} {w w' w'' : World} (h : DivInv sb gu gv ov gq gh n m cu cv cq ch U V st l B w0 (j + 1) w) {S : Nat} (hS : S = urest W64 U V (j + 1) / W64 ^ j) (hSV : S < V * W64) (hV : V < W64 ^ n) (hV0 : 0 < V)
    (k1 : WrAt gu w w') (hlo : ∀ i, i < j → w'.cell? ⟨gu, i, none⟩ = w.cell? ⟨gu, i, none⟩) (hmid : ∀ i, i ≤ n → j + i < m + n → w'.cell? ⟨gu, j + i, none⟩ = some (.int .u64 (dg W64 (S % V) i : Nat))) (hhi : ∀ i, j + n < i → w'.cell? ⟨gu, i, none⟩ = w.cell? ⟨gu, i, none⟩)
    (k2 : WrAt gq w' w'') (hq : j < m → w''.cell? ⟨gq, j, none⟩ = some (.int .u64 (S / V : Nat))) (hqo : ∀ i, j < i → i < m → w''.cell? ⟨gq, i, none⟩ = w'.cell? ⟨gq, i, none⟩)
    (huv : gu ≠ gv) (huq : gu ≠ gq) (hvq : gv ≠ gq) (hBu : B gu) (hBq : B gq) :
    DivInv sb gu gv ov gq gh n m cu cv cq ch U V st l B w0 j w'' := by
  have qb1 := h.qb.wr k1
  have ub1 := h.ub.wr k1
  have bel1 := k1.into h.bel hBu
  have siz1 := h.siz.up k1.upd.size
  refine ⟨ub1.wr k2, (h.vb.wr k1).wr k2, qb1.wr k2, (h.hb.wr k1).wr k2, ?_, ?_, ?_, (h.stk.wr h.ub k1).wr qb1 k2, k2.into bel1 hBq, siz1.up k2.upd.size⟩
  · intro i hi
    rw [Nat.zero_add, k2.cell ub1 huq]
    by_cases h1 : i < j
    · rw [hlo i h1, urest_lo W64_pos h1]
      have := h.uw i hi
      rwa [Nat.zero_add] at this
    · by_cases h2 : i ≤ j + n
      · obtain ⟨d, rfl⟩ : ∃ d, i = j + d := ⟨i - j, by omega⟩
        rw [hmid d (by omega) hi, urest_hi W64_pos, ← hS]
      · rw [hhi i (by omega), urest_zero hV hV0 (by omega)]
        have := h.uw i hi
        rw [Nat.zero_add, urest_zero hV hV0 (by omega)] at this
        exact this
  · intro i h1 h2
    by_cases e : i = j
    · subst e
      rw [hq h2, hS, usec_digit]
    · rw [hqo i (by omega) h2, k1.cell h.qb (Ne.symm huq)]
      exact h.qw i (by omega) h2
  · intro i hi
    rw [k2.cell (h.vb.wr k1) hvq, k1.cell h.vb (Ne.symm huv)]
    exact h.vw i hi
end Go.Proofs.YtececkbcinmmpaaGreatDoor
