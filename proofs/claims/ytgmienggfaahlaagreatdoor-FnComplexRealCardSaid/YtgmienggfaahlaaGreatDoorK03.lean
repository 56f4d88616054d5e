/-
  Contracts and lemmas: VecA Spec1 Spec2 BigH.
-/
import Derived.Laws.Externs
import Derived.Shelf.Spec.BitsCarry
import Derived.Test.YtgmienggfaahlaaGreatDoorK02
import Derived.Test.YtgmienggfaahlaaGreatDoorK00
import Derived.LaidEqlPtr
set_option linter.unusedSimpArgs false
set_option linter.unusedVariables false
set_option maxRecDepth 100000
set_option maxHeartbeats 8000000
namespace Dg
theorem addw_div {B : Nat} (hB : 0 < B) (X y k : Nat) : (X + y) / B ^ k = X / B ^ k + (X % B ^ k + y) / B ^ k := by
  have hp : 0 < B ^ k := Nat.pow_pos hB
  have h := Nat.div_add_mod X (B ^ k)
  have e : X + y = X % B ^ k + y + B ^ k * (X / B ^ k) := by omega
  rw [e, Nat.add_mul_div_left _ _ hp]
  have e2 : (X % B ^ k + y + B ^ k * (X / B ^ k)) = X + y := by omega
  omega
theorem addw_same {B : Nat} (hB : 0 < B) {X y k i : Nat} (h : (X % B ^ k + y) / B ^ k = 0) (hi : k ≤ i) : dg B (X + y) i = dg B X i := by
  obtain ⟨j, rfl⟩ : ∃ j, i = k + j := ⟨i - k, by omega⟩
  rw [← dg_div, ← dg_div, addw_div hB, h, Nat.add_zero]
theorem addw_step {B : Nat} (hB : 0 < B) (X y k : Nat) :
    dg B (X + y) k = (dg B X k + (X % B ^ k + y) / B ^ k) % B ∧ (X % B ^ (k + 1) + y) / B ^ (k + 1) = (dg B X k + (X % B ^ k + y) / B ^ k) / B := by
  have hp : 0 < B ^ k := Nat.pow_pos hB
  constructor
  · show (X + y) / B ^ k % B = _
    rw [addw_div hB, Nat.add_mod, dg]
    conv => rhs; rw [Nat.add_mod, Nat.mod_mod]
  · rw [mod_succ, Nat.pow_succ, ← Nat.div_div_eq_div_mul]
    have : X % B ^ k + B ^ k * dg B X k + y = X % B ^ k + y + B ^ k * dg B X k := by omega
    rw [this, Nat.add_mul_div_left _ _ hp, Nat.add_comm]
theorem subb {B : Nat} (hB : 0 < B) {X Y : Nat} (h : Y ≤ X) (k : Nat) : (X - Y) / B ^ k = X / B ^ k - Y / B ^ k - (if X % B ^ k < Y % B ^ k then 1 else 0) := by
  have hp : 0 < B ^ k := Nat.pow_pos hB
  have hx := Nat.div_add_mod X (B ^ k)
  have hy := Nat.div_add_mod Y (B ^ k)
  have hxm := Nat.mod_lt X hp
  have hym := Nat.mod_lt Y hp
  generalize X / B ^ k = a at *
  generalize X % B ^ k = r at *
  generalize Y / B ^ k = b at *
  generalize Y % B ^ k = t at *
  generalize B ^ k = P at *
  by_cases hr : r < t
  · rw [if_pos hr]
    have hba : b < a := by
      rcases Nat.lt_or_ge b a with hh | hh
      · exact hh
      · have : P * a ≤ P * b := Nat.mul_le_mul_left _ hh
        omega
    obtain ⟨d, rfl⟩ : ∃ d, a = b + 1 + d := ⟨a - b - 1, by omega⟩
    have e : X - Y = P * d + (P + r - t) := by
      have : P * (b + 1 + d) = P * b + P + P * d := by rw [Nat.mul_add, Nat.mul_add, Nat.mul_one]
      omega
    rw [e, Nat.add_comm, Nat.add_mul_div_left _ _ hp, Nat.div_eq_of_lt (by omega)]
    omega
  · rw [if_neg hr]
    have hba : b ≤ a := by
      rcases Nat.lt_or_ge a b with hh | hh
      · have : P * (a + 1) ≤ P * b := Nat.mul_le_mul_left _ hh
        rw [Nat.mul_add, Nat.mul_one] at this
        omega
      · exact hh
    obtain ⟨d, rfl⟩ : ∃ d, a = b + d := ⟨a - b, by omega⟩
    have e : X - Y = P * d + (r - t) := by
      have : P * (b + d) = P * b + P * d := Nat.mul_add _ _ _
      omega
    rw [e, Nat.add_comm, Nat.add_mul_div_left _ _ hp, Nat.div_eq_of_lt (by omega)]
    omega
end Dg
namespace Go.Bg
open Go.RowKit Dg
structure RowUp (T : TypeId) (w w' : World) (g o n : Nat) (cur : Array Value) (h : Nat → Nat) : Prop where
  upd : Upd (· = g) w w'
  blk : ∃ cur', BlkAt w' g cur' T ∧ cur'.size = cur.size ∧ (∀ i, i < n → cur'[o + i]? = some (.int .u64 (h i : Nat))) ∧ ∀ j, (j < o ∨ o + n ≤ j) → cur'[j]? = cur[j]?
theorem RowUp.start {T : TypeId} {w : World} {g : Nat} {cur : Array Value} (hg : BlkAt w g cur T) (o : Nat) (h : Nat → Nat) : RowUp T w w g o 0 cur h :=
  ⟨Upd.refl _ _, cur, hg, rfl, fun i hi => by omega, fun _ _ => rfl⟩
theorem RowUp.drewN {T : TypeId} {w w' : World} {g o n : Nat} {cur : Array Value} {h : Nat → Nat} (r : RowUp T w w' g o n cur h) (q : Nat) : RowUp T w (w'.drewN q) g o n cur h := by
  have hb : Below w'.heap.size w' (w'.drewN q) := below_drewN (Below.refl _ _) q
  obtain ⟨cur', h1, h2, h3, h4⟩ := r.blk
  exact ⟨r.upd.then hb, cur', h1.keep hb, h2, h3, h4⟩
theorem RowUp.step {T : TypeId} {w w' : World} {g o k : Nat} {cur : Array Value} {h : Nat → Nat} (r : RowUp T w w' g o k cur h) (hk : o + k < cur.size) {x : Nat} (hx : x = h k) :
    RowUp T w (w'.setCell ⟨g, o + k, none⟩ (.int .u64 (x : Nat))) g o (k + 1) cur h := by
  obtain ⟨cur', h1, h2, h3, h4⟩ := r.blk
  refine ⟨r.upd.setCell rfl _, _, h1.set (o + k) _, by simpa using h2, fun i hi => ?_, fun j hj => ?_⟩
  · rw [Array.getElem?_setIfInBounds]
    by_cases e : o + k = o + i
    · rw [if_pos e, if_pos (by omega)]
      have : i = k := by omega
      subst this; rw [hx]
    · rw [if_neg e]; exact h3 i (by omega)
  · rw [Array.getElem?_setIfInBounds, if_neg (by omega)]; exact h4 j (by omega)
theorem RowUp.room {T : TypeId} {w w' : World} {g o k : Nat} {cur : Array Value} {h : Nat → Nat} (r : RowUp T w w' g o k cur h) {j : Nat} (hj : j < cur.size) :
    (∃ u, w'.cell? ⟨g, j, none⟩ = some u) ∧ w'.frozen? ⟨g, j, none⟩ = false := by
  obtain ⟨cur', h1, h2, h3, h4⟩ := r.blk
  refine ⟨?_, h1.frozen j⟩
  rw [h1.cell j, Array.getElem?_eq_getElem (by omega)]
  exact ⟨_, rfl⟩
theorem RowUp.read {T : TypeId} {w w' : World} {g o k b p i : Nat} {cur : Array Value} {h : Nat → Nat} (r : RowUp T w w' g o k cur h) (hg : BlkAt w g cur T) {v : Value} (hv : w.cell? ⟨b, p + i, none⟩ = some v) (hne : b ≠ g ∨ o ≤ p) (hi : k ≤ i) :
    w'.cell? ⟨b, p + i, none⟩ = some v := by
  by_cases e : b = g
  · subst e
    obtain ⟨cur', h1, h2, h3, h4⟩ := r.blk
    rw [h1.cell, h4 _ (by omega), ← hg.cell]; exact hv
  · rw [r.upd.cell (p := ⟨b, p + i, none⟩) (block_lt hv) e]; exact hv
theorem RowUp.cells {T : TypeId} {w w' : World} {g o n : Nat} {cur : Array Value} {h : Nat → Nat} (r : RowUp T w w' g o n cur h) : ∀ i, i < n → w'.cell? ⟨g, o + i, none⟩ = some (.int .u64 (h i : Nat)) := by
  intro i hi
  obtain ⟨cur', h1, h2, h3, h4⟩ := r.blk
  rw [h1.cell]; exact h3 i hi
def WCells (w : World) (b o n : Nat) (f : Nat → Nat) : Prop := ∀ i, i < n → w.cell? ⟨b, o + i, none⟩ = some (.int .u64 (f i : Nat))
end Go.Bg
namespace Go.Proofs.YtgmienggfaahlaaGreatDoor
open Go.RowKit Go.Bg Dg
theorem runAdd64 (x y c : Nat) (hc : c ≤ 1) (w : World) :
    (callFunc 264 #[.int .u64 x, .int .u64 y, .int .u64 c]).run Tryz.prog w =
      .ok (.value (.tuple #[.int .u64 (((x + y + c) % 18446744073709551616 : Nat) : Int), .int .u64 (((x + y + c) / 18446744073709551616 : Nat) : Int)])) w := by
  rw [run_callFunc_extern Tryz.func264 (by kernel_rfl) (by kernel_rfl) (by kernel_rfl) (e := add64Entry) (by kernel_rfl), run_add64 x y c (by omega) (by omega) (by omega) (by omega)]
  simp only [Result.andThen]
  congr 5 <;> omega
theorem runSub64 (x y b : Nat) (hb : b ≤ 1) (w : World) :
    (callFunc 266 #[.int .u64 x, .int .u64 y, .int .u64 b]).run Tryz.prog w =
      .ok (.value (.tuple #[.int .u64 (((x + 18446744073709551616 - y - b) % 18446744073709551616 : Nat) : Int), .int .u64 ((if x < y + b then 1 else 0 : Nat) : Int)])) w := by
  rw [run_callFunc_extern Tryz.func266 (by kernel_rfl) (by kernel_rfl) (by kernel_rfl) (e := sub64Entry) (by kernel_rfl), run_sub64 x y b hb]
  rfl
theorem bitsAdd_any (x y c : Nat) (hc : c ≤ 1) (w : World) :
    Calls Tryz.prog 227 #[.int .u64 x, .int .u64 y, .int .u64 c] w fun e w' => e = .returned (.tuple #[.int .u64 (((x + y + c) % 18446744073709551616 : Nat) : Int), .int .u64 (((x + y + c) / 18446744073709551616 : Nat) : Int)]) ∧ w = w' := by
  have ha := fun w => runAdd64 x y c hc w
  have hd1 : (x + y + c) % 18446744073709551616 < 18446744073709551616 := Nat.mod_lt _ (by decide)
  generalize (x + y + c) % 18446744073709551616 = s at *
  generalize (x + y + c) / 18446744073709551616 = d at *
  go_enter Tryz.func227, Tryz.ntmps227
  go_wp2
  exact bodyPost_ret (v := .tuple #[.int .u64 (s : Nat), .int .u64 (d : Nat)]) (by simp [results, Tryz.results227, go_sem]) rfl ⟨rfl, rfl⟩
theorem bitsSub_any (x y c : Nat) (hc : c ≤ 1) (w : World) :
    Calls Tryz.prog 229 #[.int .u64 x, .int .u64 y, .int .u64 c] w fun e w' => e = .returned (.tuple #[.int .u64 (((x + 18446744073709551616 - y - c) % 18446744073709551616 : Nat) : Int), .int .u64 ((if x < y + c then 1 else 0 : Nat) : Int)]) ∧ w = w' := by
  have ha := fun w => runSub64 x y c hc w
  have hd1 : (x + 18446744073709551616 - y - c) % 18446744073709551616 < 18446744073709551616 := Nat.mod_lt _ (by decide)
  generalize (x + 18446744073709551616 - y - c) % 18446744073709551616 = s at *
  have hd2 : (if x < y + c then 1 else 0 : Nat) ≤ 1 := by split <;> omega
  generalize (if x < y + c then 1 else 0 : Nat) = d at *
  go_enter Tryz.func229, Tryz.ntmps229
  go_wp2
  exact bodyPost_ret (v := .tuple #[.int .u64 (s : Nat), .int .u64 (d : Nat)]) (by simp [results, Tryz.results229, go_sem]) rfl ⟨rfl, rfl⟩
theorem trim_any (a : Option Addr) (n c : Nat) (f : Nat → Nat) (w : World)
    (hn : n ≤ 1000000000) (hnc : n ≤ c) (hc : Cells w a n (fun i => .int .i64 (f i : Nat))) :
    Calls Tryz.prog 49 #[.slice a n c] w fun e w' => e = .returned (.slice a (tlen f n) c) ∧ w = w' := by
  go_enter Tryz.func49, Tryz.ntmps49
  go_wp2
  go_loop [0] (fun v => ∃ m : Nat, m ≤ n ∧ v = .slice a m c ∧ tlen f m = tlen f n) (fun v => sliceLen v)
  case atStart => exact ⟨n, Nat.le_refl _, rfl, rfl⟩
  case round =>
    obtain ⟨m, hm, rfl, ht⟩ := hrel
    have HT := Lib.hid ht; clear ht
    by_cases h0 : 0 < m
    · obtain ⟨b, off, rfl, hcell⟩ := hc (by omega)
      have hcm := hcell (m - 1) (by omega)
      obtain ⟨k, rfl⟩ : ∃ k, m = k + 1 := ⟨m - 1, by omega⟩
      clear hc hcell
      simp only [Nat.add_sub_cancel] at hcm
      go_wp2
      · have hz : ((f k : Int) == 0) = true := by assumption
        have hz : f k = 0 := by simpa using hz
        go_round
        case rel => exact ⟨k, by omega, rfl, by rw [← HT.out, tlen, if_pos hz]⟩
        case measure => simp [sliceLen]
      · have hz : ((f k : Int) == 0) = false := by assumption
        have hz : f k ≠ 0 := by simpa using hz
        go_ret
        exact ⟨ret_slice (by rw [← HT.out, tlen, if_neg hz]), rfl⟩
    · obtain rfl : m = 0 := by omega
      go_wp2
      go_ret
      exact ⟨ret_slice HT.out, rfl⟩
def dig (X k : Nat) : Value := .int .i64 (dg 65536 X k : Nat)
theorem natAt_of_row {w : World} {g n cap X : Nat} (hX : X < 65536 ^ n) (hnc : n ≤ cap) (hcm : cap ≤ maxLen) (hcell : ∀ i, i < n → w.cell? ⟨g, i, none⟩ = some (dig X i)) :
    NatAt w (some ⟨g, 0, none⟩) (tlen (dg 65536 X) n) cap X :=
  ⟨tlen_lt hX, tlen_top hX, Nat.le_trans (tlen_le _ _) hnc, hcm, fun _ => ⟨g, 0, rfl, fun i hi => by rw [Nat.zero_add]; exact hcell i (Nat.lt_of_lt_of_le hi (tlen_le _ _))⟩⟩
theorem row_cells {w : World} {g n : Nat} {f : Nat → Value} (h : ∀ i, i < n → w.cell? ⟨g, i, none⟩ = ((List.range n).map f)[i]?) : ∀ i, i < n → w.cell? ⟨g, i, none⟩ = some (f i) := by
  intro i hi
  rw [h i hi]; simp [hi]
theorem add_any (a1 a2 : Option Addr) (n1 n2 c1 c2 N1 N2 : Nat) (w : World) (h1 : NatAt w a1 n1 c1 N1) (h2 : NatAt w a2 n2 c2 N2) (hb1 : n1 ≤ 1000000) (hb2 : n2 ≤ 1000000) :
    Calls Tryz.prog 30 #[.slice a1 n1 c1, .slice a2 n2 c2] w (Gives .i64 65536 (N1 + N2) w) := by
  obtain ⟨i0, hi, hz0, hz1, hz2⟩ := info_parts infoInt
  go_enter Tryz.func30, Tryz.ntmps30
  go_wp2
  go_loopw [5, 6, 7] (fun out carry i wr => ∃ k : Nat, (k ≤ n1 ∨ k ≤ n2) ∧ i = .int .i64 k ∧ carry = .int .i64 ((N1 % 65536 ^ k + N2 % 65536 ^ k) / 65536 ^ k : Nat) ∧
      wr.ownsRow w.heap.size 3 1 out k ((List.range k).map (dig (N1 + N2))) ∧ out ≠ .slice none 0 0 ∧ Below w.heap.size w wr)
    (fun _ _ i _ => (n1 - (intOf i).toNat) + (n2 - (intOf i).toNat))
  case atStart => exact ⟨0, .inl (Nat.zero_le _), rfl, by simp [Nat.mod_one], World.ownsRow_made w #[] 0 (Nat.le_refl _) (by simp [maxLen]) rfl, by simp, (Below.refl _ _).alloc (Nat.le_refl _) _⟩
  case round =>
    obtain ⟨k, hk, rfl, rfl, hown, hne, hbel⟩ := hrel
    have h1' := h1.keep hbel
    have h2' := h2.keep hbel
    have hl1 := h1.lt
    have hl2 := h2.lt
    clear h1 h2
    have d1 : dg 65536 N1 k < 65536 := dg_lt (by decide) _ _
    have d2 : dg 65536 N2 k < 65536 := dg_lt (by decide) _ _
    have hcy : (N1 % 65536 ^ k + N2 % 65536 ^ k) / 65536 ^ k ≤ 1 := add_carry_le (by decide) _ _ _
    have hst := add_step (B := 65536) (by decide) N1 N2 k
    by_cases hend : k < n1 ∨ k < n2
    · have z1 : ¬ k < n1 → dg 65536 N1 k = 0 := fun h => dg_of_lt (Nat.lt_of_lt_of_le hl1 (Nat.pow_le_pow_right (by decide) (by omega)))
      have z2 : ¬ k < n2 → dg 65536 N2 k = 0 := fun h => dg_of_lt (Nat.lt_of_lt_of_le hl2 (Nat.pow_le_pow_right (by decide) (by omega)))
      have fin : ∀ (v : Value) (w1 : World) (u : Nat), u = ((N1 % 65536 ^ k + N2 % 65536 ^ k) / 65536 ^ k + dg 65536 N1 k + dg 65536 N2 k) → w1.ownsRow w.heap.size 3 1 v (k + 1) ((List.range k).map (dig (N1 + N2)) ++ [.int .i64 ((u : Int) % 65536)]) →
          (Value.int .i64 ((u : Int) / 65536) = .int .i64 ((N1 % 65536 ^ (k + 1) + N2 % 65536 ^ (k + 1)) / 65536 ^ (k + 1) : Nat)) ∧ w1.ownsRow w.heap.size 3 1 v (k + 1) ((List.range (k + 1)).map (dig (N1 + N2))) := by
        intro v w1 u hu ho
        rw [← hu] at hst
        refine ⟨by rw [← hst.2]; rfl, ?_⟩
        rw [map_range_succ, dig, ← hst.1]; exact ho
      generalize (N1 % 65536 ^ k + N2 % 65536 ^ k) / 65536 ^ k = cy at hst hcy fin ⊢
      have HF := Lib.hid fin
      clear fin hst hl1 hl2
      by_cases k1 : k < n1
      · obtain ⟨b1, o1, rfl, _⟩ := h1'.form (by omega)
        have e1 := h1'.cell k1
        generalize dg 65536 N1 k = x1 at HF d1 e1 z1
        clear z1 h1'
        by_cases k2 : k < n2
        · obtain ⟨b2, o2, rfl, _⟩ := h2'.form (by omega)
          have e2 := h2'.cell k2
          generalize dg 65536 N2 k = x2 at HF d2 e2 z2
          clear z2 h2'
          go_wp2_with (at_builtin; refine wpList_app1 rfl _ _ 29 rfl w.heap.size 3 i0 _ 8 Tryz.underlying29 hi hz0 hz1 hz2 rfl (by decide) _ _ _ _ rfl rfl rfl hown rfl (by omega) (hbel).size ?_; intro v' w1 hown1 hbel1 hne1)
          have F := HF.out v' w1 (cy + x1 + x2) rfl (by simpa using hown1)
          go_roundw
          case rel => exact ⟨k + 1, by omega, by go_num, by rw [← F.1]; simp, F.2, hne1, hbel.trans hbel1⟩
          case measure => simp [intOf]; omega
        · have e0 := z2 k2
          rw [e0] at HF
          clear e0 z2 h2' d2
          go_wp2_with (at_builtin; refine wpList_app1 rfl _ _ 29 rfl w.heap.size 3 i0 _ 8 Tryz.underlying29 hi hz0 hz1 hz2 rfl (by decide) _ _ _ _ rfl rfl rfl hown rfl (by omega) (hbel).size ?_; intro v' w1 hown1 hbel1 hne1)
          have F := HF.out v' w1 (cy + x1) rfl (by simpa using hown1)
          go_roundw
          case rel => exact ⟨k + 1, by omega, by go_num, by rw [← F.1]; simp, F.2, hne1, hbel.trans hbel1⟩
          case measure => simp [intOf]; omega
      · have e0 := z1 k1
        rw [e0] at HF
        clear e0 z1 h1' d1
        have k2 : k < n2 := by omega
        obtain ⟨b2, o2, rfl, _⟩ := h2'.form (by omega)
        have e2 := h2'.cell k2
        generalize dg 65536 N2 k = x2 at HF d2 e2 z2
        clear z2 h2'
        go_wp2_with (at_builtin; refine wpList_app1 rfl _ _ 29 rfl w.heap.size 3 i0 _ 8 Tryz.underlying29 hi hz0 hz1 hz2 rfl (by decide) _ _ _ _ rfl rfl rfl hown rfl (by omega) (hbel).size ?_; intro v' w1 hown1 hbel1 hne1)
        have F := HF.out v' w1 (cy + x2) (by omega) (by simpa using hown1)
        go_roundw
        case rel => exact ⟨k + 1, by omega, by go_num, by rw [← F.1]; simp, F.2, hne1, hbel.trans hbel1⟩
        case measure => simp [intOf]; omega
    · have k1 : ¬ k < n1 := by omega
      have k2 : ¬ k < n2 := by omega
      have m1 : N1 % 65536 ^ k = N1 := Nat.mod_eq_of_lt (Nat.lt_of_lt_of_le hl1 (Nat.pow_le_pow_right (by decide) (by omega)))
      have m2 : N2 % 65536 ^ k = N2 := Nat.mod_eq_of_lt (Nat.lt_of_lt_of_le hl2 (Nat.pow_le_pow_right (by decide) (by omega)))
      have hlt : N1 + N2 < 65536 ^ (k + 1) := by
        have : 65536 ^ n1 ≤ 65536 ^ k := Nat.pow_le_pow_right (by decide) (by omega)
        have : 65536 ^ n2 ≤ 65536 ^ k := Nat.pow_le_pow_right (by decide) (by omega)
        rw [Nat.pow_succ]; omega
      rw [m1, m2] at hcy ⊢
      have hd : (N1 + N2) / 65536 ^ k = dg 65536 (N1 + N2) k := by
        rw [dg, Nat.mod_eq_of_lt (by omega)]
      rw [hd]
      have HL := Lib.hid hlt
      clear hst d1 d2 h1' h2' hl1 hl2 m1 m2 hcy hd hlt
      go_wp2_with (at_builtin; refine wpList_app1 rfl _ _ 29 rfl w.heap.size 3 i0 _ 8 Tryz.underlying29 hi hz0 hz1 hz2 rfl (by decide) _ _ _ _ rfl rfl rfl hown rfl (by omega) (hbel).size ?_; intro v' w1 hown1 hbel1 hne1)
      have hown1 : w1.ownsRow w.heap.size 3 1 v' (k + 1) ((List.range (k + 1)).map (dig (N1 + N2))) := by rw [map_range_succ]; exact hown1
      obtain ⟨g, cap, rfl, hg, hgs, hnc, hcm, hcell⟩ := own_form hown1 hne1
      have HC := Lib.hid (row_cells hcell)
      clear hcell hown1 hown
      refine (trim_any _ _ _ (dg 65536 (N1 + N2)) _ (by omega) hnc (fun _ => ⟨g, 0, rfl, fun i hi => by rw [Nat.zero_add]; exact HC.out i hi⟩)).mono ?_
      rintro e w2 ⟨rfl, rfl⟩
      go_wp2
      go_ret
      exact ⟨_, _, _, rfl, natAt_of_row HL.out hnc hcm HC.out, hbel.trans hbel1⟩
theorem sub_any (a1 a2 : Option Addr) (n1 n2 c1 c2 N1 N2 : Nat) (w : World) (h1 : NatAt w a1 n1 c1 N1) (h2 : NatAt w a2 n2 c2 N2) (hb1 : n1 ≤ 1000000) (hb2 : n2 ≤ 1000000) (hle : N2 ≤ N1) :
    Calls Tryz.prog 32 #[.slice a1 n1 c1, .slice a2 n2 c2] w (Gives .i64 65536 (N1 - N2) w) := by
  obtain ⟨i0, hi, hz0, hz1, hz2⟩ := info_parts infoInt
  go_enter Tryz.func32, Tryz.ntmps32
  go_wp2
  go_loopw [5, 6, 7, 8, 12] (fun out borrow _ _ i wr => ∃ k : Nat, k ≤ n1 ∧ i = .int .i64 k ∧ borrow = .int .i64 (if N1 % 65536 ^ k < N2 % 65536 ^ k then 1 else 0) ∧
      wr.ownsRow w.heap.size 3 1 out k ((List.range k).map (dig (N1 - N2))) ∧ out ≠ .slice none 0 0 ∧ Below w.heap.size w wr)
    (fun _ _ _ _ i _ => n1 - (intOf i).toNat)
  case atStart => exact ⟨0, Nat.zero_le _, rfl, by simp [Nat.mod_one], World.ownsRow_made w #[] 0 (Nat.le_refl _) (by simp [maxLen]) rfl, by simp, (Below.refl _ _).alloc (Nat.le_refl _) _⟩
  case round =>
    obtain ⟨k, hk, rfl, rfl, hown, hne, hbel⟩ := hrel
    have h1' := h1.keep hbel
    have h2' := h2.keep hbel
    have hl1 := h1.lt
    have hl2 := h2.lt
    clear h1 h2
    have d1 : dg 65536 N1 k < 65536 := dg_lt (by decide) _ _
    have d2 : dg 65536 N2 k < 65536 := dg_lt (by decide) _ _
    have hst := sub_step (B := 65536) (by decide) N1 N2 k hle
    have hbo : (0 : Int) ≤ (if N1 % 65536 ^ k < N2 % 65536 ^ k then 1 else 0) ∧ (if N1 % 65536 ^ k < N2 % 65536 ^ k then 1 else 0) ≤ (1 : Int) := by split <;> omega
    by_cases k1 : k < n1
    · have z2 : ¬ k < n2 → dg 65536 N2 k = 0 := fun h => dg_of_lt (Nat.lt_of_lt_of_le hl2 (Nat.pow_le_pow_right (by decide) (by omega)))
      have fin : ∀ (v : Value) (w1 : World) (t : Int), t = (dg 65536 N1 k : Int) - (if N1 % 65536 ^ k < N2 % 65536 ^ k then 1 else 0) - dg 65536 N2 k →
          (t < 0 → w1.ownsRow w.heap.size 3 1 v (k + 1) ((List.range k).map (dig (N1 - N2)) ++ [.int .i64 (t + 65536)]) →
            Value.int .i64 1 = .int .i64 (if N1 % 65536 ^ (k + 1) < N2 % 65536 ^ (k + 1) then 1 else 0) ∧ w1.ownsRow w.heap.size 3 1 v (k + 1) ((List.range (k + 1)).map (dig (N1 - N2)))) ∧
          (0 ≤ t → w1.ownsRow w.heap.size 3 1 v (k + 1) ((List.range k).map (dig (N1 - N2)) ++ [.int .i64 t]) →
            Value.int .i64 0 = .int .i64 (if N1 % 65536 ^ (k + 1) < N2 % 65536 ^ (k + 1) then 1 else 0) ∧ w1.ownsRow w.heap.size 3 1 v (k + 1) ((List.range (k + 1)).map (dig (N1 - N2)))) := by
        intro v w1 t ht
        rw [← ht] at hst
        refine ⟨fun hneg ho => ?_, fun hpos ho => ?_⟩
        · obtain ⟨e1, e2⟩ := hst.1 hneg
          refine ⟨by rw [if_pos e2], ?_⟩
          rw [map_range_succ, dig, e1]; exact ho
        · obtain ⟨e1, e2⟩ := hst.2 (by omega)
          refine ⟨by rw [if_neg e2], ?_⟩
          rw [map_range_succ, dig, e1]; exact ho
      generalize (if N1 % 65536 ^ k < N2 % 65536 ^ k then (1 : Int) else 0) = bo at hst hbo fin ⊢
      obtain ⟨hbo1, hbo2⟩ := hbo
      have HF := Lib.hid fin
      clear fin hst hl1 hl2 hle
      obtain ⟨b1, o1, rfl, _⟩ := h1'.form (by omega)
      have e1 := h1'.cell k1
      generalize dg 65536 N1 k = x1 at HF d1 e1
      clear h1'
      by_cases k2 : k < n2
      · obtain ⟨b2, o2, rfl, _⟩ := h2'.form (by omega)
        have e2 := h2'.cell k2
        generalize dg 65536 N2 k = x2 at HF d2 e2 z2
        clear z2 h2'
        by_cases hneg : (x1 : Int) - bo - x2 < 0
        · go_wp2_with (at_builtin; refine wpList_app1 rfl _ _ 29 rfl w.heap.size 3 i0 _ 8 Tryz.underlying29 hi hz0 hz1 hz2 rfl (by decide) _ _ _ _ rfl rfl rfl hown rfl (by omega) (hbel).size ?_; intro v' w1 hown1 hbel1 hne1)
          have F := (HF.out v' w1 (x1 - bo - x2) rfl).1 hneg (by simpa using hown1)
          go_roundw
          case rel => exact ⟨k + 1, by omega, by go_num, F.1, F.2, hne1, hbel.trans hbel1⟩
          case measure => simp [intOf]; omega
        · have hpos : 0 ≤ (x1 : Int) - bo - x2 := by omega
          go_wp2_with (at_builtin; refine wpList_app1 rfl _ _ 29 rfl w.heap.size 3 i0 _ 8 Tryz.underlying29 hi hz0 hz1 hz2 rfl (by decide) _ _ _ _ rfl rfl rfl hown rfl (by omega) (hbel).size ?_; intro v' w1 hown1 hbel1 hne1)
          have F := (HF.out v' w1 (x1 - bo - x2) rfl).2 hpos (by simpa using hown1)
          go_roundw
          case rel => exact ⟨k + 1, by omega, by go_num, F.1, F.2, hne1, hbel.trans hbel1⟩
          case measure => simp [intOf]; omega
      · have e0 := z2 k2
        rw [e0] at HF
        clear e0 z2 h2' d2
        by_cases hneg : (x1 : Int) - bo < 0
        · go_wp2_with (at_builtin; refine wpList_app1 rfl _ _ 29 rfl w.heap.size 3 i0 _ 8 Tryz.underlying29 hi hz0 hz1 hz2 rfl (by decide) _ _ _ _ rfl rfl rfl hown rfl (by omega) (hbel).size ?_; intro v' w1 hown1 hbel1 hne1)
          have F := (HF.out v' w1 (x1 - bo) (by simp)).1 hneg (by simpa using hown1)
          go_roundw
          case rel => exact ⟨k + 1, by omega, by go_num, F.1, F.2, hne1, hbel.trans hbel1⟩
          case measure => simp [intOf]; omega
        · have hpos : 0 ≤ (x1 : Int) - bo := by omega
          go_wp2_with (at_builtin; refine wpList_app1 rfl _ _ 29 rfl w.heap.size 3 i0 _ 8 Tryz.underlying29 hi hz0 hz1 hz2 rfl (by decide) _ _ _ _ rfl rfl rfl hown rfl (by omega) (hbel).size ?_; intro v' w1 hown1 hbel1 hne1)
          have F := (HF.out v' w1 (x1 - bo) (by simp)).2 hpos (by simpa using hown1)
          go_roundw
          case rel => exact ⟨k + 1, by omega, by go_num, F.1, F.2, hne1, hbel.trans hbel1⟩
          case measure => simp [intOf]; omega
    · obtain rfl : k = n1 := by omega
      have hlt : N1 - N2 < 65536 ^ k := by omega
      have HL := Lib.hid hlt
      clear hst d1 d2 h1' h2' hl1 hl2 hlt hbo hle
      generalize (if N1 % 65536 ^ k < N2 % 65536 ^ k then (1 : Int) else 0) = bo
      obtain ⟨g, cap, rfl, hg, hgs, hnc, hcm, hcell⟩ := own_form hown hne
      have HC := Lib.hid (row_cells hcell)
      clear hcell hown
      go_wp2_with (go_at_call 49; refine (trim_any _ _ _ (dg 65536 (N1 - N2)) _ (by omega) hnc (fun _ => ⟨g, 0, rfl, fun i hi => by rw [Nat.zero_add]; exact HC.out i hi⟩)).mono ?_; rintro e w2 ⟨rfl, rfl⟩)
      go_ret
      exact ⟨_, _, _, rfl, natAt_of_row HL.out hnc hcm HC.out, hbel⟩
theorem small_any (n : Nat) (w : World) (hn : n ≤ 9000000000000000000) : Calls Tryz.prog 46 #[.int .i64 n] w (Gives .i64 65536 n w) := by
  obtain ⟨i0, hi, hz0, hz1, hz2⟩ := info_parts infoInt
  go_enter Tryz.func46, Tryz.ntmps46
  go_wp2
  go_loopw [0, 3] (fun m out wr => ∃ k : Nat, k ≤ 5 ∧ m = .int .i64 (n / 65536 ^ k : Nat) ∧ (k = 0 ∨ 65536 ^ (k - 1) ≤ n) ∧
      wr.ownsRow w.heap.size 3 1 out k ((List.range k).map (dig n)) ∧ out ≠ .slice none 0 0 ∧ Below w.heap.size w wr)
    (fun m _ _ => (intOf m).toNat)
  case atStart => exact ⟨0, Nat.zero_le _, by simp, .inl rfl, World.ownsRow_made w #[] 0 (Nat.le_refl _) (by simp [maxLen]) rfl, by simp, (Below.refl _ _).alloc (Nat.le_refl _) _⟩
  case round =>
    obtain ⟨k, hk, rfl, htop, hown, hne, hbel⟩ := hrel
    have hq : n / 65536 ^ k ≤ 9000000000000000000 := Nat.le_trans (Nat.div_le_self _ _) hn
    by_cases hpos : 0 < n / 65536 ^ k
    · have hk4 : k + 1 ≤ 5 := by
        have : 65536 ^ k ≤ n := by
          refine Nat.le_of_not_lt fun h => ?_
          rw [Nat.div_eq_of_lt h] at hpos; omega
        refine Nat.lt_of_not_le fun h => ?_
        obtain rfl : k = 5 := by omega
        simp at this; omega
      have ht : 65536 ^ k ≤ n := by
        refine Nat.le_of_not_lt fun h => ?_
        rw [Nat.div_eq_of_lt h] at hpos; omega
      have hd : n / 65536 ^ k % 65536 = dg 65536 n k := rfl
      have hs : n / 65536 ^ (k + 1) = n / 65536 ^ k / 65536 := by rw [Nat.pow_succ, Nat.div_div_eq_div_mul]
      have H1 := Lib.hid hd
      have H2 := Lib.hid hs
      have H3 := Lib.hid ht
      clear hd hs ht
      generalize n / 65536 ^ k = q at *
      go_wp2_with (at_builtin; refine wpList_app1 rfl _ _ 29 rfl w.heap.size 3 i0 _ 8 Tryz.underlying29 hi hz0 hz1 hz2 rfl (by decide) _ _ _ _ rfl rfl rfl hown rfl (by omega) (hbel).size ?_; intro v' w1 hown1 hbel1 hne1)
      have hown1 : w1.ownsRow w.heap.size 3 1 v' (k + 1) ((List.range (k + 1)).map (dig n)) := by
        rw [map_range_succ, dig, ← H1.out]; exact hown1
      go_roundw
      case rel => exact ⟨k + 1, hk4, by rw [H2.out]; rfl, .inr H3.out, hown1, hne1, hbel.trans hbel1⟩
      case measure => simp [intOf]; omega
    · have h0 : n / 65536 ^ k = 0 := Nat.eq_zero_of_not_pos hpos
      rw [h0]
      have hlt : n < 65536 ^ k := by
        refine Nat.lt_of_not_le fun h => ?_
        have := Nat.div_pos h (Nat.pow_pos (by decide))
        omega
      have HL := Lib.hid hlt
      have HT := Lib.hid htop
      clear hlt htop h0 hpos hq
      go_wp2
      obtain ⟨g, cap, rfl, hg, hgs, hnc, hcm, hcell⟩ := own_form hown hne
      have HC := Lib.hid (row_cells hcell)
      go_ret
      exact ⟨_, _, _, rfl, ⟨HL.out, HT.out, hnc, hcm, fun _ => ⟨g, 0, rfl, fun i hi => by rw [Nat.zero_add]; exact HC.out i hi⟩⟩, hbel⟩
def cmpI (X Y : Nat) : Int := if X < Y then -1 else if Y < X then 1 else 0
theorem cmp_any (a1 a2 : Option Addr) (n1 n2 c1 c2 N1 N2 : Nat) (w : World) (h1 : NatAt w a1 n1 c1 N1) (h2 : NatAt w a2 n2 c2 N2) (hb1 : n1 ≤ 1000000) (hb2 : n2 ≤ 1000000) :
    Calls Tryz.prog 31 #[.slice a1 n1 c1, .slice a2 n2 c2] w fun e w' => e = .returned (.int .i64 (cmpI N1 N2)) ∧ ∃ m, w' = w.drewN m := by
  rcases Nat.lt_trichotomy n1 n2 with hlt | heq | hgt
  · have hr : cmpI N1 N2 = -1 := if_pos (lt_of_len (by decide) h1.lt h2.top hlt)
    rw [hr]
    go_enter Tryz.func31, Tryz.ntmps31
    go_wp2
    go_ret
    exact ⟨rfl, 0, rfl⟩
  · subst heq
    go_enter Tryz.func31, Tryz.ntmps31
    go_wp2
    go_loopw [5] (fun i wr => ∃ m : Nat, m ≤ n1 ∧ i = .int .i64 ((m : Int) - 1) ∧ N1 / 65536 ^ m = N2 / 65536 ^ m ∧ ∃ q, wr = w.drewN q) (fun i _ => (intOf i + 1).toNat)
    case atStart => exact ⟨n1, Nat.le_refl _, rfl, by rw [Nat.div_eq_of_lt h1.lt, Nat.div_eq_of_lt h2.lt], 0, rfl⟩
    case round =>
      obtain ⟨m, hm, rfl, heq, q, rfl⟩ := hrel
      by_cases h0 : 0 < m
      · obtain ⟨k, rfl⟩ : ∃ k, m = k + 1 := ⟨m - 1, by omega⟩
        obtain ⟨b1, o1, rfl, _⟩ := h1.form (by omega)
        obtain ⟨b2, o2, rfl, _⟩ := h2.form (by omega)
        have e1 := h1.cell (i := k) (by omega)
        have e2 := h2.cell (i := k) (by omega)
        have HE := Lib.hid heq
        have hk : ((k + 1 : Nat) : Int) - 1 = k := by omega
        rw [hk]
        clear heq hk h1 h2
        rcases Nat.lt_trichotomy (dg 65536 N1 k) (dg 65536 N2 k) with hl | he | hg
        · have hr : cmpI N1 N2 = -1 := if_pos (lt_of_cut HE.out hl)
          have HR := Lib.hid hr
          clear hr
          have hb : decide ((dg 65536 N1 k : Int) < dg 65536 N2 k) = true := by simpa using hl
          generalize dg 65536 N1 k = x1 at *
          generalize dg 65536 N2 k = x2 at *
          go_wp2
          go_quiet (fail)
          go_wp2
          go_ret
          exact ⟨ret_int HR.out.symm, drewN_ex (by (try simp only [World.drewN_drewN]); exact rfl)⟩
        · have HEQ := Lib.hid (eq_of_cut HE.out he)
          generalize dg 65536 N1 k = x1 at *
          generalize dg 65536 N2 k = x2 at *
          subst he
          go_wp2
          go_quiet (fail)
          go_wp2
          go_quiet (fail)
          go_wp2
          go_roundw
          case rel => exact ⟨k, by omega, rfl, HEQ.out, drewN_ex (by (try simp only [World.drewN_drewN]); exact rfl)⟩
          case measure => simp [intOf]
        · have hr : cmpI N1 N2 = 1 := by
            have h := lt_of_cut HE.out.symm hg
            rw [cmpI, if_neg (by omega), if_pos h]
          have HR := Lib.hid hr
          clear hr
          have hb : decide ((dg 65536 N1 k : Int) < dg 65536 N2 k) = false := by simp; omega
          generalize dg 65536 N1 k = x1 at *
          generalize dg 65536 N2 k = x2 at *
          go_wp2
          go_quiet (fail)
          go_wp2
          go_quiet (fail)
          go_wp2
          go_ret
          exact ⟨ret_int HR.out.symm, drewN_ex (by (try simp only [World.drewN_drewN]); exact rfl)⟩
      · obtain rfl : m = 0 := by omega
        have hr : cmpI N1 N2 = 0 := by
          simp at heq
          rw [cmpI, if_neg (by omega), if_neg (by omega)]
        have HR := Lib.hid hr
        clear hr heq
        go_wp2
        go_ret
        exact ⟨ret_int HR.out.symm, drewN_ex (by (try simp only [World.drewN_drewN]); exact rfl)⟩
  · have h := lt_of_len (by decide) h2.lt h1.top hgt
    have hr : cmpI N1 N2 = 1 := by rw [cmpI, if_neg (by omega), if_pos h]
    rw [hr]
    go_enter Tryz.func31, Tryz.ntmps31
    go_wp2
    go_ret
    exact ⟨rfl, 0, rfl⟩
end Go.Proofs.YtgmienggfaahlaaGreatDoor
namespace Go.Bg
open Go.RowKit
theorem quiet_of2 {P : Program} {f : FuncId} {args : Array Value} {w : World} {q n : Nat} {v : Value}
    (h : Calls P f args (w.drewN (q + n)) fun e w' => e = .returned v ∧ ∃ m, w' = (w.drewN (q + n)).drewN m) : Calls P f args (w.drewN (q + n)) fun e w'' => e = .returned v ∧ ∃ m, w'' = w.drewN (q + m) :=
  h.mono fun _ _ ⟨he, m, hm⟩ => ⟨he, n + m, by rw [hm, World.drewN_drewN, Nat.add_assoc]⟩
theorem NumAt.drewN {k : IntKind} {B : Nat} {w : World} {a : Option Addr} {n c N : Nat} (h : NumAt k B w a n c N) (m : Nat) : NumAt k B (w.drewN m) a n c N := h.keep (below_of_drewN ⟨m, rfl⟩)
end Go.Bg
namespace Go.Proofs.YtgmienggfaahlaaGreatDoor
open Go.RowKit Go.Bg Dg
theorem natCmp_any (a1 a2 : Option Addr) (n1 n2 c1 c2 N1 N2 : Nat) (w : World) (h1 : NumAt .u64 W64 w a1 n1 c1 N1) (h2 : NumAt .u64 W64 w a2 n2 c2 N2) :
    Calls Tryz.prog 137 #[.slice a1 n1 c1, .slice a2 n2 c2] w fun e w' => e = .returned (.int .i64 (cmpI N1 N2)) ∧ ∃ m, w' = w.drewN m := by
  have hm1 := h1.cm
  have hm2 := h2.cm
  have hc1 := h1.nc
  have hc2 := h2.nc
  unfold maxLen at hm1 hm2
  rcases Nat.lt_trichotomy n1 n2 with hlt | heq | hgt
  · have hr : cmpI N1 N2 = -1 := if_pos (lt_of_len W64_gt h1.lt h2.top hlt)
    rw [hr]
    clear hr h1 h2
    have hne : ((n1 : Int) == n2) = false := by simp; omega
    go_enter Tryz.func137, Tryz.ntmps137
    go_wp2
    go_ret
    exact ⟨rfl, 0, rfl⟩
  · subst heq
    by_cases hz : n1 = 0
    · subst hz
      have e1 : N1 = 0 := by have := h1.lt; simpa using this
      have e2 : N2 = 0 := by have := h2.lt; simpa using this
      subst e1
      subst e2
      clear h1 h2
      go_enter Tryz.func137, Tryz.ntmps137
      go_wp2
      go_ret
      exact ⟨rfl, 0, rfl⟩
    have hz1 : ((n1 : Int) == 0) = false := by simpa using hz
    obtain ⟨b1, o1, rfl, _⟩ := h1.form (by omega)
    obtain ⟨b2, o2, rfl, _⟩ := h2.form (by omega)
    have H1 := Lib.hid h1
    have H2 := Lib.hid h2
    have HA := Lib.hid (show N1 / W64 ^ n1 = N2 / W64 ^ n1 from by rw [Nat.div_eq_of_lt h1.lt, Nat.div_eq_of_lt h2.lt])
    clear h1 h2
    go_enter Tryz.func137, Tryz.ntmps137
    go_wp2
    go_loopw [7] (fun i wr => ∃ k : Nat, k < n1 ∧ i = .int .i64 (k : Int) ∧ N1 / W64 ^ (k + 1) = N2 / W64 ^ (k + 1) ∧ ∃ q, wr = w.drewN q) (fun i _ => (intOf i).toNat)
    case atStart => exact ⟨n1 - 1, by omega, by go_num, by rw [show n1 - 1 + 1 = n1 from by omega]; exact HA.out, 0, rfl⟩
    case round =>
      obtain ⟨k, hm, rfl, heq, q, rfl⟩ := hrel
      have e1 := H1.out.cell (i := k) (by omega)
      have e2 := H2.out.cell (i := k) (by omega)
      have d1 : dg W64 N1 k < 18446744073709551616 := W64_lt (dg_lt W64_pos _ _)
      have d2 : dg W64 N2 k < 18446744073709551616 := W64_lt (dg_lt W64_pos _ _)
      have HE := Lib.hid heq
      clear heq
      rcases Nat.lt_trichotomy (dg W64 N1 k) (dg W64 N2 k) with hX | hX | hX
      · have HR := Lib.hid (show cmpI N1 N2 = -1 from if_pos (lt_of_cut HE.out hX))
        have hb : decide (dg W64 N1 k < dg W64 N2 k) = true := by simpa using hX
        have hb2 : ((dg W64 N1 k : Int) == dg W64 N2 k) = false := by simp; omega
        generalize dg W64 N1 k = x1 at *
        generalize dg W64 N2 k = x2 at *
        clear hX
        by_cases h0 : 0 < k
        · have hk : decide (0 < (k : Int)) = true := by simpa using h0
          go_wp2
          go_quiet (fail)
          go_wp2
          go_quiet (fail)
          go_wp2
          go_ret
          exact ⟨ret_int HR.out.symm, drewN_ex (by (try simp only [World.drewN_drewN]); exact rfl)⟩
        · have hk : decide (0 < (k : Int)) = false := by simp; omega
          go_wp2
          go_quiet (fail)
          go_wp2
          go_quiet (fail)
          go_wp2
          go_ret
          exact ⟨ret_int HR.out.symm, drewN_ex (by (try simp only [World.drewN_drewN]); exact rfl)⟩
      · have HEQ := Lib.hid (eq_of_cut HE.out hX)
        generalize dg W64 N1 k = x1 at *
        generalize dg W64 N2 k = x2 at *
        subst hX
        by_cases h0 : 0 < k
        · have hk : decide (0 < (k : Int)) = true := by simpa using h0
          go_wp2
          go_quiet (fail)
          go_wp2
          go_roundw
          case rel => exact ⟨k - 1, by omega, by go_num, by rw [show k - 1 + 1 = k from by omega]; exact HEQ.out, drewN_ex (by (try simp only [World.drewN_drewN]); exact rfl)⟩
          case measure => simp [intOf]; omega
        · have hk : decide (0 < (k : Int)) = false := by simp; omega
          have hr : cmpI N1 N2 = 0 := by
            have := HEQ.out
            obtain rfl : k = 0 := by omega
            simp at this
            rw [cmpI, if_neg (by omega), if_neg (by omega)]
          have HR := Lib.hid hr
          clear hr
          go_wp2
          go_quiet (fail)
          go_wp2
          go_quiet (fail)
          go_wp2
          go_quiet (fail)
          go_wp2
          go_ret
          exact ⟨ret_int HR.out.symm, drewN_ex (by (try simp only [World.drewN_drewN]); exact rfl)⟩
      · have HR := Lib.hid (show cmpI N1 N2 = 1 from (by rw [cmpI, if_neg (Nat.not_lt_of_gt (lt_of_cut HE.out.symm hX)), if_pos (lt_of_cut HE.out.symm hX)]))
        have hb : decide (dg W64 N1 k < dg W64 N2 k) = false := by simp; omega
        have hb1 : decide (dg W64 N2 k < dg W64 N1 k) = true := by simpa using hX
        have hb2 : ((dg W64 N1 k : Int) == dg W64 N2 k) = false := by simp; omega
        generalize dg W64 N1 k = x1 at *
        generalize dg W64 N2 k = x2 at *
        clear hX
        by_cases h0 : 0 < k
        · have hk : decide (0 < (k : Int)) = true := by simpa using h0
          go_wp2
          go_quiet (fail)
          go_wp2
          go_quiet (fail)
          go_wp2
          go_quiet (fail)
          go_wp2
          go_ret
          exact ⟨ret_int HR.out.symm, drewN_ex (by (try simp only [World.drewN_drewN]); exact rfl)⟩
        · have hk : decide (0 < (k : Int)) = false := by simp; omega
          go_wp2
          go_quiet (fail)
          go_wp2
          go_quiet (fail)
          go_wp2
          go_quiet (fail)
          go_wp2
          go_ret
          exact ⟨ret_int HR.out.symm, drewN_ex (by (try simp only [World.drewN_drewN]); exact rfl)⟩
  · have h := lt_of_len W64_gt h2.lt h1.top hgt
    have hr : cmpI N1 N2 = 1 := by rw [cmpI, if_neg (by omega), if_pos h]
    rw [hr]
    clear hr h h1 h2
    have hne : ((n1 : Int) == n2) = false := by simp; omega
    go_enter Tryz.func137, Tryz.ntmps137
    go_wp2
    go_ret
    exact ⟨rfl, 0, rfl⟩
end Go.Proofs.YtgmienggfaahlaaGreatDoor
