/-
  Words in place: sums and differences of vectors, plain; what a vector operation may turn.
  addVV, subVV: sums and differences of vectors of one length.
  addVW, subVW: a vector and a carried word.
  subVW: a vector less a borrowed word.
-/
import Derived.Test.YtdkipndepkblhaaGreatDoorBuF
import Derived.Laws.Externs
import Derived.Shelf.Spec.BitsCarry
import Derived.Test.YtdkipndepkblhaaGreatDoorBuG
import Derived.IntWalk
set_option linter.unusedSimpArgs false
set_option linter.unusedVariables false
namespace Dg
theorem addw_div {B : Nat} (hB : 0 < B) (X y k : Nat) : (X + y) / B ^ k = X / B ^ k + (X % B ^ k + y) / B ^ k := by
  have hp : 0 < B ^ k := Nat.pow_pos hB
  have h := Nat.div_add_mod X (B ^ k)
  have e : X + y = X % B ^ k + y + B ^ k * (X / B ^ k) := by omega
  rw [e, Nat.add_mul_div_left _ _ hp]
  have e2 : (X % B ^ k + y + B ^ k * (X / B ^ k)) = X + y := by omega
  omega
theorem addw_same {B : Nat} (hB : 0 < B) {X y k i : Nat} (h : (X % B ^ k + y) / B ^ k = 0) (hi : k ≤ i) : dg B (X + y) i = dg B X i := by
  obtain ⟨j, rfl⟩ : ∃ j, i = k + j := ⟨i - k, by omega⟩
  rw [← dg_div, ← dg_div, addw_div hB, h, Nat.add_zero]
theorem addw_step {B : Nat} (hB : 0 < B) (X y k : Nat) :
    dg B (X + y) k = (dg B X k + (X % B ^ k + y) / B ^ k) % B ∧ (X % B ^ (k + 1) + y) / B ^ (k + 1) = (dg B X k + (X % B ^ k + y) / B ^ k) / B := by
  have hp : 0 < B ^ k := Nat.pow_pos hB
  constructor
  · show (X + y) / B ^ k % B = _
    rw [addw_div hB, Nat.add_mod, dg]
    conv => rhs; rw [Nat.add_mod, Nat.mod_mod]
  · rw [mod_succ, Nat.pow_succ, ← Nat.div_div_eq_div_mul]
    have : X % B ^ k + B ^ k * dg B X k + y = X % B ^ k + y + B ^ k * dg B X k := by omega
    rw [this, Nat.add_mul_div_left _ _ hp, Nat.add_comm]
/-- a difference by the borrow below k -/
theorem subb {B : Nat} (hB : 0 < B) {X Y : Nat} (h : Y ≤ X) (k : Nat) : (X - Y) / B ^ k = X / B ^ k - Y / B ^ k - (if X % B ^ k < Y % B ^ k then 1 else 0) := by
  have hp : 0 < B ^ k := Nat.pow_pos hB
  have hx := Nat.div_add_mod X (B ^ k)
  have hy := Nat.div_add_mod Y (B ^ k)
  have hxm := Nat.mod_lt X hp
  have hym := Nat.mod_lt Y hp
  generalize X / B ^ k = a at *
  generalize X % B ^ k = r at *
  generalize Y / B ^ k = b at *
  generalize Y % B ^ k = t at *
  generalize B ^ k = P at *
  by_cases hr : r < t
  · rw [if_pos hr]
    have hba : b < a := by
      rcases Nat.lt_or_ge b a with hh | hh
      · exact hh
      · have : P * a ≤ P * b := Nat.mul_le_mul_left _ hh
        omega
    obtain ⟨d, rfl⟩ : ∃ d, a = b + 1 + d := ⟨a - b - 1, by omega⟩
    have e : X - Y = P * d + (P + r - t) := by
      have : P * (b + 1 + d) = P * b + P + P * d := by rw [Nat.mul_add, Nat.mul_add, Nat.mul_one]
      omega
    rw [e, Nat.add_comm, Nat.add_mul_div_left _ _ hp, Nat.div_eq_of_lt (by omega)]
    omega
  · rw [if_neg hr]
    have hba : b ≤ a := by
      rcases Nat.lt_or_ge a b with hh | hh
      · have : P * (a + 1) ≤ P * b := Nat.mul_le_mul_left _ hh
        rw [Nat.mul_add, Nat.mul_one] at this
        omega
      · exact hh
    obtain ⟨d, rfl⟩ : ∃ d, a = b + d := ⟨a - b, by omega⟩
    have e : X - Y = P * d + (r - t) := by
      have : P * (b + d) = P * b + P * d := Nat.mul_add _ _ _
      omega
    rw [e, Nat.add_comm, Nat.add_mul_div_left _ _ hp, Nat.div_eq_of_lt (by omega)]
    omega
end Dg

namespace Go.Bg
open Go.RowKit Dg
/-- in the block g, which held cur, the places from o on, n of them, are the words h; all else is as it was -/
structure RowUp (T : TypeId) (w w' : World) (g o n : Nat) (cur : Array Value) (h : Nat → Nat) : Prop where
  upd : Upd (· = g) w w'
  blk : ∃ cur', BlkAt w' g cur' T ∧ cur'.size = cur.size ∧ (∀ i, i < n → cur'[o + i]? = some (.int .u64 (h i : Nat))) ∧ ∀ j, (j < o ∨ o + n ≤ j) → cur'[j]? = cur[j]?

theorem RowUp.start {T : TypeId} {w : World} {g : Nat} {cur : Array Value} (hg : BlkAt w g cur T) (o : Nat) (h : Nat → Nat) : RowUp T w w g o 0 cur h :=
  ⟨Upd.refl _ _, cur, hg, rfl, fun i hi => by omega, fun _ _ => rfl⟩
theorem RowUp.drewN {T : TypeId} {w w' : World} {g o n : Nat} {cur : Array Value} {h : Nat → Nat} (r : RowUp T w w' g o n cur h) (q : Nat) : RowUp T w (w'.drewN q) g o n cur h := by
  have hb : Below w'.heap.size w' (w'.drewN q) := below_drewN (Below.refl _ _) q
  obtain ⟨cur', h1, h2, h3, h4⟩ := r.blk
  exact ⟨r.upd.then hb, cur', h1.keep hb, h2, h3, h4⟩
theorem RowUp.step {T : TypeId} {w w' : World} {g o k : Nat} {cur : Array Value} {h : Nat → Nat} (r : RowUp T w w' g o k cur h) (hk : o + k < cur.size) {x : Nat} (hx : x = h k) :
    RowUp T w (w'.setCell ⟨g, o + k, none⟩ (.int .u64 (x : Nat))) g o (k + 1) cur h := by
  obtain ⟨cur', h1, h2, h3, h4⟩ := r.blk
  refine ⟨r.upd.setCell rfl _, _, h1.set (o + k) _, by simpa using h2, fun i hi => ?_, fun j hj => ?_⟩
  · rw [Array.getElem?_setIfInBounds]
    by_cases e : o + k = o + i
    · rw [if_pos e, if_pos (by omega)]
      have : i = k := by omega
      subst this; rw [hx]
    · rw [if_neg e]; exact h3 i (by omega)
  · rw [Array.getElem?_setIfInBounds, if_neg (by omega)]; exact h4 j (by omega)
theorem RowUp.room {T : TypeId} {w w' : World} {g o k : Nat} {cur : Array Value} {h : Nat → Nat} (r : RowUp T w w' g o k cur h) {j : Nat} (hj : j < cur.size) :
    (∃ u, w'.cell? ⟨g, j, none⟩ = some u) ∧ w'.frozen? ⟨g, j, none⟩ = false := by
  obtain ⟨cur', h1, h2, h3, h4⟩ := r.blk
  refine ⟨?_, h1.frozen j⟩
  rw [h1.cell j, Array.getElem?_eq_getElem (by omega)]
  exact ⟨_, rfl⟩
/-- what is read ahead of the places that have turned -/
theorem RowUp.read {T : TypeId} {w w' : World} {g o k b p i : Nat} {cur : Array Value} {h : Nat → Nat} (r : RowUp T w w' g o k cur h) (hg : BlkAt w g cur T) {v : Value} (hv : w.cell? ⟨b, p + i, none⟩ = some v) (hne : b ≠ g ∨ o ≤ p) (hi : k ≤ i) :
    w'.cell? ⟨b, p + i, none⟩ = some v := by
  by_cases e : b = g
  · subst e
    obtain ⟨cur', h1, h2, h3, h4⟩ := r.blk
    rw [h1.cell, h4 _ (by omega), ← hg.cell]; exact hv
  · rw [r.upd.cell (p := ⟨b, p + i, none⟩) (block_lt hv) e]; exact hv
theorem RowUp.cells {T : TypeId} {w w' : World} {g o n : Nat} {cur : Array Value} {h : Nat → Nat} (r : RowUp T w w' g o n cur h) : ∀ i, i < n → w'.cell? ⟨g, o + i, none⟩ = some (.int .u64 (h i : Nat)) := by
  intro i hi
  obtain ⟨cur', h1, h2, h3, h4⟩ := r.blk
  rw [h1.cell]; exact h3 i hi
/-- words to be read -/
def WCells (w : World) (b o n : Nat) (f : Nat → Nat) : Prop := ∀ i, i < n → w.cell? ⟨b, o + i, none⟩ = some (.int .u64 (f i : Nat))
end Go.Bg

namespace Go.Proofs.YtdkipndepkblhaaGreatDoor
open Go.RowKit Go.Bg Dg

theorem runAdd64 (x y c : Nat) (hc : c ≤ 1) (w : World) :
    (callFunc 256 #[.int .u64 x, .int .u64 y, .int .u64 c]).run Tryz.prog w =
      .ok (.value (.tuple #[.int .u64 (((x + y + c) % 18446744073709551616 : Nat) : Int), .int .u64 (((x + y + c) / 18446744073709551616 : Nat) : Int)])) w := by
  rw [run_callFunc_extern Tryz.func256 (by kernel_rfl) (by kernel_rfl) (by kernel_rfl) (e := add64Entry) (by kernel_rfl), run_add64 x y c (by omega) (by omega) (by omega) (by omega)]
  simp only [Result.andThen]
  congr 5 <;> omega

theorem runSub64 (x y b : Nat) (hb : b ≤ 1) (w : World) :
    (callFunc 258 #[.int .u64 x, .int .u64 y, .int .u64 b]).run Tryz.prog w =
      .ok (.value (.tuple #[.int .u64 (((x + 18446744073709551616 - y - b) % 18446744073709551616 : Nat) : Int), .int .u64 ((if x < y + b then 1 else 0 : Nat) : Int)])) w := by
  rw [run_callFunc_extern Tryz.func258 (by kernel_rfl) (by kernel_rfl) (by kernel_rfl) (e := sub64Entry) (by kernel_rfl), run_sub64 x y b hb]
  rfl

set_option maxRecDepth 100000 in
theorem bitsAdd_any (x y c : Nat) (hc : c ≤ 1) (w : World) :
    Calls Tryz.prog 218 #[.int .u64 x, .int .u64 y, .int .u64 c] w fun e w' => e = .returned (.tuple #[.int .u64 (((x + y + c) % 18446744073709551616 : Nat) : Int), .int .u64 (((x + y + c) / 18446744073709551616 : Nat) : Int)]) ∧ w = w' := by
  have ha := fun w => runAdd64 x y c hc w
  have hd1 : (x + y + c) % 18446744073709551616 < 18446744073709551616 := Nat.mod_lt _ (by decide)
  generalize (x + y + c) % 18446744073709551616 = s at *
  generalize (x + y + c) / 18446744073709551616 = d at *
  go_enter Tryz.func218, Tryz.ntmps218
  go_wp2
  exact bodyPost_ret (v := .tuple #[.int .u64 (s : Nat), .int .u64 (d : Nat)]) (by simp [results, Tryz.results218, go_sem]) rfl ⟨rfl, rfl⟩

set_option maxRecDepth 100000 in
theorem bitsSub_any (x y c : Nat) (hc : c ≤ 1) (w : World) :
    Calls Tryz.prog 220 #[.int .u64 x, .int .u64 y, .int .u64 c] w fun e w' => e = .returned (.tuple #[.int .u64 (((x + 18446744073709551616 - y - c) % 18446744073709551616 : Nat) : Int), .int .u64 ((if x < y + c then 1 else 0 : Nat) : Int)]) ∧ w = w' := by
  have ha := fun w => runSub64 x y c hc w
  have hd1 : (x + 18446744073709551616 - y - c) % 18446744073709551616 < 18446744073709551616 := Nat.mod_lt _ (by decide)
  generalize (x + 18446744073709551616 - y - c) % 18446744073709551616 = s at *
  have hd2 : (if x < y + c then 1 else 0 : Nat) ≤ 1 := by split <;> omega
  generalize (if x < y + c then 1 else 0 : Nat) = d at *
  go_enter Tryz.func220, Tryz.ntmps220
  go_wp2
  exact bodyPost_ret (v := .tuple #[.int .u64 (s : Nat), .int .u64 (d : Nat)]) (by simp [results, Tryz.results220, go_sem]) rfl ⟨rfl, rfl⟩
end Go.Proofs.YtdkipndepkblhaaGreatDoor

set_option linter.unusedSimpArgs false
set_option linter.unusedVariables false
namespace Go.Proofs.YtdkipndepkblhaaGreatDoor
open Go.RowKit Go.Bg Dg

/-- a vector operation: the places from o on, n of them, are the words h, and c is carried -/
def VecIs (g o n : Nat) (cur : Array Value) (h : Nat → Nat) (c : Nat) (w : World) (e : Ending) (w' : World) : Prop :=
  e = .returned (.int .u64 (c : Nat)) ∧ RowUp 151 w w' g o n cur h

/-- what is borrowed below k -/
def bor (X Y k : Nat) : Nat := if X % W64 ^ k < Y % W64 ^ k then 1 else 0
theorem bor_le (X Y k : Nat) : bor X Y k ≤ 1 := by unfold bor; split <;> omega
theorem bor_zero (X Y : Nat) : bor X Y 0 = 0 := by simp [bor, Nat.mod_one]
theorem subw_step {X Y : Nat} (hXY : Y ≤ X) (k : Nat) :
    (dg W64 X k + 18446744073709551616 - dg W64 Y k - bor X Y k) % 18446744073709551616 = dg W64 (X - Y) k ∧
    (if dg W64 X k < dg W64 Y k + bor X Y k then 1 else 0 : Nat) = bor X Y (k + 1) := by
  have h := sub_step W64_pos X Y k hXY
  have hc := bor_le X Y k
  have hx := W64_lt (dg_lt W64_pos X k)
  have hy := W64_lt (dg_lt W64_pos Y k)
  have hd := W64_lt (dg_lt W64_pos (X - Y) k)
  have e : (if X % W64 ^ k < Y % W64 ^ k then (1 : Int) else 0) = (bor X Y k : Int) := by unfold bor; split <;> rfl
  have e2 : bor X Y (k + 1) = if X % W64 ^ (k + 1) < Y % W64 ^ (k + 1) then 1 else 0 := rfl
  rw [e] at h
  have hW : ((W64 : Nat) : Int) = 18446744073709551616 := rfl
  rw [hW] at h
  rw [e2]
  generalize bor X Y k = c at *
  generalize dg W64 (X - Y) k = d at *
  generalize dg W64 X k = x at *
  generalize dg W64 Y k = y at *
  by_cases hl : x < y + c
  · obtain ⟨h1, h2⟩ := h.1 (by omega)
    rw [if_pos hl, if_pos h2]
    exact ⟨by omega, rfl⟩
  · obtain ⟨h1, h2⟩ := h.2 (by omega)
    rw [if_neg hl, if_neg h2]
    exact ⟨by omega, rfl⟩

set_option maxRecDepth 100000 in
set_option maxHeartbeats 2000000 in
theorem addVVg_any (g o n c0 b1 o1 c1 b2 o2 c2 : Nat) (cur : Array Value) (X Y : Nat) (w : World) (hg : BlkAt w g cur 151) (hn : n ≤ 1000000) (hr : o + n ≤ cur.size) (h0 : n ≤ c0) (h0m : c0 ≤ maxLen)
    (h1 : WCells w b1 o1 n (dg W64 X)) (h1c : n ≤ c1) (h1m : c1 ≤ maxLen) (h2 : WCells w b2 o2 n (dg W64 Y)) (h2c : n ≤ c2) (h2m : c2 ≤ maxLen) (hn1 : b1 ≠ g ∨ o ≤ o1) (hn2 : b2 ≠ g ∨ o ≤ o2) :
    Calls Tryz.prog 217 #[.slice (some ⟨g, o, none⟩) n c0, .slice (some ⟨b1, o1, none⟩) n c1, .slice (some ⟨b2, o2, none⟩) n c2] w
      (VecIs g o n cur (dg W64 (X + Y)) ((X % W64 ^ n + Y % W64 ^ n) / W64 ^ n) w) := by
  unfold maxLen at h0m h1m h2m
  have HG := Lib.hid hg
  have H1 := Lib.hid h1
  have H2 := Lib.hid h2
  clear hg h1 h2
  go_enter Tryz.func217, Tryz.ntmps217
  go_wp2
  go_loopw [6, 7, 8, 9, 25] (fun c _ _ _ i wr => ∃ k : Nat, k ≤ n ∧ i = .int .i64 k ∧ c = .int .u64 (((X % W64 ^ k + Y % W64 ^ k) / W64 ^ k : Nat) : Int) ∧ RowUp 151 w wr g o k cur (dg W64 (X + Y)))
    (fun _ _ _ _ i _ => n - (intOf i).toNat)
  case atStart => exact ⟨0, Nat.zero_le _, rfl, by simp, RowUp.start HG.out _ _⟩
  case round =>
    obtain ⟨k, hk, rfl, rfl, hR⟩ := hrel
    by_cases k1 : k < n
    · have e1 := hR.read HG.out (H1.out k k1) hn1 (Nat.le_refl _)
      have e2 := hR.read HG.out (H2.out k k1) hn2 (Nat.le_refl _)
      have d1 : dg W64 X k < 18446744073709551616 := W64_lt (dg_lt W64_pos _ _)
      have d2 : dg W64 Y k < 18446744073709551616 := W64_lt (dg_lt W64_pos _ _)
      have hc := add_carry_le W64_pos X Y k
      have HS := Lib.hid (add_step W64_pos X Y k)
      have HR := Lib.hid hR
      have hlt := hR.room (j := o + k) (by omega)
      obtain ⟨⟨u0, p0⟩, f0⟩ := hlt
      clear hR
      generalize (X % W64 ^ k + Y % W64 ^ k) / W64 ^ k = c at *
      generalize dg W64 X k = x at *
      generalize dg W64 Y k = y at *
      have HE := Lib.hid (show (x + y + c) % 18446744073709551616 = dg W64 (X + Y) k from by rw [← HS.out.1]; show _ % W64 = _; congr 1; omega)
      have HF := Lib.hid (show (x + y + c) / 18446744073709551616 = (X % W64 ^ (k + 1) + Y % W64 ^ (k + 1)) / W64 ^ (k + 1) from by rw [← HS.out.2]; show _ / W64 = _; congr 1; omega)
      go_wp2
      go_quiet (first | (go_at_call 218; refine Calls.quiet_of_same ((bitsAdd_any x y c hc _).mono (fun _ _ h => ⟨h.1, h.2.symm⟩))))
      go_wp2
      have hq1 : ((x : Int) + y + c) % 18446744073709551616 = (((x + y + c) % 18446744073709551616 : Nat) : Int) := by omega
      have hq2 : ((x : Int) + y + c) / 18446744073709551616 = (((x + y + c) / 18446744073709551616 : Nat) : Int) := by omega
      rw [hq1, hq2]
      go_roundw
      case rel => exact ⟨k + 1, by omega, by go_num, by rw [HF.out], (HR.out.drewN _).step (by omega) HE.out⟩
      case measure => simp [intOf]; omega
    · obtain rfl : k = n := by omega
      go_wp2
      go_ret
      exact ⟨rfl, hR⟩

set_option maxRecDepth 100000 in
set_option maxHeartbeats 2000000 in
theorem addVV_any (g o n c0 b1 o1 c1 b2 o2 c2 : Nat) (cur : Array Value) (X Y : Nat) (w : World) (hg : BlkAt w g cur 151) (hn : n ≤ 1000000) (hr : o + n ≤ cur.size) (h0 : n ≤ c0) (h0m : c0 ≤ maxLen)
    (h1 : WCells w b1 o1 n (dg W64 X)) (h1c : n ≤ c1) (h1m : c1 ≤ maxLen) (h2 : WCells w b2 o2 n (dg W64 Y)) (h2c : n ≤ c2) (h2m : c2 ≤ maxLen) (hn1 : b1 ≠ g ∨ o ≤ o1) (hn2 : b2 ≠ g ∨ o ≤ o2) :
    Calls Tryz.prog 185 #[.slice (some ⟨g, o, none⟩) n c0, .slice (some ⟨b1, o1, none⟩) n c1, .slice (some ⟨b2, o2, none⟩) n c2] w
      (VecIs g o n cur (dg W64 (X + Y)) ((X % W64 ^ n + Y % W64 ^ n) / W64 ^ n) w) := by
  have HS := Lib.hid (addVVg_any g o n c0 b1 o1 c1 b2 o2 c2 cur X Y w hg hn hr h0 h0m h1 h1c h1m h2 h2c h2m hn1 hn2)
  clear hg h1 h2
  go_enter Tryz.func185, Tryz.ntmps185
  go_wp2_with fail
  refine HS.out.mono ?_
  rintro e w1 ⟨rfl, hR⟩
  have HR := Lib.hid hR
  clear hR
  go_wp2
  go_ret
  exact ⟨rfl, HR.out⟩

set_option maxRecDepth 100000 in
set_option maxHeartbeats 2000000 in
theorem subVVg_any (g o n c0 b1 o1 c1 b2 o2 c2 : Nat) (cur : Array Value) (X Y : Nat) (hXY : Y ≤ X) (w : World) (hg : BlkAt w g cur 151) (hn : n ≤ 1000000) (hr : o + n ≤ cur.size) (h0 : n ≤ c0) (h0m : c0 ≤ maxLen)
    (h1 : WCells w b1 o1 n (dg W64 X)) (h1c : n ≤ c1) (h1m : c1 ≤ maxLen) (h2 : WCells w b2 o2 n (dg W64 Y)) (h2c : n ≤ c2) (h2m : c2 ≤ maxLen) (hn1 : b1 ≠ g ∨ o ≤ o1) (hn2 : b2 ≠ g ∨ o ≤ o2) :
    Calls Tryz.prog 219 #[.slice (some ⟨g, o, none⟩) n c0, .slice (some ⟨b1, o1, none⟩) n c1, .slice (some ⟨b2, o2, none⟩) n c2] w
      (VecIs g o n cur (dg W64 (X - Y)) (bor X Y n) w) := by
  unfold maxLen at h0m h1m h2m
  have HG := Lib.hid hg
  have H1 := Lib.hid h1
  have H2 := Lib.hid h2
  clear hg h1 h2
  go_enter Tryz.func219, Tryz.ntmps219
  go_wp2
  go_loopw [6, 7, 8, 9, 25] (fun c _ _ _ i wr => ∃ k : Nat, k ≤ n ∧ i = .int .i64 k ∧ c = .int .u64 (bor X Y k : Int) ∧ RowUp 151 w wr g o k cur (dg W64 (X - Y)))
    (fun _ _ _ _ i _ => n - (intOf i).toNat)
  case atStart => exact ⟨0, Nat.zero_le _, rfl, by rw [bor_zero]; rfl, RowUp.start HG.out _ _⟩
  case round =>
    obtain ⟨k, hk, rfl, rfl, hR⟩ := hrel
    by_cases k1 : k < n
    · have e1 := hR.read HG.out (H1.out k k1) hn1 (Nat.le_refl _)
      have e2 := hR.read HG.out (H2.out k k1) hn2 (Nat.le_refl _)
      have d1 : dg W64 X k < 18446744073709551616 := W64_lt (dg_lt W64_pos _ _)
      have d2 : dg W64 Y k < 18446744073709551616 := W64_lt (dg_lt W64_pos _ _)
      have hc := bor_le X Y k
      have HS := Lib.hid (subw_step hXY k)
      have HR := Lib.hid hR
      have hlt := hR.room (j := o + k) (by omega)
      obtain ⟨⟨u0, p0⟩, f0⟩ := hlt
      clear hR
      generalize bor X Y k = c at *
      generalize dg W64 X k = x at *
      generalize dg W64 Y k = y at *
      have HE := Lib.hid (show (x + 18446744073709551616 - y - c) % 18446744073709551616 = dg W64 (X - Y) k from HS.out.1)
      have HF := Lib.hid (show (if x < y + c then 1 else 0 : Nat) = bor X Y (k + 1) from HS.out.2)
      have hd1 : (x + 18446744073709551616 - y - c) % 18446744073709551616 < 18446744073709551616 := Nat.mod_lt _ (by decide)
      have HC := Lib.hid (fun w => (bitsSub_any x y c hc w).mono (fun _ _ h => (⟨h.1, h.2.symm⟩ : _ ∧ _)))
      generalize (x + 18446744073709551616 - y - c) % 18446744073709551616 = s at *
      generalize (if x < y + c then 1 else 0 : Nat) = d at *
      go_wp2
      go_quiet (first | (go_at_call 220; refine Calls.quiet_of_same (HC.out _)))
      go_wp2
      go_roundw
      case rel => exact ⟨k + 1, by omega, by go_num, by rw [HF.out], (HR.out.drewN _).step (by omega) HE.out⟩
      case measure => simp [intOf]; omega
    · obtain rfl : k = n := by omega
      go_wp2
      go_ret
      exact ⟨rfl, hR⟩

set_option maxRecDepth 100000 in
set_option maxHeartbeats 2000000 in
theorem subVV_any (g o n c0 b1 o1 c1 b2 o2 c2 : Nat) (cur : Array Value) (X Y : Nat) (hXY : Y ≤ X) (w : World) (hg : BlkAt w g cur 151) (hn : n ≤ 1000000) (hr : o + n ≤ cur.size) (h0 : n ≤ c0) (h0m : c0 ≤ maxLen)
    (h1 : WCells w b1 o1 n (dg W64 X)) (h1c : n ≤ c1) (h1m : c1 ≤ maxLen) (h2 : WCells w b2 o2 n (dg W64 Y)) (h2c : n ≤ c2) (h2m : c2 ≤ maxLen) (hn1 : b1 ≠ g ∨ o ≤ o1) (hn2 : b2 ≠ g ∨ o ≤ o2) :
    Calls Tryz.prog 188 #[.slice (some ⟨g, o, none⟩) n c0, .slice (some ⟨b1, o1, none⟩) n c1, .slice (some ⟨b2, o2, none⟩) n c2] w
      (VecIs g o n cur (dg W64 (X - Y)) (bor X Y n) w) := by
  have HS := Lib.hid (subVVg_any g o n c0 b1 o1 c1 b2 o2 c2 cur X Y hXY w hg hn hr h0 h0m h1 h1c h1m h2 h2c h2m hn1 hn2)
  clear hg h1 h2
  go_enter Tryz.func188, Tryz.ntmps188
  go_wp2_with fail
  refine HS.out.mono ?_
  rintro e w1 ⟨rfl, hR⟩
  have HR := Lib.hid hR
  clear hR
  go_wp2
  go_ret
  exact ⟨rfl, HR.out⟩
end Go.Proofs.YtdkipndepkblhaaGreatDoor

set_option linter.unusedSimpArgs false
set_option linter.unusedVariables false
namespace Go.Bg
open Go.RowKit Dg
/-- as RowUp; nothing below B has turned otherwise -/
structure RowB (T : TypeId) (B : Nat) (w w' : World) (g o n : Nat) (cur : Array Value) (h : Nat → Nat) : Prop where
  below : Below B w w'
  blk : ∃ cur', BlkAt w' g cur' T ∧ cur'.size = cur.size ∧ (∀ i, i < n → cur'[o + i]? = some (.int .u64 (h i : Nat))) ∧ ∀ j, (j < o ∨ o + n ≤ j) → cur'[j]? = cur[j]?
theorem RowUp.toB {T : TypeId} {B : Nat} {w w' : World} {g o n : Nat} {cur : Array Value} {h : Nat → Nat} (r : RowUp T w w' g o n cur h) (hg : B ≤ g) (hB : B ≤ w.heap.size) : RowB T B w w' g o n cur h :=
  ⟨r.upd.below (Below.refl B w) hB (fun k _ e => e ▸ hg), r.blk⟩
theorem RowUp.mono {T : TypeId} {w w' : World} {g o n : Nat} {cur : Array Value} {h h' : Nat → Nat} (r : RowUp T w w' g o n cur h) (he : ∀ i, i < n → h i = h' i) : RowUp T w w' g o n cur h' := by
  obtain ⟨cur', h1, h2, h3, h4⟩ := r.blk
  exact ⟨r.upd, cur', h1, h2, fun i hi => by rw [← he i hi]; exact h3 i hi, h4⟩
/-- words of X from i on, in a list -/
def wlf (X i n : Nat) : List Value := (List.range n).map (fun j => Value.int .u64 (dg W64 X (i + j) : Nat))
theorem wlf_get {X i n j : Nat} (h : j < n) : (wlf X i n)[j]? = some (.int .u64 (dg W64 X (i + j) : Nat)) := by simp [wlf, h]
theorem wlf_len (X i n : Nat) : (wlf X i n).length = n := by simp [wlf]
theorem wlf_one (X i n : Nat) : ∀ v ∈ wlf X i n, v.oneCell' = true := by
  intro v hv
  simp only [wlf, List.mem_map] at hv
  obtain ⟨_, _, rfl⟩ := hv
  rfl
/-- the first k places have turned; the rest is laid by a copy -/
theorem rowB_spliced {T : TypeId} {B : Nat} {w w2 : World} {g o k n X : Nat} {cur cur' : Array Value} {h : Nat → Nat} (hkn : k ≤ n) (hsz : cur'.size = cur.size) (hfit : o + n ≤ cur.size)
    (h3 : ∀ i, i < k → cur'[o + i]? = some (.int .u64 (h i : Nat))) (h4 : ∀ j, (j < o ∨ o + k ≤ j) → cur'[j]? = cur[j]?)
    (hg : w2.heap[g]? = some (.cells (splice cur'.toList (o + k) (wlf X k (n - k))).toArray T (0, 0))) (hb : Below B w w2) (he : ∀ i, k ≤ i → i < n → h i = dg W64 X i) : RowB T B w w2 g o n cur h := by
  have hl : (wlf X k (n - k)).length = n - k := wlf_len _ _ _
  have hll : o + k + (wlf X k (n - k)).length ≤ cur'.toList.length := by rw [hl]; simp; omega
  refine ⟨hb, (splice cur'.toList (o + k) (wlf X k (n - k))).toArray, hg, by simp only [List.size_toArray]; rw [length_splice _ _ _ hll]; simpa using hsz, fun i hi => ?_, fun j hj => ?_⟩
  · by_cases hik : i < k
    · rw [← h3 i hik]
      simp only [List.getElem?_toArray, splice]
      rw [List.getElem?_append_left (by simp; omega), List.getElem?_take_of_lt (by omega)]
      simp
    · simp only [List.getElem?_toArray, splice]
      have hls : cur'.toList.length = cur'.size := by simp
      have hidx : o + i - min (o + k) cur'.toList.length = i - k := by rw [hls]; omega
      rw [List.getElem?_append_right (by simp; omega), List.getElem?_append_left (by rw [hl]; simp; omega), List.length_take, hidx, wlf_get (by omega), he i (by omega) hi, show k + (i - k) = i from by omega]
  · rw [← h4 j (by omega)]
    simp only [List.getElem?_toArray, splice]
    rcases hj with hj | hj
    · rw [List.getElem?_append_left (by simp; omega), List.getElem?_take_of_lt (by omega)]
      simp
    · by_cases hjs : j < cur'.size
      · rw [List.getElem?_append_right (by simp; omega), List.getElem?_append_right (by rw [hl]; simp; omega), List.getElem?_drop, hl, List.length_take]
        have : o + k + (n - k) + (j - min (o + k) cur'.toList.length - (n - k)) = j := by simp; omega
        rw [this]; simp
      · rw [Array.getElem?_eq_none (by omega), List.getElem?_eq_none]
        have := length_splice _ _ _ hll
        unfold splice at this
        rw [this]; simp; omega
end Go.Bg

namespace Go.Bg
open Dg
theorem ret_u64 {a b : Nat} (h : a = b) : Ending.returned (.int .u64 (a : Nat)) = .returned (.int .u64 (b : Nat)) := by rw [h]
/-- what is not carried at k is not carried behind it -/
theorem addw_none {B X y k n : Nat} (hB : 0 < B) (h : (X % B ^ k + y) / B ^ k = 0) (hkn : k ≤ n) : (X % B ^ n + y) / B ^ n = 0 := by
  have hp := Nat.pow_pos (n := k) hB
  have hq := Nat.pow_pos (n := n) hB
  have h1 : X % B ^ k + y < B ^ k := by
    rcases Nat.lt_or_ge (X % B ^ k + y) (B ^ k) with hh | hh
    · exact hh
    · have := Nat.div_pos hh hp; omega
  obtain ⟨d, rfl⟩ : ∃ d, n = k + d := ⟨n - k, by omega⟩
  have e := Nat.mod_mul (x := X) (a := B ^ k) (b := B ^ d)
  rw [Nat.pow_add, e]
  have hd := Nat.mod_lt (X / B ^ k) (Nat.pow_pos (n := d) hB)
  have : B ^ k * (X / B ^ k % B ^ d) + B ^ k ≤ B ^ k * B ^ d := by
    rw [← Nat.mul_succ]; exact Nat.mul_le_mul_left _ hd
  exact Nat.div_eq_of_lt (by omega)
end Go.Bg

namespace Go.Proofs.YtdkipndepkblhaaGreatDoor
open Go.RowKit Go.Bg Dg

def VecBs (B g o n : Nat) (cur : Array Value) (h : Nat → Nat) (c : Nat) (w : World) (e : Ending) (w' : World) : Prop :=
  e = .returned (.int .u64 (c : Nat)) ∧ RowB 151 B w w' g o n cur h

theorem infoWordJ : ∃ j, Tryz.prog.info? 151 = some j ∧ j.size = 1 := Option.map_eq_some_iff.1 infoWordSize

set_option maxRecDepth 100000 in
set_option maxHeartbeats 4000000 in
theorem addVW_any (B g o n c0 b1 o1 c1 : Nat) (cur cur1 : Array Value) (T1 : TypeId) (X y : Nat) (w : World) (hg : BlkAt w g cur 151) (hg1 : BlkAt w b1 cur1 T1) (hBg : B ≤ g) (hBw : B ≤ w.heap.size) (hn1 : 1 ≤ n) (hn : n ≤ 1000000) (hr : o + n ≤ cur.size) (h0 : n ≤ c0) (h0m : c0 ≤ maxLen)
    (h1 : WCells w b1 o1 n (dg W64 X)) (h1c : n ≤ c1) (h1m : c1 ≤ maxLen) (hne : b1 ≠ g) (hy : y < W64) :
    Calls Tryz.prog 186 #[.slice (some ⟨g, o, none⟩) n c0, .slice (some ⟨b1, o1, none⟩) n c1, .int .u64 y] w
      (VecBs B g o n cur (dg W64 (X + y)) ((X % W64 ^ n + y) / W64 ^ n) w) := by
  unfold maxLen at h0m h1m
  obtain ⟨j, hj, hj1⟩ := infoWordJ
  have hy' : y < 18446744073709551616 := W64_lt hy
  have HG := Lib.hid hg
  have HG1 := Lib.hid hg1
  have H1 := Lib.hid h1
  have e1 := h1 0 (by omega)
  rw [Nat.add_zero] at e1
  have d1 : dg W64 X 0 < 18446744073709551616 := W64_lt (dg_lt W64_pos _ _)
  have HS := Lib.hid (addw_step W64_pos X y 0)
  have hroom := (RowUp.start hg o (dg W64 (X + y))).room (j := o) (by omega)
  obtain ⟨⟨u0, p0⟩, f0⟩ := hroom
  have HX := Lib.hid (show dg W64 X 0 = dg W64 X 0 from rfl)
  have hn0 : ((n : Int) == 0) = false := by simp; omega
  clear hg hg1 h1 hy
  generalize hx : dg W64 X 0 = x at *
  simp only [Nat.pow_zero, Nat.mod_one, Nat.zero_add, Nat.div_one, Nat.pow_one] at HS
  have HE := Lib.hid (show (x + y + 0) % 18446744073709551616 = dg W64 (X + y) 0 from by rw [HS.out.1]; rfl)
  have HF := Lib.hid (show (x + y + 0) / 18446744073709551616 = (X % W64 + y) / W64 from by rw [HS.out.2]; rfl)
  have hdl : (x + y + 0) % 18446744073709551616 < 18446744073709551616 := Nat.mod_lt _ (by decide)
  have hcl : (x + y + 0) / 18446744073709551616 ≤ 1 := by omega
  have HC := Lib.hid (fun w => bitsAdd_any x y 0 (by omega) w)
  generalize (x + y + 0) % 18446744073709551616 = s at *
  generalize hcc : (x + y + 0) / 18446744073709551616 = cc at *
  clear hx hcc
  go_enter Tryz.func186, Tryz.ntmps186
  go_wp2_with fail
  refine (HC.out _).mono ?_
  rintro e w1 ⟨rfl, rfl⟩
  have HR := Lib.hid ((RowUp.start HG.out o (dg W64 (X + y))).step (by omega) HE.out)
  simp only [Nat.add_zero, Nat.zero_add] at HR
  obtain ⟨W1, hW1⟩ : ∃ W1, W1 = w.setCell ⟨g, o, none⟩ (.int .u64 (s : Nat)) := ⟨_, rfl⟩
  have HW1 := Lib.hid hW1
  rw [← hW1] at HR
  obtain ⟨cur', hk1, hk2, hk3, hk4⟩ := HR.out.blk
  have hk5 := HR.out.upd.blk HG1.out hne
  have HQ := Lib.hid (fun q => run_neq_ptr_other (P := Tryz.prog) (a := ⟨g, o, none⟩) (b := ⟨b1, o1, none⟩) (W1.drewN q) Tryz.underlying207 hj (by rw [hj1]; decide) (by intro h; injection h with h _ _; exact hne h.symm) hk1 hk5)
  clear hW1
  by_cases hc0 : cc = 0
  · subst hc0
    go_upto_region 8 with fail
    rw [← HW1.out]
    have hq := HQ.out
    go_quiet (fail)
    go_upto_region 9 with fail
    have hbd : Below W1.heap.size W1 (W1.drewN (nq + 1)) := below_drewN (Below.refl _ _) (nq + 1)
    have hk1' := hk1.keep hbd
    have HG2 := Lib.hid (show (W1.drewN (nq + 1)).heap[g]? = some (.cells cur'.toList.toArray 151 (0, 0)) from by unfold BlkAt at hk1'; simpa using hk1')
    have HSRC := Lib.hid (show ∀ j v, (wlf X 1 (n - 1))[j]? = some v → (W1.drewN (nq + 1)).cell? ((⟨b1, o1 + 1, none⟩ : Addr).add j) = some v from by
      intro j v hjv
      have hjn : j < n - 1 := by
        have := (List.getElem?_eq_some_iff.1 hjv).1
        rwa [wlf_len] at this
      rw [wlf_get hjn] at hjv
      rw [← hjv, Addr.add_lit, show o1 + 1 + j = o1 + (1 + j) from by omega]
      exact cell_keep (HR.out.read HG.out (H1.out (1 + j) (by omega)) (.inl hne) (by omega)) hbd)
    have HB2 := Lib.hid (((HR.out.toB hBg hBw).below).trans (hbd.mono (Nat.le_trans hBw HR.out.upd.size)))
    have HT := Lib.hid (show o + 1 + (wlf X 1 (n - 1)).length ≤ cur'.toList.length from by rw [wlf_len]; simp; omega)
    have HL := Lib.hid (wlf_len X 1 (n - 1))
    have hn1i : (1 : Int) ≤ n := by omega
    have HNC := Lib.hid (show (X % W64 ^ 1 + y) / W64 ^ 1 = 0 from by rw [Nat.pow_one]; exact HF.out.symm)
    clear hbd hk1'
    go_region_law (refine step_copy_splice rfl (.tmp 40) (.tmp 42) 140 140 rfl 151 Tryz.underlying140 infoWordSize _ _ _ _ _ _ rfl rfl g (o + 1) cur'.toList 151 HG2.out (wlf X 1 (n - 1)) (by rw [HL.out]; exact (Nat.min_self _).symm) (fun h0 => by rw [HL.out] at h0; exact ⟨if_neg (by omega), ⟨b1, o1 + 1, none⟩, if_neg (by omega), HSRC.out⟩) HT.out (wlf_one _ _ _) B w HB2.out hBg ?_; intro w4 hg4 hb4)
    all_goals go_wp2
    all_goals
      go_ret
      refine ⟨ret_u64 ?_, rowB_spliced (k := 1) (by omega) hk2 (by omega) hk3 hk4 hg4 hb4 (fun i hi _ => addw_same W64_pos HNC.out hi)⟩
      exact (addw_none W64_pos HNC.out (by omega)).symm
  · obtain rfl : cc = 1 := by omega
    have HC1 := Lib.hid (show (X % W64 ^ 1 + y) / W64 ^ 1 = 1 from by rw [Nat.pow_one]; exact HF.out.symm)
    go_upto_region 11 with fail
    rw [← HW1.out]
    clear hk1 hk2 hk3 hk4 hk5 p0 f0 e1 hc0 hcl
    go_wp2
    go_loopw [6, 9, 10] (fun _ i _ wr => ∃ k : Nat, 1 ≤ k ∧ k ≤ n ∧ i = .int .i64 k ∧ (X % W64 ^ k + y) / W64 ^ k = 1 ∧ RowUp 151 w wr g o k cur (dg W64 (X + y)))
      (fun _ i _ _ => n - (intOf i).toNat)
    case atStart => exact ⟨1, Nat.le_refl _, hn1, rfl, HC1.out, HR.out⟩
    case round =>
      obtain ⟨k, hk0, hk, rfl, hca, hR⟩ := hrel
      have HCA := Lib.hid hca
      clear hca
      by_cases k1 : k < n
      · have e1 := hR.read HG.out (H1.out k k1) (.inl hne) (Nat.le_refl _)
        have d1 : dg W64 X k < 18446744073709551616 := W64_lt (dg_lt W64_pos _ _)
        have HS2 := Lib.hid (addw_step W64_pos X y k)
        rw [HCA.out] at HS2
        have HRR := Lib.hid hR
        have hroom := hR.room (j := o + k) (by omega)
        obtain ⟨⟨u0, p0⟩, f0⟩ := hroom
        clear hR
        generalize hx : dg W64 X k = xk at *
        clear hx
        by_cases hm : xk = 18446744073709551615
        · subst hm
          have HE2 := Lib.hid (show 0 = dg W64 (X + y) k from by rw [HS2.out.1]; rfl)
          have HF2 := Lib.hid (show (X % W64 ^ (k + 1) + y) / W64 ^ (k + 1) = 1 from by rw [HS2.out.2]; rfl)
          go_wp2
          go_roundw
          case rel => exact ⟨k + 1, by omega, by omega, by go_num, HF2.out, HRR.out.step (x := 0) (by omega) HE2.out⟩
          case measure => simp [intOf]; omega
        · have hmb : ((xk : Int) != 18446744073709551615) = true := by simp; omega
          have hxw : xk + 1 < 18446744073709551616 := by omega
          have HE2 := Lib.hid (show xk + 1 = dg W64 (X + y) k from by rw [HS2.out.1]; exact (Nat.mod_eq_of_lt hxw).symm)
          have HF2 := Lib.hid (show (X % W64 ^ (k + 1) + y) / W64 ^ (k + 1) = 0 from by rw [HS2.out.2]; exact Nat.div_eq_of_lt hxw)
          have hcast : ((xk + 1 : Nat) : Int) = xk + 1 := by omega
          go_upto_region 17 with fail
          obtain ⟨W2, hW2⟩ : ∃ W2, W2 = wr.setCell ⟨g, o + k, none⟩ (.int .u64 ((xk : Int) + 1)) := ⟨_, rfl⟩
          have HR2 := Lib.hid (HRR.out.step (x := xk + 1) (by omega) HE2.out)
          rw [hcast, ← hW2] at HR2
          rw [← hW2]
          obtain ⟨cur', hk1, hk2, hk3, hk4⟩ := HR2.out.blk
          have hk5 := HR2.out.upd.blk HG1.out hne
          have HQ2 := Lib.hid (fun q => run_neq_ptr_other (P := Tryz.prog) (a := ⟨g, o, none⟩) (b := ⟨b1, o1, none⟩) (W2.drewN q) Tryz.underlying207 hj (by rw [hj1]; decide) (by intro h; injection h with h _ _; exact hne h.symm) hk1 hk5)
          clear hW2 hcast p0 f0 e1
          have hq := HQ2.out
          go_quiet (fail)
          go_upto_region 18 with fail
          clear hq
          have hbd : Below W2.heap.size W2 (W2.drewN (nq + 1)) := below_drewN (Below.refl _ _) (nq + 1)
          have hk1' := hk1.keep hbd
          have HG2 := Lib.hid (show (W2.drewN (nq + 1)).heap[g]? = some (.cells cur'.toList.toArray 151 (0, 0)) from by unfold BlkAt at hk1'; simpa using hk1')
          have HSRC := Lib.hid (show ∀ j v, (wlf X (k + 1) (n - (k + 1)))[j]? = some v → (W2.drewN (nq + 1)).cell? ((⟨b1, o1 + (k + 1), none⟩ : Addr).add j) = some v from by
            intro j v hjv
            have hjn : j < n - (k + 1) := by
              have := (List.getElem?_eq_some_iff.1 hjv).1
              rwa [wlf_len] at this
            rw [wlf_get hjn] at hjv
            rw [← hjv, Addr.add_lit, show o1 + (k + 1) + j = o1 + (k + 1 + j) from by omega]
            exact cell_keep (HR2.out.read HG.out (H1.out (k + 1 + j) (by omega)) (.inl hne) (by omega)) hbd)
          have HB2 := Lib.hid (((HR2.out.toB hBg hBw).below).trans (hbd.mono (Nat.le_trans hBw HR2.out.upd.size)))
          have HT := Lib.hid (show o + (k + 1) + (wlf X (k + 1) (n - (k + 1))).length ≤ cur'.toList.length from by rw [wlf_len]; simp; omega)
          have HL := Lib.hid (wlf_len X (k + 1) (n - (k + 1)))
          have s1 : IntKind.i64.wrap ((k : Int) + 1) = (k : Int) + 1 := IntWalk.i64_in _ (by omega)
          have s2 : (0 : Int) ≤ (k : Int) + 1 := by omega
          have s3 : (k : Int) + 1 ≤ n := by omega
          have s4 : ((k : Int) + 1).toNat = k + 1 := by omega
          clear hbd hk1'
          go_region_law (refine step_copy_splice rfl (.tmp 69) (.tmp 73) 140 140 rfl 151 Tryz.underlying140 infoWordSize (if c0 = k + 1 then some ⟨g, o, none⟩ else some ⟨g, o + (k + 1), none⟩) (if c1 = k + 1 then some ⟨b1, o1, none⟩ else some ⟨b1, o1 + (k + 1), none⟩) (n - (k + 1)) (c0 - (k + 1)) (n - (k + 1)) (c1 - (k + 1)) (by simp [Act.eval, Act.put]) (by simp [Act.eval, Act.put]) g (o + (k + 1)) cur'.toList 151 HG2.out (wlf X (k + 1) (n - (k + 1))) (by rw [HL.out]; exact (Nat.min_self _).symm) (fun h0 => by rw [HL.out] at h0; exact ⟨if_neg (by omega), ⟨b1, o1 + (k + 1), none⟩, if_neg (by omega), HSRC.out⟩) HT.out (wlf_one _ _ _) B w HB2.out hBg ?_; intro w4 hg4 hb4)
          all_goals go_wp2
          all_goals
            go_ret
            refine ⟨ret_u64 ?_, rowB_spliced (k := k + 1) (by omega) hk2 (by omega) hk3 hk4 hg4 hb4 (fun i hi _ => addw_same W64_pos HF2.out hi)⟩
            exact (addw_none W64_pos HF2.out (by omega)).symm
      · obtain rfl : k = n := by omega
        go_wp2
        go_ret
        exact ⟨ret_u64 HCA.out.symm, hR.toB hBg hBw⟩
end Go.Proofs.YtdkipndepkblhaaGreatDoor

set_option linter.unusedSimpArgs false
set_option linter.unusedVariables false
namespace Go.Proofs.YtdkipndepkblhaaGreatDoor
open Go.RowKit Go.Bg Dg

theorem pow_ge_one {k : Nat} (hk : 1 ≤ k) : W64 ≤ W64 ^ k := by
  obtain ⟨d, rfl⟩ : ∃ d, k = d + 1 := ⟨k - 1, by omega⟩
  rw [Nat.pow_succ]; exact Nat.le_mul_of_pos_left _ (Nat.pow_pos W64_pos)
theorem subw_same {X y k i : Nat} (hy : y < W64) (hXy : y ≤ X) (h : bor X y k = 0) (hk : 1 ≤ k) (hi : k ≤ i) : dg W64 (X - y) i = dg W64 X i := by
  obtain ⟨j, rfl⟩ : ∃ j, i = k + j := ⟨i - k, by omega⟩
  have hb : (if X % W64 ^ k < y % W64 ^ k then 1 else 0 : Nat) = 0 := h
  rw [← dg_div, ← dg_div, subb W64_pos hXy, hb, Nat.div_eq_of_lt (Nat.lt_of_lt_of_le hy (pow_ge_one hk))]
  rfl
theorem bor_none {X y k n : Nat} (hy : y < W64) (h : bor X y k = 0) (hk : 1 ≤ k) (hkn : k ≤ n) : bor X y n = 0 := by
  have e : ∀ m, 1 ≤ m → y % W64 ^ m = y := fun m hm => Nat.mod_eq_of_lt (Nat.lt_of_lt_of_le hy (pow_ge_one hm))
  unfold bor at h ⊢
  rw [e k hk] at h
  rw [e n (by omega)]
  have h1 : ¬ X % W64 ^ k < y := fun hh => by rw [if_pos hh] at h; cases h
  refine if_neg (fun hh => h1 (Nat.lt_of_le_of_lt ?_ hh))
  obtain ⟨d, rfl⟩ : ∃ d, n = k + d := ⟨n - k, by omega⟩
  have := Nat.mod_mul (x := X) (a := W64 ^ k) (b := W64 ^ d)
  rw [Nat.pow_add, this]
  exact Nat.le_add_right _ _

set_option maxRecDepth 100000 in
set_option maxHeartbeats 4000000 in
theorem subVW_any (B g o n c0 b1 o1 c1 : Nat) (cur cur1 : Array Value) (T1 : TypeId) (X y : Nat) (w : World) (hg : BlkAt w g cur 151) (hg1 : BlkAt w b1 cur1 T1) (hBg : B ≤ g) (hBw : B ≤ w.heap.size) (hn1 : 1 ≤ n) (hn : n ≤ 1000000) (hr : o + n ≤ cur.size) (h0 : n ≤ c0) (h0m : c0 ≤ maxLen)
    (h1 : WCells w b1 o1 n (dg W64 X)) (h1c : n ≤ c1) (h1m : c1 ≤ maxLen) (hne : b1 ≠ g) (hy : y < W64) (hXy : y ≤ X) :
    Calls Tryz.prog 189 #[.slice (some ⟨g, o, none⟩) n c0, .slice (some ⟨b1, o1, none⟩) n c1, .int .u64 y] w
      (VecBs B g o n cur (dg W64 (X - y)) (bor X y n) w) := by
  unfold maxLen at h0m h1m
  obtain ⟨j, hj, hj1⟩ := infoWordJ
  have hy' : y < 18446744073709551616 := W64_lt hy
  have HG := Lib.hid hg
  have HG1 := Lib.hid hg1
  have H1 := Lib.hid h1
  have e1 := h1 0 (by omega)
  rw [Nat.add_zero] at e1
  have d1 : dg W64 X 0 < 18446744073709551616 := W64_lt (dg_lt W64_pos _ _)
  have HS := Lib.hid (subw_step hXy 0)
  have HY := Lib.hid (show ∀ k, 1 ≤ k → dg W64 y k = 0 from fun k hk => dg_of_lt (Nat.lt_of_lt_of_le hy (by obtain ⟨d, rfl⟩ : ∃ d, k = d + 1 := ⟨k - 1, by omega⟩; rw [Nat.pow_succ]; exact Nat.le_mul_of_pos_left _ (Nat.pow_pos W64_pos))))
  have hy0 : dg W64 y 0 = y := by simp [dg, Nat.mod_eq_of_lt hy]
  rw [hy0, bor_zero] at HS
  have HYL := Lib.hid hy
  clear hy0
  have hroom := (RowUp.start hg o (dg W64 (X - y))).room (j := o) (by omega)
  obtain ⟨⟨u0, p0⟩, f0⟩ := hroom
  have HX := Lib.hid (show dg W64 X 0 = dg W64 X 0 from rfl)
  have hn0 : ((n : Int) == 0) = false := by simp; omega
  clear hg hg1 h1 hy
  generalize hx : dg W64 X 0 = x at *
  have HE := Lib.hid (show (x + 18446744073709551616 - y - 0) % 18446744073709551616 = dg W64 (X - y) 0 from HS.out.1)
  have HF := Lib.hid (show (if x < y + 0 then 1 else 0 : Nat) = bor X y 1 from HS.out.2)
  have hdl : (x + 18446744073709551616 - y - 0) % 18446744073709551616 < 18446744073709551616 := Nat.mod_lt _ (by decide)
  have hcl : (if x < y + 0 then 1 else 0 : Nat) ≤ 1 := by split <;> omega
  have HC := Lib.hid (fun w => bitsSub_any x y 0 (by omega) w)
  generalize (x + 18446744073709551616 - y - 0) % 18446744073709551616 = s at *
  generalize hcc : (if x < y + 0 then 1 else 0 : Nat) = cc at *
  clear hx hcc
  go_enter Tryz.func189, Tryz.ntmps189
  go_wp2_with fail
  refine (HC.out _).mono ?_
  rintro e w1 ⟨rfl, rfl⟩
  have HR := Lib.hid ((RowUp.start HG.out o (dg W64 (X - y))).step (by omega) HE.out)
  simp only [Nat.add_zero, Nat.zero_add] at HR
  obtain ⟨W1, hW1⟩ : ∃ W1, W1 = w.setCell ⟨g, o, none⟩ (.int .u64 (s : Nat)) := ⟨_, rfl⟩
  have HW1 := Lib.hid hW1
  rw [← hW1] at HR
  obtain ⟨cur', hk1, hk2, hk3, hk4⟩ := HR.out.blk
  have hk5 := HR.out.upd.blk HG1.out hne
  have HQ := Lib.hid (fun q => run_neq_ptr_other (P := Tryz.prog) (a := ⟨g, o, none⟩) (b := ⟨b1, o1, none⟩) (W1.drewN q) Tryz.underlying207 hj (by rw [hj1]; decide) (by intro h; injection h with h _ _; exact hne h.symm) hk1 hk5)
  clear hW1
  by_cases hc0 : cc = 0
  · subst hc0
    go_upto_region 8 with fail
    rw [← HW1.out]
    have hq := HQ.out
    go_quiet (fail)
    go_upto_region 9 with fail
    have hbd : Below W1.heap.size W1 (W1.drewN (nq + 1)) := below_drewN (Below.refl _ _) (nq + 1)
    have hk1' := hk1.keep hbd
    have HG2 := Lib.hid (show (W1.drewN (nq + 1)).heap[g]? = some (.cells cur'.toList.toArray 151 (0, 0)) from by unfold BlkAt at hk1'; simpa using hk1')
    have HSRC := Lib.hid (show ∀ j v, (wlf X 1 (n - 1))[j]? = some v → (W1.drewN (nq + 1)).cell? ((⟨b1, o1 + 1, none⟩ : Addr).add j) = some v from by
      intro j v hjv
      have hjn : j < n - 1 := by
        have := (List.getElem?_eq_some_iff.1 hjv).1
        rwa [wlf_len] at this
      rw [wlf_get hjn] at hjv
      rw [← hjv, Addr.add_lit, show o1 + 1 + j = o1 + (1 + j) from by omega]
      exact cell_keep (HR.out.read HG.out (H1.out (1 + j) (by omega)) (.inl hne) (by omega)) hbd)
    have HB2 := Lib.hid (((HR.out.toB hBg hBw).below).trans (hbd.mono (Nat.le_trans hBw HR.out.upd.size)))
    have HT := Lib.hid (show o + 1 + (wlf X 1 (n - 1)).length ≤ cur'.toList.length from by rw [wlf_len]; simp; omega)
    have HL := Lib.hid (wlf_len X 1 (n - 1))
    have hn1i : (1 : Int) ≤ n := by omega
    have HNC := Lib.hid (show bor X y 1 = 0 from HF.out.symm)
    clear hbd hk1'
    go_region_law (refine step_copy_splice rfl (.tmp 40) (.tmp 42) 140 140 rfl 151 Tryz.underlying140 infoWordSize _ _ _ _ _ _ rfl rfl g (o + 1) cur'.toList 151 HG2.out (wlf X 1 (n - 1)) (by rw [HL.out]; exact (Nat.min_self _).symm) (fun h0 => by rw [HL.out] at h0; exact ⟨if_neg (by omega), ⟨b1, o1 + 1, none⟩, if_neg (by omega), HSRC.out⟩) HT.out (wlf_one _ _ _) B w HB2.out hBg ?_; intro w4 hg4 hb4)
    all_goals go_wp2
    all_goals
      go_ret
      refine ⟨ret_u64 ?_, rowB_spliced (k := 1) (by omega) hk2 (by omega) hk3 hk4 hg4 hb4 (fun i hi _ => subw_same HYL.out hXy HNC.out (by omega) hi)⟩
      exact (bor_none HYL.out HNC.out (by omega) (by omega)).symm
  · obtain rfl : cc = 1 := by omega
    have HC1 := Lib.hid (show bor X y 1 = 1 from HF.out.symm)
    go_upto_region 11 with fail
    rw [← HW1.out]
    clear hk1 hk2 hk3 hk4 hk5 p0 f0 e1 hc0 hcl
    go_wp2
    go_loopw [6, 9, 10] (fun _ i _ wr => ∃ k : Nat, 1 ≤ k ∧ k ≤ n ∧ i = .int .i64 k ∧ bor X y k = 1 ∧ RowUp 151 w wr g o k cur (dg W64 (X - y)))
      (fun _ i _ _ => n - (intOf i).toNat)
    case atStart => exact ⟨1, Nat.le_refl _, hn1, rfl, HC1.out, HR.out⟩
    case round =>
      obtain ⟨k, hk0, hk, rfl, hca, hR⟩ := hrel
      have HCA := Lib.hid hca
      clear hca
      by_cases k1 : k < n
      · have e1 := hR.read HG.out (H1.out k k1) (.inl hne) (Nat.le_refl _)
        have d1 : dg W64 X k < 18446744073709551616 := W64_lt (dg_lt W64_pos _ _)
        have HS2 := Lib.hid (subw_step hXy k)
        rw [HCA.out, HY.out k hk0] at HS2
        have HRR := Lib.hid hR
        have hroom := hR.room (j := o + k) (by omega)
        obtain ⟨⟨u0, p0⟩, f0⟩ := hroom
        clear hR
        generalize hx : dg W64 X k = xk at *
        clear hx
        by_cases hm : xk = 0
        · subst hm
          have HE2 := Lib.hid (show 18446744073709551615 = dg W64 (X - y) k from by rw [← HS2.out.1])
          have HF2 := Lib.hid (show bor X y (k + 1) = 1 from by rw [← HS2.out.2]; rfl)
          go_wp2
          go_roundw
          case rel => exact ⟨k + 1, by omega, by omega, by go_num, HF2.out, HRR.out.step (x := 18446744073709551615) (by omega) HE2.out⟩
          case measure => simp [intOf]; omega
        · have hmb : ((xk : Int) != 0) = true := by simp; omega
          have hxw : 1 ≤ xk := by omega
          have HE2 := Lib.hid (show xk - 1 = dg W64 (X - y) k from by rw [← HS2.out.1]; omega)
          have HF2 := Lib.hid (show bor X y (k + 1) = 0 from by rw [← HS2.out.2]; exact if_neg (by omega))
          have hcast : ((xk - 1 : Nat) : Int) = xk - 1 := by omega
          go_upto_region 17 with fail
          obtain ⟨W2, hW2⟩ : ∃ W2, W2 = wr.setCell ⟨g, o + k, none⟩ (.int .u64 ((xk : Int) - 1)) := ⟨_, rfl⟩
          have HR2 := Lib.hid (HRR.out.step (x := xk - 1) (by omega) HE2.out)
          rw [hcast, ← hW2] at HR2
          rw [← hW2]
          obtain ⟨cur', hk1, hk2, hk3, hk4⟩ := HR2.out.blk
          have hk5 := HR2.out.upd.blk HG1.out hne
          have HQ2 := Lib.hid (fun q => run_neq_ptr_other (P := Tryz.prog) (a := ⟨g, o, none⟩) (b := ⟨b1, o1, none⟩) (W2.drewN q) Tryz.underlying207 hj (by rw [hj1]; decide) (by intro h; injection h with h _ _; exact hne h.symm) hk1 hk5)
          clear hW2 hcast p0 f0 e1
          have hq := HQ2.out
          go_quiet (fail)
          go_upto_region 18 with fail
          clear hq
          have hbd : Below W2.heap.size W2 (W2.drewN (nq + 1)) := below_drewN (Below.refl _ _) (nq + 1)
          have hk1' := hk1.keep hbd
          have HG2 := Lib.hid (show (W2.drewN (nq + 1)).heap[g]? = some (.cells cur'.toList.toArray 151 (0, 0)) from by unfold BlkAt at hk1'; simpa using hk1')
          have HSRC := Lib.hid (show ∀ j v, (wlf X (k + 1) (n - (k + 1)))[j]? = some v → (W2.drewN (nq + 1)).cell? ((⟨b1, o1 + (k + 1), none⟩ : Addr).add j) = some v from by
            intro j v hjv
            have hjn : j < n - (k + 1) := by
              have := (List.getElem?_eq_some_iff.1 hjv).1
              rwa [wlf_len] at this
            rw [wlf_get hjn] at hjv
            rw [← hjv, Addr.add_lit, show o1 + (k + 1) + j = o1 + (k + 1 + j) from by omega]
            exact cell_keep (HR2.out.read HG.out (H1.out (k + 1 + j) (by omega)) (.inl hne) (by omega)) hbd)
          have HB2 := Lib.hid (((HR2.out.toB hBg hBw).below).trans (hbd.mono (Nat.le_trans hBw HR2.out.upd.size)))
          have HT := Lib.hid (show o + (k + 1) + (wlf X (k + 1) (n - (k + 1))).length ≤ cur'.toList.length from by rw [wlf_len]; simp; omega)
          have HL := Lib.hid (wlf_len X (k + 1) (n - (k + 1)))
          have s1 : IntKind.i64.wrap ((k : Int) + 1) = (k : Int) + 1 := IntWalk.i64_in _ (by omega)
          have s2 : (0 : Int) ≤ (k : Int) + 1 := by omega
          have s3 : (k : Int) + 1 ≤ n := by omega
          have s4 : ((k : Int) + 1).toNat = k + 1 := by omega
          clear hbd hk1'
          go_region_law (refine step_copy_splice rfl (.tmp 69) (.tmp 73) 140 140 rfl 151 Tryz.underlying140 infoWordSize (if c0 = k + 1 then some ⟨g, o, none⟩ else some ⟨g, o + (k + 1), none⟩) (if c1 = k + 1 then some ⟨b1, o1, none⟩ else some ⟨b1, o1 + (k + 1), none⟩) (n - (k + 1)) (c0 - (k + 1)) (n - (k + 1)) (c1 - (k + 1)) (by simp [Act.eval, Act.put]) (by simp [Act.eval, Act.put]) g (o + (k + 1)) cur'.toList 151 HG2.out (wlf X (k + 1) (n - (k + 1))) (by rw [HL.out]; exact (Nat.min_self _).symm) (fun h0 => by rw [HL.out] at h0; exact ⟨if_neg (by omega), ⟨b1, o1 + (k + 1), none⟩, if_neg (by omega), HSRC.out⟩) HT.out (wlf_one _ _ _) B w HB2.out hBg ?_; intro w4 hg4 hb4)
          all_goals go_wp2
          all_goals
            go_ret
            refine ⟨ret_u64 ?_, rowB_spliced (k := k + 1) (by omega) hk2 (by omega) hk3 hk4 hg4 hb4 (fun i hi _ => subw_same HYL.out hXy HF2.out (by omega) hi)⟩
            exact (bor_none HYL.out HF2.out (by omega) (by omega)).symm
      · obtain rfl : k = n := by omega
        go_wp2
        go_ret
        exact ⟨ret_u64 HCA.out.symm, hR.toB hBg hBw⟩
end Go.Proofs.YtdkipndepkblhaaGreatDoor
