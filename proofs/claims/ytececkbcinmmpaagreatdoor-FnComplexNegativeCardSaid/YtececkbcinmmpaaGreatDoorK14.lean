/-
  Contracts and lemmas: VecA VecB VecE.
-/
import Derived.Laws.Externs
import Derived.Shelf.Spec.BitsCarry
import Derived.Test.YtececkbcinmmpaaGreatDoorK03
import Derived.IntWalk
import Derived.Test.YtececkbcinmmpaaGreatDoorK04
import Derived.Test.YtececkbcinmmpaaGreatDoorK10
set_option linter.unusedSimpArgs false
set_option linter.unusedVariables false
set_option maxRecDepth 100000
set_option maxHeartbeats 8000000
namespace Dg
theorem addw_div {B : Nat} (hB : 0 < B) (X y k : Nat) : (X + y) / B ^ k = X / B ^ k + (X % B ^ k + y) / B ^ k := by
  have hp : 0 < B ^ k := Nat.pow_pos hB
  have h := Nat.div_add_mod X (B ^ k)
  have e : X + y = X % B ^ k + y + B ^ k * (X / B ^ k) := by omega
  rw [e, Nat.add_mul_div_left _ _ hp]
  have e2 : (X % B ^ k + y + B ^ k * (X / B ^ k)) = X + y := by omega
  omega
theorem addw_same {B : Nat} (hB : 0 < B) {X y k i : Nat} (h : (X % B ^ k + y) / B ^ k = 0) (hi : k ≤ i) : dg B (X + y) i = dg B X i := by
  obtain ⟨j, rfl⟩ : ∃ j, i = k + j := ⟨i - k, by omega⟩
  rw [← dg_div, ← dg_div, addw_div hB, h, Nat.add_zero]
theorem addw_step {B : Nat} (hB : 0 < B) (X y k : Nat) :
    dg B (X + y) k = (dg B X k + (X % B ^ k + y) / B ^ k) % B ∧ (X % B ^ (k + 1) + y) / B ^ (k + 1) = (dg B X k + (X % B ^ k + y) / B ^ k) / B := by
  have hp : 0 < B ^ k := Nat.pow_pos hB
  constructor
  · show (X + y) / B ^ k % B = _
    rw [addw_div hB, Nat.add_mod, dg]
    conv => rhs; rw [Nat.add_mod, Nat.mod_mod]
  · rw [mod_succ, Nat.pow_succ, ← Nat.div_div_eq_div_mul]
    have : X % B ^ k + B ^ k * dg B X k + y = X % B ^ k + y + B ^ k * dg B X k := by omega
    rw [this, Nat.add_mul_div_left _ _ hp, Nat.add_comm]
theorem subb {B : Nat} (hB : 0 < B) {X Y : Nat} (h : Y ≤ X) (k : Nat) : (X - Y) / B ^ k = X / B ^ k - Y / B ^ k - (if X % B ^ k < Y % B ^ k then 1 else 0) := by
  have hp : 0 < B ^ k := Nat.pow_pos hB
  have hx := Nat.div_add_mod X (B ^ k)
  have hy := Nat.div_add_mod Y (B ^ k)
  have hxm := Nat.mod_lt X hp
  have hym := Nat.mod_lt Y hp
  generalize X / B ^ k = a at *
  generalize X % B ^ k = r at *
  generalize Y / B ^ k = b at *
  generalize Y % B ^ k = t at *
  generalize B ^ k = P at *
  by_cases hr : r < t
  · rw [if_pos hr]
    have hba : b < a := by
      rcases Nat.lt_or_ge b a with hh | hh
      · exact hh
      · have : P * a ≤ P * b := Nat.mul_le_mul_left _ hh
        omega
    obtain ⟨d, rfl⟩ : ∃ d, a = b + 1 + d := ⟨a - b - 1, by omega⟩
    have e : X - Y = P * d + (P + r - t) := by
      have : P * (b + 1 + d) = P * b + P + P * d := by rw [Nat.mul_add, Nat.mul_add, Nat.mul_one]
      omega
    rw [e, Nat.add_comm, Nat.add_mul_div_left _ _ hp, Nat.div_eq_of_lt (by omega)]
    omega
  · rw [if_neg hr]
    have hba : b ≤ a := by
      rcases Nat.lt_or_ge a b with hh | hh
      · have : P * (a + 1) ≤ P * b := Nat.mul_le_mul_left _ hh
        rw [Nat.mul_add, Nat.mul_one] at this
        omega
      · exact hh
    obtain ⟨d, rfl⟩ : ∃ d, a = b + d := ⟨a - b, by omega⟩
    have e : X - Y = P * d + (r - t) := by
      have : P * (b + d) = P * b + P * d := Nat.mul_add _ _ _
      omega
    rw [e, Nat.add_comm, Nat.add_mul_div_left _ _ hp, Nat.div_eq_of_lt (by omega)]
    omega
end Dg
namespace Go.Bg
open Go.RowKit Dg
structure RowUp (T : TypeId) (w w' : World) (g o n : Nat) (cur : Array Value) (h : Nat → Nat) : Prop where
  upd : Upd (· = g) w w'
  blk : ∃ cur', BlkAt w' g cur' T ∧ cur'.size = cur.size ∧ (∀ i, i < n → cur'[o + i]? = some (.int .u64 (h i : Nat))) ∧ ∀ j, (j < o ∨ o + n ≤ j) → cur'[j]? = cur[j]?
theorem RowUp.start {T : TypeId} {w : World} {g : Nat} {cur : Array Value} (hg : BlkAt w g cur T) (o : Nat) (h : Nat → Nat) : RowUp T w w g o 0 cur h :=
  ⟨Upd.refl _ _, cur, hg, rfl, fun i hi => by omega, fun _ _ => rfl⟩
theorem RowUp.drewN {T : TypeId} {w w' : World} {g o n : Nat} {cur : Array Value} {h : Nat → Nat} (r : RowUp T w w' g o n cur h) (q : Nat) : RowUp T w (w'.drewN q) g o n cur h := by
  have hb : Below w'.heap.size w' (w'.drewN q) := below_drewN (Below.refl _ _) q
  obtain ⟨cur', h1, h2, h3, h4⟩ := r.blk
  exact ⟨r.upd.then hb, cur', h1.keep hb, h2, h3, h4⟩
theorem RowUp.step {T : TypeId} {w w' : World} {g o k : Nat} {cur : Array Value} {h : Nat → Nat} (r : RowUp T w w' g o k cur h) (hk : o + k < cur.size) {x : Nat} (hx : x = h k) :
    RowUp T w (w'.setCell ⟨g, o + k, none⟩ (.int .u64 (x : Nat))) g o (k + 1) cur h := by
  obtain ⟨cur', h1, h2, h3, h4⟩ := r.blk
  refine ⟨r.upd.setCell rfl _, _, h1.set (o + k) _, by simpa using h2, fun i hi => ?_, fun j hj => ?_⟩
  · rw [Array.getElem?_setIfInBounds]
    by_cases e : o + k = o + i
    · rw [if_pos e, if_pos (by omega)]
      have : i = k := by omega
      subst this; rw [hx]
    · rw [if_neg e]; exact h3 i (by omega)
  · rw [Array.getElem?_setIfInBounds, if_neg (by omega)]; exact h4 j (by omega)
theorem RowUp.room {T : TypeId} {w w' : World} {g o k : Nat} {cur : Array Value} {h : Nat → Nat} (r : RowUp T w w' g o k cur h) {j : Nat} (hj : j < cur.size) :
    (∃ u, w'.cell? ⟨g, j, none⟩ = some u) ∧ w'.frozen? ⟨g, j, none⟩ = false := by
  obtain ⟨cur', h1, h2, h3, h4⟩ := r.blk
  refine ⟨?_, h1.frozen j⟩
  rw [h1.cell j, Array.getElem?_eq_getElem (by omega)]
  exact ⟨_, rfl⟩
theorem RowUp.read {T : TypeId} {w w' : World} {g o k b p i : Nat} {cur : Array Value} {h : Nat → Nat} (r : RowUp T w w' g o k cur h) (hg : BlkAt w g cur T) {v : Value} (hv : w.cell? ⟨b, p + i, none⟩ = some v) (hne : b ≠ g ∨ o ≤ p) (hi : k ≤ i) :
    w'.cell? ⟨b, p + i, none⟩ = some v := by
  by_cases e : b = g
  · subst e
    obtain ⟨cur', h1, h2, h3, h4⟩ := r.blk
    rw [h1.cell, h4 _ (by omega), ← hg.cell]; exact hv
  · rw [r.upd.cell (p := ⟨b, p + i, none⟩) (block_lt hv) e]; exact hv
theorem RowUp.cells {T : TypeId} {w w' : World} {g o n : Nat} {cur : Array Value} {h : Nat → Nat} (r : RowUp T w w' g o n cur h) : ∀ i, i < n → w'.cell? ⟨g, o + i, none⟩ = some (.int .u64 (h i : Nat)) := by
  intro i hi
  obtain ⟨cur', h1, h2, h3, h4⟩ := r.blk
  rw [h1.cell]; exact h3 i hi
def WCells (w : World) (b o n : Nat) (f : Nat → Nat) : Prop := ∀ i, i < n → w.cell? ⟨b, o + i, none⟩ = some (.int .u64 (f i : Nat))
end Go.Bg
namespace Go.Proofs.YtececkbcinmmpaaGreatDoor
open Go.RowKit Go.Bg Dg
theorem runAdd64 (x y c : Nat) (hc : c ≤ 1) (w : World) :
    (callFunc 272 #[.int .u64 x, .int .u64 y, .int .u64 c]).run Tryz.prog w =
      .ok (.value (.tuple #[.int .u64 (((x + y + c) % 18446744073709551616 : Nat) : Int), .int .u64 (((x + y + c) / 18446744073709551616 : Nat) : Int)])) w := by
  rw [run_callFunc_extern Tryz.func272 (by kernel_rfl) (by kernel_rfl) (by kernel_rfl) (e := add64Entry) (by kernel_rfl), run_add64 x y c (by omega) (by omega) (by omega) (by omega)]
  simp only [Result.andThen]
  congr 5 <;> omega
theorem runSub64 (x y b : Nat) (hb : b ≤ 1) (w : World) :
    (callFunc 274 #[.int .u64 x, .int .u64 y, .int .u64 b]).run Tryz.prog w =
      .ok (.value (.tuple #[.int .u64 (((x + 18446744073709551616 - y - b) % 18446744073709551616 : Nat) : Int), .int .u64 ((if x < y + b then 1 else 0 : Nat) : Int)])) w := by
  rw [run_callFunc_extern Tryz.func274 (by kernel_rfl) (by kernel_rfl) (by kernel_rfl) (e := sub64Entry) (by kernel_rfl), run_sub64 x y b hb]
  rfl
theorem bitsAdd_any (x y c : Nat) (hc : c ≤ 1) (w : World) :
    Calls Tryz.prog 234 #[.int .u64 x, .int .u64 y, .int .u64 c] w fun e w' => e = .returned (.tuple #[.int .u64 (((x + y + c) % 18446744073709551616 : Nat) : Int), .int .u64 (((x + y + c) / 18446744073709551616 : Nat) : Int)]) ∧ w = w' := by
  have ha := fun w => runAdd64 x y c hc w
  have hd1 : (x + y + c) % 18446744073709551616 < 18446744073709551616 := Nat.mod_lt _ (by decide)
  generalize (x + y + c) % 18446744073709551616 = s at *
  generalize (x + y + c) / 18446744073709551616 = d at *
  go_enter Tryz.func234, Tryz.ntmps234
  go_wp2
  exact bodyPost_ret (v := .tuple #[.int .u64 (s : Nat), .int .u64 (d : Nat)]) (by simp [results, Tryz.results234, go_sem]) rfl ⟨rfl, rfl⟩
theorem bitsSub_any (x y c : Nat) (hc : c ≤ 1) (w : World) :
    Calls Tryz.prog 236 #[.int .u64 x, .int .u64 y, .int .u64 c] w fun e w' => e = .returned (.tuple #[.int .u64 (((x + 18446744073709551616 - y - c) % 18446744073709551616 : Nat) : Int), .int .u64 ((if x < y + c then 1 else 0 : Nat) : Int)]) ∧ w = w' := by
  have ha := fun w => runSub64 x y c hc w
  have hd1 : (x + 18446744073709551616 - y - c) % 18446744073709551616 < 18446744073709551616 := Nat.mod_lt _ (by decide)
  generalize (x + 18446744073709551616 - y - c) % 18446744073709551616 = s at *
  have hd2 : (if x < y + c then 1 else 0 : Nat) ≤ 1 := by split <;> omega
  generalize (if x < y + c then 1 else 0 : Nat) = d at *
  go_enter Tryz.func236, Tryz.ntmps236
  go_wp2
  exact bodyPost_ret (v := .tuple #[.int .u64 (s : Nat), .int .u64 (d : Nat)]) (by simp [results, Tryz.results236, go_sem]) rfl ⟨rfl, rfl⟩
def VecIs (g o n : Nat) (cur : Array Value) (h : Nat → Nat) (c : Nat) (w : World) (e : Ending) (w' : World) : Prop :=
  e = .returned (.int .u64 (c : Nat)) ∧ RowUp 139 w w' g o n cur h
def bor (X Y k : Nat) : Nat := if X % W64 ^ k < Y % W64 ^ k then 1 else 0
theorem bor_le (X Y k : Nat) : bor X Y k ≤ 1 := by unfold bor; split <;> omega
theorem bor_zero (X Y : Nat) : bor X Y 0 = 0 := by simp [bor, Nat.mod_one]
theorem subw_step {X Y : Nat} (hXY : Y ≤ X) (k : Nat) :
    (dg W64 X k + 18446744073709551616 - dg W64 Y k - bor X Y k) % 18446744073709551616 = dg W64 (X - Y) k ∧
    (if dg W64 X k < dg W64 Y k + bor X Y k then 1 else 0 : Nat) = bor X Y (k + 1) := by
  have h := sub_step W64_pos X Y k hXY
  have hc := bor_le X Y k
  have hx := W64_lt (dg_lt W64_pos X k)
  have hy := W64_lt (dg_lt W64_pos Y k)
  have hd := W64_lt (dg_lt W64_pos (X - Y) k)
  have e : (if X % W64 ^ k < Y % W64 ^ k then (1 : Int) else 0) = (bor X Y k : Int) := by unfold bor; split <;> rfl
  have e2 : bor X Y (k + 1) = if X % W64 ^ (k + 1) < Y % W64 ^ (k + 1) then 1 else 0 := rfl
  rw [e] at h
  have hW : ((W64 : Nat) : Int) = 18446744073709551616 := rfl
  rw [hW] at h
  rw [e2]
  generalize bor X Y k = c at *
  generalize dg W64 (X - Y) k = d at *
  generalize dg W64 X k = x at *
  generalize dg W64 Y k = y at *
  by_cases hl : x < y + c
  · obtain ⟨h1, h2⟩ := h.1 (by omega)
    rw [if_pos hl, if_pos h2]
    exact ⟨by omega, rfl⟩
  · obtain ⟨h1, h2⟩ := h.2 (by omega)
    rw [if_neg hl, if_neg h2]
    exact ⟨by omega, rfl⟩
theorem addVVg_any (g o n c0 b1 o1 c1 b2 o2 c2 : Nat) (cur : Array Value) (X Y : Nat) (w : World) (hg : BlkAt w g cur 139) (hn : n ≤ 1000000) (hr : o + n ≤ cur.size) (h0 : n ≤ c0) (h0m : c0 ≤ maxLen)
    (h1 : WCells w b1 o1 n (dg W64 X)) (h1c : n ≤ c1) (h1m : c1 ≤ maxLen) (h2 : WCells w b2 o2 n (dg W64 Y)) (h2c : n ≤ c2) (h2m : c2 ≤ maxLen) (hn1 : b1 ≠ g ∨ o ≤ o1) (hn2 : b2 ≠ g ∨ o ≤ o2) :
    Calls Tryz.prog 233 #[.slice (some ⟨g, o, none⟩) n c0, .slice (some ⟨b1, o1, none⟩) n c1, .slice (some ⟨b2, o2, none⟩) n c2] w
      (VecIs g o n cur (dg W64 (X + Y)) ((X % W64 ^ n + Y % W64 ^ n) / W64 ^ n) w) := by
  unfold maxLen at h0m h1m h2m
  have HG := Lib.hid hg
  have H1 := Lib.hid h1
  have H2 := Lib.hid h2
  clear hg h1 h2
  go_enter Tryz.func233, Tryz.ntmps233
  go_wp2
  go_loopw [6, 7, 8, 9, 25] (fun c _ _ _ i wr => ∃ k : Nat, k ≤ n ∧ i = .int .i64 k ∧ c = .int .u64 (((X % W64 ^ k + Y % W64 ^ k) / W64 ^ k : Nat) : Int) ∧ RowUp 139 w wr g o k cur (dg W64 (X + Y)))
    (fun _ _ _ _ i _ => n - (intOf i).toNat)
  case atStart => exact ⟨0, Nat.zero_le _, rfl, by simp, RowUp.start HG.out _ _⟩
  case round =>
    obtain ⟨k, hk, rfl, rfl, hR⟩ := hrel
    by_cases k1 : k < n
    · have e1 := hR.read HG.out (H1.out k k1) hn1 (Nat.le_refl _)
      have e2 := hR.read HG.out (H2.out k k1) hn2 (Nat.le_refl _)
      have d1 : dg W64 X k < 18446744073709551616 := W64_lt (dg_lt W64_pos _ _)
      have d2 : dg W64 Y k < 18446744073709551616 := W64_lt (dg_lt W64_pos _ _)
      have hc := add_carry_le W64_pos X Y k
      have HS := Lib.hid (add_step W64_pos X Y k)
      have HR := Lib.hid hR
      have hlt := hR.room (j := o + k) (by omega)
      obtain ⟨⟨u0, p0⟩, f0⟩ := hlt
      clear hR
      generalize (X % W64 ^ k + Y % W64 ^ k) / W64 ^ k = c at *
      generalize dg W64 X k = x at *
      generalize dg W64 Y k = y at *
      have HE := Lib.hid (show (x + y + c) % 18446744073709551616 = dg W64 (X + Y) k from by rw [← HS.out.1]; show _ % W64 = _; congr 1; omega)
      have HF := Lib.hid (show (x + y + c) / 18446744073709551616 = (X % W64 ^ (k + 1) + Y % W64 ^ (k + 1)) / W64 ^ (k + 1) from by rw [← HS.out.2]; show _ / W64 = _; congr 1; omega)
      go_wp2
      go_quiet (first | (go_at_call 234; refine Calls.quiet_of_same ((bitsAdd_any x y c hc _).mono (fun _ _ h => ⟨h.1, h.2.symm⟩))))
      go_wp2
      have hq1 : ((x : Int) + y + c) % 18446744073709551616 = (((x + y + c) % 18446744073709551616 : Nat) : Int) := by omega
      have hq2 : ((x : Int) + y + c) / 18446744073709551616 = (((x + y + c) / 18446744073709551616 : Nat) : Int) := by omega
      rw [hq1, hq2]
      go_roundw
      case rel => exact ⟨k + 1, by omega, by go_num, by rw [HF.out], (HR.out.drewN _).step (by omega) HE.out⟩
      case measure => simp [intOf]; omega
    · obtain rfl : k = n := by omega
      go_wp2
      go_ret
      exact ⟨rfl, hR⟩
theorem addVV_any (g o n c0 b1 o1 c1 b2 o2 c2 : Nat) (cur : Array Value) (X Y : Nat) (w : World) (hg : BlkAt w g cur 139) (hn : n ≤ 1000000) (hr : o + n ≤ cur.size) (h0 : n ≤ c0) (h0m : c0 ≤ maxLen)
    (h1 : WCells w b1 o1 n (dg W64 X)) (h1c : n ≤ c1) (h1m : c1 ≤ maxLen) (h2 : WCells w b2 o2 n (dg W64 Y)) (h2c : n ≤ c2) (h2m : c2 ≤ maxLen) (hn1 : b1 ≠ g ∨ o ≤ o1) (hn2 : b2 ≠ g ∨ o ≤ o2) :
    Calls Tryz.prog 205 #[.slice (some ⟨g, o, none⟩) n c0, .slice (some ⟨b1, o1, none⟩) n c1, .slice (some ⟨b2, o2, none⟩) n c2] w
      (VecIs g o n cur (dg W64 (X + Y)) ((X % W64 ^ n + Y % W64 ^ n) / W64 ^ n) w) := by
  have HS := Lib.hid (addVVg_any g o n c0 b1 o1 c1 b2 o2 c2 cur X Y w hg hn hr h0 h0m h1 h1c h1m h2 h2c h2m hn1 hn2)
  clear hg h1 h2
  go_enter Tryz.func205, Tryz.ntmps205
  go_wp2_with fail
  refine HS.out.mono ?_
  rintro e w1 ⟨rfl, hR⟩
  have HR := Lib.hid hR
  clear hR
  go_wp2
  go_ret
  exact ⟨rfl, HR.out⟩
theorem subVVg_any (g o n c0 b1 o1 c1 b2 o2 c2 : Nat) (cur : Array Value) (X Y : Nat) (hXY : Y ≤ X) (w : World) (hg : BlkAt w g cur 139) (hn : n ≤ 1000000) (hr : o + n ≤ cur.size) (h0 : n ≤ c0) (h0m : c0 ≤ maxLen)
    (h1 : WCells w b1 o1 n (dg W64 X)) (h1c : n ≤ c1) (h1m : c1 ≤ maxLen) (h2 : WCells w b2 o2 n (dg W64 Y)) (h2c : n ≤ c2) (h2m : c2 ≤ maxLen) (hn1 : b1 ≠ g ∨ o ≤ o1) (hn2 : b2 ≠ g ∨ o ≤ o2) :
    Calls Tryz.prog 235 #[.slice (some ⟨g, o, none⟩) n c0, .slice (some ⟨b1, o1, none⟩) n c1, .slice (some ⟨b2, o2, none⟩) n c2] w
      (VecIs g o n cur (dg W64 (X - Y)) (bor X Y n) w) := by
  unfold maxLen at h0m h1m h2m
  have HG := Lib.hid hg
  have H1 := Lib.hid h1
  have H2 := Lib.hid h2
  clear hg h1 h2
  go_enter Tryz.func235, Tryz.ntmps235
  go_wp2
  go_loopw [6, 7, 8, 9, 25] (fun c _ _ _ i wr => ∃ k : Nat, k ≤ n ∧ i = .int .i64 k ∧ c = .int .u64 (bor X Y k : Int) ∧ RowUp 139 w wr g o k cur (dg W64 (X - Y)))
    (fun _ _ _ _ i _ => n - (intOf i).toNat)
  case atStart => exact ⟨0, Nat.zero_le _, rfl, by rw [bor_zero]; rfl, RowUp.start HG.out _ _⟩
  case round =>
    obtain ⟨k, hk, rfl, rfl, hR⟩ := hrel
    by_cases k1 : k < n
    · have e1 := hR.read HG.out (H1.out k k1) hn1 (Nat.le_refl _)
      have e2 := hR.read HG.out (H2.out k k1) hn2 (Nat.le_refl _)
      have d1 : dg W64 X k < 18446744073709551616 := W64_lt (dg_lt W64_pos _ _)
      have d2 : dg W64 Y k < 18446744073709551616 := W64_lt (dg_lt W64_pos _ _)
      have hc := bor_le X Y k
      have HS := Lib.hid (subw_step hXY k)
      have HR := Lib.hid hR
      have hlt := hR.room (j := o + k) (by omega)
      obtain ⟨⟨u0, p0⟩, f0⟩ := hlt
      clear hR
      generalize bor X Y k = c at *
      generalize dg W64 X k = x at *
      generalize dg W64 Y k = y at *
      have HE := Lib.hid (show (x + 18446744073709551616 - y - c) % 18446744073709551616 = dg W64 (X - Y) k from HS.out.1)
      have HF := Lib.hid (show (if x < y + c then 1 else 0 : Nat) = bor X Y (k + 1) from HS.out.2)
      have hd1 : (x + 18446744073709551616 - y - c) % 18446744073709551616 < 18446744073709551616 := Nat.mod_lt _ (by decide)
      have HC := Lib.hid (fun w => (bitsSub_any x y c hc w).mono (fun _ _ h => (⟨h.1, h.2.symm⟩ : _ ∧ _)))
      generalize (x + 18446744073709551616 - y - c) % 18446744073709551616 = s at *
      generalize (if x < y + c then 1 else 0 : Nat) = d at *
      go_wp2
      go_quiet (first | (go_at_call 236; refine Calls.quiet_of_same (HC.out _)))
      go_wp2
      go_roundw
      case rel => exact ⟨k + 1, by omega, by go_num, by rw [HF.out], (HR.out.drewN _).step (by omega) HE.out⟩
      case measure => simp [intOf]; omega
    · obtain rfl : k = n := by omega
      go_wp2
      go_ret
      exact ⟨rfl, hR⟩
theorem subVV_any (g o n c0 b1 o1 c1 b2 o2 c2 : Nat) (cur : Array Value) (X Y : Nat) (hXY : Y ≤ X) (w : World) (hg : BlkAt w g cur 139) (hn : n ≤ 1000000) (hr : o + n ≤ cur.size) (h0 : n ≤ c0) (h0m : c0 ≤ maxLen)
    (h1 : WCells w b1 o1 n (dg W64 X)) (h1c : n ≤ c1) (h1m : c1 ≤ maxLen) (h2 : WCells w b2 o2 n (dg W64 Y)) (h2c : n ≤ c2) (h2m : c2 ≤ maxLen) (hn1 : b1 ≠ g ∨ o ≤ o1) (hn2 : b2 ≠ g ∨ o ≤ o2) :
    Calls Tryz.prog 207 #[.slice (some ⟨g, o, none⟩) n c0, .slice (some ⟨b1, o1, none⟩) n c1, .slice (some ⟨b2, o2, none⟩) n c2] w
      (VecIs g o n cur (dg W64 (X - Y)) (bor X Y n) w) := by
  have HS := Lib.hid (subVVg_any g o n c0 b1 o1 c1 b2 o2 c2 cur X Y hXY w hg hn hr h0 h0m h1 h1c h1m h2 h2c h2m hn1 hn2)
  clear hg h1 h2
  go_enter Tryz.func207, Tryz.ntmps207
  go_wp2_with fail
  refine HS.out.mono ?_
  rintro e w1 ⟨rfl, hR⟩
  have HR := Lib.hid hR
  clear hR
  go_wp2
  go_ret
  exact ⟨rfl, HR.out⟩
end Go.Proofs.YtececkbcinmmpaaGreatDoor
namespace Dg
theorem amul_div {B : Nat} (hB : 0 < B) (X Y m a k : Nat) : (X + Y * m + a) / B ^ k = X / B ^ k + Y / B ^ k * m + (X % B ^ k + Y % B ^ k * m + a) / B ^ k := by
  have hp : 0 < B ^ k := Nat.pow_pos hB
  have hx := Nat.div_add_mod X (B ^ k)
  have hy : Y * m = B ^ k * (Y / B ^ k * m) + Y % B ^ k * m := by
    rw [← Nat.mul_assoc, ← Nat.add_mul, Nat.div_add_mod]
  have e : X + Y * m + a = X % B ^ k + Y % B ^ k * m + a + B ^ k * (X / B ^ k + Y / B ^ k * m) := by
    rw [Nat.mul_add]; omega
  rw [e, Nat.add_mul_div_left _ _ hp]
  omega
theorem amul_step {B : Nat} (hB : 0 < B) (X Y m a k : Nat) :
    dg B (X + Y * m + a) k = (dg B X k + dg B Y k * m + (X % B ^ k + Y % B ^ k * m + a) / B ^ k) % B ∧
    (X % B ^ (k + 1) + Y % B ^ (k + 1) * m + a) / B ^ (k + 1) = (dg B X k + dg B Y k * m + (X % B ^ k + Y % B ^ k * m + a) / B ^ k) / B := by
  have hp : 0 < B ^ k := Nat.pow_pos hB
  constructor
  · show (X + Y * m + a) / B ^ k % B = (X / B ^ k % B + Y / B ^ k % B * m + _) % B
    rw [amul_div hB]
    generalize (X % B ^ k + Y % B ^ k * m + a) / B ^ k = c
    generalize X / B ^ k = x
    generalize Y / B ^ k = y
    have hx := Nat.div_add_mod x B
    have hy : y * m = B * (y / B * m) + y % B * m := by rw [← Nat.mul_assoc, ← Nat.add_mul, Nat.div_add_mod]
    have e : x + y * m + c = x % B + y % B * m + c + B * (x / B + y / B * m) := by rw [Nat.mul_add]; omega
    rw [e, Nat.add_mul_mod_self_left]
  · rw [mod_succ, mod_succ, Nat.pow_succ, ← Nat.div_div_eq_div_mul]
    have hy : (Y % B ^ k + B ^ k * dg B Y k) * m = Y % B ^ k * m + B ^ k * (dg B Y k * m) := by rw [Nat.add_mul, Nat.mul_assoc]
    have e : X % B ^ k + B ^ k * dg B X k + (Y % B ^ k + B ^ k * dg B Y k) * m + a = X % B ^ k + Y % B ^ k * m + a + B ^ k * (dg B X k + dg B Y k * m) := by
      rw [hy, Nat.mul_add]; omega
    rw [e, Nat.add_mul_div_left _ _ hp, Nat.add_comm]
theorem amul_lt {B : Nat} {P x y m a : Nat} (hx : x < P) (hy : y < P) (hm : m < B) (ha : a < B) : x + y * m + a < P * B := by
  obtain ⟨p, rfl⟩ : ∃ p, P = p + 1 := ⟨P - 1, by omega⟩
  obtain ⟨b, rfl⟩ : ∃ b, B = b + 1 := ⟨B - 1, by omega⟩
  have h1 : y * m ≤ p * b := Nat.mul_le_mul (by omega) (by omega)
  have h2 : (p + 1) * (b + 1) = p * b + p + b + 1 := by rw [Nat.add_mul, Nat.mul_add]; omega
  omega
theorem amul_carry {B : Nat} (hB : 0 < B) (X Y k : Nat) {m a : Nat} (hm : m < B) (ha : a < B) : (X % B ^ k + Y % B ^ k * m + a) / B ^ k < B := by
  have hp : 0 < B ^ k := Nat.pow_pos hB
  rw [Nat.div_lt_iff_lt_mul hp, Nat.mul_comm B]
  exact amul_lt (Nat.mod_lt _ hp) (Nat.mod_lt _ hp) hm ha
end Dg
namespace Go.Proofs.YtececkbcinmmpaaGreatDoor
open Go.RowKit Go.Bg Dg
theorem mulAddWWW_any (x y c : Nat) (hx : x < 18446744073709551616) (hy : y < 18446744073709551616) (hc : c < 18446744073709551616) (w : World) :
    Calls Tryz.prog 307 #[.int .u64 x, .int .u64 y, .int .u64 c] w fun e w' => e = .returned (.tuple #[.int .u64 (((x * y + c) / 18446744073709551616 : Nat) : Int), .int .u64 (((x * y + c) % 18446744073709551616 : Nat) : Int)]) ∧ w = w' := by
  have HM := Lib.hid (Tryz.bits_Mul x y hx hy)
  have hb : x * y + c < 18446744073709551616 * 18446744073709551616 := by
    have := amul_lt (B := 18446744073709551616) (P := 18446744073709551616) (x := 0) (y := x) (m := y) (a := c) (by omega) hx hy hc
    omega
  generalize x * y = p at *
  have hq : p / 18446744073709551616 < 18446744073709551616 := by omega
  have hl : p % 18446744073709551616 < 18446744073709551616 := Nat.mod_lt _ (by decide)
  have HA := Lib.hid (fun w => bitsAdd_any (p % 18446744073709551616) c 0 (by omega) w)
  have HE := Lib.hid (show (((p / 18446744073709551616 : Nat) : Int) + (((p % 18446744073709551616 + c + 0) / 18446744073709551616 : Nat) : Int)) = (((p + c) / 18446744073709551616 : Nat) : Int) from by omega)
  have HF := Lib.hid (show (p % 18446744073709551616 + c + 0) % 18446744073709551616 = (p + c) % 18446744073709551616 from by omega)
  have hs : p / 18446744073709551616 + (p % 18446744073709551616 + c + 0) / 18446744073709551616 < 18446744073709551616 := by omega
  have hs2 : (p % 18446744073709551616 + c + 0) % 18446744073709551616 < 18446744073709551616 := Nat.mod_lt _ (by decide)
  generalize (p + c) / 18446744073709551616 = r1 at *
  generalize (p + c) % 18446744073709551616 = r0 at *
  generalize (p % 18446744073709551616 + c + 0) / 18446744073709551616 = d at *
  generalize (p % 18446744073709551616 + c + 0) % 18446744073709551616 = s at *
  generalize p / 18446744073709551616 = hi at *
  generalize p % 18446744073709551616 = lo at *
  clear hb
  go_enter Tryz.func307, Tryz.ntmps307
  go_wp2_with fail
  refine (HM.out _).mono ?_
  rintro e w1 ⟨rfl, rfl⟩
  go_wp2_with fail
  refine (HA.out _).mono ?_
  rintro e w2 ⟨rfl, rfl⟩
  go_wp2
  refine bodyPost_ret (v := .tuple #[.int .u64 ((hi : Int) + (d : Int)), .int .u64 (s : Nat)]) (by simp [results, Tryz.results307, go_sem]) rfl ⟨?_, rfl⟩
  rw [HE.out, HF.out]
theorem mulAddVWWg_any (g o n c0 b1 o1 c1 : Nat) (cur : Array Value) (X y r : Nat) (w : World) (hg : BlkAt w g cur 139) (hn : n ≤ 1000000) (hr : o + n ≤ cur.size) (h0 : n ≤ c0) (h0m : c0 ≤ maxLen)
    (h1 : WCells w b1 o1 n (dg W64 X)) (h1c : n ≤ c1) (h1m : c1 ≤ maxLen) (hn1 : b1 ≠ g ∨ o ≤ o1) (hy : y < W64) (hrr : r < W64) :
    Calls Tryz.prog 302 #[.slice (some ⟨g, o, none⟩) n c0, .slice (some ⟨b1, o1, none⟩) n c1, .int .u64 y, .int .u64 r] w
      (VecIs g o n cur (dg W64 (X * y + r)) ((X % W64 ^ n * y + r) / W64 ^ n) w) := by
  unfold maxLen at h0m h1m
  have hy' : y < 18446744073709551616 := W64_lt hy
  have HG := Lib.hid hg
  have H1 := Lib.hid h1
  have HY := Lib.hid hy
  have HRR := Lib.hid hrr
  clear hg h1 hy hrr
  go_enter Tryz.func302, Tryz.ntmps302
  go_wp2
  go_loopw [8, 9, 19] (fun c _ i wr => ∃ k : Nat, k ≤ n ∧ i = .int .i64 k ∧ c = .int .u64 (((X % W64 ^ k * y + r) / W64 ^ k : Nat) : Int) ∧ RowUp 139 w wr g o k cur (dg W64 (X * y + r)))
    (fun _ _ i _ => n - (intOf i).toNat)
  case atStart => exact ⟨0, Nat.zero_le _, rfl, by simp [Nat.mod_one], RowUp.start HG.out _ _⟩
  case round =>
    obtain ⟨k, hk, rfl, rfl, hR⟩ := hrel
    by_cases k1 : k < n
    · have e1 := hR.read HG.out (H1.out k k1) hn1 (Nat.le_refl _)
      have d1 : dg W64 X k < 18446744073709551616 := W64_lt (dg_lt W64_pos _ _)
      have hS := amul_step W64_pos 0 X y r k
      have hcl := amul_carry W64_pos 0 X k HY.out HRR.out
      have hz : dg W64 0 k = 0 := by simp [dg]
      rw [hz] at hS
      simp only [Nat.zero_mod, Nat.zero_add] at hS hcl
      have HS := Lib.hid hS
      have hcl' : (X % W64 ^ k * y + r) / W64 ^ k < 18446744073709551616 := hcl
      have HR := Lib.hid hR
      have hlt := hR.room (j := o + k) (by omega)
      obtain ⟨⟨u0, p0⟩, f0⟩ := hlt
      clear hR hS hcl hz
      generalize (X % W64 ^ k * y + r) / W64 ^ k = c at *
      generalize dg W64 X k = x at *
      have HE := Lib.hid (show (x * y + c) % 18446744073709551616 = dg W64 (X * y + r) k from HS.out.1.symm)
      have HF := Lib.hid (show (x * y + c) / 18446744073709551616 = (X % W64 ^ (k + 1) * y + r) / W64 ^ (k + 1) from HS.out.2.symm)
      have HM := Lib.hid (fun w => mulAddWWW_any x y c d1 hy' hcl' w)
      have hs1 : (x * y + c) % 18446744073709551616 < 18446744073709551616 := Nat.mod_lt _ (by decide)
      generalize (x * y + c) % 18446744073709551616 = s at *
      generalize (x * y + c) / 18446744073709551616 = d at *
      go_wp2_with fail
      refine (HM.out _).mono ?_
      rintro e w1 ⟨rfl, rfl⟩
      go_wp2
      go_roundw
      case rel => exact ⟨k + 1, by omega, by go_num, by rw [HF.out], HR.out.step (by omega) HE.out⟩
      case measure => simp [intOf]; omega
    · obtain rfl : k = n := by omega
      go_wp2
      go_ret
      exact ⟨rfl, hR⟩
theorem mulAddVWW_any (g o n c0 b1 o1 c1 : Nat) (cur : Array Value) (X y r : Nat) (w : World) (hg : BlkAt w g cur 139) (hn : n ≤ 1000000) (hr : o + n ≤ cur.size) (h0 : n ≤ c0) (h0m : c0 ≤ maxLen)
    (h1 : WCells w b1 o1 n (dg W64 X)) (h1c : n ≤ c1) (h1m : c1 ≤ maxLen) (hn1 : b1 ≠ g ∨ o ≤ o1) (hy : y < W64) (hrr : r < W64) :
    Calls Tryz.prog 275 #[.slice (some ⟨g, o, none⟩) n c0, .slice (some ⟨b1, o1, none⟩) n c1, .int .u64 y, .int .u64 r] w
      (VecIs g o n cur (dg W64 (X * y + r)) ((X % W64 ^ n * y + r) / W64 ^ n) w) := by
  have HS := Lib.hid (mulAddVWWg_any g o n c0 b1 o1 c1 cur X y r w hg hn hr h0 h0m h1 h1c h1m hn1 hy hrr)
  clear hg h1 hy hrr
  go_enter Tryz.func275, Tryz.ntmps275
  go_wp2_with fail
  refine HS.out.mono ?_
  rintro e w1 ⟨rfl, hR⟩
  have HR := Lib.hid hR
  clear hR
  go_wp2
  go_ret
  exact ⟨rfl, HR.out⟩
theorem addMulVVWWg_any (g o n c0 b1 o1 c1 b2 o2 c2 : Nat) (cur : Array Value) (X Y m a : Nat) (w : World) (hg : BlkAt w g cur 139) (hn : n ≤ 1000000) (hr : o + n ≤ cur.size) (h0 : n ≤ c0) (h0m : c0 ≤ maxLen)
    (h1 : WCells w b1 o1 n (dg W64 X)) (h1c : n ≤ c1) (h1m : c1 ≤ maxLen) (h2 : WCells w b2 o2 n (dg W64 Y)) (h2c : n ≤ c2) (h2m : c2 ≤ maxLen) (hn1 : b1 ≠ g ∨ o ≤ o1) (hn2 : b2 ≠ g ∨ o ≤ o2) (hm : m < W64) (ha : a < W64) :
    Calls Tryz.prog 291 #[.slice (some ⟨g, o, none⟩) n c0, .slice (some ⟨b1, o1, none⟩) n c1, .slice (some ⟨b2, o2, none⟩) n c2, .int .u64 m, .int .u64 a] w
      (VecIs g o n cur (dg W64 (X + Y * m + a)) ((X % W64 ^ n + Y % W64 ^ n * m + a) / W64 ^ n) w) := by
  unfold maxLen at h0m h1m h2m
  have hm' : m < 18446744073709551616 := W64_lt hm
  have HG := Lib.hid hg
  have H1 := Lib.hid h1
  have H2 := Lib.hid h2
  have HMM := Lib.hid hm
  have HA := Lib.hid ha
  clear hg h1 h2 hm ha
  go_enter Tryz.func291, Tryz.ntmps291
  go_wp2
  go_loopw [10, 11, 12, 13, 14, 15, 32] (fun c _ _ _ _ _ i wr => ∃ k : Nat, k ≤ n ∧ i = .int .i64 k ∧ c = .int .u64 (((X % W64 ^ k + Y % W64 ^ k * m + a) / W64 ^ k : Nat) : Int) ∧ RowUp 139 w wr g o k cur (dg W64 (X + Y * m + a)))
    (fun _ _ _ _ _ _ i _ => n - (intOf i).toNat)
  case atStart => exact ⟨0, Nat.zero_le _, rfl, by simp [Nat.mod_one], RowUp.start HG.out _ _⟩
  case round =>
    obtain ⟨k, hk, rfl, rfl, hR⟩ := hrel
    by_cases k1 : k < n
    · have e1 := hR.read HG.out (H1.out k k1) hn1 (Nat.le_refl _)
      have e2 := hR.read HG.out (H2.out k k1) hn2 (Nat.le_refl _)
      have d1 : dg W64 X k < 18446744073709551616 := W64_lt (dg_lt W64_pos _ _)
      have d2 : dg W64 Y k < 18446744073709551616 := W64_lt (dg_lt W64_pos _ _)
      have HS := Lib.hid (amul_step W64_pos X Y m a k)
      have hcl : (X % W64 ^ k + Y % W64 ^ k * m + a) / W64 ^ k < 18446744073709551616 := amul_carry W64_pos X Y k HMM.out HA.out
      have HR := Lib.hid hR
      have hlt := hR.room (j := o + k) (by omega)
      obtain ⟨⟨u0, p0⟩, f0⟩ := hlt
      clear hR
      generalize (X % W64 ^ k + Y % W64 ^ k * m + a) / W64 ^ k = c at *
      generalize dg W64 X k = x at *
      generalize dg W64 Y k = y at *
      have hbd : x + y * m + c < 18446744073709551616 * 18446744073709551616 := amul_lt d1 d2 hm' hcl
      have HM := Lib.hid (fun w => mulAddWWW_any y m x d2 hm' d1 w)
      have HE := Lib.hid (show (x + y * m + c) % 18446744073709551616 = dg W64 (X + Y * m + a) k from HS.out.1.symm)
      have HF := Lib.hid (show (x + y * m + c) / 18446744073709551616 = (X % W64 ^ (k + 1) + Y % W64 ^ (k + 1) * m + a) / W64 ^ (k + 1) from HS.out.2.symm)
      generalize y * m = p at *
      have hl : (p + x) % 18446744073709551616 < 18446744073709551616 := Nat.mod_lt _ (by decide)
      have HB := Lib.hid (fun w => bitsAdd_any ((p + x) % 18446744073709551616) c 0 (by omega) w)
      have hs0 : ((p + x) % 18446744073709551616 + c + 0) % 18446744073709551616 < 18446744073709551616 := Nat.mod_lt _ (by decide)
      have hs1 : ((p + x) % 18446744073709551616 + c + 0) / 18446744073709551616 + (p + x) / 18446744073709551616 < 18446744073709551616 := by omega
      have HE2 := Lib.hid (show ((p + x) % 18446744073709551616 + c + 0) % 18446744073709551616 = dg W64 (X + Y * m + a) k from by rw [← HE.out]; omega)
      have HF2 := Lib.hid (show ((p + x) % 18446744073709551616 + c + 0) / 18446744073709551616 + (p + x) / 18446744073709551616 = (X % W64 ^ (k + 1) + Y % W64 ^ (k + 1) * m + a) / W64 ^ (k + 1) from by rw [← HF.out]; omega)
      generalize ((p + x) % 18446744073709551616 + c + 0) % 18446744073709551616 = s at *
      generalize ((p + x) % 18446744073709551616 + c + 0) / 18446744073709551616 = d at *
      generalize (p + x) % 18446744073709551616 = lo at *
      generalize (p + x) / 18446744073709551616 = hi at *
      clear HE HF hbd
      go_wp2
      go_quiet (first | (go_at_call 307; refine Calls.quiet_of_same ((HM.out _).mono (fun _ _ h => ⟨h.1, h.2.symm⟩))))
      go_wp2_with fail
      refine (HB.out _).mono ?_
      rintro e w1 ⟨rfl, rfl⟩
      go_wp2
      have hcast : ((d : Int) + (hi : Int)) = ((d + hi : Nat) : Int) := by omega
      rw [hcast]
      go_roundw
      case rel => exact ⟨k + 1, by omega, by go_num, by rw [HF2.out], (HR.out.drewN _).step (by omega) HE2.out⟩
      case measure => simp [intOf]; omega
    · obtain rfl : k = n := by omega
      go_wp2
      go_ret
      exact ⟨rfl, hR⟩
theorem addMulVVWW_any (g o n c0 b1 o1 c1 b2 o2 c2 : Nat) (cur : Array Value) (X Y m a : Nat) (w : World) (hg : BlkAt w g cur 139) (hn : n ≤ 1000000) (hr : o + n ≤ cur.size) (h0 : n ≤ c0) (h0m : c0 ≤ maxLen)
    (h1 : WCells w b1 o1 n (dg W64 X)) (h1c : n ≤ c1) (h1m : c1 ≤ maxLen) (h2 : WCells w b2 o2 n (dg W64 Y)) (h2c : n ≤ c2) (h2m : c2 ≤ maxLen) (hn1 : b1 ≠ g ∨ o ≤ o1) (hn2 : b2 ≠ g ∨ o ≤ o2) (hm : m < W64) (ha : a < W64) :
    Calls Tryz.prog 256 #[.slice (some ⟨g, o, none⟩) n c0, .slice (some ⟨b1, o1, none⟩) n c1, .slice (some ⟨b2, o2, none⟩) n c2, .int .u64 m, .int .u64 a] w
      (VecIs g o n cur (dg W64 (X + Y * m + a)) ((X % W64 ^ n + Y % W64 ^ n * m + a) / W64 ^ n) w) := by
  have HS := Lib.hid (addMulVVWWg_any g o n c0 b1 o1 c1 b2 o2 c2 cur X Y m a w hg hn hr h0 h0m h1 h1c h1m h2 h2c h2m hn1 hn2 hm ha)
  clear hg h1 h2 hm ha
  go_enter Tryz.func256, Tryz.ntmps256
  go_wp2_with fail
  refine HS.out.mono ?_
  rintro e w1 ⟨rfl, hR⟩
  have HR := Lib.hid hR
  clear hR
  go_wp2
  go_ret
  exact ⟨rfl, HR.out⟩
end Go.Proofs.YtececkbcinmmpaaGreatDoor
