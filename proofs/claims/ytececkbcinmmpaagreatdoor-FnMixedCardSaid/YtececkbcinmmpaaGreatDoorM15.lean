/-
  Contracts and lemmas: MulB MulN ShP DivP BitP BitA ShA.
-/
import Derived.Lib.SliceRun
import Derived.Test.YtececkbcinmmpaaGreatDoorM14
import Derived.Test.YtececkbcinmmpaaGreatDoorM09
import Derived.Laws.BitsAllLaws
set_option linter.unusedSimpArgs false
set_option linter.unusedVariables false
set_option maxRecDepth 100000
set_option maxHeartbeats 8000000
namespace Go.Bg
open Go.RowKit Dg
theorem RowUp.wipe {T : TypeId} {w : World} {g o : Nat} {cur : Array Value} {h : Nat → Nat} (hz : ∀ i, h i = 0) : ∀ (n k : Nat) (w' : World), RowUp T w w' g o k cur h → o + k + n ≤ cur.size → RowUp T w (w'.setCells g (o + k) (List.replicate n (.int .u64 0))) g o (k + n) cur h := by
  intro n
  induction n with
  | zero => intro k w' r _; exact r
  | succ n ih =>
    intro k w' r hk
    have := ih (k + 1) _ (r.step (x := 0) (by omega) (hz k).symm) (by omega)
    rw [show k + (n + 1) = k + 1 + n from by omega]
    exact this
theorem RowUp.over {T : TypeId} {w wr w2 : World} {g o n i m : Nat} {cur cr : Array Value} {h h2 h' : Nat → Nat} (r : RowUp T w wr g o n cur h) (hb : BlkAt wr g cr T) (q : RowUp T wr w2 g (o + i) m cr h2) (him : i + m ≤ n)
    (hnew : ∀ j, j < m → h2 j = h' (i + j)) (hold : ∀ j, j < n → (j < i ∨ i + m ≤ j) → h j = h' j) : RowUp T w w2 g o n cur h' := by
  obtain ⟨c1, k1, k2, k3, k4⟩ := r.blk
  obtain rfl : c1 = cr := by
    unfold BlkAt at k1 hb
    rw [k1] at hb
    injection hb with hb
    injection hb
  obtain ⟨c2, l1, l2, l3, l4⟩ := q.blk
  refine ⟨r.upd.trans q.upd, c2, l1, by rw [l2, k2], fun j hj => ?_, fun j hj => ?_⟩
  · by_cases e : j < i ∨ i + m ≤ j
    · rw [l4 (o + j) (by omega), k3 j hj, hold j hj e]
    · have := l3 (j - i) (by omega)
      rw [show o + i + (j - i) = o + j from by omega] at this
      rw [this, hnew (j - i) (by omega), show i + (j - i) = j from by omega]
  · rw [l4 j (by omega), k4 j hj]
end Go.Bg
namespace Dg
theorem dg_zero_of_lt {B N k : Nat} (h : N < B ^ k) : dg B N k = 0 := by
  unfold dg; rw [Nat.div_eq_of_lt h, Nat.zero_mod]
theorem dg_zero_of_lt' {B N k n : Nat} (hB : 0 < B) (h : N < B ^ n) (hn : n ≤ k) : dg B N k = 0 :=
  dg_zero_of_lt (Nat.lt_of_lt_of_le h (Nat.pow_le_pow_right hB hn))
theorem mul_part {B N1 N2 n1 k : Nat} (hB : 0 < B) (h1 : N1 < B ^ n1) : N1 * (N2 % B ^ k) < B ^ (k + n1) ∨ N1 = 0 := by
  by_cases h0 : N1 = 0
  · exact .inr h0
  · have hm := Nat.mod_lt N2 (Nat.pow_pos (n := k) hB)
    rw [Nat.add_comm, Nat.pow_add]
    exact .inl (Nat.mul_lt_mul_of_lt_of_le h1 (Nat.le_of_lt hm) (Nat.pow_pos hB))
theorem mul_part_lt {B N1 N2 n1 k : Nat} (hB : 0 < B) (h1 : N1 < B ^ n1) : N1 * (N2 % B ^ k) < B ^ (k + n1) := by
  rcases mul_part (N2 := N2) (k := k) hB h1 with h | h
  · exact h
  · subst h; rw [Nat.zero_mul]; exact Nat.pow_pos hB
theorem mul_part_step {B N1 N2 k : Nat} : N1 * (N2 % B ^ (k + 1)) = N1 * (N2 % B ^ k) + B ^ k * (N1 * dg B N2 k) := by
  rw [mod_succ, Nat.mul_add]
  congr 1
  rw [← Nat.mul_assoc, Nat.mul_comm N1, Nat.mul_assoc]
theorem mul_round {B N1 N2 n1 n2 k : Nat} (hB : 1 < B) (h1 : N1 < B ^ n1) (hk : k < n2) (X : Nat) (hX : X = N1 * (N2 % B ^ k) / B ^ k) :
    (X % B ^ n1 + N1 % B ^ n1 * dg B N2 k) / B ^ n1 = dg B (X + N1 * dg B N2 k) n1 ∧
    (∀ j, j < n1 + 1 → dg B (X + N1 * dg B N2 k) j = dg B (N1 * (N2 % B ^ (k + 1))) (k + j)) ∧
    (∀ j, j < n1 + n2 → (j < k ∨ k + (n1 + 1) ≤ j) → dg B (N1 * (N2 % B ^ k)) j = dg B (N1 * (N2 % B ^ (k + 1))) j) := by
  have hB0 : 0 < B := by omega
  have hp : 0 < B ^ k := Nat.pow_pos hB0
  have hlt := mul_part_lt (N2 := N2) (k := k) hB0 h1
  have hlt' := mul_part_lt (N2 := N2) (k := k + 1) hB0 h1
  have hXl : X < B ^ n1 := by
    rw [hX]; exact Nat.div_lt_of_lt_mul (by rw [← Nat.pow_add]; exact hlt)
  have hd := dg_lt hB0 N2 k
  have hs := mul_part_step (B := B) (N1 := N1) (N2 := N2) (k := k)
  have hsum : X + N1 * dg B N2 k = N1 * (N2 % B ^ (k + 1)) / B ^ k := by
    rw [hs, Nat.add_mul_div_left _ _ hp, ← hX]
  refine ⟨?_, fun j hj => ?_, fun j hj hjj => ?_⟩
  · rw [Nat.mod_eq_of_lt hXl, Nat.mod_eq_of_lt h1]
    have hu : dg B (X + N1 * dg B N2 k) n1 = (X + N1 * dg B N2 k) / B ^ n1 % B := rfl
    rw [hu]
    refine (Nat.mod_eq_of_lt ?_).symm
    rw [Nat.div_lt_iff_lt_mul (Nat.pow_pos hB0), hsum, Nat.div_lt_iff_lt_mul hp, ← Nat.pow_succ', ← Nat.pow_add]
    refine Nat.lt_of_lt_of_le hlt' (Nat.le_of_eq ?_)
    congr 1; omega
  · rw [hsum, dg_div]
  · rcases hjj with hjj | hjj
    · rw [hs]
      unfold dg
      obtain ⟨e, rfl⟩ : ∃ e, k = j + 1 + e := ⟨k - j - 1, by omega⟩
      have : B ^ (j + 1 + e) * (N1 * (N2 / B ^ (j + 1 + e) % B)) = B ^ j * (B * (B ^ e * (N1 * (N2 / B ^ (j + 1 + e) % B)))) := by
        rw [Nat.pow_add, Nat.pow_succ]
        simp only [Nat.mul_assoc]
      rw [this, Nat.add_mul_div_left _ _ (Nat.pow_pos hB0), Nat.add_mul_mod_self_left]
    · rw [dg_zero_of_lt' hB0 hlt (by omega), dg_zero_of_lt' hB0 hlt' (by omega)]
end Dg
namespace Go.Proofs.YtececkbcinmmpaaGreatDoor
open Go.RowKit Go.Bg Dg
theorem zeroWord (w : World) : (zeroValue 139).run Tryz.prog w = .ok (.int .u64 0) w := by kernel_rfl
theorem addMulVVWW0_any (g o n c0 b1 o1 c1 b2 o2 c2 : Nat) (cur : Array Value) (X Y m : Nat) (w : World) (hg : BlkAt w g cur 139) (hn : n ≤ 1000000) (hr : o + n ≤ cur.size) (h0 : n ≤ c0) (h0m : c0 ≤ maxLen)
    (h1 : WCells w b1 o1 n (dg W64 X)) (h1c : n ≤ c1) (h1m : c1 ≤ maxLen) (h2 : WCells w b2 o2 n (dg W64 Y)) (h2c : n ≤ c2) (h2m : c2 ≤ maxLen) (hn1 : b1 ≠ g ∨ o ≤ o1) (hn2 : b2 ≠ g ∨ o ≤ o2) (hm : m < W64) :
    Calls Tryz.prog 256 #[.slice (some ⟨g, o, none⟩) n c0, .slice (some ⟨b1, o1, none⟩) n c1, .slice (some ⟨b2, o2, none⟩) n c2, .int .u64 m, .int .u64 0] w
      (VecIs g o n cur (dg W64 (X + Y * m)) ((X % W64 ^ n + Y % W64 ^ n * m) / W64 ^ n) w) :=
  addMulVVWW_any g o n c0 b1 o1 c1 b2 o2 c2 cur X Y m 0 w hg hn hr h0 h0m h1 h1c h1m h2 h2c h2m hn1 hn2 hm W64_pos
def MulRow (g n : Nat) (cur : Array Value) (N : Nat) (w : World) (e : Ending) (w' : World) : Prop :=
  e = .returned (.tuple #[]) ∧ RowUp 139 w w' g 0 n cur (dg W64 N)
theorem basicMul_any (g m c b1 o1 n1 c1 b2 o2 n2 c2 : Nat) (cur : Array Value) (N1 N2 : Nat) (w : World) (hg : BlkAt w g cur 139) (hs : cur.size = c) (hm : m ≤ c) (hmn : n1 + n2 ≤ m) (hcm : c ≤ maxLen) (hz1 : 0 < n1) (hz2 : 0 < n2) (hb1 : n1 ≤ 400000) (hb2 : n2 ≤ 400000)
    (h1 : WCells w b1 o1 n1 (dg W64 N1)) (h1c : n1 ≤ c1) (h1m : c1 ≤ maxLen) (h2 : WCells w b2 o2 n2 (dg W64 N2)) (h2c : n2 ≤ c2) (h2m : c2 ≤ maxLen) (hn1 : b1 ≠ g) (hn2 : b2 ≠ g) (l1 : N1 < W64 ^ n1) (l2 : N2 < W64 ^ n2) :
    Calls Tryz.prog 219 #[.slice (some ⟨g, 0, none⟩) m c, .slice (some ⟨b1, o1, none⟩) n1 c1, .slice (some ⟨b2, o2, none⟩) n2 c2] w (MulRow g (n1 + n2) cur (N1 * N2) w) := by
  unfold maxLen at hcm h1m h2m
  have hcl : ∀ ty, (Builtin.clear_ #[153] ty #[.slice (some ⟨g, 0, none⟩) (n1 + n2) c]).run Tryz.prog w = .ok (.tuple #[]) (w.setCells g 0 (List.replicate (n1 + n2) (.int .u64 0))) :=
    fun ty => Lib.run_clear_slice w _ _ ty (.int .u64 0) Tryz.underlying153 zeroWord rfl rfl g 0 (n1 + n2) c (by omega) (fun j hj => by rw [hg.cell, Array.getElem?_eq_getElem (by omega)]; rfl) (fun j hj => hg.frozen _)
  have HG := Lib.hid hg
  have H1 := Lib.hid h1
  have H2 := Lib.hid h2
  have L1 := Lib.hid l1
  have HS := Lib.hid hs
  have HN2 := Lib.hid (Nat.mod_eq_of_lt l2)
  have s1 : IntKind.i64.wrap ((n1 : Int) + n2) = (n1 : Int) + n2 := IntWalk.i64_in _ (by omega)
  have s2 : (0 : Int) ≤ (n1 : Int) + n2 := by omega
  have s3 : (n1 : Int) + n2 ≤ c := by omega
  have s4 : ((n1 : Int) + n2).toNat = n1 + n2 := by omega
  obtain ⟨W0, hW0⟩ : ∃ W0, W0 = w.setCells g 0 (List.replicate (n1 + n2) (.int .u64 0)) := ⟨_, rfl⟩
  have HR0 := Lib.hid (show RowUp 139 w W0 g 0 (n1 + n2) cur (dg W64 (N1 * (N2 % W64 ^ 0))) from by
    have := RowUp.wipe (T := 139) (w := w) (g := g) (o := 0) (cur := cur) (h := dg W64 (N1 * (N2 % W64 ^ 0))) (fun i => by simp [Nat.mod_one, dg]) (n1 + n2) 0 w (RowUp.start hg 0 _) (by omega)
    rw [hW0]; simpa using this)
  rw [← hW0] at hcl
  clear hg h1 h2 l1 l2 hW0 hs
  go_enter Tryz.func219, Tryz.ntmps219
  go_wp2_with (simp only [hcl])
  clear s1 s2 s3 s4 hcl
  go_loopw [6, 7, 17] (fun _ _ i wr => ∃ k : Nat, k ≤ n2 ∧ i = .int .i64 k ∧ RowUp 139 w wr g 0 (n1 + n2) cur (dg W64 (N1 * (N2 % W64 ^ k))))
    (fun _ _ i _ => n2 - (intOf i).toNat)
  case atStart => exact ⟨0, Nat.zero_le _, rfl, HR0.out⟩
  case round =>
    obtain ⟨k, hk, rfl, hR⟩ := hrel
    by_cases k1 : k < n2
    · have e2 : wr.cell? ⟨b2, o2 + k, none⟩ = some (.int .u64 (dg W64 N2 k : Nat)) := by
        have := H2.out k k1
        rw [hR.upd.cell (p := ⟨b2, o2 + k, none⟩) (block_lt this) hn2]; exact this
      have d2 : dg W64 N2 k < 18446744073709551616 := W64_lt (dg_lt W64_pos _ _)
      by_cases hd0 : dg W64 N2 k = 0
      · have HQ := Lib.hid (show RowUp 139 w wr g 0 (n1 + n2) cur (dg W64 (N1 * (N2 % W64 ^ (k + 1)))) from by
          rw [mul_part_step, hd0, Nat.mul_zero, Nat.mul_zero, Nat.add_zero]; exact hR)
        rw [hd0] at e2
        clear hR hd0
        go_wp2
        go_roundw
        case rel => exact ⟨k + 1, by omega, by go_num, HQ.out⟩
        case measure => simp [intOf]; omega
      · obtain ⟨X, hX⟩ : ∃ X, X = N1 * (N2 % W64 ^ k) / W64 ^ k := ⟨_, rfl⟩
        have HM := Lib.hid (mul_round (n2 := n2) W64_gt L1.out k1 X hX)
        have HR := Lib.hid hR
        obtain ⟨cr, hk1, hk2, hk3, hk4⟩ := hR.blk
        have HB := Lib.hid hk1
        have HZ := Lib.hid (show cr.size = c from by rw [hk2, HS.out])
        have HX := Lib.hid (show ∀ j, j < n1 → wr.cell? ⟨g, k + j, none⟩ = some (.int .u64 (dg W64 X j : Nat)) from fun j hj => by
          have := hk3 (k + j) (by omega)
          rw [Nat.zero_add] at this
          rw [hk1.cell, this, hX, dg_div])
        have HY := Lib.hid (show WCells wr b1 o1 n1 (dg W64 N1) from fun j hj => by
          have := H1.out j hj
          rw [hR.upd.cell (p := ⟨b1, o1 + j, none⟩) (block_lt this) hn1]; exact this)
        have hbn : ((dg W64 N2 k : Nat) : Int) != 0 := by simpa using hd0
        clear hR hk1 hk2 hk3 hk4 hX hd0
        have HD := Lib.hid (show dg W64 N2 k < W64 from d2)
        generalize dg W64 N2 k = d at *
        have s1 : IntKind.i64.wrap ((k : Int) + n1) = (k : Int) + n1 := IntWalk.i64_in _ (by omega)
        have s5 : IntKind.i64.wrap ((n1 : Int) + k) = (n1 : Int) + k := IntWalk.i64_in _ (by omega)
        have s2 : (0 : Int) ≤ (k : Int) + n1 := by omega
        have s3 : (k : Int) + n1 ≤ c := by omega
        have s4 : ((k : Int) + n1).toNat = k + n1 := by omega
        have s6 : ((n1 : Int) + k).toNat = n1 + k := by omega
        have s7 : (n1 : Int) + k < m := by omega
        have s8 : (k : Int) ≤ (k : Int) + n1 := by omega
        have s9 : (k : Int) ≤ c := by omega
        have s10 : k + n1 - k = n1 := by omega
        have hd0 : ∀ q, Below wr.heap.size wr (wr.drewN q) := fun q => below_drewN (Below.refl wr.heap.size wr) q
        go_upto_region 5 with fail
        go_region_with
          ((go_at_call 256; (with_reducible refine (addMulVVWW0_any g k n1 (c - k) g k (c - k) b1 o1 c1 cr X N1 d _ ?_ ?_ ?_ ?_ ?_ ?_ ?_ ?_ ?_ ?_ ?_ ?_ ?_ ?_).mono ?_); exact HB.out.keep (hd0 _); omega; (rw [HZ.out]; omega); omega; (unfold maxLen; omega); (intro j hj; exact cell_keep (HX.out j hj) (hd0 _)); omega; (unfold maxLen; omega); (intro j hj; exact cell_keep (HY.out j hj) (hd0 _)); omega; (unfold maxLen; omega); exact .inr (Nat.le_refl _); exact .inl hn1; exact HD.out; rintro e w2 ⟨rfl, hR2⟩; rw [HM.out.1]; have HR2 := Lib.hid hR2; have hroom := hR2.room (j := n1 + k) (by rw [HZ.out]; omega); obtain ⟨⟨u0, p0⟩, f0⟩ := hroom; clear hR2))
        all_goals
          go_wp2
          have HR3 := Lib.hid (HR2.out.step (x := dg W64 (X + N1 * d) n1) (by rw [HZ.out]; omega) rfl)
          have hRd : RowUp 139 w wr.drew g 0 (n1 + n2) cur (dg W64 (N1 * (N2 % W64 ^ k))) := HR.out.drewN 1
          have hBd : BlkAt wr.drew g cr 139 := HB.out.keep (hd0 1)
          have HF := Lib.hid (hRd.over (i := k) hBd (by simpa using HR3.out) (by omega) HM.out.2.1 HM.out.2.2)
          go_roundw
          case rel => exact ⟨k + 1, by omega, by go_num, by have := HF.out; simpa [Nat.add_comm] using this⟩
          case measure => simp [intOf]; omega
    · obtain rfl : k = n2 := by omega
      rw [HN2.out] at hR
      go_wp2
      go_end0
      exact ⟨rfl, hR⟩
def Thr (w : World) : Prop := w.cell? ⟨2, 0, none⟩ = some (.int .i64 40)
theorem Thr.keep {w w' : World} (h : Thr w) (hb : Below w.heap.size w w') : Thr w' := cell_keep h hb
theorem mulAddVWW0_any (g o n c0 b1 o1 c1 : Nat) (cur : Array Value) (X y : Nat) (w : World) (hg : BlkAt w g cur 139) (hn : n ≤ 1000000) (hr : o + n ≤ cur.size) (h0 : n ≤ c0) (h0m : c0 ≤ maxLen)
    (h1 : WCells w b1 o1 n (dg W64 X)) (h1c : n ≤ c1) (h1m : c1 ≤ maxLen) (hn1 : b1 ≠ g ∨ o ≤ o1) (hy : y < W64) :
    Calls Tryz.prog 275 #[.slice (some ⟨g, o, none⟩) n c0, .slice (some ⟨b1, o1, none⟩) n c1, .int .u64 y, .int .u64 0] w
      (VecIs g o n cur (dg W64 (X * y)) ((X % W64 ^ n * y) / W64 ^ n) w) :=
  mulAddVWW_any g o n c0 b1 o1 c1 cur X y 0 w hg hn hr h0 h0m h1 h1c h1m hn1 hy W64_pos
theorem alias_nil (a : Option Addr) (n c : Nat) (w : World) :
    Calls Tryz.prog 151 #[.slice none 0 0, .slice a n c] w fun e w' => e = .returned (.bool false) ∧ ∃ m, w' = w.drewN m := by
  go_enter Tryz.func151, Tryz.ntmps151
  go_wp2
  go_quiet (fail)
  go_wp2
  go_ret
  exact ⟨rfl, _, rfl⟩
end Go.Proofs.YtececkbcinmmpaaGreatDoor
namespace Go.Bg
open Go.RowKit Dg
theorem w64_split {s t : Nat} (h : s + t = 64) : W64 = 2 ^ s * 2 ^ t := by rw [← Nat.pow_add, h]; rfl
theorem div_right (a b c : Nat) : a / b / c = a / c / b := by rw [Nat.div_div_eq_div_mul, Nat.div_div_eq_div_mul, Nat.mul_comm]
theorem shl_mod {s t : Nat} (h : s + t = 64) (x : Nat) : x * 2 ^ s % W64 = (x % 2 ^ t) * 2 ^ s := by
  rw [w64_split h, Nat.mul_comm x, Nat.mul_mod_mul_left, Nat.mul_comm]
theorem or_add {s b : Nat} (hb : b < 2 ^ s) (a : Nat) : (a * 2 ^ s) ||| b = a * 2 ^ s + b := by
  rw [← Nat.shiftLeft_eq, Nat.shiftLeft_add_eq_or_of_lt hb]
theorem half {s t : Nat} (h : s + t = 64) (m : Nat) : (m / 2 ^ t) % W64 = (((m / W64 % W64) * 2 ^ s) % W64) ||| ((m % W64) / 2 ^ t) := by
  have hW := w64_split h
  have ht : 0 < 2 ^ t := Nat.pow_pos (by decide)
  have hs : 0 < 2 ^ s := Nat.pow_pos (by decide)
  have h1 : m / 2 ^ t = (m / W64) * 2 ^ s + (m % W64) / 2 ^ t := by
    have e : m = 2 ^ t * ((m / W64) * 2 ^ s) + m % W64 := by
      have := Nat.div_add_mod m W64
      have h2 : W64 * (m / W64) = 2 ^ t * ((m / W64) * 2 ^ s) := by
        generalize m / W64 = q
        rw [hW, Nat.mul_comm (2 ^ s), Nat.mul_assoc, Nat.mul_comm (2 ^ s)]
      omega
    conv => lhs; rw [e]
    exact Nat.mul_add_div ht _ _
  have h2 : (m % W64) / 2 ^ t < 2 ^ s := by
    refine Nat.div_lt_of_lt_mul ?_
    rw [Nat.mul_comm, ← hW]
    exact Nat.mod_lt _ W64_pos
  rw [shl_mod h, or_add h2, h1]
  have h3 : (m / W64) * 2 ^ s % W64 = (m / W64 % W64 % 2 ^ t) * 2 ^ s := by
    rw [← shl_mod h, Nat.mod_mul_mod]
  have h4 : m / W64 % W64 % 2 ^ t < 2 ^ t := Nat.mod_lt _ ht
  have h5 : (m / W64 % W64 % 2 ^ t) * 2 ^ s + (m % W64) / 2 ^ t < W64 := by
    have : (m / W64 % W64 % 2 ^ t + 1) * 2 ^ s ≤ 2 ^ t * 2 ^ s := Nat.mul_le_mul_right _ h4
    rw [Nat.add_mul, Nat.one_mul] at this
    have e : W64 = 2 ^ t * 2 ^ s := by rw [hW, Nat.mul_comm]
    omega
  have h6 : (m % W64) / 2 ^ t < W64 := by omega
  rw [Nat.add_mod, h3, Nat.mod_eq_of_lt h6, Nat.mod_eq_of_lt h5]
theorem dg_shr {s t : Nat} (h : s + t = 64) (X i : Nat) : dg W64 (X / 2 ^ t) i = ((dg W64 X (i + 1) * 2 ^ s) % W64) ||| (dg W64 X i / 2 ^ t) := by
  have := half h (X / W64 ^ i)
  unfold dg
  rw [div_right, this, Nat.div_div_eq_div_mul, ← Nat.pow_succ]
theorem dg_shr_top {t n : Nat} {X : Nat} (hX : X < W64 ^ (n + 1)) : dg W64 (X / 2 ^ t) n = dg W64 X n / 2 ^ t := by
  have hp : 0 < W64 ^ n := Nat.pow_pos W64_pos
  have h1 : X / W64 ^ n < W64 := (Nat.div_lt_iff_lt_mul hp).2 (by rw [Nat.mul_comm, ← Nat.pow_succ]; exact hX)
  have h2 : X / W64 ^ n / 2 ^ t < W64 := Nat.lt_of_le_of_lt (Nat.div_le_self _ _) h1
  unfold dg
  rw [div_right, Nat.mod_eq_of_lt h1, Nat.mod_eq_of_lt h2]
theorem dg_shl {s t : Nat} (h : s + t = 64) (X i : Nat) : dg W64 (X * 2 ^ s) (i + 1) = ((dg W64 X (i + 1) * 2 ^ s) % W64) ||| (dg W64 X i / 2 ^ t) := by
  rw [← dg_shr h]
  unfold dg
  congr 1
  have e : W64 ^ (i + 1) = 2 ^ s * (2 ^ t * W64 ^ i) := by
    rw [Nat.pow_succ, Nat.mul_comm, w64_split h, Nat.mul_assoc]
  rw [e, Nat.mul_comm X, Nat.mul_div_mul_left _ _ (Nat.pow_pos (by decide)), Nat.div_div_eq_div_mul]
theorem dg_shl0 {s t : Nat} (h : s + t = 64) (X : Nat) : dg W64 (X * 2 ^ s) 0 = (dg W64 X 0 * 2 ^ s) % W64 := by
  unfold dg
  rw [Nat.pow_zero, Nat.div_one, Nat.div_one, Nat.mod_mul_mod]
theorem RowUp.down {T : TypeId} {w w' : World} {g o k m : Nat} {cur : Array Value} {h : Nat → Nat} (r : RowUp T w w' g (o + (k + 1)) m cur (fun i => h (k + 1 + i))) (hk : o + k < cur.size) {x : Nat} (hx : x = h k) :
    RowUp T w (w'.setCell ⟨g, o + k, none⟩ (.int .u64 (x : Nat))) g (o + k) (m + 1) cur (fun i => h (k + i)) := by
  obtain ⟨cur', h1, h2, h3, h4⟩ := r.blk
  refine ⟨r.upd.setCell rfl _, _, h1.set (o + k) _, by simpa using h2, fun i hi => ?_, fun j hj => ?_⟩
  · rw [Array.getElem?_setIfInBounds]
    by_cases e : i = 0
    · subst e
      rw [if_pos (by omega), if_pos (by omega), hx]
      rfl
    · rw [if_neg (by omega)]
      have := h3 (i - 1) (by omega)
      rw [show o + (k + 1) + (i - 1) = o + k + i from by omega, show k + 1 + (i - 1) = k + i from by omega] at this
      exact this
  · rw [Array.getElem?_setIfInBounds, if_neg (by omega)]
    exact h4 j (by omega)
theorem RowUp.readOut {T : TypeId} {w w' : World} {g o k b p : Nat} {cur : Array Value} {h : Nat → Nat} (r : RowUp T w w' g o k cur h) (hg : BlkAt w g cur T) {v : Value} (hv : w.cell? ⟨b, p, none⟩ = some v) (hne : b ≠ g ∨ p < o ∨ o + k ≤ p) :
    w'.cell? ⟨b, p, none⟩ = some v := by
  by_cases e : b = g
  · subst e
    obtain ⟨cur', h1, h2, h3, h4⟩ := r.blk
    rw [h1.cell, h4 _ (by omega), ← hg.cell]; exact hv
  · rw [r.upd.cell (p := ⟨b, p, none⟩) (block_lt hv) e]; exact hv
structure Gs (y h l u v q r : Nat) : Prop where
  eq : q * h + r = u
  lo : (u * 4294967296 + v) / y ≤ q
  hi : q ≤ 4294967297
  lt : r < 4294967296
theorem Gs.start {y h l u v : Nat} (hy : y = h * 4294967296 + l) (hh : 2147483648 ≤ h) (hh2 : h < 4294967296) (hl : l < 4294967296) (hv : v < 4294967296) (hu : u < y) : Gs y h l u v (u / h) (u % h) := by
  have h0 : 0 < h := by omega
  refine ⟨by rw [Nat.mul_comm]; exact Nat.div_add_mod _ _, ?_, ?_, Nat.lt_trans (Nat.mod_lt _ h0) hh2⟩
  · have e1 : (u * 4294967296 + v) / (4294967296 * h) = u / h := by
      rw [← Nat.div_div_eq_div_mul]
      congr 1
      omega
    rw [← e1]
    exact Nat.div_le_div_left (by omega) (by omega)
  · have : u / h < 4294967298 := (Nat.div_lt_iff_lt_mul h0).2 (by omega)
    omega
theorem gs_top {y u v : Nat} (hv : v < 4294967296) (hu : u < y) : (u * 4294967296 + v) / y < 4294967296 :=
  (Nat.div_lt_iff_lt_mul (by omega)).2 (by omega)
theorem Gs.down {y h l u v q r : Nat} (g : Gs y h l u v q r) (hy : y = h * 4294967296 + l) (hv : v < 4294967296) (hu : u < y) (hg : 4294967296 ≤ q ∨ 4294967296 * r + v < q * l) :
    0 < q ∧ (u * 4294967296 + v) / y ≤ q - 1 := by
  have hlt := gs_top hv hu
  have hlo := g.lo
  have : (u * 4294967296 + v) / y < q := by
    rcases hg with h1 | h1
    · omega
    · refine (Nat.div_lt_iff_lt_mul (by omega)).2 ?_
      rw [hy, Nat.mul_add, ← Nat.mul_assoc]
      have := g.eq
      generalize q * h = a at *
      generalize q * l = b at *
      omega
  generalize (u * 4294967296 + v) / y = z at *
  omega
theorem Gs.next {y h l u v q r : Nat} (g : Gs y h l u v q r) (hy : y = h * 4294967296 + l) (hv : v < 4294967296) (hu : u < y) (hg : 4294967296 ≤ q ∨ 4294967296 * r + v < q * l) (hr : r + h < 4294967296) :
    Gs y h l u v (q - 1) (r + h) := by
  obtain ⟨h1, h2⟩ := g.down hy hv hu hg
  have := g.hi
  have e := g.eq
  refine ⟨?_, h2, by omega, hr⟩
  obtain ⟨p, rfl⟩ : ∃ p, q = p + 1 := ⟨q - 1, by omega⟩
  rw [Nat.add_mul, Nat.one_mul] at e
  rw [Nat.add_sub_cancel]
  omega
theorem Gs.broke {y h l u v q r : Nat} (g : Gs y h l u v q r) (hy : y = h * 4294967296 + l) (hl : l < 4294967296) (hv : v < 4294967296) (hu : u < y) (hg : 4294967296 ≤ q ∨ 4294967296 * r + v < q * l) (hr : 4294967296 ≤ r + h) :
    q - 1 = (u * 4294967296 + v) / y := by
  obtain ⟨h1, h2⟩ := g.down hy hv hu hg
  refine Nat.le_antisymm ((Nat.le_div_iff_mul_le (by omega)).2 ?_) h2
  have e := g.eq
  have hi := g.hi
  obtain ⟨p, rfl⟩ : ∃ p, q = p + 1 := ⟨q - 1, by omega⟩
  rw [Nat.add_sub_cancel, hy, Nat.mul_add, ← Nat.mul_assoc]
  rw [Nat.add_mul, Nat.one_mul] at e
  have hp : p * l ≤ 4294967296 * 4294967296 := Nat.mul_le_mul (by omega) (by omega)
  generalize p * h = a at *
  generalize p * l = b at *
  omega
theorem Gs.right {y h l u v q r : Nat} (g : Gs y h l u v q r) (hy : y = h * 4294967296 + l) (hh : 2147483648 ≤ h) (hg2 : ¬ 4294967296 * r + v < q * l) :
    q = (u * 4294967296 + v) / y := by
  refine Nat.le_antisymm ((Nat.le_div_iff_mul_le (by omega)).2 ?_) g.lo
  have e := g.eq
  rw [hy, Nat.mul_add, ← Nat.mul_assoc]
  generalize q * h = a at *
  generalize q * l = b at *
  omega
theorem halves {y a w : Nat} (h0 : 0 < y) : (a / y) * 4294967296 + ((a % y) * 4294967296 + w) / y = (a * 4294967296 + w) / y ∧ ((a % y) * 4294967296 + w) % y = (a * 4294967296 + w) % y := by
  have e : a * 4294967296 + w = y * (a / y * 4294967296) + (a % y * 4294967296 + w) := by
    have := Nat.div_add_mod a y
    have e2 : y * (a / y * 4294967296) = y * (a / y) * 4294967296 := (Nat.mul_assoc _ _ _).symm
    rw [e2]
    generalize y * (a / y) = z at *
    omega
  have h1 := Nat.mul_add_div h0 (a / y * 4294967296) (a % y * 4294967296 + w)
  have h2 := Nat.mul_add_mod y (a / y * 4294967296) (a % y * 4294967296 + w)
  rw [← e] at h1 h2
  exact ⟨h1.symm, h2.symm⟩
theorem div_norm {X y s t lo : Nat} (hst : s + t = 64) (h1 : X < y * W64) (h2 : X % W64 = lo) (hY : y * 2 ^ s < W64) :
    X / 2 ^ t % W64 < y * 2 ^ s ∧ (X / 2 ^ t % W64) * W64 + lo * 2 ^ s % W64 = X * 2 ^ s := by
  have e : X * 2 ^ s / W64 = X / 2 ^ t := by
    rw [w64_split hst, Nat.mul_comm X, Nat.mul_div_mul_left _ _ (Nat.pow_pos (by decide))]
  have hlt : X / 2 ^ t < y * 2 ^ s := by
    rw [← e, Nat.div_lt_iff_lt_mul W64_pos, Nat.mul_right_comm]
    exact Nat.mul_lt_mul_of_pos_right h1 (Nat.pow_pos (by decide))
  have e2 : lo * 2 ^ s % W64 = X * 2 ^ s % W64 := by rw [← h2, Nat.mod_mul_mod]
  rw [Nat.mod_eq_of_lt (Nat.lt_trans hlt hY), e2, ← e]
  refine ⟨by rw [e]; exact hlt, ?_⟩
  rw [Nat.mul_comm]
  exact Nat.div_add_mod _ _
theorem two_halves (u v z : Nat) : (u * 4294967296 + v) * 4294967296 + z = u * W64 + (v * 4294967296 + z) := by
  unfold W64; omega
theorem div_back {X y s u m v v' a b a2 bb Y : Nat} (hX : u * W64 + m = X * 2 ^ s) (hm : m = v * 4294967296 + v') (hY : Y = y * 2 ^ s) (h0 : 0 < Y)
    (ha : a = (u * 4294967296 + v) / Y) (hb : b = (u * 4294967296 + v) % Y) (ha2 : a2 = (b * 4294967296 + v') / Y) (hbb : bb = (b * 4294967296 + v') % Y) :
    a * 4294967296 + a2 = X / y ∧ bb / 2 ^ s = X % y := by
  obtain ⟨h1, h2⟩ := halves (y := Y) (a := u * 4294967296 + v) (w := v') h0
  have hp : 0 < 2 ^ s := Nat.pow_pos (by decide)
  rw [← ha, ← hb, ← ha2] at h1
  rw [← hb, ← hbb] at h2
  have e : (u * 4294967296 + v) * 4294967296 + v' = X * 2 ^ s := by
    rw [← hX, hm]; exact two_halves _ _ _
  rw [e, hY] at h1 h2
  rw [h1, h2, Nat.mul_div_mul_right _ _ hp, Nat.mul_mod_mul_right, Nat.mul_div_cancel _ hp]
  exact ⟨rfl, rfl⟩
end Go.Bg
namespace Go.Proofs.YtececkbcinmmpaaGreatDoor
open Go.RowKit Go.Bg Dg
theorem bits_and64 (a b : Nat) (ha : a < 18446744073709551616) (hb : b < 18446744073709551616) : bits .and .u64 (a : Int) (b : Int) = ((a &&& b : Nat) : Int) := by
  have hx : a &&& b < 18446744073709551616 := Nat.lt_of_le_of_lt Nat.and_le_left ha
  have h1 : (BitVec.ofInt 64 (a : Int)).toNat = a := by
    rw [BitVec.ofInt_natCast, BitVec.toNat_ofNat]; exact Nat.mod_eq_of_lt (by omega)
  have h2 : (BitVec.ofInt 64 (b : Int)).toNat = b := by
    rw [BitVec.ofInt_natCast, BitVec.toNat_ofNat]; exact Nat.mod_eq_of_lt (by omega)
  show IntKind.u64.wrap ((BitVec.ofInt 64 (a : Int) &&& BitVec.ofInt 64 (b : Int)).toNat : Int) = _
  rw [BitVec.toNat_and, h1, h2, IntKind.wrap_u64]
  omega
theorem bits_and63 (s : Nat) (hs : s < 64) : bits .and .u64 (s : Int) 63 = (s : Int) := by
  have h := bits_and64 s 63 (by omega) (by omega)
  have h2 : s &&& 63 = s := by
    have := Nat.and_two_pow_sub_one_eq_mod s 6
    simp at this
    rw [this]; omega
  rw [h2] at h
  exact h
theorem wrap_shl (x s : Nat) : IntKind.u64.wrap ((x : Int) * 2 ^ s) = ((x * 2 ^ s % W64 : Nat) : Int) := by
  rw [IntKind.wrap_u64]
  unfold W64
  simp
theorem bits_orS (x y s t : Nat) (hy : y < W64) : bits .or .u64 (IntKind.u64.wrap ((x : Int) * 2 ^ s)) ((y : Int) / 2 ^ t) = (((x * 2 ^ s % W64) ||| (y / 2 ^ t) : Nat) : Int) := by
  have h1 : x * 2 ^ s % W64 < W64 := Nat.mod_lt _ W64_pos
  have h2 : y / 2 ^ t < W64 := Nat.lt_of_le_of_lt (Nat.div_le_self _ _) hy
  have h3 : ((y : Int) / 2 ^ t) = ((y / 2 ^ t : Nat) : Int) := by simp
  rw [wrap_shl, h3]
  generalize x * 2 ^ s % W64 = a at *
  generalize y / 2 ^ t = b at *
  unfold W64 at h1 h2
  have hx : a ||| b < 2 ^ 64 := Nat.or_lt_two_pow (by omega) (by omega)
  have k1 : (BitVec.ofInt 64 (a : Int)).toNat = a := by
    rw [BitVec.ofInt_natCast, BitVec.toNat_ofNat]; exact Nat.mod_eq_of_lt (by omega)
  have k2 : (BitVec.ofInt 64 (b : Int)).toNat = b := by
    rw [BitVec.ofInt_natCast, BitVec.toNat_ofNat]; exact Nat.mod_eq_of_lt (by omega)
  show IntKind.u64.wrap ((BitVec.ofInt 64 (a : Int) ||| BitVec.ofInt 64 (b : Int)).toNat : Int) = _
  rw [BitVec.toNat_or, k1, k2, IntKind.wrap_u64]
  omega
theorem bits_orS' (x y s t : Nat) (hy : y < W64) : bits .or .u64 ((y : Int) / 2 ^ t) (IntKind.u64.wrap ((x : Int) * 2 ^ s)) = (((x * 2 ^ s % W64) ||| (y / 2 ^ t) : Nat) : Int) := by
  rw [← bits_orS x y s t hy]
  show IntKind.u64.wrap ((BitVec.ofInt 64 _ ||| BitVec.ofInt 64 _).toNat : Int) = IntKind.u64.wrap ((BitVec.ofInt 64 _ ||| BitVec.ofInt 64 _).toNat : Int)
  rw [BitVec.or_comm]
theorem lshVUg_any (g o n c0 b1 o1 c1 : Nat) (cur : Array Value) (X s t : Nat) (w : World) (hg : BlkAt w g cur 139) (hn : n ≤ 1000000) (hn0 : 0 < n) (hr : o + n ≤ cur.size) (h0 : n ≤ c0) (h0m : c0 ≤ maxLen)
    (h1 : WCells w b1 o1 n (dg W64 X)) (h1c : n ≤ c1) (h1m : c1 ≤ maxLen) (hn1 : b1 ≠ g ∨ o1 ≤ o) (hst : s + t = 64) (hs0 : 0 < s) (ht0 : 0 < t) :
    Calls Tryz.prog 259 #[.slice (some ⟨g, o, none⟩) n c0, .slice (some ⟨b1, o1, none⟩) n c1, .int .u64 s] w
      (VecIs g o n cur (dg W64 (X * 2 ^ s)) (dg W64 X (n - 1) / 2 ^ t) w) := by
  unfold maxLen at h0m h1m
  have hz : ((s : Int) == 0) = false := by simp; omega
  have hzn : ((n : Int) == 0) = false := by simp; omega
  have hand := bits_and63 s (by omega)
  have hand2 := bits_and63 t (by omega)
  have hsub : (64 : Int) - s = t := by omega
  have e0 : w.cell? ⟨b1, o1 + (n - 1), none⟩ = some (.int .u64 (dg W64 X (n - 1) : Nat)) := h1 (n - 1) (by omega)
  have d0 : dg W64 X (n - 1) < 18446744073709551616 := W64_lt (dg_lt W64_pos _ _)
  have HG := Lib.hid hg
  have H1 := Lib.hid h1
  clear hg h1
  generalize dg W64 X (n - 1) = top at *
  have htn : ((n : Int) - 1).toNat = n - 1 := by omega
  go_enter Tryz.func259, Tryz.ntmps259
  go_wp2
  go_loopw [8] (fun i wr => ∃ k m : Nat, k + 1 + m = n ∧ i = .int .i64 k ∧ RowUp 139 w wr g (o + (k + 1)) m cur (fun j => dg W64 (X * 2 ^ s) (k + 1 + j)))
    (fun i _ => (intOf i).toNat)
  case atStart => exact ⟨n - 1, 0, by omega, congrArg _ (by omega), RowUp.start HG.out _ _⟩
  case round =>
    obtain ⟨k, m, hkm, rfl, hR⟩ := hrel
    have a1 : k < n := by omega
    have e1 := hR.readOut HG.out (H1.out k a1) (by omega)
    have d1 : dg W64 X k < 18446744073709551616 := W64_lt (dg_lt W64_pos _ _)
    have hroom := hR.room (j := o + k) (by omega)
    obtain ⟨⟨u0, p0⟩, f0⟩ := hroom
    have HR := Lib.hid hR
    by_cases k0 : 0 < k
    · obtain ⟨q, rfl⟩ : ∃ q, k = q + 1 := ⟨k - 1, by omega⟩
      have e2 := hR.readOut HG.out (H1.out q (by omega)) (by omega)
      have d2 : dg W64 X q < 18446744073709551616 := W64_lt (dg_lt W64_pos _ _)
      have HE := Lib.hid (dg_shl hst X q)
      clear hR
      generalize dg W64 X (q + 1) = x at *
      generalize dg W64 X q = y at *
      have hbt := bits_orS x y s t (by unfold W64; exact d2)
      have hq1 : ((q + 1 : Nat) : Int) - 1 = q := by omega
      have kl1 : ((q + 1 : Nat) : Int) < n := by omega
      have kl2 : (q : Int) < n := by omega
      go_upto_region 13 with fail
      go_region
      all_goals
        go_wp2
        try rw [hbt]
        go_roundw
        case rel => exact ⟨q, m + 1, by omega, rfl, (HR.out.down (h := dg W64 (X * 2 ^ s)) (k := q + 1) (by omega) HE.out.symm).drewN 1⟩
        case measure => simp [intOf]
    · obtain rfl : k = 0 := by omega
      clear hR
      have HE := Lib.hid (dg_shl0 hst X)
      generalize dg W64 X 0 = x at *
      simp only [Nat.add_zero] at e1 p0 f0
      have HW := Lib.hid (wrap_shl x s)
      have HF := Lib.hid (HR.out.down (h := dg W64 (X * 2 ^ s)) (by omega) HE.out.symm)
      go_wp2
      rw [HW.out]
      go_ret
      refine ⟨ret_int (by simp), ?_⟩
      have h := HF.out
      rw [Nat.add_zero, show m + 1 = n from by omega] at h
      simpa using h
theorem lshVU_any (g o n c0 b1 o1 c1 : Nat) (cur : Array Value) (X s t : Nat) (w : World) (hg : BlkAt w g cur 139) (hn : n ≤ 1000000) (hn0 : 0 < n) (hr : o + n ≤ cur.size) (h0 : n ≤ c0) (h0m : c0 ≤ maxLen)
    (h1 : WCells w b1 o1 n (dg W64 X)) (h1c : n ≤ c1) (h1m : c1 ≤ maxLen) (hn1 : b1 ≠ g ∨ o1 ≤ o) (hst : s + t = 64) (hs0 : 0 < s) (ht0 : 0 < t) :
    Calls Tryz.prog 226 #[.slice (some ⟨g, o, none⟩) n c0, .slice (some ⟨b1, o1, none⟩) n c1, .int .u64 s] w
      (VecIs g o n cur (dg W64 (X * 2 ^ s)) (dg W64 X (n - 1) / 2 ^ t) w) := by
  have HS := Lib.hid (lshVUg_any g o n c0 b1 o1 c1 cur X s t w hg hn hn0 hr h0 h0m h1 h1c h1m hn1 hst hs0 ht0)
  clear hg h1
  go_enter Tryz.func226, Tryz.ntmps226
  go_wp2_with fail
  refine HS.out.mono ?_
  rintro e w1 ⟨rfl, hR⟩
  have HR := Lib.hid hR
  clear hR
  go_wp2
  go_ret
  exact ⟨rfl, HR.out⟩
theorem rshVUg_any (g o n c0 b1 o1 c1 : Nat) (cur : Array Value) (X s t : Nat) (w : World) (hg : BlkAt w g cur 139) (hn : n ≤ 1000000) (hn0 : 0 < n) (hr : o + n ≤ cur.size) (h0 : n ≤ c0) (h0m : c0 ≤ maxLen)
    (h1 : WCells w b1 o1 n (dg W64 X)) (h1c : n ≤ c1) (h1m : c1 ≤ maxLen) (hn1 : b1 ≠ g ∨ o ≤ o1) (hst : s + t = 64) (hs0 : 0 < s) (ht0 : 0 < t) (hX : X < W64 ^ n) :
    Calls Tryz.prog 288 #[.slice (some ⟨g, o, none⟩) n c0, .slice (some ⟨b1, o1, none⟩) n c1, .int .u64 t] w
      (VecIs g o n cur (dg W64 (X / 2 ^ t)) (dg W64 X 0 * 2 ^ s % W64) w) := by
  unfold maxLen at h0m h1m
  have hz : ((t : Int) == 0) = false := by simp; omega
  have hzn : ((n : Int) == 0) = false := by simp; omega
  have hand := bits_and63 s (by omega)
  have hand2 := bits_and63 t (by omega)
  have hsub : (64 : Int) - t = s := by omega
  have e0 : w.cell? ⟨b1, o1, none⟩ = some (.int .u64 (dg W64 X 0 : Nat)) := by have := h1 0 hn0; rwa [Nat.add_zero] at this
  have d0 : dg W64 X 0 < 18446744073709551616 := W64_lt (dg_lt W64_pos _ _)
  have HG := Lib.hid hg
  have H1 := Lib.hid h1
  have HX := Lib.hid hX
  clear hg h1 hX
  have HW0 := Lib.hid (wrap_shl (dg W64 X 0) s)
  generalize dg W64 X 0 = low at *
  go_enter Tryz.func288, Tryz.ntmps288
  go_wp2
  go_loopw [8] (fun i wr => ∃ k : Nat, k + 1 ≤ n ∧ i = .int .i64 (k + 1 : Nat) ∧ RowUp 139 w wr g o k cur (dg W64 (X / 2 ^ t)))
    (fun i _ => n - (intOf i).toNat)
  case atStart => exact ⟨0, by omega, rfl, RowUp.start HG.out _ _⟩
  case round =>
    obtain ⟨k, hkm, rfl, hR⟩ := hrel
    have e1 := hR.read HG.out (H1.out k (by omega)) hn1 (Nat.le_refl _)
    have d1 : dg W64 X k < 18446744073709551616 := W64_lt (dg_lt W64_pos _ _)
    have hroom := hR.room (j := o + k) (by omega)
    obtain ⟨⟨u0, p0⟩, f0⟩ := hroom
    have HR := Lib.hid hR
    have hk1 : ((k + 1 : Nat) : Int) - 1 = k := by omega
    by_cases k0 : k + 1 < n
    · have e2 := hR.read HG.out (H1.out (k + 1) k0) hn1 (Nat.le_succ _)
      have d2 : dg W64 X (k + 1) < 18446744073709551616 := W64_lt (dg_lt W64_pos _ _)
      have HE := Lib.hid (dg_shr hst X k)
      clear hR
      generalize dg W64 X (k + 1) = x at *
      generalize dg W64 X k = y at *
      have hbt := bits_orS' x y s t (by unfold W64; exact d1)
      have kl1 : ((k + 1 : Nat) : Int) < n := by omega
      have kl2 : (k : Int) < n := by omega
      go_upto_region 13 with fail
      go_region
      all_goals
        go_wp2
        try rw [hbt]
        go_roundw
        case rel => exact ⟨k + 1, by omega, by go_num, (HR.out.step (by omega) HE.out.symm).drewN 1⟩
        case measure => simp [intOf]; omega
    · obtain rfl : n = k + 1 := by omega
      clear hR
      have HE := Lib.hid (dg_shr_top (t := t) HX.out)
      generalize dg W64 X k = y at *
      have HF := Lib.hid (HR.out.step (x := y / 2 ^ t) (by omega) HE.out.symm)
      go_wp2
      rw [HW0.out]
      go_ret
      refine ⟨rfl, ?_⟩
      simpa using HF.out
theorem rshVU_any (g o n c0 b1 o1 c1 : Nat) (cur : Array Value) (X s t : Nat) (w : World) (hg : BlkAt w g cur 139) (hn : n ≤ 1000000) (hn0 : 0 < n) (hr : o + n ≤ cur.size) (h0 : n ≤ c0) (h0m : c0 ≤ maxLen)
    (h1 : WCells w b1 o1 n (dg W64 X)) (h1c : n ≤ c1) (h1m : c1 ≤ maxLen) (hn1 : b1 ≠ g ∨ o ≤ o1) (hst : s + t = 64) (hs0 : 0 < s) (ht0 : 0 < t) (hX : X < W64 ^ n) :
    Calls Tryz.prog 254 #[.slice (some ⟨g, o, none⟩) n c0, .slice (some ⟨b1, o1, none⟩) n c1, .int .u64 t] w
      (VecIs g o n cur (dg W64 (X / 2 ^ t)) (dg W64 X 0 * 2 ^ s % W64) w) := by
  have HS := Lib.hid (rshVUg_any g o n c0 b1 o1 c1 cur X s t w hg hn hn0 hr h0 h0m h1 h1c h1m hn1 hst hs0 ht0 hX)
  clear hg h1
  go_enter Tryz.func254, Tryz.ntmps254
  go_wp2_with fail
  refine HS.out.mono ?_
  rintro e w1 ⟨rfl, hR⟩
  have HR := Lib.hid hR
  clear hR
  go_wp2
  go_ret
  exact ⟨rfl, HR.out⟩
end Go.Proofs.YtececkbcinmmpaaGreatDoor
