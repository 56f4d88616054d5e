/-
  Contracts and lemmas: VecE MulB MulN.
-/
import Derived.Test.YtgmienggfaahlaaGreatDoorK04
import Derived.Test.YtgmienggfaahlaaGreatDoorK05
import Derived.Lib.SliceRun
set_option linter.unusedSimpArgs false
set_option linter.unusedVariables false
set_option maxRecDepth 100000
set_option maxHeartbeats 8000000
namespace Dg
theorem amul_div {B : Nat} (hB : 0 < B) (X Y m a k : Nat) : (X + Y * m + a) / B ^ k = X / B ^ k + Y / B ^ k * m + (X % B ^ k + Y % B ^ k * m + a) / B ^ k := by
  have hp : 0 < B ^ k := Nat.pow_pos hB
  have hx := Nat.div_add_mod X (B ^ k)
  have hy : Y * m = B ^ k * (Y / B ^ k * m) + Y % B ^ k * m := by
    rw [← Nat.mul_assoc, ← Nat.add_mul, Nat.div_add_mod]
  have e : X + Y * m + a = X % B ^ k + Y % B ^ k * m + a + B ^ k * (X / B ^ k + Y / B ^ k * m) := by
    rw [Nat.mul_add]; omega
  rw [e, Nat.add_mul_div_left _ _ hp]
  omega
theorem amul_step {B : Nat} (hB : 0 < B) (X Y m a k : Nat) :
    dg B (X + Y * m + a) k = (dg B X k + dg B Y k * m + (X % B ^ k + Y % B ^ k * m + a) / B ^ k) % B ∧
    (X % B ^ (k + 1) + Y % B ^ (k + 1) * m + a) / B ^ (k + 1) = (dg B X k + dg B Y k * m + (X % B ^ k + Y % B ^ k * m + a) / B ^ k) / B := by
  have hp : 0 < B ^ k := Nat.pow_pos hB
  constructor
  · show (X + Y * m + a) / B ^ k % B = (X / B ^ k % B + Y / B ^ k % B * m + _) % B
    rw [amul_div hB]
    generalize (X % B ^ k + Y % B ^ k * m + a) / B ^ k = c
    generalize X / B ^ k = x
    generalize Y / B ^ k = y
    have hx := Nat.div_add_mod x B
    have hy : y * m = B * (y / B * m) + y % B * m := by rw [← Nat.mul_assoc, ← Nat.add_mul, Nat.div_add_mod]
    have e : x + y * m + c = x % B + y % B * m + c + B * (x / B + y / B * m) := by rw [Nat.mul_add]; omega
    rw [e, Nat.add_mul_mod_self_left]
  · rw [mod_succ, mod_succ, Nat.pow_succ, ← Nat.div_div_eq_div_mul]
    have hy : (Y % B ^ k + B ^ k * dg B Y k) * m = Y % B ^ k * m + B ^ k * (dg B Y k * m) := by rw [Nat.add_mul, Nat.mul_assoc]
    have e : X % B ^ k + B ^ k * dg B X k + (Y % B ^ k + B ^ k * dg B Y k) * m + a = X % B ^ k + Y % B ^ k * m + a + B ^ k * (dg B X k + dg B Y k * m) := by
      rw [hy, Nat.mul_add]; omega
    rw [e, Nat.add_mul_div_left _ _ hp, Nat.add_comm]
theorem amul_lt {B : Nat} {P x y m a : Nat} (hx : x < P) (hy : y < P) (hm : m < B) (ha : a < B) : x + y * m + a < P * B := by
  obtain ⟨p, rfl⟩ : ∃ p, P = p + 1 := ⟨P - 1, by omega⟩
  obtain ⟨b, rfl⟩ : ∃ b, B = b + 1 := ⟨B - 1, by omega⟩
  have h1 : y * m ≤ p * b := Nat.mul_le_mul (by omega) (by omega)
  have h2 : (p + 1) * (b + 1) = p * b + p + b + 1 := by rw [Nat.add_mul, Nat.mul_add]; omega
  omega
theorem amul_carry {B : Nat} (hB : 0 < B) (X Y k : Nat) {m a : Nat} (hm : m < B) (ha : a < B) : (X % B ^ k + Y % B ^ k * m + a) / B ^ k < B := by
  have hp : 0 < B ^ k := Nat.pow_pos hB
  rw [Nat.div_lt_iff_lt_mul hp, Nat.mul_comm B]
  exact amul_lt (Nat.mod_lt _ hp) (Nat.mod_lt _ hp) hm ha
end Dg
namespace Go.Proofs.YtgmienggfaahlaaGreatDoor
open Go.RowKit Go.Bg Dg
theorem mulAddWWW_any (x y c : Nat) (hx : x < 18446744073709551616) (hy : y < 18446744073709551616) (hc : c < 18446744073709551616) (w : World) :
    Calls Tryz.prog 299 #[.int .u64 x, .int .u64 y, .int .u64 c] w fun e w' => e = .returned (.tuple #[.int .u64 (((x * y + c) / 18446744073709551616 : Nat) : Int), .int .u64 (((x * y + c) % 18446744073709551616 : Nat) : Int)]) ∧ w = w' := by
  have HM := Lib.hid (Tryz.bits_Mul x y hx hy)
  have hb : x * y + c < 18446744073709551616 * 18446744073709551616 := by
    have := amul_lt (B := 18446744073709551616) (P := 18446744073709551616) (x := 0) (y := x) (m := y) (a := c) (by omega) hx hy hc
    omega
  generalize x * y = p at *
  have hq : p / 18446744073709551616 < 18446744073709551616 := by omega
  have hl : p % 18446744073709551616 < 18446744073709551616 := Nat.mod_lt _ (by decide)
  have HA := Lib.hid (fun w => bitsAdd_any (p % 18446744073709551616) c 0 (by omega) w)
  have HE := Lib.hid (show (((p / 18446744073709551616 : Nat) : Int) + (((p % 18446744073709551616 + c + 0) / 18446744073709551616 : Nat) : Int)) = (((p + c) / 18446744073709551616 : Nat) : Int) from by omega)
  have HF := Lib.hid (show (p % 18446744073709551616 + c + 0) % 18446744073709551616 = (p + c) % 18446744073709551616 from by omega)
  have hs : p / 18446744073709551616 + (p % 18446744073709551616 + c + 0) / 18446744073709551616 < 18446744073709551616 := by omega
  have hs2 : (p % 18446744073709551616 + c + 0) % 18446744073709551616 < 18446744073709551616 := Nat.mod_lt _ (by decide)
  generalize (p + c) / 18446744073709551616 = r1 at *
  generalize (p + c) % 18446744073709551616 = r0 at *
  generalize (p % 18446744073709551616 + c + 0) / 18446744073709551616 = d at *
  generalize (p % 18446744073709551616 + c + 0) % 18446744073709551616 = s at *
  generalize p / 18446744073709551616 = hi at *
  generalize p % 18446744073709551616 = lo at *
  clear hb
  go_enter Tryz.func299, Tryz.ntmps299
  go_wp2_with fail
  refine (HM.out _).mono ?_
  rintro e w1 ⟨rfl, rfl⟩
  go_wp2_with fail
  refine (HA.out _).mono ?_
  rintro e w2 ⟨rfl, rfl⟩
  go_wp2
  refine bodyPost_ret (v := .tuple #[.int .u64 ((hi : Int) + (d : Int)), .int .u64 (s : Nat)]) (by simp [results, Tryz.results299, go_sem]) rfl ⟨?_, rfl⟩
  rw [HE.out, HF.out]
theorem mulAddVWWg_any (g o n c0 b1 o1 c1 : Nat) (cur : Array Value) (X y r : Nat) (w : World) (hg : BlkAt w g cur 155) (hn : n ≤ 1000000) (hr : o + n ≤ cur.size) (h0 : n ≤ c0) (h0m : c0 ≤ maxLen)
    (h1 : WCells w b1 o1 n (dg W64 X)) (h1c : n ≤ c1) (h1m : c1 ≤ maxLen) (hn1 : b1 ≠ g ∨ o ≤ o1) (hy : y < W64) (hrr : r < W64) :
    Calls Tryz.prog 296 #[.slice (some ⟨g, o, none⟩) n c0, .slice (some ⟨b1, o1, none⟩) n c1, .int .u64 y, .int .u64 r] w
      (VecIs g o n cur (dg W64 (X * y + r)) ((X % W64 ^ n * y + r) / W64 ^ n) w) := by
  unfold maxLen at h0m h1m
  have hy' : y < 18446744073709551616 := W64_lt hy
  have HG := Lib.hid hg
  have H1 := Lib.hid h1
  have HY := Lib.hid hy
  have HRR := Lib.hid hrr
  clear hg h1 hy hrr
  go_enter Tryz.func296, Tryz.ntmps296
  go_wp2
  go_loopw [8, 9, 19] (fun c _ i wr => ∃ k : Nat, k ≤ n ∧ i = .int .i64 k ∧ c = .int .u64 (((X % W64 ^ k * y + r) / W64 ^ k : Nat) : Int) ∧ RowUp 155 w wr g o k cur (dg W64 (X * y + r)))
    (fun _ _ i _ => n - (intOf i).toNat)
  case atStart => exact ⟨0, Nat.zero_le _, rfl, by simp [Nat.mod_one], RowUp.start HG.out _ _⟩
  case round =>
    obtain ⟨k, hk, rfl, rfl, hR⟩ := hrel
    by_cases k1 : k < n
    · have e1 := hR.read HG.out (H1.out k k1) hn1 (Nat.le_refl _)
      have d1 : dg W64 X k < 18446744073709551616 := W64_lt (dg_lt W64_pos _ _)
      have hS := amul_step W64_pos 0 X y r k
      have hcl := amul_carry W64_pos 0 X k HY.out HRR.out
      have hz : dg W64 0 k = 0 := by simp [dg]
      rw [hz] at hS
      simp only [Nat.zero_mod, Nat.zero_add] at hS hcl
      have HS := Lib.hid hS
      have hcl' : (X % W64 ^ k * y + r) / W64 ^ k < 18446744073709551616 := hcl
      have HR := Lib.hid hR
      have hlt := hR.room (j := o + k) (by omega)
      obtain ⟨⟨u0, p0⟩, f0⟩ := hlt
      clear hR hS hcl hz
      generalize (X % W64 ^ k * y + r) / W64 ^ k = c at *
      generalize dg W64 X k = x at *
      have HE := Lib.hid (show (x * y + c) % 18446744073709551616 = dg W64 (X * y + r) k from HS.out.1.symm)
      have HF := Lib.hid (show (x * y + c) / 18446744073709551616 = (X % W64 ^ (k + 1) * y + r) / W64 ^ (k + 1) from HS.out.2.symm)
      have HM := Lib.hid (fun w => mulAddWWW_any x y c d1 hy' hcl' w)
      have hs1 : (x * y + c) % 18446744073709551616 < 18446744073709551616 := Nat.mod_lt _ (by decide)
      generalize (x * y + c) % 18446744073709551616 = s at *
      generalize (x * y + c) / 18446744073709551616 = d at *
      go_wp2_with fail
      refine (HM.out _).mono ?_
      rintro e w1 ⟨rfl, rfl⟩
      go_wp2
      go_roundw
      case rel => exact ⟨k + 1, by omega, by go_num, by rw [HF.out], HR.out.step (by omega) HE.out⟩
      case measure => simp [intOf]; omega
    · obtain rfl : k = n := by omega
      go_wp2
      go_ret
      exact ⟨rfl, hR⟩
theorem mulAddVWW_any (g o n c0 b1 o1 c1 : Nat) (cur : Array Value) (X y r : Nat) (w : World) (hg : BlkAt w g cur 155) (hn : n ≤ 1000000) (hr : o + n ≤ cur.size) (h0 : n ≤ c0) (h0m : c0 ≤ maxLen)
    (h1 : WCells w b1 o1 n (dg W64 X)) (h1c : n ≤ c1) (h1m : c1 ≤ maxLen) (hn1 : b1 ≠ g ∨ o ≤ o1) (hy : y < W64) (hrr : r < W64) :
    Calls Tryz.prog 267 #[.slice (some ⟨g, o, none⟩) n c0, .slice (some ⟨b1, o1, none⟩) n c1, .int .u64 y, .int .u64 r] w
      (VecIs g o n cur (dg W64 (X * y + r)) ((X % W64 ^ n * y + r) / W64 ^ n) w) := by
  have HS := Lib.hid (mulAddVWWg_any g o n c0 b1 o1 c1 cur X y r w hg hn hr h0 h0m h1 h1c h1m hn1 hy hrr)
  clear hg h1 hy hrr
  go_enter Tryz.func267, Tryz.ntmps267
  go_wp2_with fail
  refine HS.out.mono ?_
  rintro e w1 ⟨rfl, hR⟩
  have HR := Lib.hid hR
  clear hR
  go_wp2
  go_ret
  exact ⟨rfl, HR.out⟩
theorem addMulVVWWg_any (g o n c0 b1 o1 c1 b2 o2 c2 : Nat) (cur : Array Value) (X Y m a : Nat) (w : World) (hg : BlkAt w g cur 155) (hn : n ≤ 1000000) (hr : o + n ≤ cur.size) (h0 : n ≤ c0) (h0m : c0 ≤ maxLen)
    (h1 : WCells w b1 o1 n (dg W64 X)) (h1c : n ≤ c1) (h1m : c1 ≤ maxLen) (h2 : WCells w b2 o2 n (dg W64 Y)) (h2c : n ≤ c2) (h2m : c2 ≤ maxLen) (hn1 : b1 ≠ g ∨ o ≤ o1) (hn2 : b2 ≠ g ∨ o ≤ o2) (hm : m < W64) (ha : a < W64) :
    Calls Tryz.prog 281 #[.slice (some ⟨g, o, none⟩) n c0, .slice (some ⟨b1, o1, none⟩) n c1, .slice (some ⟨b2, o2, none⟩) n c2, .int .u64 m, .int .u64 a] w
      (VecIs g o n cur (dg W64 (X + Y * m + a)) ((X % W64 ^ n + Y % W64 ^ n * m + a) / W64 ^ n) w) := by
  unfold maxLen at h0m h1m h2m
  have hm' : m < 18446744073709551616 := W64_lt hm
  have HG := Lib.hid hg
  have H1 := Lib.hid h1
  have H2 := Lib.hid h2
  have HMM := Lib.hid hm
  have HA := Lib.hid ha
  clear hg h1 h2 hm ha
  go_enter Tryz.func281, Tryz.ntmps281
  go_wp2
  go_loopw [10, 11, 12, 13, 14, 15, 32] (fun c _ _ _ _ _ i wr => ∃ k : Nat, k ≤ n ∧ i = .int .i64 k ∧ c = .int .u64 (((X % W64 ^ k + Y % W64 ^ k * m + a) / W64 ^ k : Nat) : Int) ∧ RowUp 155 w wr g o k cur (dg W64 (X + Y * m + a)))
    (fun _ _ _ _ _ _ i _ => n - (intOf i).toNat)
  case atStart => exact ⟨0, Nat.zero_le _, rfl, by simp [Nat.mod_one], RowUp.start HG.out _ _⟩
  case round =>
    obtain ⟨k, hk, rfl, rfl, hR⟩ := hrel
    by_cases k1 : k < n
    · have e1 := hR.read HG.out (H1.out k k1) hn1 (Nat.le_refl _)
      have e2 := hR.read HG.out (H2.out k k1) hn2 (Nat.le_refl _)
      have d1 : dg W64 X k < 18446744073709551616 := W64_lt (dg_lt W64_pos _ _)
      have d2 : dg W64 Y k < 18446744073709551616 := W64_lt (dg_lt W64_pos _ _)
      have HS := Lib.hid (amul_step W64_pos X Y m a k)
      have hcl : (X % W64 ^ k + Y % W64 ^ k * m + a) / W64 ^ k < 18446744073709551616 := amul_carry W64_pos X Y k HMM.out HA.out
      have HR := Lib.hid hR
      have hlt := hR.room (j := o + k) (by omega)
      obtain ⟨⟨u0, p0⟩, f0⟩ := hlt
      clear hR
      generalize (X % W64 ^ k + Y % W64 ^ k * m + a) / W64 ^ k = c at *
      generalize dg W64 X k = x at *
      generalize dg W64 Y k = y at *
      have hbd : x + y * m + c < 18446744073709551616 * 18446744073709551616 := amul_lt d1 d2 hm' hcl
      have HM := Lib.hid (fun w => mulAddWWW_any y m x d2 hm' d1 w)
      have HE := Lib.hid (show (x + y * m + c) % 18446744073709551616 = dg W64 (X + Y * m + a) k from HS.out.1.symm)
      have HF := Lib.hid (show (x + y * m + c) / 18446744073709551616 = (X % W64 ^ (k + 1) + Y % W64 ^ (k + 1) * m + a) / W64 ^ (k + 1) from HS.out.2.symm)
      generalize y * m = p at *
      have hl : (p + x) % 18446744073709551616 < 18446744073709551616 := Nat.mod_lt _ (by decide)
      have HB := Lib.hid (fun w => bitsAdd_any ((p + x) % 18446744073709551616) c 0 (by omega) w)
      have hs0 : ((p + x) % 18446744073709551616 + c + 0) % 18446744073709551616 < 18446744073709551616 := Nat.mod_lt _ (by decide)
      have hs1 : ((p + x) % 18446744073709551616 + c + 0) / 18446744073709551616 + (p + x) / 18446744073709551616 < 18446744073709551616 := by omega
      have HE2 := Lib.hid (show ((p + x) % 18446744073709551616 + c + 0) % 18446744073709551616 = dg W64 (X + Y * m + a) k from by rw [← HE.out]; omega)
      have HF2 := Lib.hid (show ((p + x) % 18446744073709551616 + c + 0) / 18446744073709551616 + (p + x) / 18446744073709551616 = (X % W64 ^ (k + 1) + Y % W64 ^ (k + 1) * m + a) / W64 ^ (k + 1) from by rw [← HF.out]; omega)
      generalize ((p + x) % 18446744073709551616 + c + 0) % 18446744073709551616 = s at *
      generalize ((p + x) % 18446744073709551616 + c + 0) / 18446744073709551616 = d at *
      generalize (p + x) % 18446744073709551616 = lo at *
      generalize (p + x) / 18446744073709551616 = hi at *
      clear HE HF hbd
      go_wp2
      go_quiet (first | (go_at_call 299; refine Calls.quiet_of_same ((HM.out _).mono (fun _ _ h => ⟨h.1, h.2.symm⟩))))
      go_wp2_with fail
      refine (HB.out _).mono ?_
      rintro e w1 ⟨rfl, rfl⟩
      go_wp2
      have hcast : ((d : Int) + (hi : Int)) = ((d + hi : Nat) : Int) := by omega
      rw [hcast]
      go_roundw
      case rel => exact ⟨k + 1, by omega, by go_num, by rw [HF2.out], (HR.out.drewN _).step (by omega) HE2.out⟩
      case measure => simp [intOf]; omega
    · obtain rfl : k = n := by omega
      go_wp2
      go_ret
      exact ⟨rfl, hR⟩
theorem addMulVVWW_any (g o n c0 b1 o1 c1 b2 o2 c2 : Nat) (cur : Array Value) (X Y m a : Nat) (w : World) (hg : BlkAt w g cur 155) (hn : n ≤ 1000000) (hr : o + n ≤ cur.size) (h0 : n ≤ c0) (h0m : c0 ≤ maxLen)
    (h1 : WCells w b1 o1 n (dg W64 X)) (h1c : n ≤ c1) (h1m : c1 ≤ maxLen) (h2 : WCells w b2 o2 n (dg W64 Y)) (h2c : n ≤ c2) (h2m : c2 ≤ maxLen) (hn1 : b1 ≠ g ∨ o ≤ o1) (hn2 : b2 ≠ g ∨ o ≤ o2) (hm : m < W64) (ha : a < W64) :
    Calls Tryz.prog 247 #[.slice (some ⟨g, o, none⟩) n c0, .slice (some ⟨b1, o1, none⟩) n c1, .slice (some ⟨b2, o2, none⟩) n c2, .int .u64 m, .int .u64 a] w
      (VecIs g o n cur (dg W64 (X + Y * m + a)) ((X % W64 ^ n + Y % W64 ^ n * m + a) / W64 ^ n) w) := by
  have HS := Lib.hid (addMulVVWWg_any g o n c0 b1 o1 c1 b2 o2 c2 cur X Y m a w hg hn hr h0 h0m h1 h1c h1m h2 h2c h2m hn1 hn2 hm ha)
  clear hg h1 h2 hm ha
  go_enter Tryz.func247, Tryz.ntmps247
  go_wp2_with fail
  refine HS.out.mono ?_
  rintro e w1 ⟨rfl, hR⟩
  have HR := Lib.hid hR
  clear hR
  go_wp2
  go_ret
  exact ⟨rfl, HR.out⟩
end Go.Proofs.YtgmienggfaahlaaGreatDoor
namespace Go.Bg
open Go.RowKit Dg
theorem RowUp.wipe {T : TypeId} {w : World} {g o : Nat} {cur : Array Value} {h : Nat → Nat} (hz : ∀ i, h i = 0) : ∀ (n k : Nat) (w' : World), RowUp T w w' g o k cur h → o + k + n ≤ cur.size → RowUp T w (w'.setCells g (o + k) (List.replicate n (.int .u64 0))) g o (k + n) cur h := by
  intro n
  induction n with
  | zero => intro k w' r _; exact r
  | succ n ih =>
    intro k w' r hk
    have := ih (k + 1) _ (r.step (x := 0) (by omega) (hz k).symm) (by omega)
    rw [show k + (n + 1) = k + 1 + n from by omega]
    exact this
theorem RowUp.over {T : TypeId} {w wr w2 : World} {g o n i m : Nat} {cur cr : Array Value} {h h2 h' : Nat → Nat} (r : RowUp T w wr g o n cur h) (hb : BlkAt wr g cr T) (q : RowUp T wr w2 g (o + i) m cr h2) (him : i + m ≤ n)
    (hnew : ∀ j, j < m → h2 j = h' (i + j)) (hold : ∀ j, j < n → (j < i ∨ i + m ≤ j) → h j = h' j) : RowUp T w w2 g o n cur h' := by
  obtain ⟨c1, k1, k2, k3, k4⟩ := r.blk
  obtain rfl : c1 = cr := by
    unfold BlkAt at k1 hb
    rw [k1] at hb
    injection hb with hb
    injection hb
  obtain ⟨c2, l1, l2, l3, l4⟩ := q.blk
  refine ⟨r.upd.trans q.upd, c2, l1, by rw [l2, k2], fun j hj => ?_, fun j hj => ?_⟩
  · by_cases e : j < i ∨ i + m ≤ j
    · rw [l4 (o + j) (by omega), k3 j hj, hold j hj e]
    · have := l3 (j - i) (by omega)
      rw [show o + i + (j - i) = o + j from by omega] at this
      rw [this, hnew (j - i) (by omega), show i + (j - i) = j from by omega]
  · rw [l4 j (by omega), k4 j hj]
end Go.Bg
namespace Dg
theorem dg_zero_of_lt {B N k : Nat} (h : N < B ^ k) : dg B N k = 0 := by
  unfold dg; rw [Nat.div_eq_of_lt h, Nat.zero_mod]
theorem dg_zero_of_lt' {B N k n : Nat} (hB : 0 < B) (h : N < B ^ n) (hn : n ≤ k) : dg B N k = 0 :=
  dg_zero_of_lt (Nat.lt_of_lt_of_le h (Nat.pow_le_pow_right hB hn))
theorem mul_part {B N1 N2 n1 k : Nat} (hB : 0 < B) (h1 : N1 < B ^ n1) : N1 * (N2 % B ^ k) < B ^ (k + n1) ∨ N1 = 0 := by
  by_cases h0 : N1 = 0
  · exact .inr h0
  · have hm := Nat.mod_lt N2 (Nat.pow_pos (n := k) hB)
    rw [Nat.add_comm, Nat.pow_add]
    exact .inl (Nat.mul_lt_mul_of_lt_of_le h1 (Nat.le_of_lt hm) (Nat.pow_pos hB))
theorem mul_part_lt {B N1 N2 n1 k : Nat} (hB : 0 < B) (h1 : N1 < B ^ n1) : N1 * (N2 % B ^ k) < B ^ (k + n1) := by
  rcases mul_part (N2 := N2) (k := k) hB h1 with h | h
  · exact h
  · subst h; rw [Nat.zero_mul]; exact Nat.pow_pos hB
theorem mul_part_step {B N1 N2 k : Nat} : N1 * (N2 % B ^ (k + 1)) = N1 * (N2 % B ^ k) + B ^ k * (N1 * dg B N2 k) := by
  rw [mod_succ, Nat.mul_add]
  congr 1
  rw [← Nat.mul_assoc, Nat.mul_comm N1, Nat.mul_assoc]
theorem mul_round {B N1 N2 n1 n2 k : Nat} (hB : 1 < B) (h1 : N1 < B ^ n1) (hk : k < n2) (X : Nat) (hX : X = N1 * (N2 % B ^ k) / B ^ k) :
    (X % B ^ n1 + N1 % B ^ n1 * dg B N2 k) / B ^ n1 = dg B (X + N1 * dg B N2 k) n1 ∧
    (∀ j, j < n1 + 1 → dg B (X + N1 * dg B N2 k) j = dg B (N1 * (N2 % B ^ (k + 1))) (k + j)) ∧
    (∀ j, j < n1 + n2 → (j < k ∨ k + (n1 + 1) ≤ j) → dg B (N1 * (N2 % B ^ k)) j = dg B (N1 * (N2 % B ^ (k + 1))) j) := by
  have hB0 : 0 < B := by omega
  have hp : 0 < B ^ k := Nat.pow_pos hB0
  have hlt := mul_part_lt (N2 := N2) (k := k) hB0 h1
  have hlt' := mul_part_lt (N2 := N2) (k := k + 1) hB0 h1
  have hXl : X < B ^ n1 := by
    rw [hX]; exact Nat.div_lt_of_lt_mul (by rw [← Nat.pow_add]; exact hlt)
  have hd := dg_lt hB0 N2 k
  have hs := mul_part_step (B := B) (N1 := N1) (N2 := N2) (k := k)
  have hsum : X + N1 * dg B N2 k = N1 * (N2 % B ^ (k + 1)) / B ^ k := by
    rw [hs, Nat.add_mul_div_left _ _ hp, ← hX]
  refine ⟨?_, fun j hj => ?_, fun j hj hjj => ?_⟩
  · rw [Nat.mod_eq_of_lt hXl, Nat.mod_eq_of_lt h1]
    have hu : dg B (X + N1 * dg B N2 k) n1 = (X + N1 * dg B N2 k) / B ^ n1 % B := rfl
    rw [hu]
    refine (Nat.mod_eq_of_lt ?_).symm
    rw [Nat.div_lt_iff_lt_mul (Nat.pow_pos hB0), hsum, Nat.div_lt_iff_lt_mul hp, ← Nat.pow_succ', ← Nat.pow_add]
    refine Nat.lt_of_lt_of_le hlt' (Nat.le_of_eq ?_)
    congr 1; omega
  · rw [hsum, dg_div]
  · rcases hjj with hjj | hjj
    · rw [hs]
      unfold dg
      obtain ⟨e, rfl⟩ : ∃ e, k = j + 1 + e := ⟨k - j - 1, by omega⟩
      have : B ^ (j + 1 + e) * (N1 * (N2 / B ^ (j + 1 + e) % B)) = B ^ j * (B * (B ^ e * (N1 * (N2 / B ^ (j + 1 + e) % B)))) := by
        rw [Nat.pow_add, Nat.pow_succ]
        simp only [Nat.mul_assoc]
      rw [this, Nat.add_mul_div_left _ _ (Nat.pow_pos hB0), Nat.add_mul_mod_self_left]
    · rw [dg_zero_of_lt' hB0 hlt (by omega), dg_zero_of_lt' hB0 hlt' (by omega)]
end Dg
namespace Go.Proofs.YtgmienggfaahlaaGreatDoor
open Go.RowKit Go.Bg Dg
theorem zeroWord (w : World) : (zeroValue 155).run Tryz.prog w = .ok (.int .u64 0) w := by kernel_rfl
theorem addMulVVWW0_any (g o n c0 b1 o1 c1 b2 o2 c2 : Nat) (cur : Array Value) (X Y m : Nat) (w : World) (hg : BlkAt w g cur 155) (hn : n ≤ 1000000) (hr : o + n ≤ cur.size) (h0 : n ≤ c0) (h0m : c0 ≤ maxLen)
    (h1 : WCells w b1 o1 n (dg W64 X)) (h1c : n ≤ c1) (h1m : c1 ≤ maxLen) (h2 : WCells w b2 o2 n (dg W64 Y)) (h2c : n ≤ c2) (h2m : c2 ≤ maxLen) (hn1 : b1 ≠ g ∨ o ≤ o1) (hn2 : b2 ≠ g ∨ o ≤ o2) (hm : m < W64) :
    Calls Tryz.prog 247 #[.slice (some ⟨g, o, none⟩) n c0, .slice (some ⟨b1, o1, none⟩) n c1, .slice (some ⟨b2, o2, none⟩) n c2, .int .u64 m, .int .u64 0] w
      (VecIs g o n cur (dg W64 (X + Y * m)) ((X % W64 ^ n + Y % W64 ^ n * m) / W64 ^ n) w) :=
  addMulVVWW_any g o n c0 b1 o1 c1 b2 o2 c2 cur X Y m 0 w hg hn hr h0 h0m h1 h1c h1m h2 h2c h2m hn1 hn2 hm W64_pos
def MulRow (g n : Nat) (cur : Array Value) (N : Nat) (w : World) (e : Ending) (w' : World) : Prop :=
  e = .returned (.tuple #[]) ∧ RowUp 155 w w' g 0 n cur (dg W64 N)
theorem basicMul_any (g m c b1 o1 n1 c1 b2 o2 n2 c2 : Nat) (cur : Array Value) (N1 N2 : Nat) (w : World) (hg : BlkAt w g cur 155) (hs : cur.size = c) (hm : m ≤ c) (hmn : n1 + n2 ≤ m) (hcm : c ≤ maxLen) (hz1 : 0 < n1) (hz2 : 0 < n2) (hb1 : n1 ≤ 400000) (hb2 : n2 ≤ 400000)
    (h1 : WCells w b1 o1 n1 (dg W64 N1)) (h1c : n1 ≤ c1) (h1m : c1 ≤ maxLen) (h2 : WCells w b2 o2 n2 (dg W64 N2)) (h2c : n2 ≤ c2) (h2m : c2 ≤ maxLen) (hn1 : b1 ≠ g) (hn2 : b2 ≠ g) (l1 : N1 < W64 ^ n1) (l2 : N2 < W64 ^ n2) :
    Calls Tryz.prog 207 #[.slice (some ⟨g, 0, none⟩) m c, .slice (some ⟨b1, o1, none⟩) n1 c1, .slice (some ⟨b2, o2, none⟩) n2 c2] w (MulRow g (n1 + n2) cur (N1 * N2) w) := by
  unfold maxLen at hcm h1m h2m
  have hcl : ∀ ty, (Builtin.clear_ #[147] ty #[.slice (some ⟨g, 0, none⟩) (n1 + n2) c]).run Tryz.prog w = .ok (.tuple #[]) (w.setCells g 0 (List.replicate (n1 + n2) (.int .u64 0))) :=
    fun ty => Lib.run_clear_slice w _ _ ty (.int .u64 0) Tryz.underlying147 zeroWord rfl rfl g 0 (n1 + n2) c (by omega) (fun j hj => by rw [hg.cell, Array.getElem?_eq_getElem (by omega)]; rfl) (fun j hj => hg.frozen _)
  have HG := Lib.hid hg
  have H1 := Lib.hid h1
  have H2 := Lib.hid h2
  have L1 := Lib.hid l1
  have HS := Lib.hid hs
  have HN2 := Lib.hid (Nat.mod_eq_of_lt l2)
  have s1 : IntKind.i64.wrap ((n1 : Int) + n2) = (n1 : Int) + n2 := IntWalk.i64_in _ (by omega)
  have s2 : (0 : Int) ≤ (n1 : Int) + n2 := by omega
  have s3 : (n1 : Int) + n2 ≤ c := by omega
  have s4 : ((n1 : Int) + n2).toNat = n1 + n2 := by omega
  obtain ⟨W0, hW0⟩ : ∃ W0, W0 = w.setCells g 0 (List.replicate (n1 + n2) (.int .u64 0)) := ⟨_, rfl⟩
  have HR0 := Lib.hid (show RowUp 155 w W0 g 0 (n1 + n2) cur (dg W64 (N1 * (N2 % W64 ^ 0))) from by
    have := RowUp.wipe (T := 155) (w := w) (g := g) (o := 0) (cur := cur) (h := dg W64 (N1 * (N2 % W64 ^ 0))) (fun i => by simp [Nat.mod_one, dg]) (n1 + n2) 0 w (RowUp.start hg 0 _) (by omega)
    rw [hW0]; simpa using this)
  rw [← hW0] at hcl
  clear hg h1 h2 l1 l2 hW0 hs
  go_enter Tryz.func207, Tryz.ntmps207
  go_wp2_with (simp only [hcl])
  clear s1 s2 s3 s4 hcl
  go_loopw [6, 7, 17] (fun _ _ i wr => ∃ k : Nat, k ≤ n2 ∧ i = .int .i64 k ∧ RowUp 155 w wr g 0 (n1 + n2) cur (dg W64 (N1 * (N2 % W64 ^ k))))
    (fun _ _ i _ => n2 - (intOf i).toNat)
  case atStart => exact ⟨0, Nat.zero_le _, rfl, HR0.out⟩
  case round =>
    obtain ⟨k, hk, rfl, hR⟩ := hrel
    by_cases k1 : k < n2
    · have e2 : wr.cell? ⟨b2, o2 + k, none⟩ = some (.int .u64 (dg W64 N2 k : Nat)) := by
        have := H2.out k k1
        rw [hR.upd.cell (p := ⟨b2, o2 + k, none⟩) (block_lt this) hn2]; exact this
      have d2 : dg W64 N2 k < 18446744073709551616 := W64_lt (dg_lt W64_pos _ _)
      by_cases hd0 : dg W64 N2 k = 0
      · have HQ := Lib.hid (show RowUp 155 w wr g 0 (n1 + n2) cur (dg W64 (N1 * (N2 % W64 ^ (k + 1)))) from by
          rw [mul_part_step, hd0, Nat.mul_zero, Nat.mul_zero, Nat.add_zero]; exact hR)
        rw [hd0] at e2
        clear hR hd0
        go_wp2
        go_roundw
        case rel => exact ⟨k + 1, by omega, by go_num, HQ.out⟩
        case measure => simp [intOf]; omega
      · obtain ⟨X, hX⟩ : ∃ X, X = N1 * (N2 % W64 ^ k) / W64 ^ k := ⟨_, rfl⟩
        have HM := Lib.hid (mul_round (n2 := n2) W64_gt L1.out k1 X hX)
        have HR := Lib.hid hR
        obtain ⟨cr, hk1, hk2, hk3, hk4⟩ := hR.blk
        have HB := Lib.hid hk1
        have HZ := Lib.hid (show cr.size = c from by rw [hk2, HS.out])
        have HX := Lib.hid (show ∀ j, j < n1 → wr.cell? ⟨g, k + j, none⟩ = some (.int .u64 (dg W64 X j : Nat)) from fun j hj => by
          have := hk3 (k + j) (by omega)
          rw [Nat.zero_add] at this
          rw [hk1.cell, this, hX, dg_div])
        have HY := Lib.hid (show WCells wr b1 o1 n1 (dg W64 N1) from fun j hj => by
          have := H1.out j hj
          rw [hR.upd.cell (p := ⟨b1, o1 + j, none⟩) (block_lt this) hn1]; exact this)
        have hbn : ((dg W64 N2 k : Nat) : Int) != 0 := by simpa using hd0
        clear hR hk1 hk2 hk3 hk4 hX hd0
        have HD := Lib.hid (show dg W64 N2 k < W64 from d2)
        generalize dg W64 N2 k = d at *
        have s1 : IntKind.i64.wrap ((k : Int) + n1) = (k : Int) + n1 := IntWalk.i64_in _ (by omega)
        have s5 : IntKind.i64.wrap ((n1 : Int) + k) = (n1 : Int) + k := IntWalk.i64_in _ (by omega)
        have s2 : (0 : Int) ≤ (k : Int) + n1 := by omega
        have s3 : (k : Int) + n1 ≤ c := by omega
        have s4 : ((k : Int) + n1).toNat = k + n1 := by omega
        have s6 : ((n1 : Int) + k).toNat = n1 + k := by omega
        have s7 : (n1 : Int) + k < m := by omega
        have s8 : (k : Int) ≤ (k : Int) + n1 := by omega
        have s9 : (k : Int) ≤ c := by omega
        have s10 : k + n1 - k = n1 := by omega
        have hd0 : ∀ q, Below wr.heap.size wr (wr.drewN q) := fun q => below_drewN (Below.refl wr.heap.size wr) q
        go_upto_region 5 with fail
        go_region_with
          ((go_at_call 247; (with_reducible refine (addMulVVWW0_any g k n1 (c - k) g k (c - k) b1 o1 c1 cr X N1 d _ ?_ ?_ ?_ ?_ ?_ ?_ ?_ ?_ ?_ ?_ ?_ ?_ ?_ ?_).mono ?_); exact HB.out.keep (hd0 _); omega; (rw [HZ.out]; omega); omega; (unfold maxLen; omega); (intro j hj; exact cell_keep (HX.out j hj) (hd0 _)); omega; (unfold maxLen; omega); (intro j hj; exact cell_keep (HY.out j hj) (hd0 _)); omega; (unfold maxLen; omega); exact .inr (Nat.le_refl _); exact .inl hn1; exact HD.out; rintro e w2 ⟨rfl, hR2⟩; rw [HM.out.1]; have HR2 := Lib.hid hR2; have hroom := hR2.room (j := n1 + k) (by rw [HZ.out]; omega); obtain ⟨⟨u0, p0⟩, f0⟩ := hroom; clear hR2))
        all_goals
          go_wp2
          have HR3 := Lib.hid (HR2.out.step (x := dg W64 (X + N1 * d) n1) (by rw [HZ.out]; omega) rfl)
          have hRd : RowUp 155 w wr.drew g 0 (n1 + n2) cur (dg W64 (N1 * (N2 % W64 ^ k))) := HR.out.drewN 1
          have hBd : BlkAt wr.drew g cr 155 := HB.out.keep (hd0 1)
          have HF := Lib.hid (hRd.over (i := k) hBd (by simpa using HR3.out) (by omega) HM.out.2.1 HM.out.2.2)
          go_roundw
          case rel => exact ⟨k + 1, by omega, by go_num, by have := HF.out; simpa [Nat.add_comm] using this⟩
          case measure => simp [intOf]; omega
    · obtain rfl : k = n2 := by omega
      rw [HN2.out] at hR
      go_wp2
      go_end0
      exact ⟨rfl, hR⟩
def Thr (w : World) : Prop := w.cell? ⟨2, 0, none⟩ = some (.int .i64 40)
theorem Thr.keep {w w' : World} (h : Thr w) (hb : Below w.heap.size w w') : Thr w' := cell_keep h hb
theorem mulAddVWW0_any (g o n c0 b1 o1 c1 : Nat) (cur : Array Value) (X y : Nat) (w : World) (hg : BlkAt w g cur 155) (hn : n ≤ 1000000) (hr : o + n ≤ cur.size) (h0 : n ≤ c0) (h0m : c0 ≤ maxLen)
    (h1 : WCells w b1 o1 n (dg W64 X)) (h1c : n ≤ c1) (h1m : c1 ≤ maxLen) (hn1 : b1 ≠ g ∨ o ≤ o1) (hy : y < W64) :
    Calls Tryz.prog 267 #[.slice (some ⟨g, o, none⟩) n c0, .slice (some ⟨b1, o1, none⟩) n c1, .int .u64 y, .int .u64 0] w
      (VecIs g o n cur (dg W64 (X * y)) ((X % W64 ^ n * y) / W64 ^ n) w) :=
  mulAddVWW_any g o n c0 b1 o1 c1 cur X y 0 w hg hn hr h0 h0m h1 h1c h1m hn1 hy W64_pos
theorem natMulW_nil (a1 : Option Addr) (n1 c1 N1 y : Nat) (w : World) (h1 : BigN 155 w a1 n1 c1 N1) (hb1 : n1 ≤ 900000) (hz : 0 < n1) (hy0 : 0 < y) (hy : y < W64) :
    Calls Tryz.prog 230 #[.slice none 0 0, .slice a1 n1 c1, .int .u64 y, .int .u64 0] w (GivesN 155 (N1 * y) w) := by
  have hm1 := h1.num.cm
  have hc1 := h1.num.nc
  unfold maxLen at hm1
  have hz1 : ((n1 : Int) == 0) = false := by simp; omega
  have hy1 : ((y : Int) == 0) = false := by simp; omega
  have hy2 : y < 18446744073709551616 := hy
  obtain ⟨b1, o1, rfl, hl1⟩ := h1.num.form (by omega)
  have HB1 := Lib.hid h1
  have HY := Lib.hid hy
  clear h1 hy
  go_enter Tryz.func230, Tryz.ntmps230
  go_wp2_with fail
  refine (make_nil (n1 + 1) (by omega) _).mono ?_
  rintro e w1 (⟨h, _⟩ | ⟨c, hc0, hcn1, hcn2, rfl, hw⟩)
  case inl => omega
  have hb : BlkAt w1 w.heap.size (Array.replicate c (.int .u64 0)) 155 := by rw [hw]; exact BlkAt.new _ _ _
  have hB1 : Below w.heap.size w w1 := by rw [hw]; exact (Below.refl _ _).alloc (Nat.le_refl _) _
  clear hw
  have HD1 := Lib.hid (HB1.out.num.keep hB1)
  have hsz : (Array.replicate c (Value.int .u64 0)).size = c := by simp
  have hx1 : (n1 : Int) ≤ c := by omega
  have HBK := Lib.hid hb
  have HBD := Lib.hid hB1
  have HLT := Lib.hid (show N1 * y < W64 ^ (n1 + 1) from by
    rw [Nat.pow_succ]
    exact Nat.mul_lt_mul_of_lt_of_le HB1.out.num.lt (Nat.le_of_lt HY.out) W64_pos)
  have HCA := Lib.hid (show (N1 % W64 ^ n1 * y) / W64 ^ n1 = dg W64 (N1 * y) n1 from by
    rw [Nat.mod_eq_of_lt HB1.out.num.lt]
    have hu : dg W64 (N1 * y) n1 = N1 * y / W64 ^ n1 % W64 := rfl
    rw [hu]
    refine (Nat.mod_eq_of_lt (Nat.div_lt_of_lt_mul ?_)).symm
    rw [← Nat.pow_succ]; exact HLT.out)
  clear hb hB1
  go_wp2_with fail
  refine (mulAddVWW0_any w.heap.size 0 n1 c b1 o1 c1 _ N1 y _ HBK.out (by omega) (by rw [hsz]; omega) (by omega) (by unfold maxLen; omega) (HD1.out.wcells0 (Nat.le_refl _)) (by omega) (by unfold maxLen; omega) (.inl (Nat.ne_of_lt hl1)) HY.out).mono ?_
  rintro e w2 ⟨rfl, hR2⟩
  rw [HCA.out]
  clear hx1
  have hroom := hR2.room (j := n1) (by rw [hsz]; omega)
  obtain ⟨⟨u0, p0⟩, f0⟩ := hroom
  obtain ⟨W3, hW3⟩ : ∃ W3, W3 = w2.setCell ⟨w.heap.size, n1, none⟩ (.int .u64 (dg W64 (N1 * y) n1 : Nat)) := ⟨_, rfl⟩
  have HR3 := Lib.hid (hR2.step (by rw [hsz]; omega) rfl)
  have HW3 := Lib.hid hW3
  simp only [Nat.zero_add] at HR3
  rw [← hW3] at HR3
  have HRB := Lib.hid (HR3.out.toB (B := w.heap.size) (Nat.le_refl _) HBD.out.size)
  obtain ⟨cur3, hk1, hk2, hk3, hk4⟩ := HR3.out.blk
  obtain ⟨hcl, hbn⟩ := bigN_row (c := c) (m := n1 + 1) hk1 (by rw [hk2, hsz]) (fun i hi => by have := hk3 i hi; simpa using this) hcn1 (by unfold maxLen; omega) HLT.out
  have HCL := Lib.hid hcl
  have HBN := Lib.hid hbn
  clear hk1 hk2 hk3 hk4 hcl hbn hR2 hW3 hsz
  go_wp2_with fail
  rw [← HW3.out]
  refine (norm_any (some ⟨w.heap.size, 0, none⟩) (n1 + 1) c (dg W64 (N1 * y)) _ (by omega) (by omega) (by unfold maxLen; omega) (by simp) HCL.out).mono ?_
  rintro e w4 ⟨rfl, rfl⟩
  go_wp2
  go_ret
  exact ⟨_, _, _, rfl, HBN.out, HBD.out.trans HRB.out.below⟩
theorem alias_nil (a : Option Addr) (n c : Nat) (w : World) :
    Calls Tryz.prog 142 #[.slice none 0 0, .slice a n c] w fun e w' => e = .returned (.bool false) ∧ ∃ m, w' = w.drewN m := by
  go_enter Tryz.func142, Tryz.ntmps142
  go_wp2
  go_quiet (fail)
  go_wp2
  go_ret
  exact ⟨rfl, _, rfl⟩
theorem natMul_ge (a1 a2 : Option Addr) (n1 n2 c1 c2 N1 N2 : Nat) (w : World) (hK : Thr w) (h1 : BigN 155 w a1 n1 c1 N1) (h2 : BigN 155 w a2 n2 c2 N2) (hb1 : n1 ≤ 300000) (hb2 : n2 < 40) (hge : n2 ≤ n1) (p : Value) :
    Calls Tryz.prog 199 #[.slice none 0 0, p, .slice a1 n1 c1, .slice a2 n2 c2] w (GivesN 155 (N1 * N2) w) := by
  have hm1 := h1.num.cm
  have hm2 := h2.num.cm
  have hc1 := h1.num.nc
  have hc2 := h2.num.nc
  unfold maxLen at hm1 hm2
  have HK := Lib.hid hK
  clear hK
  by_cases z2 : n2 = 0
  · subst z2
    have e2 : N2 = 0 := by have := h2.num.lt; simpa using this
    subst e2
    clear h1 h2
    by_cases z1 : n1 = 0
    · subst z1
      go_enter Tryz.func199, Tryz.ntmps199
      go_wp2
      go_ret
      exact ⟨_, _, _, rfl, BigN.nil _ _, Below.refl _ _⟩
    · have hz1 : ((n1 : Int) == 0) = false := by simpa using z1
      go_enter Tryz.func199, Tryz.ntmps199
      go_wp2
      go_ret
      exact ⟨_, _, _, rfl, BigN.nil _ _, Below.refl _ _⟩
  have hz1 : ((n1 : Int) == 0) = false := by simp; omega
  have hz2 : ((n2 : Int) == 0) = false := by simpa using z2
  obtain ⟨b1, o1, rfl, hl1⟩ := h1.num.form (by omega)
  obtain ⟨b2, o2, rfl, hl2⟩ := h2.num.form (by omega)
  have HB1 := Lib.hid h1
  have HB2 := Lib.hid h2
  by_cases z3 : n2 = 1
  · subst z3
    have e2 := h2.num.cell (i := 0) (by omega)
    rw [Nat.add_zero] at e2
    have hlt2 := h2.num.lt
    have htop := h2.num.top
    rw [Nat.pow_one] at hlt2
    have hd : dg W64 N2 0 = N2 := by unfold dg; rw [Nat.pow_zero, Nat.div_one, Nat.mod_eq_of_lt hlt2]
    rw [hd] at e2
    have h20 : 0 < N2 := by rcases htop with h | h <;> simp at h; omega
    have HL2 := Lib.hid hlt2
    clear h1 h2 hlt2 htop hd
    go_enter Tryz.func199, Tryz.ntmps199
    go_wp2_with fail
    refine (natMulW_nil _ n1 c1 N1 N2 _ HB1.out (by omega) (by omega) h20 HL2.out).mono ?_
    rintro e w1 ⟨a, n, c, rfl, hN, hB⟩
    go_wp2
    go_ret
    exact ⟨_, _, _, rfl, hN, hB⟩
  · have hz3 : ((n2 : Int) == 1) = false := by simp; omega
    clear h1 h2
    go_enter Tryz.func199, Tryz.ntmps199
    go_wp2_with fail
    refine (alias_nil _ n1 c1 _).mono ?_
    rintro e w1 ⟨rfl, q1, rfl⟩
    go_wp2_with fail
    refine (alias_nil _ n2 c2 _).mono ?_
    rintro e w2 ⟨rfl, q2, rfl⟩
    obtain ⟨W2, hW2⟩ : ∃ W2, W2 = w.drewN (q1 + q2) := ⟨_, rfl⟩
    have hbq : Below w.heap.size w W2 := by rw [hW2]; exact below_drewN (Below.refl _ _) _
    go_wp2_with fail
    rw [← hW2]
    refine (make_nil (n1 + n2) (by omega) _).mono ?_
    rintro e w3 (⟨h, _⟩ | ⟨c, hc0, hcn1, hcn2, rfl, hw⟩)
    case inl => omega
    have hb : BlkAt w3 W2.heap.size (Array.replicate c (.int .u64 0)) 155 := by rw [hw]; exact BlkAt.new _ _ _
    have hB3 : Below W2.heap.size W2 w3 := by rw [hw]; exact (Below.refl _ _).alloc (Nat.le_refl _) _
    have hbd := Below.then hbq (Nat.le_refl _) hB3
    clear hw hW2
    have HD1 := Lib.hid (HB1.out.num.keep hbd)
    have HD2 := Lib.hid (HB2.out.num.keep hbd)
    have hk := HK.out.keep hbd
    unfold Thr at hk
    have hsz : (Array.replicate c (Value.int .u64 0)).size = c := by simp
    have HBK := Lib.hid hb
    have HBD := Lib.hid hbd
    have HLT := Lib.hid (show N1 * N2 < W64 ^ (n1 + n2) from by
      rw [Nat.pow_add]
      exact Nat.mul_lt_mul_of_lt_of_le HB1.out.num.lt (Nat.le_of_lt HB2.out.num.lt) (Nat.pow_pos W64_pos))
    have HG1 := Lib.hid (show b1 ≠ W2.heap.size from Nat.ne_of_lt (Nat.lt_of_lt_of_le hl1 hbq.size))
    have HG2 := Lib.hid (show b2 ≠ W2.heap.size from Nat.ne_of_lt (Nat.lt_of_lt_of_le hl2 hbq.size))
    have HWS := Lib.hid hbq.size
    clear hb hbd hbq hB3
    have hcast : ((n1 + n2 : Nat) : Int) = (n1 : Int) + n2 := by omega
    go_wp2_with fail
    refine (basicMul_any W2.heap.size (n1 + n2) c b1 o1 n1 c1 b2 o2 n2 c2 _ N1 N2 _ HBK.out hsz hcn1 (Nat.le_refl _) (by unfold maxLen; omega) (by omega) (by omega) (by omega) (by omega) (HD1.out.wcells0 (Nat.le_refl _)) (by omega) (by unfold maxLen; omega) (HD2.out.wcells0 (Nat.le_refl _)) (by omega) (by unfold maxLen; omega) HG1.out HG2.out HB1.out.num.lt HB2.out.num.lt).mono ?_
    rintro e w4 ⟨rfl, hR⟩
    have HRB := Lib.hid (hR.toB (B := w.heap.size) HWS.out HBD.out.size)
    obtain ⟨cur3, hk1, hk2, hk3, hk4⟩ := hR.blk
    obtain ⟨hcl, hbn⟩ := bigN_row (c := c) (m := n1 + n2) hk1 (by rw [hk2, hsz]) (fun i hi => by have := hk3 i hi; simpa using this) hcn1 (by unfold maxLen; omega) HLT.out
    have HCL := Lib.hid hcl
    have HBN := Lib.hid hbn
    clear hk1 hk2 hk3 hk4 hcl hbn hR hsz hk
    go_wp2_with fail
    refine (norm_any (some ⟨W2.heap.size, 0, none⟩) (n1 + n2) c (dg W64 (N1 * N2)) _ (by omega) (by omega) (by unfold maxLen; omega) (by simp) HCL.out).mono ?_
    rintro e w5 ⟨rfl, rfl⟩
    go_wp2
    go_ret
    exact ⟨_, _, _, rfl, HBN.out, HBD.out.trans HRB.out.below⟩
theorem natMul_nil (a1 a2 : Option Addr) (n1 n2 c1 c2 N1 N2 : Nat) (w : World) (hK : Thr w) (h1 : BigN 155 w a1 n1 c1 N1) (h2 : BigN 155 w a2 n2 c2 N2) (hb1 : n1 ≤ 300000) (hb2 : n2 ≤ 300000) (hb : n1 < 40 ∨ n2 < 40) (p : Value) :
    Calls Tryz.prog 199 #[.slice none 0 0, p, .slice a1 n1 c1, .slice a2 n2 c2] w (GivesN 155 (N1 * N2) w) := by
  by_cases hge : n2 ≤ n1
  · exact natMul_ge a1 a2 n1 n2 c1 c2 N1 N2 w hK h1 h2 hb1 (by omega) hge p
  · have hlt : n1 < n2 := by omega
    have HS := Lib.hid (natMul_ge a2 a1 n2 n1 c2 c1 N2 N1 w hK h2 h1 hb2 (by omega) (by omega) p)
    have hm1 := h1.num.cm
    have hm2 := h2.num.cm
    unfold maxLen at hm1 hm2
    have hc1 := h1.num.nc
    have hc2 := h2.num.nc
    clear h1 h2 hge
    go_enter Tryz.func199, Tryz.ntmps199
    go_wp2_with fail
    refine HS.out.mono ?_
    rintro e w1 ⟨a, n, c, rfl, hN, hB⟩
    rw [Nat.mul_comm N2 N1] at hN
    go_wp2
    go_ret
    exact ⟨_, _, _, rfl, hN, hB⟩
end Go.Proofs.YtgmienggfaahlaaGreatDoor
