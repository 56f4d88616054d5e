/-
  Contracts and lemmas: VecE VecC NatA.
-/
import Derived.Test.YtececkbcinmmpaaGreatDoorM13
import Derived.Test.YtececkbcinmmpaaGreatDoorM11
set_option linter.unusedSimpArgs false
set_option linter.unusedVariables false
set_option maxRecDepth 100000
set_option maxHeartbeats 8000000
namespace Dg
theorem amul_div {B : Nat} (hB : 0 < B) (X Y m a k : Nat) : (X + Y * m + a) / B ^ k = X / B ^ k + Y / B ^ k * m + (X % B ^ k + Y % B ^ k * m + a) / B ^ k := by
  have hp : 0 < B ^ k := Nat.pow_pos hB
  have hx := Nat.div_add_mod X (B ^ k)
  have hy : Y * m = B ^ k * (Y / B ^ k * m) + Y % B ^ k * m := by
    rw [← Nat.mul_assoc, ← Nat.add_mul, Nat.div_add_mod]
  have e : X + Y * m + a = X % B ^ k + Y % B ^ k * m + a + B ^ k * (X / B ^ k + Y / B ^ k * m) := by
    rw [Nat.mul_add]; omega
  rw [e, Nat.add_mul_div_left _ _ hp]
  omega
theorem amul_step {B : Nat} (hB : 0 < B) (X Y m a k : Nat) :
    dg B (X + Y * m + a) k = (dg B X k + dg B Y k * m + (X % B ^ k + Y % B ^ k * m + a) / B ^ k) % B ∧
    (X % B ^ (k + 1) + Y % B ^ (k + 1) * m + a) / B ^ (k + 1) = (dg B X k + dg B Y k * m + (X % B ^ k + Y % B ^ k * m + a) / B ^ k) / B := by
  have hp : 0 < B ^ k := Nat.pow_pos hB
  constructor
  · show (X + Y * m + a) / B ^ k % B = (X / B ^ k % B + Y / B ^ k % B * m + _) % B
    rw [amul_div hB]
    generalize (X % B ^ k + Y % B ^ k * m + a) / B ^ k = c
    generalize X / B ^ k = x
    generalize Y / B ^ k = y
    have hx := Nat.div_add_mod x B
    have hy : y * m = B * (y / B * m) + y % B * m := by rw [← Nat.mul_assoc, ← Nat.add_mul, Nat.div_add_mod]
    have e : x + y * m + c = x % B + y % B * m + c + B * (x / B + y / B * m) := by rw [Nat.mul_add]; omega
    rw [e, Nat.add_mul_mod_self_left]
  · rw [mod_succ, mod_succ, Nat.pow_succ, ← Nat.div_div_eq_div_mul]
    have hy : (Y % B ^ k + B ^ k * dg B Y k) * m = Y % B ^ k * m + B ^ k * (dg B Y k * m) := by rw [Nat.add_mul, Nat.mul_assoc]
    have e : X % B ^ k + B ^ k * dg B X k + (Y % B ^ k + B ^ k * dg B Y k) * m + a = X % B ^ k + Y % B ^ k * m + a + B ^ k * (dg B X k + dg B Y k * m) := by
      rw [hy, Nat.mul_add]; omega
    rw [e, Nat.add_mul_div_left _ _ hp, Nat.add_comm]
theorem amul_lt {B : Nat} {P x y m a : Nat} (hx : x < P) (hy : y < P) (hm : m < B) (ha : a < B) : x + y * m + a < P * B := by
  obtain ⟨p, rfl⟩ : ∃ p, P = p + 1 := ⟨P - 1, by omega⟩
  obtain ⟨b, rfl⟩ : ∃ b, B = b + 1 := ⟨B - 1, by omega⟩
  have h1 : y * m ≤ p * b := Nat.mul_le_mul (by omega) (by omega)
  have h2 : (p + 1) * (b + 1) = p * b + p + b + 1 := by rw [Nat.add_mul, Nat.mul_add]; omega
  omega
theorem amul_carry {B : Nat} (hB : 0 < B) (X Y k : Nat) {m a : Nat} (hm : m < B) (ha : a < B) : (X % B ^ k + Y % B ^ k * m + a) / B ^ k < B := by
  have hp : 0 < B ^ k := Nat.pow_pos hB
  rw [Nat.div_lt_iff_lt_mul hp, Nat.mul_comm B]
  exact amul_lt (Nat.mod_lt _ hp) (Nat.mod_lt _ hp) hm ha
end Dg
namespace Go.Proofs.YtececkbcinmmpaaGreatDoor
open Go.RowKit Go.Bg Dg
theorem mulAddWWW_any (x y c : Nat) (hx : x < 18446744073709551616) (hy : y < 18446744073709551616) (hc : c < 18446744073709551616) (w : World) :
    Calls Tryz.prog 307 #[.int .u64 x, .int .u64 y, .int .u64 c] w fun e w' => e = .returned (.tuple #[.int .u64 (((x * y + c) / 18446744073709551616 : Nat) : Int), .int .u64 (((x * y + c) % 18446744073709551616 : Nat) : Int)]) ∧ w = w' := by
  have HM := Lib.hid (Tryz.bits_Mul x y hx hy)
  have hb : x * y + c < 18446744073709551616 * 18446744073709551616 := by
    have := amul_lt (B := 18446744073709551616) (P := 18446744073709551616) (x := 0) (y := x) (m := y) (a := c) (by omega) hx hy hc
    omega
  generalize x * y = p at *
  have hq : p / 18446744073709551616 < 18446744073709551616 := by omega
  have hl : p % 18446744073709551616 < 18446744073709551616 := Nat.mod_lt _ (by decide)
  have HA := Lib.hid (fun w => bitsAdd_any (p % 18446744073709551616) c 0 (by omega) w)
  have HE := Lib.hid (show (((p / 18446744073709551616 : Nat) : Int) + (((p % 18446744073709551616 + c + 0) / 18446744073709551616 : Nat) : Int)) = (((p + c) / 18446744073709551616 : Nat) : Int) from by omega)
  have HF := Lib.hid (show (p % 18446744073709551616 + c + 0) % 18446744073709551616 = (p + c) % 18446744073709551616 from by omega)
  have hs : p / 18446744073709551616 + (p % 18446744073709551616 + c + 0) / 18446744073709551616 < 18446744073709551616 := by omega
  have hs2 : (p % 18446744073709551616 + c + 0) % 18446744073709551616 < 18446744073709551616 := Nat.mod_lt _ (by decide)
  generalize (p + c) / 18446744073709551616 = r1 at *
  generalize (p + c) % 18446744073709551616 = r0 at *
  generalize (p % 18446744073709551616 + c + 0) / 18446744073709551616 = d at *
  generalize (p % 18446744073709551616 + c + 0) % 18446744073709551616 = s at *
  generalize p / 18446744073709551616 = hi at *
  generalize p % 18446744073709551616 = lo at *
  clear hb
  go_enter Tryz.func307, Tryz.ntmps307
  go_wp2_with fail
  refine (HM.out _).mono ?_
  rintro e w1 ⟨rfl, rfl⟩
  go_wp2_with fail
  refine (HA.out _).mono ?_
  rintro e w2 ⟨rfl, rfl⟩
  go_wp2
  refine bodyPost_ret (v := .tuple #[.int .u64 ((hi : Int) + (d : Int)), .int .u64 (s : Nat)]) (by simp [results, Tryz.results307, go_sem]) rfl ⟨?_, rfl⟩
  rw [HE.out, HF.out]
theorem mulAddVWWg_any (g o n c0 b1 o1 c1 : Nat) (cur : Array Value) (X y r : Nat) (w : World) (hg : BlkAt w g cur 139) (hn : n ≤ 1000000) (hr : o + n ≤ cur.size) (h0 : n ≤ c0) (h0m : c0 ≤ maxLen)
    (h1 : WCells w b1 o1 n (dg W64 X)) (h1c : n ≤ c1) (h1m : c1 ≤ maxLen) (hn1 : b1 ≠ g ∨ o ≤ o1) (hy : y < W64) (hrr : r < W64) :
    Calls Tryz.prog 302 #[.slice (some ⟨g, o, none⟩) n c0, .slice (some ⟨b1, o1, none⟩) n c1, .int .u64 y, .int .u64 r] w
      (VecIs g o n cur (dg W64 (X * y + r)) ((X % W64 ^ n * y + r) / W64 ^ n) w) := by
  unfold maxLen at h0m h1m
  have hy' : y < 18446744073709551616 := W64_lt hy
  have HG := Lib.hid hg
  have H1 := Lib.hid h1
  have HY := Lib.hid hy
  have HRR := Lib.hid hrr
  clear hg h1 hy hrr
  go_enter Tryz.func302, Tryz.ntmps302
  go_wp2
  go_loopw [8, 9, 19] (fun c _ i wr => ∃ k : Nat, k ≤ n ∧ i = .int .i64 k ∧ c = .int .u64 (((X % W64 ^ k * y + r) / W64 ^ k : Nat) : Int) ∧ RowUp 139 w wr g o k cur (dg W64 (X * y + r)))
    (fun _ _ i _ => n - (intOf i).toNat)
  case atStart => exact ⟨0, Nat.zero_le _, rfl, by simp [Nat.mod_one], RowUp.start HG.out _ _⟩
  case round =>
    obtain ⟨k, hk, rfl, rfl, hR⟩ := hrel
    by_cases k1 : k < n
    · have e1 := hR.read HG.out (H1.out k k1) hn1 (Nat.le_refl _)
      have d1 : dg W64 X k < 18446744073709551616 := W64_lt (dg_lt W64_pos _ _)
      have hS := amul_step W64_pos 0 X y r k
      have hcl := amul_carry W64_pos 0 X k HY.out HRR.out
      have hz : dg W64 0 k = 0 := by simp [dg]
      rw [hz] at hS
      simp only [Nat.zero_mod, Nat.zero_add] at hS hcl
      have HS := Lib.hid hS
      have hcl' : (X % W64 ^ k * y + r) / W64 ^ k < 18446744073709551616 := hcl
      have HR := Lib.hid hR
      have hlt := hR.room (j := o + k) (by omega)
      obtain ⟨⟨u0, p0⟩, f0⟩ := hlt
      clear hR hS hcl hz
      generalize (X % W64 ^ k * y + r) / W64 ^ k = c at *
      generalize dg W64 X k = x at *
      have HE := Lib.hid (show (x * y + c) % 18446744073709551616 = dg W64 (X * y + r) k from HS.out.1.symm)
      have HF := Lib.hid (show (x * y + c) / 18446744073709551616 = (X % W64 ^ (k + 1) * y + r) / W64 ^ (k + 1) from HS.out.2.symm)
      have HM := Lib.hid (fun w => mulAddWWW_any x y c d1 hy' hcl' w)
      have hs1 : (x * y + c) % 18446744073709551616 < 18446744073709551616 := Nat.mod_lt _ (by decide)
      generalize (x * y + c) % 18446744073709551616 = s at *
      generalize (x * y + c) / 18446744073709551616 = d at *
      go_wp2_with fail
      refine (HM.out _).mono ?_
      rintro e w1 ⟨rfl, rfl⟩
      go_wp2
      go_roundw
      case rel => exact ⟨k + 1, by omega, by go_num, by rw [HF.out], HR.out.step (by omega) HE.out⟩
      case measure => simp [intOf]; omega
    · obtain rfl : k = n := by omega
      go_wp2
      go_ret
      exact ⟨rfl, hR⟩
theorem mulAddVWW_any (g o n c0 b1 o1 c1 : Nat) (cur : Array Value) (X y r : Nat) (w : World) (hg : BlkAt w g cur 139) (hn : n ≤ 1000000) (hr : o + n ≤ cur.size) (h0 : n ≤ c0) (h0m : c0 ≤ maxLen)
    (h1 : WCells w b1 o1 n (dg W64 X)) (h1c : n ≤ c1) (h1m : c1 ≤ maxLen) (hn1 : b1 ≠ g ∨ o ≤ o1) (hy : y < W64) (hrr : r < W64) :
    Calls Tryz.prog 275 #[.slice (some ⟨g, o, none⟩) n c0, .slice (some ⟨b1, o1, none⟩) n c1, .int .u64 y, .int .u64 r] w
      (VecIs g o n cur (dg W64 (X * y + r)) ((X % W64 ^ n * y + r) / W64 ^ n) w) := by
  have HS := Lib.hid (mulAddVWWg_any g o n c0 b1 o1 c1 cur X y r w hg hn hr h0 h0m h1 h1c h1m hn1 hy hrr)
  clear hg h1 hy hrr
  go_enter Tryz.func275, Tryz.ntmps275
  go_wp2_with fail
  refine HS.out.mono ?_
  rintro e w1 ⟨rfl, hR⟩
  have HR := Lib.hid hR
  clear hR
  go_wp2
  go_ret
  exact ⟨rfl, HR.out⟩
theorem addMulVVWWg_any (g o n c0 b1 o1 c1 b2 o2 c2 : Nat) (cur : Array Value) (X Y m a : Nat) (w : World) (hg : BlkAt w g cur 139) (hn : n ≤ 1000000) (hr : o + n ≤ cur.size) (h0 : n ≤ c0) (h0m : c0 ≤ maxLen)
    (h1 : WCells w b1 o1 n (dg W64 X)) (h1c : n ≤ c1) (h1m : c1 ≤ maxLen) (h2 : WCells w b2 o2 n (dg W64 Y)) (h2c : n ≤ c2) (h2m : c2 ≤ maxLen) (hn1 : b1 ≠ g ∨ o ≤ o1) (hn2 : b2 ≠ g ∨ o ≤ o2) (hm : m < W64) (ha : a < W64) :
    Calls Tryz.prog 291 #[.slice (some ⟨g, o, none⟩) n c0, .slice (some ⟨b1, o1, none⟩) n c1, .slice (some ⟨b2, o2, none⟩) n c2, .int .u64 m, .int .u64 a] w
      (VecIs g o n cur (dg W64 (X + Y * m + a)) ((X % W64 ^ n + Y % W64 ^ n * m + a) / W64 ^ n) w) := by
  unfold maxLen at h0m h1m h2m
  have hm' : m < 18446744073709551616 := W64_lt hm
  have HG := Lib.hid hg
  have H1 := Lib.hid h1
  have H2 := Lib.hid h2
  have HMM := Lib.hid hm
  have HA := Lib.hid ha
  clear hg h1 h2 hm ha
  go_enter Tryz.func291, Tryz.ntmps291
  go_wp2
  go_loopw [10, 11, 12, 13, 14, 15, 32] (fun c _ _ _ _ _ i wr => ∃ k : Nat, k ≤ n ∧ i = .int .i64 k ∧ c = .int .u64 (((X % W64 ^ k + Y % W64 ^ k * m + a) / W64 ^ k : Nat) : Int) ∧ RowUp 139 w wr g o k cur (dg W64 (X + Y * m + a)))
    (fun _ _ _ _ _ _ i _ => n - (intOf i).toNat)
  case atStart => exact ⟨0, Nat.zero_le _, rfl, by simp [Nat.mod_one], RowUp.start HG.out _ _⟩
  case round =>
    obtain ⟨k, hk, rfl, rfl, hR⟩ := hrel
    by_cases k1 : k < n
    · have e1 := hR.read HG.out (H1.out k k1) hn1 (Nat.le_refl _)
      have e2 := hR.read HG.out (H2.out k k1) hn2 (Nat.le_refl _)
      have d1 : dg W64 X k < 18446744073709551616 := W64_lt (dg_lt W64_pos _ _)
      have d2 : dg W64 Y k < 18446744073709551616 := W64_lt (dg_lt W64_pos _ _)
      have HS := Lib.hid (amul_step W64_pos X Y m a k)
      have hcl : (X % W64 ^ k + Y % W64 ^ k * m + a) / W64 ^ k < 18446744073709551616 := amul_carry W64_pos X Y k HMM.out HA.out
      have HR := Lib.hid hR
      have hlt := hR.room (j := o + k) (by omega)
      obtain ⟨⟨u0, p0⟩, f0⟩ := hlt
      clear hR
      generalize (X % W64 ^ k + Y % W64 ^ k * m + a) / W64 ^ k = c at *
      generalize dg W64 X k = x at *
      generalize dg W64 Y k = y at *
      have hbd : x + y * m + c < 18446744073709551616 * 18446744073709551616 := amul_lt d1 d2 hm' hcl
      have HM := Lib.hid (fun w => mulAddWWW_any y m x d2 hm' d1 w)
      have HE := Lib.hid (show (x + y * m + c) % 18446744073709551616 = dg W64 (X + Y * m + a) k from HS.out.1.symm)
      have HF := Lib.hid (show (x + y * m + c) / 18446744073709551616 = (X % W64 ^ (k + 1) + Y % W64 ^ (k + 1) * m + a) / W64 ^ (k + 1) from HS.out.2.symm)
      generalize y * m = p at *
      have hl : (p + x) % 18446744073709551616 < 18446744073709551616 := Nat.mod_lt _ (by decide)
      have HB := Lib.hid (fun w => bitsAdd_any ((p + x) % 18446744073709551616) c 0 (by omega) w)
      have hs0 : ((p + x) % 18446744073709551616 + c + 0) % 18446744073709551616 < 18446744073709551616 := Nat.mod_lt _ (by decide)
      have hs1 : ((p + x) % 18446744073709551616 + c + 0) / 18446744073709551616 + (p + x) / 18446744073709551616 < 18446744073709551616 := by omega
      have HE2 := Lib.hid (show ((p + x) % 18446744073709551616 + c + 0) % 18446744073709551616 = dg W64 (X + Y * m + a) k from by rw [← HE.out]; omega)
      have HF2 := Lib.hid (show ((p + x) % 18446744073709551616 + c + 0) / 18446744073709551616 + (p + x) / 18446744073709551616 = (X % W64 ^ (k + 1) + Y % W64 ^ (k + 1) * m + a) / W64 ^ (k + 1) from by rw [← HF.out]; omega)
      generalize ((p + x) % 18446744073709551616 + c + 0) % 18446744073709551616 = s at *
      generalize ((p + x) % 18446744073709551616 + c + 0) / 18446744073709551616 = d at *
      generalize (p + x) % 18446744073709551616 = lo at *
      generalize (p + x) / 18446744073709551616 = hi at *
      clear HE HF hbd
      go_wp2
      go_quiet (first | (go_at_call 307; refine Calls.quiet_of_same ((HM.out _).mono (fun _ _ h => ⟨h.1, h.2.symm⟩))))
      go_wp2_with fail
      refine (HB.out _).mono ?_
      rintro e w1 ⟨rfl, rfl⟩
      go_wp2
      have hcast : ((d : Int) + (hi : Int)) = ((d + hi : Nat) : Int) := by omega
      rw [hcast]
      go_roundw
      case rel => exact ⟨k + 1, by omega, by go_num, by rw [HF2.out], (HR.out.drewN _).step (by omega) HE2.out⟩
      case measure => simp [intOf]; omega
    · obtain rfl : k = n := by omega
      go_wp2
      go_ret
      exact ⟨rfl, hR⟩
theorem addMulVVWW_any (g o n c0 b1 o1 c1 b2 o2 c2 : Nat) (cur : Array Value) (X Y m a : Nat) (w : World) (hg : BlkAt w g cur 139) (hn : n ≤ 1000000) (hr : o + n ≤ cur.size) (h0 : n ≤ c0) (h0m : c0 ≤ maxLen)
    (h1 : WCells w b1 o1 n (dg W64 X)) (h1c : n ≤ c1) (h1m : c1 ≤ maxLen) (h2 : WCells w b2 o2 n (dg W64 Y)) (h2c : n ≤ c2) (h2m : c2 ≤ maxLen) (hn1 : b1 ≠ g ∨ o ≤ o1) (hn2 : b2 ≠ g ∨ o ≤ o2) (hm : m < W64) (ha : a < W64) :
    Calls Tryz.prog 256 #[.slice (some ⟨g, o, none⟩) n c0, .slice (some ⟨b1, o1, none⟩) n c1, .slice (some ⟨b2, o2, none⟩) n c2, .int .u64 m, .int .u64 a] w
      (VecIs g o n cur (dg W64 (X + Y * m + a)) ((X % W64 ^ n + Y % W64 ^ n * m + a) / W64 ^ n) w) := by
  have HS := Lib.hid (addMulVVWWg_any g o n c0 b1 o1 c1 b2 o2 c2 cur X Y m a w hg hn hr h0 h0m h1 h1c h1m h2 h2c h2m hn1 hn2 hm ha)
  clear hg h1 h2 hm ha
  go_enter Tryz.func256, Tryz.ntmps256
  go_wp2_with fail
  refine HS.out.mono ?_
  rintro e w1 ⟨rfl, hR⟩
  have HR := Lib.hid hR
  clear hR
  go_wp2
  go_ret
  exact ⟨rfl, HR.out⟩
end Go.Proofs.YtececkbcinmmpaaGreatDoor
namespace Go.Bg
open Go.RowKit Dg
structure RowB (T : TypeId) (B : Nat) (w w' : World) (g o n : Nat) (cur : Array Value) (h : Nat → Nat) : Prop where
  below : Below B w w'
  blk : ∃ cur', BlkAt w' g cur' T ∧ cur'.size = cur.size ∧ (∀ i, i < n → cur'[o + i]? = some (.int .u64 (h i : Nat))) ∧ ∀ j, (j < o ∨ o + n ≤ j) → cur'[j]? = cur[j]?
theorem RowUp.toB {T : TypeId} {B : Nat} {w w' : World} {g o n : Nat} {cur : Array Value} {h : Nat → Nat} (r : RowUp T w w' g o n cur h) (hg : B ≤ g) (hB : B ≤ w.heap.size) : RowB T B w w' g o n cur h :=
  ⟨r.upd.below (Below.refl B w) hB (fun k _ e => e ▸ hg), r.blk⟩
theorem RowUp.mono {T : TypeId} {w w' : World} {g o n : Nat} {cur : Array Value} {h h' : Nat → Nat} (r : RowUp T w w' g o n cur h) (he : ∀ i, i < n → h i = h' i) : RowUp T w w' g o n cur h' := by
  obtain ⟨cur', h1, h2, h3, h4⟩ := r.blk
  exact ⟨r.upd, cur', h1, h2, fun i hi => by rw [← he i hi]; exact h3 i hi, h4⟩
def wlf (X i n : Nat) : List Value := (List.range n).map (fun j => Value.int .u64 (dg W64 X (i + j) : Nat))
theorem wlf_get {X i n j : Nat} (h : j < n) : (wlf X i n)[j]? = some (.int .u64 (dg W64 X (i + j) : Nat)) := by simp [wlf, h]
theorem wlf_len (X i n : Nat) : (wlf X i n).length = n := by simp [wlf]
theorem wlf_one (X i n : Nat) : ∀ v ∈ wlf X i n, v.oneCell' = true := by
  intro v hv
  simp only [wlf, List.mem_map] at hv
  obtain ⟨_, _, rfl⟩ := hv
  rfl
theorem rowB_spliced {T : TypeId} {B : Nat} {w w2 : World} {g o k n X : Nat} {cur cur' : Array Value} {h : Nat → Nat} (hkn : k ≤ n) (hsz : cur'.size = cur.size) (hfit : o + n ≤ cur.size)
    (h3 : ∀ i, i < k → cur'[o + i]? = some (.int .u64 (h i : Nat))) (h4 : ∀ j, (j < o ∨ o + k ≤ j) → cur'[j]? = cur[j]?)
    (hg : w2.heap[g]? = some (.cells (splice cur'.toList (o + k) (wlf X k (n - k))).toArray T (0, 0))) (hb : Below B w w2) (he : ∀ i, k ≤ i → i < n → h i = dg W64 X i) : RowB T B w w2 g o n cur h := by
  have hl : (wlf X k (n - k)).length = n - k := wlf_len _ _ _
  have hll : o + k + (wlf X k (n - k)).length ≤ cur'.toList.length := by rw [hl]; simp; omega
  refine ⟨hb, (splice cur'.toList (o + k) (wlf X k (n - k))).toArray, hg, by simp only [List.size_toArray]; rw [length_splice _ _ _ hll]; simpa using hsz, fun i hi => ?_, fun j hj => ?_⟩
  · by_cases hik : i < k
    · rw [← h3 i hik]
      simp only [List.getElem?_toArray, splice]
      rw [List.getElem?_append_left (by simp; omega), List.getElem?_take_of_lt (by omega)]
      simp
    · simp only [List.getElem?_toArray, splice]
      have hls : cur'.toList.length = cur'.size := by simp
      have hidx : o + i - min (o + k) cur'.toList.length = i - k := by rw [hls]; omega
      rw [List.getElem?_append_right (by simp; omega), List.getElem?_append_left (by rw [hl]; simp; omega), List.length_take, hidx, wlf_get (by omega), he i (by omega) hi, show k + (i - k) = i from by omega]
  · rw [← h4 j (by omega)]
    simp only [List.getElem?_toArray, splice]
    rcases hj with hj | hj
    · rw [List.getElem?_append_left (by simp; omega), List.getElem?_take_of_lt (by omega)]
      simp
    · by_cases hjs : j < cur'.size
      · rw [List.getElem?_append_right (by simp; omega), List.getElem?_append_right (by rw [hl]; simp; omega), List.getElem?_drop, hl, List.length_take]
        have : o + k + (n - k) + (j - min (o + k) cur'.toList.length - (n - k)) = j := by simp; omega
        rw [this]; simp
      · rw [Array.getElem?_eq_none (by omega), List.getElem?_eq_none]
        have := length_splice _ _ _ hll
        unfold splice at this
        rw [this]; simp; omega
end Go.Bg
namespace Go.Bg
open Dg
theorem ret_u64 {a b : Nat} (h : a = b) : Ending.returned (.int .u64 (a : Nat)) = .returned (.int .u64 (b : Nat)) := by rw [h]
theorem addw_none {B X y k n : Nat} (hB : 0 < B) (h : (X % B ^ k + y) / B ^ k = 0) (hkn : k ≤ n) : (X % B ^ n + y) / B ^ n = 0 := by
  have hp := Nat.pow_pos (n := k) hB
  have hq := Nat.pow_pos (n := n) hB
  have h1 : X % B ^ k + y < B ^ k := by
    rcases Nat.lt_or_ge (X % B ^ k + y) (B ^ k) with hh | hh
    · exact hh
    · have := Nat.div_pos hh hp; omega
  obtain ⟨d, rfl⟩ : ∃ d, n = k + d := ⟨n - k, by omega⟩
  have e := Nat.mod_mul (x := X) (a := B ^ k) (b := B ^ d)
  rw [Nat.pow_add, e]
  have hd := Nat.mod_lt (X / B ^ k) (Nat.pow_pos (n := d) hB)
  have : B ^ k * (X / B ^ k % B ^ d) + B ^ k ≤ B ^ k * B ^ d := by
    rw [← Nat.mul_succ]; exact Nat.mul_le_mul_left _ hd
  exact Nat.div_eq_of_lt (by omega)
end Go.Bg
namespace Go.Proofs.YtececkbcinmmpaaGreatDoor
open Go.RowKit Go.Bg Dg
def VecBs (B g o n : Nat) (cur : Array Value) (h : Nat → Nat) (c : Nat) (w : World) (e : Ending) (w' : World) : Prop :=
  e = .returned (.int .u64 (c : Nat)) ∧ RowB 139 B w w' g o n cur h
theorem infoWordJ : ∃ j, Tryz.prog.info? 139 = some j ∧ j.size = 1 := Option.map_eq_some_iff.1 infoWordSize
theorem addVW_any (B g o n c0 b1 o1 c1 : Nat) (cur cur1 : Array Value) (T1 : TypeId) (X y : Nat) (w : World) (hg : BlkAt w g cur 139) (hg1 : BlkAt w b1 cur1 T1) (hBg : B ≤ g) (hBw : B ≤ w.heap.size) (hn1 : 1 ≤ n) (hn : n ≤ 1000000) (hr : o + n ≤ cur.size) (h0 : n ≤ c0) (h0m : c0 ≤ maxLen)
    (h1 : WCells w b1 o1 n (dg W64 X)) (h1c : n ≤ c1) (h1m : c1 ≤ maxLen) (hne : b1 ≠ g) (hy : y < W64) :
    Calls Tryz.prog 206 #[.slice (some ⟨g, o, none⟩) n c0, .slice (some ⟨b1, o1, none⟩) n c1, .int .u64 y] w
      (VecBs B g o n cur (dg W64 (X + y)) ((X % W64 ^ n + y) / W64 ^ n) w) := by
  unfold maxLen at h0m h1m
  obtain ⟨j, hj, hj1⟩ := infoWordJ
  have hy' : y < 18446744073709551616 := W64_lt hy
  have HG := Lib.hid hg
  have HG1 := Lib.hid hg1
  have H1 := Lib.hid h1
  have e1 := h1 0 (by omega)
  rw [Nat.add_zero] at e1
  have d1 : dg W64 X 0 < 18446744073709551616 := W64_lt (dg_lt W64_pos _ _)
  have HS := Lib.hid (addw_step W64_pos X y 0)
  have hroom := (RowUp.start hg o (dg W64 (X + y))).room (j := o) (by omega)
  obtain ⟨⟨u0, p0⟩, f0⟩ := hroom
  have HX := Lib.hid (show dg W64 X 0 = dg W64 X 0 from rfl)
  have hn0 : ((n : Int) == 0) = false := by simp; omega
  clear hg hg1 h1 hy
  generalize hx : dg W64 X 0 = x at *
  simp only [Nat.pow_zero, Nat.mod_one, Nat.zero_add, Nat.div_one, Nat.pow_one] at HS
  have HE := Lib.hid (show (x + y + 0) % 18446744073709551616 = dg W64 (X + y) 0 from by rw [HS.out.1]; rfl)
  have HF := Lib.hid (show (x + y + 0) / 18446744073709551616 = (X % W64 + y) / W64 from by rw [HS.out.2]; rfl)
  have hdl : (x + y + 0) % 18446744073709551616 < 18446744073709551616 := Nat.mod_lt _ (by decide)
  have hcl : (x + y + 0) / 18446744073709551616 ≤ 1 := by omega
  have HC := Lib.hid (fun w => bitsAdd_any x y 0 (by omega) w)
  generalize (x + y + 0) % 18446744073709551616 = s at *
  generalize hcc : (x + y + 0) / 18446744073709551616 = cc at *
  clear hx hcc
  go_enter Tryz.func206, Tryz.ntmps206
  go_wp2_with fail
  refine (HC.out _).mono ?_
  rintro e w1 ⟨rfl, rfl⟩
  have HR := Lib.hid ((RowUp.start HG.out o (dg W64 (X + y))).step (by omega) HE.out)
  simp only [Nat.add_zero, Nat.zero_add] at HR
  obtain ⟨W1, hW1⟩ : ∃ W1, W1 = w.setCell ⟨g, o, none⟩ (.int .u64 (s : Nat)) := ⟨_, rfl⟩
  have HW1 := Lib.hid hW1
  rw [← hW1] at HR
  obtain ⟨cur', hk1, hk2, hk3, hk4⟩ := HR.out.blk
  have hk5 := HR.out.upd.blk HG1.out hne
  have HQ := Lib.hid (fun q => run_neq_ptr_other (P := Tryz.prog) (a := ⟨g, o, none⟩) (b := ⟨b1, o1, none⟩) (W1.drewN q) Tryz.underlying219 hj (by rw [hj1]; decide) (by intro h; injection h with h _ _; exact hne h.symm) hk1 hk5)
  clear hW1
  by_cases hc0 : cc = 0
  · subst hc0
    go_upto_region 8 with fail
    rw [← HW1.out]
    have hq := HQ.out
    go_quiet (fail)
    go_upto_region 9 with fail
    have hbd : Below W1.heap.size W1 (W1.drewN (nq + 1)) := below_drewN (Below.refl _ _) (nq + 1)
    have hk1' := hk1.keep hbd
    have HG2 := Lib.hid (show (W1.drewN (nq + 1)).heap[g]? = some (.cells cur'.toList.toArray 139 (0, 0)) from by unfold BlkAt at hk1'; simpa using hk1')
    have HSRC := Lib.hid (show ∀ j v, (wlf X 1 (n - 1))[j]? = some v → (W1.drewN (nq + 1)).cell? ((⟨b1, o1 + 1, none⟩ : Addr).add j) = some v from by
      intro j v hjv
      have hjn : j < n - 1 := by
        have := (List.getElem?_eq_some_iff.1 hjv).1
        rwa [wlf_len] at this
      rw [wlf_get hjn] at hjv
      rw [← hjv, Addr.add_lit, show o1 + 1 + j = o1 + (1 + j) from by omega]
      exact cell_keep (HR.out.read HG.out (H1.out (1 + j) (by omega)) (.inl hne) (by omega)) hbd)
    have HB2 := Lib.hid (((HR.out.toB hBg hBw).below).trans (hbd.mono (Nat.le_trans hBw HR.out.upd.size)))
    have HT := Lib.hid (show o + 1 + (wlf X 1 (n - 1)).length ≤ cur'.toList.length from by rw [wlf_len]; simp; omega)
    have HL := Lib.hid (wlf_len X 1 (n - 1))
    have hn1i : (1 : Int) ≤ n := by omega
    have HNC := Lib.hid (show (X % W64 ^ 1 + y) / W64 ^ 1 = 0 from by rw [Nat.pow_one]; exact HF.out.symm)
    clear hbd hk1'
    go_region_law (refine step_copy_splice rfl (.tmp 40) (.tmp 42) 138 138 rfl 139 Tryz.underlying138 infoWordSize _ _ _ _ _ _ rfl rfl g (o + 1) cur'.toList 139 HG2.out (wlf X 1 (n - 1)) (by rw [HL.out]; exact (Nat.min_self _).symm) (fun h0 => by rw [HL.out] at h0; exact ⟨if_neg (by omega), ⟨b1, o1 + 1, none⟩, if_neg (by omega), HSRC.out⟩) HT.out (wlf_one _ _ _) B w HB2.out hBg ?_; intro w4 hg4 hb4)
    all_goals go_wp2
    all_goals
      go_ret
      refine ⟨ret_u64 ?_, rowB_spliced (k := 1) (by omega) hk2 (by omega) hk3 hk4 hg4 hb4 (fun i hi _ => addw_same W64_pos HNC.out hi)⟩
      exact (addw_none W64_pos HNC.out (by omega)).symm
  · obtain rfl : cc = 1 := by omega
    have HC1 := Lib.hid (show (X % W64 ^ 1 + y) / W64 ^ 1 = 1 from by rw [Nat.pow_one]; exact HF.out.symm)
    go_upto_region 11 with fail
    rw [← HW1.out]
    clear hk1 hk2 hk3 hk4 hk5 p0 f0 e1 hc0 hcl
    go_wp2
    go_loopw [6, 9, 10] (fun _ i _ wr => ∃ k : Nat, 1 ≤ k ∧ k ≤ n ∧ i = .int .i64 k ∧ (X % W64 ^ k + y) / W64 ^ k = 1 ∧ RowUp 139 w wr g o k cur (dg W64 (X + y)))
      (fun _ i _ _ => n - (intOf i).toNat)
    case atStart => exact ⟨1, Nat.le_refl _, hn1, rfl, HC1.out, HR.out⟩
    case round =>
      obtain ⟨k, hk0, hk, rfl, hca, hR⟩ := hrel
      have HCA := Lib.hid hca
      clear hca
      by_cases k1 : k < n
      · have e1 := hR.read HG.out (H1.out k k1) (.inl hne) (Nat.le_refl _)
        have d1 : dg W64 X k < 18446744073709551616 := W64_lt (dg_lt W64_pos _ _)
        have HS2 := Lib.hid (addw_step W64_pos X y k)
        rw [HCA.out] at HS2
        have HRR := Lib.hid hR
        have hroom := hR.room (j := o + k) (by omega)
        obtain ⟨⟨u0, p0⟩, f0⟩ := hroom
        clear hR
        generalize hx : dg W64 X k = xk at *
        clear hx
        by_cases hm : xk = 18446744073709551615
        · subst hm
          have HE2 := Lib.hid (show 0 = dg W64 (X + y) k from by rw [HS2.out.1]; rfl)
          have HF2 := Lib.hid (show (X % W64 ^ (k + 1) + y) / W64 ^ (k + 1) = 1 from by rw [HS2.out.2]; rfl)
          go_wp2
          go_roundw
          case rel => exact ⟨k + 1, by omega, by omega, by go_num, HF2.out, HRR.out.step (x := 0) (by omega) HE2.out⟩
          case measure => simp [intOf]; omega
        · have hmb : ((xk : Int) != 18446744073709551615) = true := by simp; omega
          have hxw : xk + 1 < 18446744073709551616 := by omega
          have HE2 := Lib.hid (show xk + 1 = dg W64 (X + y) k from by rw [HS2.out.1]; exact (Nat.mod_eq_of_lt hxw).symm)
          have HF2 := Lib.hid (show (X % W64 ^ (k + 1) + y) / W64 ^ (k + 1) = 0 from by rw [HS2.out.2]; exact Nat.div_eq_of_lt hxw)
          have hcast : ((xk + 1 : Nat) : Int) = xk + 1 := by omega
          go_upto_region 17 with fail
          obtain ⟨W2, hW2⟩ : ∃ W2, W2 = wr.setCell ⟨g, o + k, none⟩ (.int .u64 ((xk : Int) + 1)) := ⟨_, rfl⟩
          have HR2 := Lib.hid (HRR.out.step (x := xk + 1) (by omega) HE2.out)
          rw [hcast, ← hW2] at HR2
          rw [← hW2]
          obtain ⟨cur', hk1, hk2, hk3, hk4⟩ := HR2.out.blk
          have hk5 := HR2.out.upd.blk HG1.out hne
          have HQ2 := Lib.hid (fun q => run_neq_ptr_other (P := Tryz.prog) (a := ⟨g, o, none⟩) (b := ⟨b1, o1, none⟩) (W2.drewN q) Tryz.underlying219 hj (by rw [hj1]; decide) (by intro h; injection h with h _ _; exact hne h.symm) hk1 hk5)
          clear hW2 hcast p0 f0 e1
          have hq := HQ2.out
          go_quiet (fail)
          go_upto_region 18 with fail
          clear hq
          have hbd : Below W2.heap.size W2 (W2.drewN (nq + 1)) := below_drewN (Below.refl _ _) (nq + 1)
          have hk1' := hk1.keep hbd
          have HG2 := Lib.hid (show (W2.drewN (nq + 1)).heap[g]? = some (.cells cur'.toList.toArray 139 (0, 0)) from by unfold BlkAt at hk1'; simpa using hk1')
          have HSRC := Lib.hid (show ∀ j v, (wlf X (k + 1) (n - (k + 1)))[j]? = some v → (W2.drewN (nq + 1)).cell? ((⟨b1, o1 + (k + 1), none⟩ : Addr).add j) = some v from by
            intro j v hjv
            have hjn : j < n - (k + 1) := by
              have := (List.getElem?_eq_some_iff.1 hjv).1
              rwa [wlf_len] at this
            rw [wlf_get hjn] at hjv
            rw [← hjv, Addr.add_lit, show o1 + (k + 1) + j = o1 + (k + 1 + j) from by omega]
            exact cell_keep (HR2.out.read HG.out (H1.out (k + 1 + j) (by omega)) (.inl hne) (by omega)) hbd)
          have HB2 := Lib.hid (((HR2.out.toB hBg hBw).below).trans (hbd.mono (Nat.le_trans hBw HR2.out.upd.size)))
          have HT := Lib.hid (show o + (k + 1) + (wlf X (k + 1) (n - (k + 1))).length ≤ cur'.toList.length from by rw [wlf_len]; simp; omega)
          have HL := Lib.hid (wlf_len X (k + 1) (n - (k + 1)))
          have s1 : IntKind.i64.wrap ((k : Int) + 1) = (k : Int) + 1 := IntWalk.i64_in _ (by omega)
          have s2 : (0 : Int) ≤ (k : Int) + 1 := by omega
          have s3 : (k : Int) + 1 ≤ n := by omega
          have s4 : ((k : Int) + 1).toNat = k + 1 := by omega
          clear hbd hk1'
          go_region_law (refine step_copy_splice rfl (.tmp 69) (.tmp 73) 138 138 rfl 139 Tryz.underlying138 infoWordSize (if c0 = k + 1 then some ⟨g, o, none⟩ else some ⟨g, o + (k + 1), none⟩) (if c1 = k + 1 then some ⟨b1, o1, none⟩ else some ⟨b1, o1 + (k + 1), none⟩) (n - (k + 1)) (c0 - (k + 1)) (n - (k + 1)) (c1 - (k + 1)) (by simp [Act.eval, Act.put]) (by simp [Act.eval, Act.put]) g (o + (k + 1)) cur'.toList 139 HG2.out (wlf X (k + 1) (n - (k + 1))) (by rw [HL.out]; exact (Nat.min_self _).symm) (fun h0 => by rw [HL.out] at h0; exact ⟨if_neg (by omega), ⟨b1, o1 + (k + 1), none⟩, if_neg (by omega), HSRC.out⟩) HT.out (wlf_one _ _ _) B w HB2.out hBg ?_; intro w4 hg4 hb4)
          all_goals go_wp2
          all_goals
            go_ret
            refine ⟨ret_u64 ?_, rowB_spliced (k := k + 1) (by omega) hk2 (by omega) hk3 hk4 hg4 hb4 (fun i hi _ => addw_same W64_pos HF2.out hi)⟩
            exact (addw_none W64_pos HF2.out (by omega)).symm
      · obtain rfl : k = n := by omega
        go_wp2
        go_ret
        exact ⟨ret_u64 HCA.out.symm, hR.toB hBg hBw⟩
end Go.Proofs.YtececkbcinmmpaaGreatDoor
namespace Go.Bg
open Go.RowKit Dg
theorem NumAt.wcells {w : World} {b o n c N : Nat} (h : NumAt .u64 W64 w (some ⟨b, o, none⟩) n c N) {k m : Nat} (hk : k + m ≤ n) : WCells w b (o + k) m (dg W64 (N / W64 ^ k)) := by
  intro i hi
  have := h.cell (i := k + i) (by omega)
  rw [dg_div, ← this]
  congr 2
  omega
theorem NumAt.wcells0 {w : World} {b o n c N : Nat} (h : NumAt .u64 W64 w (some ⟨b, o, none⟩) n c N) {m : Nat} (hk : m ≤ n) : WCells w b o m (dg W64 N) := by
  intro i hi
  exact h.cell (i := i) (by omega)
theorem below_drew' (w : World) (B : Nat) : Below B w w.drew := (Below.refl _ _).drew
theorem add_high {N1 N2 n m : Nat} (h1 : N1 < W64 ^ m) (h2 : N2 < W64 ^ n) (hnm : n ≤ m) :
    (N1 + N2) / W64 ^ n = N1 / W64 ^ n + (N1 % W64 ^ n + N2 % W64 ^ n) / W64 ^ n ∧
    dg W64 (N1 + N2) m = (N1 / W64 ^ n % W64 ^ (m - n) + (N1 % W64 ^ n + N2 % W64 ^ n) / W64 ^ n) / W64 ^ (m - n) := by
  have e2 : N2 % W64 ^ n = N2 := Nat.mod_eq_of_lt h2
  have hc := add_carry_le W64_pos N1 N2 n
  rw [e2] at hc ⊢
  have e1 := addw_div W64_pos N1 N2 n
  refine ⟨e1, ?_⟩
  obtain ⟨d, rfl⟩ : ∃ d, m = n + d := ⟨m - n, by omega⟩
  rw [show n + d - n = d from by omega]
  have hX : N1 / W64 ^ n < W64 ^ d := (Nat.div_lt_iff_lt_mul (Nat.pow_pos W64_pos)).2 (by rw [Nat.mul_comm, ← Nat.pow_add]; exact h1)
  rw [Nat.mod_eq_of_lt hX, dg, Nat.pow_add, ← Nat.div_div_eq_div_mul, e1]
  refine Nat.mod_eq_of_lt ((Nat.div_lt_iff_lt_mul (Nat.pow_pos W64_pos)).2 ?_)
  have hp : 0 < W64 ^ d := Nat.pow_pos W64_pos
  have : 2 * W64 ^ d ≤ W64 * W64 ^ d := Nat.mul_le_mul_right _ (by unfold W64; omega)
  omega
theorem add_fits {N1 N2 n m : Nat} (h1 : N1 < W64 ^ m) (h2 : N2 < W64 ^ n) (hnm : n ≤ m) : N1 + N2 < W64 ^ (m + 1) := by
  have h3 : W64 ^ n ≤ W64 ^ m := Nat.pow_le_pow_right W64_pos hnm
  have : 2 * W64 ^ m ≤ W64 * W64 ^ m := Nat.mul_le_mul_right _ (by unfold W64; omega)
  rw [Nat.pow_succ, Nat.mul_comm]
  omega
theorem bigN_row {T : TypeId} {w : World} {g c N m : Nat} {cur : Array Value} (hb : BlkAt w g cur T) (hs : cur.size = c) (hd : ∀ i, i < m → cur[i]? = some (.int .u64 (dg W64 N i : Nat))) (hm : m ≤ c) (hc : c ≤ maxLen) (hN : N < W64 ^ m) :
    Cells w (some ⟨g, 0, none⟩) m (fun i => .int .u64 (dg W64 N i : Nat)) ∧ BigN T w (some ⟨g, 0, none⟩) (tlen (dg W64 N) m) c N := by
  have hcl : Cells w (some ⟨g, 0, none⟩) m (fun i => .int .u64 (dg W64 N i : Nat)) := fun _ => ⟨g, 0, rfl, fun i hi => by
    rw [Nat.zero_add, hb.cell]; exact hd i hi⟩
  have h := bigN_of_words (T := T) (w := w) (f := dg W64 N) (fun i _ => dg_lt W64_pos _ _) hm hc hcl (.inr ⟨g, cur, rfl, hb, hs⟩)
  rw [val_dg, Nat.mod_eq_of_lt hN] at h
  exact ⟨hcl, h⟩
end Go.Bg
