/-
  Shifts by words, plain.
  Bits by words, plain.
  nat.and into nothing.
  Shifts of words: lshVU, rshVU.
  i64toi: the words' slice is as long as its room.
-/
import Derived.Test.YtdkipndepkblhaaGreatDoorBuO
import Derived.Test.YtdkipndepkblhaaGreatDoorBuA
import Derived.Test.YtdkipndepkblhaaGreatDoorBuP
import Derived.Laws.BitsAllLaws
import Derived.Test.YtdkipndepkblhaaGreatDoorBuF
set_option linter.unusedSimpArgs false
set_option linter.unusedVariables false
namespace Go.Bg
open Go.RowKit Dg

theorem w64_split {s t : Nat} (h : s + t = 64) : W64 = 2 ^ s * 2 ^ t := by rw [← Nat.pow_add, h]; rfl
theorem div_right (a b c : Nat) : a / b / c = a / c / b := by rw [Nat.div_div_eq_div_mul, Nat.div_div_eq_div_mul, Nat.mul_comm]
theorem shl_mod {s t : Nat} (h : s + t = 64) (x : Nat) : x * 2 ^ s % W64 = (x % 2 ^ t) * 2 ^ s := by
  rw [w64_split h, Nat.mul_comm x, Nat.mul_mod_mul_left, Nat.mul_comm]
theorem or_add {s b : Nat} (hb : b < 2 ^ s) (a : Nat) : (a * 2 ^ s) ||| b = a * 2 ^ s + b := by
  rw [← Nat.shiftLeft_eq, Nat.shiftLeft_add_eq_or_of_lt hb]
/-- a word out of two by a shift to the right -/
theorem half {s t : Nat} (h : s + t = 64) (m : Nat) : (m / 2 ^ t) % W64 = (((m / W64 % W64) * 2 ^ s) % W64) ||| ((m % W64) / 2 ^ t) := by
  have hW := w64_split h
  have ht : 0 < 2 ^ t := Nat.pow_pos (by decide)
  have hs : 0 < 2 ^ s := Nat.pow_pos (by decide)
  have h1 : m / 2 ^ t = (m / W64) * 2 ^ s + (m % W64) / 2 ^ t := by
    have e : m = 2 ^ t * ((m / W64) * 2 ^ s) + m % W64 := by
      have := Nat.div_add_mod m W64
      have h2 : W64 * (m / W64) = 2 ^ t * ((m / W64) * 2 ^ s) := by
        generalize m / W64 = q
        rw [hW, Nat.mul_comm (2 ^ s), Nat.mul_assoc, Nat.mul_comm (2 ^ s)]
      omega
    conv => lhs; rw [e]
    exact Nat.mul_add_div ht _ _
  have h2 : (m % W64) / 2 ^ t < 2 ^ s := by
    refine Nat.div_lt_of_lt_mul ?_
    rw [Nat.mul_comm, ← hW]
    exact Nat.mod_lt _ W64_pos
  rw [shl_mod h, or_add h2, h1]
  have h3 : (m / W64) * 2 ^ s % W64 = (m / W64 % W64 % 2 ^ t) * 2 ^ s := by
    rw [← shl_mod h, Nat.mod_mul_mod]
  have h4 : m / W64 % W64 % 2 ^ t < 2 ^ t := Nat.mod_lt _ ht
  have h5 : (m / W64 % W64 % 2 ^ t) * 2 ^ s + (m % W64) / 2 ^ t < W64 := by
    have : (m / W64 % W64 % 2 ^ t + 1) * 2 ^ s ≤ 2 ^ t * 2 ^ s := Nat.mul_le_mul_right _ h4
    rw [Nat.add_mul, Nat.one_mul] at this
    have e : W64 = 2 ^ t * 2 ^ s := by rw [hW, Nat.mul_comm]
    omega
  have h6 : (m % W64) / 2 ^ t < W64 := by omega
  rw [Nat.add_mod, h3, Nat.mod_eq_of_lt h6, Nat.mod_eq_of_lt h5]
/-- a digit of a number that is shifted to the right -/
theorem dg_shr {s t : Nat} (h : s + t = 64) (X i : Nat) : dg W64 (X / 2 ^ t) i = ((dg W64 X (i + 1) * 2 ^ s) % W64) ||| (dg W64 X i / 2 ^ t) := by
  have := half h (X / W64 ^ i)
  unfold dg
  rw [div_right, this, Nat.div_div_eq_div_mul, ← Nat.pow_succ]
/-- the top digit -/
theorem dg_shr_top {t n : Nat} {X : Nat} (hX : X < W64 ^ (n + 1)) : dg W64 (X / 2 ^ t) n = dg W64 X n / 2 ^ t := by
  have hp : 0 < W64 ^ n := Nat.pow_pos W64_pos
  have h1 : X / W64 ^ n < W64 := (Nat.div_lt_iff_lt_mul hp).2 (by rw [Nat.mul_comm, ← Nat.pow_succ]; exact hX)
  have h2 : X / W64 ^ n / 2 ^ t < W64 := Nat.lt_of_le_of_lt (Nat.div_le_self _ _) h1
  unfold dg
  rw [div_right, Nat.mod_eq_of_lt h1, Nat.mod_eq_of_lt h2]
/-- a digit of a number that is shifted to the left -/
theorem dg_shl {s t : Nat} (h : s + t = 64) (X i : Nat) : dg W64 (X * 2 ^ s) (i + 1) = ((dg W64 X (i + 1) * 2 ^ s) % W64) ||| (dg W64 X i / 2 ^ t) := by
  rw [← dg_shr h]
  unfold dg
  congr 1
  have e : W64 ^ (i + 1) = 2 ^ s * (2 ^ t * W64 ^ i) := by
    rw [Nat.pow_succ, Nat.mul_comm, w64_split h, Nat.mul_assoc]
  rw [e, Nat.mul_comm X, Nat.mul_div_mul_left _ _ (Nat.pow_pos (by decide)), Nat.div_div_eq_div_mul]
theorem dg_shl0 {s t : Nat} (h : s + t = 64) (X : Nat) : dg W64 (X * 2 ^ s) 0 = (dg W64 X 0 * 2 ^ s) % W64 := by
  unfold dg
  rw [Nat.pow_zero, Nat.div_one, Nat.div_one, Nat.mod_mul_mod]
/-- what is shifted out -/
theorem shl_out {s t n : Nat} (h : s + t = 64) {X : Nat} (hX : X < W64 ^ (n + 1)) : X * 2 ^ s / W64 ^ (n + 1) = dg W64 X n / 2 ^ t := by
  have e : W64 ^ (n + 1) = 2 ^ s * (2 ^ t * W64 ^ n) := by
    rw [Nat.pow_succ, Nat.mul_comm, w64_split h, Nat.mul_assoc]
  have hp : 0 < W64 ^ n := Nat.pow_pos W64_pos
  have h1 : X / W64 ^ n < W64 := (Nat.div_lt_iff_lt_mul hp).2 (by rw [Nat.mul_comm, ← Nat.pow_succ]; exact hX)
  rw [e, Nat.mul_comm X, Nat.mul_div_mul_left _ _ (Nat.pow_pos (by decide)), Nat.mul_comm, ← Nat.div_div_eq_div_mul]
  unfold dg
  rw [Nat.mod_eq_of_lt h1]

/-- words that are written from the top down -/
theorem RowUp.down {T : TypeId} {w w' : World} {g o k m : Nat} {cur : Array Value} {h : Nat → Nat} (r : RowUp T w w' g (o + (k + 1)) m cur (fun i => h (k + 1 + i))) (hk : o + k < cur.size) {x : Nat} (hx : x = h k) :
    RowUp T w (w'.setCell ⟨g, o + k, none⟩ (.int .u64 (x : Nat))) g (o + k) (m + 1) cur (fun i => h (k + i)) := by
  obtain ⟨cur', h1, h2, h3, h4⟩ := r.blk
  refine ⟨r.upd.setCell rfl _, _, h1.set (o + k) _, by simpa using h2, fun i hi => ?_, fun j hj => ?_⟩
  · rw [Array.getElem?_setIfInBounds]
    by_cases e : i = 0
    · subst e
      rw [if_pos (by omega), if_pos (by omega), hx]
      rfl
    · rw [if_neg (by omega)]
      have := h3 (i - 1) (by omega)
      rw [show o + (k + 1) + (i - 1) = o + k + i from by omega, show k + 1 + (i - 1) = k + i from by omega] at this
      exact this
  · rw [Array.getElem?_setIfInBounds, if_neg (by omega)]
    exact h4 j (by omega)
theorem RowUp.startAt {T : TypeId} {w : World} {g : Nat} {cur : Array Value} (hg : BlkAt w g cur T) (o : Nat) (h : Nat → Nat) : RowUp T w w g o 0 cur h := RowUp.start hg o h
/-- what is read outside the places that have turned -/
theorem RowUp.readOut {T : TypeId} {w w' : World} {g o k b p : Nat} {cur : Array Value} {h : Nat → Nat} (r : RowUp T w w' g o k cur h) (hg : BlkAt w g cur T) {v : Value} (hv : w.cell? ⟨b, p, none⟩ = some v) (hne : b ≠ g ∨ p < o ∨ o + k ≤ p) :
    w'.cell? ⟨b, p, none⟩ = some v := by
  by_cases e : b = g
  · subst e
    obtain ⟨cur', h1, h2, h3, h4⟩ := r.blk
    rw [h1.cell, h4 _ (by omega), ← hg.cell]; exact hv
  · rw [r.upd.cell (p := ⟨b, p, none⟩) (block_lt hv) e]; exact hv
end Go.Bg

set_option linter.unusedSimpArgs false
set_option linter.unusedVariables false
namespace Go.Bg
open Dg
theorem dg64 (N i : Nat) : dg W64 N i = (N >>> (64 * i)) % 2 ^ 64 := by
  unfold dg
  rw [Nat.shiftRight_eq_div_pow, Nat.pow_mul]
  rfl
theorem dg_and (N M i : Nat) : dg W64 (N &&& M) i = dg W64 N i &&& dg W64 M i := by
  rw [dg64, dg64, dg64, Nat.shiftRight_and_distrib, Nat.and_mod_two_pow]
theorem dg_or (N M i : Nat) : dg W64 (N ||| M) i = dg W64 N i ||| dg W64 M i := by
  rw [dg64, dg64, dg64, Nat.shiftRight_or_distrib, Nat.or_mod_two_pow]
theorem dg_xor (N M i : Nat) : dg W64 (N ^^^ M) i = dg W64 N i ^^^ dg W64 M i := by
  rw [dg64, dg64, dg64, Nat.shiftRight_xor_distrib, Nat.xor_mod_two_pow]
theorem and_lt {N M m n : Nat} (h1 : N < W64 ^ m) (h2 : M < W64 ^ n) (h : m ≤ n) : (N &&& M) < W64 ^ m := Nat.lt_of_le_of_lt Nat.and_le_left h1
theorem pow64 (m : Nat) : W64 ^ m = 2 ^ (64 * m) := by rw [Nat.pow_mul]; rfl
theorem or_lt {N M m n : Nat} (h1 : N < W64 ^ m) (h2 : M < W64 ^ n) (h : n ≤ m) : (N ||| M) < W64 ^ m := by
  have h3 : W64 ^ n ≤ W64 ^ m := Nat.pow_le_pow_right (by decide) h
  have h4 : M < W64 ^ m := Nat.lt_of_lt_of_le h2 h3
  rw [pow64] at h1 h4 ⊢
  exact Nat.or_lt_two_pow h1 h4
theorem xor_lt {N M m n : Nat} (h1 : N < W64 ^ m) (h2 : M < W64 ^ n) (h : n ≤ m) : (N ^^^ M) < W64 ^ m := by
  have h3 : W64 ^ n ≤ W64 ^ m := Nat.pow_le_pow_right (by decide) h
  have h4 : M < W64 ^ m := Nat.lt_of_lt_of_le h2 h3
  rw [pow64] at h1 h4 ⊢
  exact Nat.xor_lt_two_pow h1 h4
end Go.Bg

set_option linter.unusedSimpArgs false
set_option linter.unusedVariables false
namespace Go.Proofs.YtdkipndepkblhaaGreatDoor
open Go.RowKit Go.Bg Dg

theorem bits_and64 (a b : Nat) (ha : a < 18446744073709551616) (hb : b < 18446744073709551616) : bits .and .u64 (a : Int) (b : Int) = ((a &&& b : Nat) : Int) := by
  have hx : a &&& b < 18446744073709551616 := Nat.lt_of_le_of_lt Nat.and_le_left ha
  have h1 : (BitVec.ofInt 64 (a : Int)).toNat = a := by
    rw [BitVec.ofInt_natCast, BitVec.toNat_ofNat]; exact Nat.mod_eq_of_lt (by omega)
  have h2 : (BitVec.ofInt 64 (b : Int)).toNat = b := by
    rw [BitVec.ofInt_natCast, BitVec.toNat_ofNat]; exact Nat.mod_eq_of_lt (by omega)
  show IntKind.u64.wrap ((BitVec.ofInt 64 (a : Int) &&& BitVec.ofInt 64 (b : Int)).toNat : Int) = _
  rw [BitVec.toNat_and, h1, h2, IntKind.wrap_u64]
  omega

set_option maxRecDepth 100000 in
set_option maxHeartbeats 2000000 in
theorem natAnd_nil (a1 a2 : Option Addr) (n1 n2 c1 c2 N1 N2 : Nat) (w : World) (h1 : BigN 151 w a1 n1 c1 N1) (h2 : BigN 151 w a2 n2 c2 N2) (hb1 : n1 ≤ 900000) (hb2 : n2 ≤ 900000) :
    Calls Tryz.prog 137 #[.slice none 0 0, .slice a1 n1 c1, .slice a2 n2 c2] w (GivesN 151 (N1 &&& N2) w) := by
  have hm1 := h1.num.cm
  have hm2 := h2.num.cm
  have hc1 := h1.num.nc
  have hc2 := h2.num.nc
  unfold maxLen at hm1 hm2
  obtain ⟨m, hm⟩ : ∃ m, m = min n1 n2 := ⟨_, rfl⟩
  have HLT := Lib.hid (show (N1 &&& N2) < W64 ^ m from by
    rcases Nat.le_total n1 n2 with h | h
    · rw [hm, Nat.min_eq_left h]; exact Nat.lt_of_le_of_lt Nat.and_le_left h1.num.lt
    · rw [hm, Nat.min_eq_right h]; exact Nat.lt_of_le_of_lt Nat.and_le_right h2.num.lt)
  by_cases z0 : m = 0
  · have e0 : (N1 &&& N2) = 0 := by have := HLT.out; rw [z0] at this; simpa using this
    rw [e0]
    have HC := Lib.hid (fun (w : World) => (show Cells w none 0 (fun i => .int .u64 ((fun _ => 0 : Nat → Nat) i : Nat)) from fun h => absurd h (Nat.lt_irrefl _)))
    clear h1 h2
    by_cases hgt : n2 < n1
    · have hd : decide (n2 < n1) = true := by simpa using hgt
      obtain rfl : n2 = 0 := by omega
      go_enter Tryz.func137, Tryz.ntmps137
      go_wp2_with fail
      refine (make_nil 0 (by omega) _).mono ?_
      rintro e w1 (⟨-, rfl, hw⟩ | ⟨c, hc0, _⟩)
      case inr => omega
      have HBW := Lib.hid (show Below w.heap.size w w1 from by rw [hw]; exact Below.refl _ _)
      clear hw
      go_wp2
      go_loopw [9] (fun i wr => i = .int .i64 0 ∧ Below w.heap.size w wr) (fun _ _ => 0)
      case atStart => exact ⟨rfl, HBW.out⟩
      case round =>
        obtain ⟨rfl, hb⟩ := hrel
        have HB := Lib.hid hb
        clear hb
        go_wp2_with fail
        refine (norm_any none 0 0 (fun _ => 0) _ (by omega) (by omega) (by unfold maxLen; omega) (fun _ => rfl) (HC.out _)).mono ?_
        rintro e w2 ⟨rfl, rfl⟩
        go_wp2
        go_ret
        exact ⟨_, _, _, rfl, BigN.nil _ _, HB.out⟩
    · have hd : decide (n2 < n1) = false := by simpa using hgt
      obtain rfl : n1 = 0 := by omega
      go_enter Tryz.func137, Tryz.ntmps137
      go_wp2_with fail
      refine (make_nil 0 (by omega) _).mono ?_
      rintro e w1 (⟨-, rfl, hw⟩ | ⟨c, hc0, _⟩)
      case inr => omega
      have HBW := Lib.hid (show Below w.heap.size w w1 from by rw [hw]; exact Below.refl _ _)
      clear hw
      go_wp2
      go_loopw [9] (fun i wr => i = .int .i64 0 ∧ Below w.heap.size w wr) (fun _ _ => 0)
      case atStart => exact ⟨rfl, HBW.out⟩
      case round =>
        obtain ⟨rfl, hb⟩ := hrel
        have HB := Lib.hid hb
        clear hb
        go_wp2_with fail
        refine (norm_any none 0 0 (fun _ => 0) _ (by omega) (by omega) (by unfold maxLen; omega) (fun _ => rfl) (HC.out _)).mono ?_
        rintro e w2 ⟨rfl, rfl⟩
        go_wp2
        go_ret
        exact ⟨_, _, _, rfl, BigN.nil _ _, HB.out⟩
  · obtain ⟨b1, o1, rfl, hl1⟩ := h1.num.form (by omega)
    obtain ⟨b2, o2, rfl, hl2⟩ := h2.num.form (by omega)
    have HB1 := Lib.hid h1
    have HB2 := Lib.hid h2
    clear h1 h2
    by_cases hgt : n2 < n1
    · have hd : decide (n2 < n1) = true := by simpa using hgt
      obtain rfl : m = n2 := by omega
      have hz : ((m : Int) == 0) = false := by simpa using z0
      have hle : m ≤ n1 := by omega
      clear hm hgt
      go_enter Tryz.func137, Tryz.ntmps137
      go_wp2_with fail
      refine (make_nil m (by omega) _).mono ?_
      rintro e w1 (⟨h, _⟩ | ⟨c, hc0, hcn1, hcn2, rfl, hw⟩)
      case inl => omega
      have hb : BlkAt w1 w.heap.size (Array.replicate c (.int .u64 0)) 151 := by rw [hw]; exact BlkAt.new _ _ _
      have hbd : Below w.heap.size w w1 := by rw [hw]; exact (Below.refl _ _).alloc (Nat.le_refl _) _
      clear hw
      have HD1 := Lib.hid (HB1.out.num.keep hbd)
      have HD2 := Lib.hid (HB2.out.num.keep hbd)
      have hsz : (Array.replicate c (Value.int .u64 0)).size = c := by simp
      have HBK := Lib.hid hb
      have HBD := Lib.hid hbd
      clear hb hbd
      go_wp2
      go_loopw [9] (fun i wr => ∃ k : Nat, k ≤ m ∧ i = .int .i64 k ∧ RowUp 151 w1 wr w.heap.size 0 k (Array.replicate c (.int .u64 0)) (dg W64 (N1 &&& N2)))
        (fun i _ => m - (intOf i).toNat)
      case atStart => exact ⟨0, Nat.zero_le _, rfl, RowUp.start HBK.out _ _⟩
      case round =>
        obtain ⟨k, hk, rfl, hR⟩ := hrel
        by_cases k1 : k < m
        · have e1 := hR.read HBK.out (HD1.out.cell (i := k) (by omega)) (.inl (Nat.ne_of_lt hl1)) (Nat.le_refl _)
          have e2 := hR.read HBK.out (HD2.out.cell (i := k) (by omega)) (.inl (Nat.ne_of_lt hl2)) (Nat.le_refl _)
          have d1 : dg W64 N1 k < 18446744073709551616 := W64_lt (dg_lt W64_pos _ _)
          have d2 : dg W64 N2 k < 18446744073709551616 := W64_lt (dg_lt W64_pos _ _)
          have HE := Lib.hid (dg_and N1 N2 k)
          have HR := Lib.hid hR
          have hroom := hR.room (j := k) (by rw [hsz]; omega)
          obtain ⟨⟨u0, p0⟩, f0⟩ := hroom
          clear hR
          generalize dg W64 N1 k = x at *
          generalize dg W64 N2 k = y at *
          have hbt := bits_and64 x y d1 d2
          have kl1 : (k : Int) < n1 := by omega
          have kl2 : (k : Int) < m := by omega
          go_upto_region 9 with fail
          go_region
          all_goals
            go_wp2
            try rw [hbt]
            go_roundw
            case rel => exact ⟨k + 1, by omega, by go_num, by have := ((HR.out.step (x := x &&& y) (by rw [hsz]; omega) HE.out.symm).drewN 1); rw [Nat.zero_add] at this; exact this⟩
            case measure => simp [intOf]; omega
        · obtain rfl : k = m := by omega
          have HRB := Lib.hid (hR.toB (B := w.heap.size) (Nat.le_refl _) HBD.out.size)
          obtain ⟨cur3, hk1, hk2, hk3, hk4⟩ := hR.blk
          obtain ⟨hcl, hbn⟩ := bigN_row (c := c) (m := k) hk1 (by rw [hk2, hsz]) (fun i hi => by have := hk3 i hi; simpa using this) hcn1 (by unfold maxLen; omega) HLT.out
          have HCL := Lib.hid hcl
          have HBN := Lib.hid hbn
          clear hk1 hk2 hk3 hk4 hcl hbn hR hsz
          go_wp2_with fail
          refine (norm_any (some ⟨w.heap.size, 0, none⟩) k c (dg W64 (N1 &&& N2)) _ (by omega) (by omega) (by unfold maxLen; omega) (by simp) HCL.out).mono ?_
          rintro e w4 ⟨rfl, rfl⟩
          go_wp2
          go_ret
          exact ⟨_, _, _, rfl, HBN.out, HBD.out.trans HRB.out.below⟩
    · have hd : decide (n2 < n1) = false := by simpa using hgt
      obtain rfl : m = n1 := by omega
      have hz : ((m : Int) == 0) = false := by simpa using z0
      have hle : m ≤ n2 := by omega
      clear hm hgt
      go_enter Tryz.func137, Tryz.ntmps137
      go_wp2_with fail
      refine (make_nil m (by omega) _).mono ?_
      rintro e w1 (⟨h, _⟩ | ⟨c, hc0, hcn1, hcn2, rfl, hw⟩)
      case inl => omega
      have hb : BlkAt w1 w.heap.size (Array.replicate c (.int .u64 0)) 151 := by rw [hw]; exact BlkAt.new _ _ _
      have hbd : Below w.heap.size w w1 := by rw [hw]; exact (Below.refl _ _).alloc (Nat.le_refl _) _
      clear hw
      have HD1 := Lib.hid (HB1.out.num.keep hbd)
      have HD2 := Lib.hid (HB2.out.num.keep hbd)
      have hsz : (Array.replicate c (Value.int .u64 0)).size = c := by simp
      have HBK := Lib.hid hb
      have HBD := Lib.hid hbd
      clear hb hbd
      go_wp2
      go_loopw [9] (fun i wr => ∃ k : Nat, k ≤ m ∧ i = .int .i64 k ∧ RowUp 151 w1 wr w.heap.size 0 k (Array.replicate c (.int .u64 0)) (dg W64 (N1 &&& N2)))
        (fun i _ => m - (intOf i).toNat)
      case atStart => exact ⟨0, Nat.zero_le _, rfl, RowUp.start HBK.out _ _⟩
      case round =>
        obtain ⟨k, hk, rfl, hR⟩ := hrel
        by_cases k1 : k < m
        · have e1 := hR.read HBK.out (HD1.out.cell (i := k) (by omega)) (.inl (Nat.ne_of_lt hl1)) (Nat.le_refl _)
          have e2 := hR.read HBK.out (HD2.out.cell (i := k) (by omega)) (.inl (Nat.ne_of_lt hl2)) (Nat.le_refl _)
          have d1 : dg W64 N1 k < 18446744073709551616 := W64_lt (dg_lt W64_pos _ _)
          have d2 : dg W64 N2 k < 18446744073709551616 := W64_lt (dg_lt W64_pos _ _)
          have HE := Lib.hid (dg_and N1 N2 k)
          have HR := Lib.hid hR
          have hroom := hR.room (j := k) (by rw [hsz]; omega)
          obtain ⟨⟨u0, p0⟩, f0⟩ := hroom
          clear hR
          generalize dg W64 N1 k = x at *
          generalize dg W64 N2 k = y at *
          have hbt := bits_and64 x y d1 d2
          have kl1 : (k : Int) < m := by omega
          have kl2 : (k : Int) < n2 := by omega
          go_upto_region 9 with fail
          go_region
          all_goals
            go_wp2
            try rw [hbt]
            go_roundw
            case rel => exact ⟨k + 1, by omega, by go_num, by have := ((HR.out.step (x := x &&& y) (by rw [hsz]; omega) HE.out.symm).drewN 1); rw [Nat.zero_add] at this; exact this⟩
            case measure => simp [intOf]; omega
        · obtain rfl : k = m := by omega
          have HRB := Lib.hid (hR.toB (B := w.heap.size) (Nat.le_refl _) HBD.out.size)
          obtain ⟨cur3, hk1, hk2, hk3, hk4⟩ := hR.blk
          obtain ⟨hcl, hbn⟩ := bigN_row (c := c) (m := k) hk1 (by rw [hk2, hsz]) (fun i hi => by have := hk3 i hi; simpa using this) hcn1 (by unfold maxLen; omega) HLT.out
          have HCL := Lib.hid hcl
          have HBN := Lib.hid hbn
          clear hk1 hk2 hk3 hk4 hcl hbn hR hsz
          go_wp2_with fail
          refine (norm_any (some ⟨w.heap.size, 0, none⟩) k c (dg W64 (N1 &&& N2)) _ (by omega) (by omega) (by unfold maxLen; omega) (by simp) HCL.out).mono ?_
          rintro e w4 ⟨rfl, rfl⟩
          go_wp2
          go_ret
          exact ⟨_, _, _, rfl, HBN.out, HBD.out.trans HRB.out.below⟩
end Go.Proofs.YtdkipndepkblhaaGreatDoor

set_option linter.unusedSimpArgs false
set_option linter.unusedVariables false
namespace Go.Proofs.YtdkipndepkblhaaGreatDoor
open Go.RowKit Go.Bg Dg

theorem bits_and63 (s : Nat) (hs : s < 64) : bits .and .u64 (s : Int) 63 = (s : Int) := by
  have h := bits_and64 s 63 (by omega) (by omega)
  have h2 : s &&& 63 = s := by
    have := Nat.and_two_pow_sub_one_eq_mod s 6
    simp at this
    rw [this]; omega
  rw [h2] at h
  exact h

theorem wrap_shl (x s : Nat) : IntKind.u64.wrap ((x : Int) * 2 ^ s) = ((x * 2 ^ s % W64 : Nat) : Int) := by
  rw [IntKind.wrap_u64]
  unfold W64
  simp

theorem bits_orS (x y s t : Nat) (hy : y < W64) : bits .or .u64 (IntKind.u64.wrap ((x : Int) * 2 ^ s)) ((y : Int) / 2 ^ t) = (((x * 2 ^ s % W64) ||| (y / 2 ^ t) : Nat) : Int) := by
  have h1 : x * 2 ^ s % W64 < W64 := Nat.mod_lt _ W64_pos
  have h2 : y / 2 ^ t < W64 := Nat.lt_of_le_of_lt (Nat.div_le_self _ _) hy
  have h3 : ((y : Int) / 2 ^ t) = ((y / 2 ^ t : Nat) : Int) := by simp
  rw [wrap_shl, h3]
  generalize x * 2 ^ s % W64 = a at *
  generalize y / 2 ^ t = b at *
  unfold W64 at h1 h2
  have hx : a ||| b < 2 ^ 64 := Nat.or_lt_two_pow (by omega) (by omega)
  have k1 : (BitVec.ofInt 64 (a : Int)).toNat = a := by
    rw [BitVec.ofInt_natCast, BitVec.toNat_ofNat]; exact Nat.mod_eq_of_lt (by omega)
  have k2 : (BitVec.ofInt 64 (b : Int)).toNat = b := by
    rw [BitVec.ofInt_natCast, BitVec.toNat_ofNat]; exact Nat.mod_eq_of_lt (by omega)
  show IntKind.u64.wrap ((BitVec.ofInt 64 (a : Int) ||| BitVec.ofInt 64 (b : Int)).toNat : Int) = _
  rw [BitVec.toNat_or, k1, k2, IntKind.wrap_u64]
  omega

theorem bits_orS' (x y s t : Nat) (hy : y < W64) : bits .or .u64 ((y : Int) / 2 ^ t) (IntKind.u64.wrap ((x : Int) * 2 ^ s)) = (((x * 2 ^ s % W64) ||| (y / 2 ^ t) : Nat) : Int) := by
  rw [← bits_orS x y s t hy]
  show IntKind.u64.wrap ((BitVec.ofInt 64 _ ||| BitVec.ofInt 64 _).toNat : Int) = IntKind.u64.wrap ((BitVec.ofInt 64 _ ||| BitVec.ofInt 64 _).toNat : Int)
  rw [BitVec.or_comm]

set_option maxRecDepth 100000 in
set_option maxHeartbeats 2000000 in
theorem lshVUg_any (g o n c0 b1 o1 c1 : Nat) (cur : Array Value) (X s t : Nat) (w : World) (hg : BlkAt w g cur 151) (hn : n ≤ 1000000) (hn0 : 0 < n) (hr : o + n ≤ cur.size) (h0 : n ≤ c0) (h0m : c0 ≤ maxLen)
    (h1 : WCells w b1 o1 n (dg W64 X)) (h1c : n ≤ c1) (h1m : c1 ≤ maxLen) (hn1 : b1 ≠ g ∨ o1 ≤ o) (hst : s + t = 64) (hs0 : 0 < s) (ht0 : 0 < t) :
    Calls Tryz.prog 243 #[.slice (some ⟨g, o, none⟩) n c0, .slice (some ⟨b1, o1, none⟩) n c1, .int .u64 s] w
      (VecIs g o n cur (dg W64 (X * 2 ^ s)) (dg W64 X (n - 1) / 2 ^ t) w) := by
  unfold maxLen at h0m h1m
  have hz : ((s : Int) == 0) = false := by simp; omega
  have hzn : ((n : Int) == 0) = false := by simp; omega
  have hand := bits_and63 s (by omega)
  have hand2 := bits_and63 t (by omega)
  have hsub : (64 : Int) - s = t := by omega
  have e0 : w.cell? ⟨b1, o1 + (n - 1), none⟩ = some (.int .u64 (dg W64 X (n - 1) : Nat)) := h1 (n - 1) (by omega)
  have d0 : dg W64 X (n - 1) < 18446744073709551616 := W64_lt (dg_lt W64_pos _ _)
  have HG := Lib.hid hg
  have H1 := Lib.hid h1
  clear hg h1
  generalize dg W64 X (n - 1) = top at *
  have htn : ((n : Int) - 1).toNat = n - 1 := by omega
  go_enter Tryz.func243, Tryz.ntmps243
  go_wp2
  go_loopw [8] (fun i wr => ∃ k m : Nat, k + 1 + m = n ∧ i = .int .i64 k ∧ RowUp 151 w wr g (o + (k + 1)) m cur (fun j => dg W64 (X * 2 ^ s) (k + 1 + j)))
    (fun i _ => (intOf i).toNat)
  case atStart => exact ⟨n - 1, 0, by omega, congrArg _ (by omega), RowUp.start HG.out _ _⟩
  case round =>
    obtain ⟨k, m, hkm, rfl, hR⟩ := hrel
    have a1 : k < n := by omega
    have e1 := hR.readOut HG.out (H1.out k a1) (by omega)
    have d1 : dg W64 X k < 18446744073709551616 := W64_lt (dg_lt W64_pos _ _)
    have hroom := hR.room (j := o + k) (by omega)
    obtain ⟨⟨u0, p0⟩, f0⟩ := hroom
    have HR := Lib.hid hR
    by_cases k0 : 0 < k
    · obtain ⟨q, rfl⟩ : ∃ q, k = q + 1 := ⟨k - 1, by omega⟩
      have e2 := hR.readOut HG.out (H1.out q (by omega)) (by omega)
      have d2 : dg W64 X q < 18446744073709551616 := W64_lt (dg_lt W64_pos _ _)
      have HE := Lib.hid (dg_shl hst X q)
      clear hR
      generalize dg W64 X (q + 1) = x at *
      generalize dg W64 X q = y at *
      have hbt := bits_orS x y s t (by unfold W64; exact d2)
      have hq1 : ((q + 1 : Nat) : Int) - 1 = q := by omega
      have kl1 : ((q + 1 : Nat) : Int) < n := by omega
      have kl2 : (q : Int) < n := by omega
      go_upto_region 13 with fail
      go_region
      all_goals
        go_wp2
        try rw [hbt]
        go_roundw
        case rel => exact ⟨q, m + 1, by omega, rfl, (HR.out.down (h := dg W64 (X * 2 ^ s)) (k := q + 1) (by omega) HE.out.symm).drewN 1⟩
        case measure => simp [intOf]
    · obtain rfl : k = 0 := by omega
      clear hR
      have HE := Lib.hid (dg_shl0 hst X)
      generalize dg W64 X 0 = x at *
      simp only [Nat.add_zero] at e1 p0 f0
      have HW := Lib.hid (wrap_shl x s)
      have HF := Lib.hid (HR.out.down (h := dg W64 (X * 2 ^ s)) (by omega) HE.out.symm)
      go_wp2
      rw [HW.out]
      go_ret
      refine ⟨ret_int (by simp), ?_⟩
      have h := HF.out
      rw [Nat.add_zero, show m + 1 = n from by omega] at h
      simpa using h

set_option maxRecDepth 100000 in
set_option maxHeartbeats 1000000 in
theorem lshVU_any (g o n c0 b1 o1 c1 : Nat) (cur : Array Value) (X s t : Nat) (w : World) (hg : BlkAt w g cur 151) (hn : n ≤ 1000000) (hn0 : 0 < n) (hr : o + n ≤ cur.size) (h0 : n ≤ c0) (h0m : c0 ≤ maxLen)
    (h1 : WCells w b1 o1 n (dg W64 X)) (h1c : n ≤ c1) (h1m : c1 ≤ maxLen) (hn1 : b1 ≠ g ∨ o1 ≤ o) (hst : s + t = 64) (hs0 : 0 < s) (ht0 : 0 < t) :
    Calls Tryz.prog 209 #[.slice (some ⟨g, o, none⟩) n c0, .slice (some ⟨b1, o1, none⟩) n c1, .int .u64 s] w
      (VecIs g o n cur (dg W64 (X * 2 ^ s)) (dg W64 X (n - 1) / 2 ^ t) w) := by
  have HS := Lib.hid (lshVUg_any g o n c0 b1 o1 c1 cur X s t w hg hn hn0 hr h0 h0m h1 h1c h1m hn1 hst hs0 ht0)
  clear hg h1
  go_enter Tryz.func209, Tryz.ntmps209
  go_wp2_with fail
  refine HS.out.mono ?_
  rintro e w1 ⟨rfl, hR⟩
  have HR := Lib.hid hR
  clear hR
  go_wp2
  go_ret
  exact ⟨rfl, HR.out⟩

set_option maxRecDepth 100000 in
set_option maxHeartbeats 2000000 in
theorem rshVUg_any (g o n c0 b1 o1 c1 : Nat) (cur : Array Value) (X s t : Nat) (w : World) (hg : BlkAt w g cur 151) (hn : n ≤ 1000000) (hn0 : 0 < n) (hr : o + n ≤ cur.size) (h0 : n ≤ c0) (h0m : c0 ≤ maxLen)
    (h1 : WCells w b1 o1 n (dg W64 X)) (h1c : n ≤ c1) (h1m : c1 ≤ maxLen) (hn1 : b1 ≠ g ∨ o ≤ o1) (hst : s + t = 64) (hs0 : 0 < s) (ht0 : 0 < t) (hX : X < W64 ^ n) :
    Calls Tryz.prog 272 #[.slice (some ⟨g, o, none⟩) n c0, .slice (some ⟨b1, o1, none⟩) n c1, .int .u64 t] w
      (VecIs g o n cur (dg W64 (X / 2 ^ t)) (dg W64 X 0 * 2 ^ s % W64) w) := by
  unfold maxLen at h0m h1m
  have hz : ((t : Int) == 0) = false := by simp; omega
  have hzn : ((n : Int) == 0) = false := by simp; omega
  have hand := bits_and63 s (by omega)
  have hand2 := bits_and63 t (by omega)
  have hsub : (64 : Int) - t = s := by omega
  have e0 : w.cell? ⟨b1, o1, none⟩ = some (.int .u64 (dg W64 X 0 : Nat)) := by have := h1 0 hn0; rwa [Nat.add_zero] at this
  have d0 : dg W64 X 0 < 18446744073709551616 := W64_lt (dg_lt W64_pos _ _)
  have HG := Lib.hid hg
  have H1 := Lib.hid h1
  have HX := Lib.hid hX
  clear hg h1 hX
  have HW0 := Lib.hid (wrap_shl (dg W64 X 0) s)
  generalize dg W64 X 0 = low at *
  go_enter Tryz.func272, Tryz.ntmps272
  go_wp2
  go_loopw [8] (fun i wr => ∃ k : Nat, k + 1 ≤ n ∧ i = .int .i64 (k + 1 : Nat) ∧ RowUp 151 w wr g o k cur (dg W64 (X / 2 ^ t)))
    (fun i _ => n - (intOf i).toNat)
  case atStart => exact ⟨0, by omega, rfl, RowUp.start HG.out _ _⟩
  case round =>
    obtain ⟨k, hkm, rfl, hR⟩ := hrel
    have e1 := hR.read HG.out (H1.out k (by omega)) hn1 (Nat.le_refl _)
    have d1 : dg W64 X k < 18446744073709551616 := W64_lt (dg_lt W64_pos _ _)
    have hroom := hR.room (j := o + k) (by omega)
    obtain ⟨⟨u0, p0⟩, f0⟩ := hroom
    have HR := Lib.hid hR
    have hk1 : ((k + 1 : Nat) : Int) - 1 = k := by omega
    by_cases k0 : k + 1 < n
    · have e2 := hR.read HG.out (H1.out (k + 1) k0) hn1 (Nat.le_succ _)
      have d2 : dg W64 X (k + 1) < 18446744073709551616 := W64_lt (dg_lt W64_pos _ _)
      have HE := Lib.hid (dg_shr hst X k)
      clear hR
      generalize dg W64 X (k + 1) = x at *
      generalize dg W64 X k = y at *
      have hbt := bits_orS' x y s t (by unfold W64; exact d1)
      have kl1 : ((k + 1 : Nat) : Int) < n := by omega
      have kl2 : (k : Int) < n := by omega
      go_upto_region 13 with fail
      go_region
      all_goals
        go_wp2
        try rw [hbt]
        go_roundw
        case rel => exact ⟨k + 1, by omega, by go_num, (HR.out.step (by omega) HE.out.symm).drewN 1⟩
        case measure => simp [intOf]; omega
    · obtain rfl : n = k + 1 := by omega
      clear hR
      have HE := Lib.hid (dg_shr_top (t := t) HX.out)
      generalize dg W64 X k = y at *
      have HF := Lib.hid (HR.out.step (x := y / 2 ^ t) (by omega) HE.out.symm)
      go_wp2
      rw [HW0.out]
      go_ret
      refine ⟨rfl, ?_⟩
      simpa using HF.out

set_option maxRecDepth 100000 in
set_option maxHeartbeats 1000000 in
theorem rshVU_any (g o n c0 b1 o1 c1 : Nat) (cur : Array Value) (X s t : Nat) (w : World) (hg : BlkAt w g cur 151) (hn : n ≤ 1000000) (hn0 : 0 < n) (hr : o + n ≤ cur.size) (h0 : n ≤ c0) (h0m : c0 ≤ maxLen)
    (h1 : WCells w b1 o1 n (dg W64 X)) (h1c : n ≤ c1) (h1m : c1 ≤ maxLen) (hn1 : b1 ≠ g ∨ o ≤ o1) (hst : s + t = 64) (hs0 : 0 < s) (ht0 : 0 < t) (hX : X < W64 ^ n) :
    Calls Tryz.prog 238 #[.slice (some ⟨g, o, none⟩) n c0, .slice (some ⟨b1, o1, none⟩) n c1, .int .u64 t] w
      (VecIs g o n cur (dg W64 (X / 2 ^ t)) (dg W64 X 0 * 2 ^ s % W64) w) := by
  have HS := Lib.hid (rshVUg_any g o n c0 b1 o1 c1 cur X s t w hg hn hn0 hr h0 h0m h1 h1c h1m hn1 hst hs0 ht0 hX)
  clear hg h1
  go_enter Tryz.func238, Tryz.ntmps238
  go_wp2_with fail
  refine HS.out.mono ?_
  rintro e w1 ⟨rfl, hR⟩
  have HR := Lib.hid hR
  clear hR
  go_wp2
  go_ret
  exact ⟨rfl, HR.out⟩
end Go.Proofs.YtdkipndepkblhaaGreatDoor

set_option linter.unusedSimpArgs false
set_option linter.unusedVariables false
namespace Go.Bg
open Go.RowKit Dg
/-- a new number, its slice as long as its room -/
def GivesNC (T : TypeId) (N : Nat) (w : World) (e : Ending) (w' : World) : Prop := ∃ a n c, e = .returned (.slice a n c) ∧ BigN T w' a n c N ∧ c ≤ n ∧ Below w.heap.size w w'
/-- the words' slice of the Int at b, o is as long as its room -/
def CapLe (w : World) (b o : Nat) : Prop := ∃ a n c, w.cell? ⟨b, o + 1, none⟩ = some (.slice a n c) ∧ c ≤ n
theorem CapLe.keep {w w' : World} {b o : Nat} (h : CapLe w b o) (hb : Below w.heap.size w w') : CapLe w' b o := by
  obtain ⟨a, n, c, h1, h2⟩ := h
  exact ⟨a, n, c, cell_keep h1 hb, h2⟩
end Go.Bg
namespace Go.Proofs.YtdkipndepkblhaaGreatDoor
open Go.RowKit Go.Bg Dg

set_option maxRecDepth 100000 in
set_option maxHeartbeats 1000000 in
theorem make_one (w : World) :
    Calls Tryz.prog 184 #[.slice none 0 0, .int .i64 1] w fun e w' => e = .returned (.slice (some ⟨w.heap.size, 0, none⟩) 1 1) ∧ w' = w.alloc (.cells (Array.replicate 1 (.int .u64 0)) 151) := by
  have hmk : ∀ w : World, (Instr.makeSlice 141 (.int .i64 1) (.int .i64 1)).run Tryz.prog w = .ok (.slice (some ⟨w.heap.size, 0, none⟩) 1 1) (w.alloc (.cells (Array.replicate 1 (.int .u64 0)) 151)) :=
    run_make_nat 141 151 Tryz.underlying141 infoWord 1 1 (Nat.le_refl _) (by omega)
  go_enter Tryz.func184, Tryz.ntmps184
  go_wp2
  go_ret
  exact ⟨rfl, rfl⟩

set_option maxRecDepth 100000 in
set_option maxHeartbeats 1000000 in
theorem setWord_cap (x : Nat) (hx : x < 18446744073709551616) (w : World) :
    Calls Tryz.prog 145 #[.slice none 0 0, .int .u64 x] w (GivesNC 151 x w) := by
  by_cases h0 : x = 0
  · subst h0
    go_enter Tryz.func145, Tryz.ntmps145
    go_wp2
    go_ret
    exact ⟨_, _, _, rfl, BigN.nil _ _, Nat.le_refl _, Below.refl _ _⟩
  · have hz : ((x : Int) == 0) = false := by simpa using h0
    go_enter Tryz.func145, Tryz.ntmps145
    go_wp2_with fail
    refine (make_one _).mono ?_
    rintro e w1 ⟨rfl, hw⟩
    have hb : BlkAt w1 w.heap.size (Array.replicate 1 (.int .u64 0)) 151 := by rw [hw]; exact BlkAt.new _ _ _
    have hB1 : Below w.heap.size w w1 := by rw [hw]; exact (Below.refl _ _).alloc (Nat.le_refl _) _
    have HN := Lib.hid (bigN_word hb (by omega) (by omega) hx (by omega))
    have HB := Lib.hid (hB1.setCell (p := ⟨w.heap.size, 0, none⟩) (Nat.le_refl _) (.int .u64 (x : Nat)))
    have c0 : w1.cell? ⟨w.heap.size, 0, none⟩ = some (.int .u64 0) := by rw [hb.cell, Array.getElem?_replicate, if_pos (by omega)]
    have f0 := hb.frozen 0
    clear hb hw hB1 hx
    go_wp2
    go_ret
    exact ⟨_, _, _, rfl, HN.out, Nat.le_refl _, HB.out⟩

set_option maxRecDepth 100000 in
set_option maxHeartbeats 1000000 in
theorem setUint64_cap (x : Nat) (hx : x < 18446744073709551616) (w : World) :
    Calls Tryz.prog 166 #[.slice none 0 0, .int .u64 x] w (GivesNC 151 x w) := by
  have HX := Lib.hid hx
  clear hx
  go_enter Tryz.func166, Tryz.ntmps166
  go_wp2_with fail
  refine (setWord_cap x HX.out _).mono ?_
  rintro e w1 ⟨a, n, c, rfl, hN, hC, hB⟩
  go_wp2
  go_ret
  exact ⟨_, _, _, rfl, hN, hC, hB⟩

theorem capLe_made {w1 : World} {b o : Nat} {a : Option Addr} {n c : Nat} {s : Bool} (hb : Strct 151 w1 b) (h1 : ∃ u, w1.cell? ⟨b, o + 1, none⟩ = some u) (hc : c ≤ n) :
    CapLe ((w1.setCell ⟨b, o + 1, none⟩ (.slice a n c)).setCell ⟨b, o, none⟩ (.bool s)) b o := by
  obtain ⟨u, hu⟩ := h1
  refine ⟨a, n, c, ?_, hc⟩
  rw [World.cell?_setCell_other _ _ _ _ (fun hh => by injection hh with _ hh _; omega)]
  exact World.cell?_setCell_same (u := u) _ _ _ hu

set_option maxRecDepth 100000 in
set_option maxHeartbeats 1000000 in
theorem setInt64_cap (b o : Nat) (x : Int) (hx : -9223372036854775808 ≤ x ∧ x < 9223372036854775808) (w : World) (h : NewInt w b o) :
    Calls Tryz.prog 118 #[.pointer (some ⟨b, o, none⟩), .int .i64 x] w (fun e w' => IntIs b o (decide (x < 0)) x.natAbs w e w' ∧ CapLe w' b o) := by
  have HH := Lib.hid h
  have h1 := h.c1
  by_cases hn : x < 0
  · have HX := Lib.hid (show IntKind.u64.wrap (wrap64 (-x)) = (x.natAbs : Int) from by rw [IntKind.wrap_u64]; unfold wrap64; omega)
    have HL := Lib.hid (show x.natAbs < 18446744073709551616 from by omega)
    have HD := Lib.hid (show 0 < x.natAbs from by omega)
    have hd : decide (x < 0) = true := by simpa using hn
    rw [hd]
    clear hd
    clear h hx
    go_enter Tryz.func118, Tryz.ntmps118
    go_wp2_with fail
    rw [HX.out]
    refine (setUint64_cap _ HL.out _).mono ?_
    rintro e w1 ⟨a, n, c, rfl, hN, hC, hB⟩
    have HF := Lib.hid (HH.out.made hB (s := true) hN (fun _ => HD.out))
    have h' := HH.out.keep hB
    obtain ⟨u0, k0⟩ := h'.c0
    have k1 := h'.c1
    have f0 := h'.blk.frozen o
    have f1 := h'.blk.frozen (o + 1)
    have k0' : ∀ v, (w1.setCell ⟨b, o + 1, none⟩ v).cell? ⟨b, o, none⟩ = some u0 := fun v => by
      rw [World.cell?_setCell_other _ _ _ _ (fun hh => by injection hh with _ hh _; omega)]; exact k0
    have HC := Lib.hid (capLe_made (a := a) h'.blk ⟨_, k1⟩ (s := true) hC)
    clear h' hN hB hC
    go_wp2
    go_ret
    exact ⟨HF.out, HC.out⟩
  · have HX := Lib.hid (show IntKind.u64.wrap x = (x.natAbs : Int) from by rw [IntKind.wrap_u64]; omega)
    have HL := Lib.hid (show x.natAbs < 18446744073709551616 from by omega)
    have hd : decide (x < 0) = false := by simpa using hn
    rw [hd]
    clear hd
    clear h hx
    go_enter Tryz.func118, Tryz.ntmps118
    go_wp2_with fail
    rw [HX.out]
    refine (setUint64_cap _ HL.out _).mono ?_
    rintro e w1 ⟨a, n, c, rfl, hN, hC, hB⟩
    have HF := Lib.hid (HH.out.made hB (s := false) hN (by simp))
    have h' := HH.out.keep hB
    obtain ⟨u0, k0⟩ := h'.c0
    have k1 := h'.c1
    have f0 := h'.blk.frozen o
    have f1 := h'.blk.frozen (o + 1)
    have k0' : ∀ v, (w1.setCell ⟨b, o + 1, none⟩ v).cell? ⟨b, o, none⟩ = some u0 := fun v => by
      rw [World.cell?_setCell_other _ _ _ _ (fun hh => by injection hh with _ hh _; omega)]; exact k0
    have HC := Lib.hid (capLe_made (a := a) h'.blk ⟨_, k1⟩ (s := false) hC)
    clear h' hN hB hC
    go_wp2
    go_ret
    exact ⟨HF.out, HC.out⟩

set_option maxRecDepth 100000 in
set_option maxHeartbeats 1000000 in
theorem i64toi_cap (x : Int) (hx : -9223372036854775808 ≤ x ∧ x < 9223372036854775808) (w : World) :
    Calls Tryz.prog 176 #[.int .i64 x] w fun e w' => ∃ b, e = .returned (.agg #[.pointer (some ⟨b, 0, none⟩)]) ∧ w.heap.size ≤ b ∧ BigAt 151 w' b 0 (decide (x < 0)) x.natAbs ∧ CapLe w' b 0 ∧ Below w.heap.size w w' := by
  have HX := Lib.hid hx
  clear hx
  go_enter Tryz.func176, Tryz.ntmps176
  go_wp2_with fail
  refine (newInt_any _).mono ?_
  rintro e w1 ⟨rfl, hw1⟩
  have hs1 : w1.heap.size = w.heap.size + 1 + 1 := by rw [hw1]; simp
  have hb1 : Below w.heap.size w w1 := by rw [hw1]; exact Below.alloc' (Below.alloc' (Below.refl _ _) _) _
  have hn1 : NewInt w1 (w.heap.size + 1) 0 := by rw [hw1]; simpa using newInt_is (w.alloc (.cells #[.pointer none] 93))
  have hl : BlkAt w1 w.heap.size #[.pointer none] 93 := by rw [hw1]; exact (BlkAt.new _ _ _).keep ((Below.refl _ _).alloc (Nat.le_refl _) _)
  have HW1 := Lib.hid hw1
  clear hw1
  go_wp2_with fail
  refine (setInt64_cap (w.heap.size + 1) 0 x HX.out _ hn1).mono ?_
  rintro e w2 ⟨⟨rfl, hI, hU⟩, hC⟩
  have hl2 := hU.upd.blk hl (Nat.ne_of_lt (Nat.lt_succ_self _))
  have HI := Lib.hid (hI.upd (Upd.set1 w2 w.heap.size 0 (.pointer (some ⟨w.heap.size + 1, 0, none⟩))) (Nat.ne_of_gt (Nat.lt_succ_self _)) (fun k _ e => by subst e; exact ⟨_, _, hl2, by decide⟩))
  have HB := Lib.hid ((hU.upd.below hb1 (by omega) (fun k _ e => by subst e; exact Nat.le_add_right _ 1)).setCell (p := ⟨w.heap.size, 0, none⟩) (Nat.le_refl _) (.pointer (some ⟨w.heap.size + 1, 0, none⟩)))
  have HC := Lib.hid (show CapLe (w2.setCell ⟨w.heap.size, 0, none⟩ (.pointer (some ⟨w.heap.size + 1, 0, none⟩))) (w.heap.size + 1) 0 from by
    obtain ⟨a, n, c, h1, h2⟩ := hC
    exact ⟨a, n, c, by rw [World.cell?_setCell_other _ _ _ _ (fun hh => by injection hh with hh _ _; omega)]; exact h1, h2⟩)
  have c0 := hl2.cell 0
  have f0 := hl2.frozen 0
  simp only [List.getElem?_toArray, List.getElem?_cons_zero] at c0
  clear hl hl2 hI hU hn1 hb1
  go_wp2
  exact bodyPost_ret (v := .agg #[.pointer (some ⟨w.heap.size + 1, 0, none⟩)]) (by simp [results, Tryz.results176, go_sem, c0]) rfl ⟨_, rfl, Nat.le_add_right _ 1, HI.out, HC.out, HB.out⟩
end Go.Proofs.YtdkipndepkblhaaGreatDoor
