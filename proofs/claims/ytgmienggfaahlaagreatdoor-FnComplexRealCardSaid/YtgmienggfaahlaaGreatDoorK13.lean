/-
  Contracts and lemmas: MulX DivP BitP BitA ShA Blen.
-/
import Derived.Test.YtgmienggfaahlaaGreatDoorK06
import Derived.Test.YtgmienggfaahlaaGreatDoorK12
import Derived.Test.YtgmienggfaahlaaGreatDoorK01
import Derived.Laws.BitsAllLaws
import Derived.Test.YtgmienggfaahlaaGreatDoorK05
import Derived.Test.YtgmienggfaahlaaGreatDoorK04
import Derived.Test.YtgmienggfaahlaaGreatDoorK07
set_option linter.unusedSimpArgs false
set_option linter.unusedVariables false
set_option maxRecDepth 100000
set_option maxHeartbeats 8000000
namespace Go.Proofs.YtgmienggfaahlaaGreatDoor
open Go.RowKit Go.Bg Dg
theorem mulAddVWWgx_any (g o n c0 b1 o1 c1 : Nat) (cur : Array Value) (X y r : Nat) (w : World) (hg : BlkAt w g cur 155) (hn : n ≤ 1000000) (hr : o + n ≤ cur.size) (h0 : n ≤ c0) (h0m : c0 ≤ maxLen)
    (h1 : WCells w b1 o1 n (dg W64 X)) (h1c : n ≤ c1) (h1m : c1 ≤ maxLen) (hn1 : b1 ≠ g ∨ o1 + n ≤ o) (hy : y < W64) (hrr : r < W64) :
    Calls Tryz.prog 296 #[.slice (some ⟨g, o, none⟩) n c0, .slice (some ⟨b1, o1, none⟩) n c1, .int .u64 y, .int .u64 r] w
      (VecIs g o n cur (dg W64 (X * y + r)) ((X % W64 ^ n * y + r) / W64 ^ n) w) := by
  unfold maxLen at h0m h1m
  have hy' : y < 18446744073709551616 := W64_lt hy
  have HG := Lib.hid hg
  have H1 := Lib.hid h1
  have HY := Lib.hid hy
  have HRR := Lib.hid hrr
  clear hg h1 hy hrr
  go_enter Tryz.func296, Tryz.ntmps296
  go_wp2
  go_loopw [8, 9, 19] (fun c _ i wr => ∃ k : Nat, k ≤ n ∧ i = .int .i64 k ∧ c = .int .u64 (((X % W64 ^ k * y + r) / W64 ^ k : Nat) : Int) ∧ RowUp 155 w wr g o k cur (dg W64 (X * y + r)))
    (fun _ _ i _ => n - (intOf i).toNat)
  case atStart => exact ⟨0, Nat.zero_le _, rfl, by simp [Nat.mod_one], RowUp.start HG.out _ _⟩
  case round =>
    obtain ⟨k, hk, rfl, rfl, hR⟩ := hrel
    by_cases k1 : k < n
    · have e1 := hR.readOut HG.out (H1.out k k1) (by rcases hn1 with h | h; exact .inl h; exact .inr (.inl (by omega)))
      have d1 : dg W64 X k < 18446744073709551616 := W64_lt (dg_lt W64_pos _ _)
      have hS := amul_step W64_pos 0 X y r k
      have hcl := amul_carry W64_pos 0 X k HY.out HRR.out
      have hz : dg W64 0 k = 0 := by simp [dg]
      rw [hz] at hS
      simp only [Nat.zero_mod, Nat.zero_add] at hS hcl
      have HS := Lib.hid hS
      have hcl' : (X % W64 ^ k * y + r) / W64 ^ k < 18446744073709551616 := hcl
      have HR := Lib.hid hR
      have hlt := hR.room (j := o + k) (by omega)
      obtain ⟨⟨u0, p0⟩, f0⟩ := hlt
      clear hR hS hcl hz
      generalize (X % W64 ^ k * y + r) / W64 ^ k = c at *
      generalize dg W64 X k = x at *
      have HE := Lib.hid (show (x * y + c) % 18446744073709551616 = dg W64 (X * y + r) k from HS.out.1.symm)
      have HF := Lib.hid (show (x * y + c) / 18446744073709551616 = (X % W64 ^ (k + 1) * y + r) / W64 ^ (k + 1) from HS.out.2.symm)
      have HM := Lib.hid (fun w => mulAddWWW_any x y c d1 hy' hcl' w)
      have hs1 : (x * y + c) % 18446744073709551616 < 18446744073709551616 := Nat.mod_lt _ (by decide)
      generalize (x * y + c) % 18446744073709551616 = s at *
      generalize (x * y + c) / 18446744073709551616 = d at *
      go_wp2_with fail
      refine (HM.out _).mono ?_
      rintro e w1 ⟨rfl, rfl⟩
      go_wp2
      go_roundw
      case rel => exact ⟨k + 1, by omega, by go_num, by rw [HF.out], HR.out.step (by omega) HE.out⟩
      case measure => simp [intOf]; omega
    · obtain rfl : k = n := by omega
      go_wp2
      go_ret
      exact ⟨rfl, hR⟩
theorem mulAddVWWx_any (g o n c0 b1 o1 c1 : Nat) (cur : Array Value) (X y r : Nat) (w : World) (hg : BlkAt w g cur 155) (hn : n ≤ 1000000) (hr : o + n ≤ cur.size) (h0 : n ≤ c0) (h0m : c0 ≤ maxLen)
    (h1 : WCells w b1 o1 n (dg W64 X)) (h1c : n ≤ c1) (h1m : c1 ≤ maxLen) (hn1 : b1 ≠ g ∨ o1 + n ≤ o) (hy : y < W64) (hrr : r < W64) :
    Calls Tryz.prog 267 #[.slice (some ⟨g, o, none⟩) n c0, .slice (some ⟨b1, o1, none⟩) n c1, .int .u64 y, .int .u64 r] w
      (VecIs g o n cur (dg W64 (X * y + r)) ((X % W64 ^ n * y + r) / W64 ^ n) w) := by
  have HS := Lib.hid (mulAddVWWgx_any g o n c0 b1 o1 c1 cur X y r w hg hn hr h0 h0m h1 h1c h1m hn1 hy hrr)
  clear hg h1 hy hrr
  go_enter Tryz.func267, Tryz.ntmps267
  go_wp2_with fail
  refine HS.out.mono ?_
  rintro e w1 ⟨rfl, hR⟩
  have HR := Lib.hid hR
  clear hR
  go_wp2
  go_ret
  exact ⟨rfl, HR.out⟩
end Go.Proofs.YtgmienggfaahlaaGreatDoor
namespace Go.Bg
open Go.RowKit Dg
structure Gs (y h l u v q r : Nat) : Prop where
  eq : q * h + r = u
  lo : (u * 4294967296 + v) / y ≤ q
  hi : q ≤ 4294967297
  lt : r < 4294967296
theorem Gs.start {y h l u v : Nat} (hy : y = h * 4294967296 + l) (hh : 2147483648 ≤ h) (hh2 : h < 4294967296) (hl : l < 4294967296) (hv : v < 4294967296) (hu : u < y) : Gs y h l u v (u / h) (u % h) := by
  have h0 : 0 < h := by omega
  refine ⟨by rw [Nat.mul_comm]; exact Nat.div_add_mod _ _, ?_, ?_, Nat.lt_trans (Nat.mod_lt _ h0) hh2⟩
  · have e1 : (u * 4294967296 + v) / (4294967296 * h) = u / h := by
      rw [← Nat.div_div_eq_div_mul]
      congr 1
      omega
    rw [← e1]
    exact Nat.div_le_div_left (by omega) (by omega)
  · have : u / h < 4294967298 := (Nat.div_lt_iff_lt_mul h0).2 (by omega)
    omega
theorem gs_top {y u v : Nat} (hv : v < 4294967296) (hu : u < y) : (u * 4294967296 + v) / y < 4294967296 :=
  (Nat.div_lt_iff_lt_mul (by omega)).2 (by omega)
theorem Gs.down {y h l u v q r : Nat} (g : Gs y h l u v q r) (hy : y = h * 4294967296 + l) (hv : v < 4294967296) (hu : u < y) (hg : 4294967296 ≤ q ∨ 4294967296 * r + v < q * l) :
    0 < q ∧ (u * 4294967296 + v) / y ≤ q - 1 := by
  have hlt := gs_top hv hu
  have hlo := g.lo
  have : (u * 4294967296 + v) / y < q := by
    rcases hg with h1 | h1
    · omega
    · refine (Nat.div_lt_iff_lt_mul (by omega)).2 ?_
      rw [hy, Nat.mul_add, ← Nat.mul_assoc]
      have := g.eq
      generalize q * h = a at *
      generalize q * l = b at *
      omega
  generalize (u * 4294967296 + v) / y = z at *
  omega
theorem Gs.next {y h l u v q r : Nat} (g : Gs y h l u v q r) (hy : y = h * 4294967296 + l) (hv : v < 4294967296) (hu : u < y) (hg : 4294967296 ≤ q ∨ 4294967296 * r + v < q * l) (hr : r + h < 4294967296) :
    Gs y h l u v (q - 1) (r + h) := by
  obtain ⟨h1, h2⟩ := g.down hy hv hu hg
  have := g.hi
  have e := g.eq
  refine ⟨?_, h2, by omega, hr⟩
  obtain ⟨p, rfl⟩ : ∃ p, q = p + 1 := ⟨q - 1, by omega⟩
  rw [Nat.add_mul, Nat.one_mul] at e
  rw [Nat.add_sub_cancel]
  omega
theorem Gs.broke {y h l u v q r : Nat} (g : Gs y h l u v q r) (hy : y = h * 4294967296 + l) (hl : l < 4294967296) (hv : v < 4294967296) (hu : u < y) (hg : 4294967296 ≤ q ∨ 4294967296 * r + v < q * l) (hr : 4294967296 ≤ r + h) :
    q - 1 = (u * 4294967296 + v) / y := by
  obtain ⟨h1, h2⟩ := g.down hy hv hu hg
  refine Nat.le_antisymm ((Nat.le_div_iff_mul_le (by omega)).2 ?_) h2
  have e := g.eq
  have hi := g.hi
  obtain ⟨p, rfl⟩ : ∃ p, q = p + 1 := ⟨q - 1, by omega⟩
  rw [Nat.add_sub_cancel, hy, Nat.mul_add, ← Nat.mul_assoc]
  rw [Nat.add_mul, Nat.one_mul] at e
  have hp : p * l ≤ 4294967296 * 4294967296 := Nat.mul_le_mul (by omega) (by omega)
  generalize p * h = a at *
  generalize p * l = b at *
  omega
theorem Gs.right {y h l u v q r : Nat} (g : Gs y h l u v q r) (hy : y = h * 4294967296 + l) (hh : 2147483648 ≤ h) (hg2 : ¬ 4294967296 * r + v < q * l) :
    q = (u * 4294967296 + v) / y := by
  refine Nat.le_antisymm ((Nat.le_div_iff_mul_le (by omega)).2 ?_) g.lo
  have e := g.eq
  rw [hy, Nat.mul_add, ← Nat.mul_assoc]
  generalize q * h = a at *
  generalize q * l = b at *
  omega
theorem halves {y a w : Nat} (h0 : 0 < y) : (a / y) * 4294967296 + ((a % y) * 4294967296 + w) / y = (a * 4294967296 + w) / y ∧ ((a % y) * 4294967296 + w) % y = (a * 4294967296 + w) % y := by
  have e : a * 4294967296 + w = y * (a / y * 4294967296) + (a % y * 4294967296 + w) := by
    have := Nat.div_add_mod a y
    have e2 : y * (a / y * 4294967296) = y * (a / y) * 4294967296 := (Nat.mul_assoc _ _ _).symm
    rw [e2]
    generalize y * (a / y) = z at *
    omega
  have h1 := Nat.mul_add_div h0 (a / y * 4294967296) (a % y * 4294967296 + w)
  have h2 := Nat.mul_add_mod y (a / y * 4294967296) (a % y * 4294967296 + w)
  rw [← e] at h1 h2
  exact ⟨h1.symm, h2.symm⟩
theorem div_norm {X y s t lo : Nat} (hst : s + t = 64) (h1 : X < y * W64) (h2 : X % W64 = lo) (hY : y * 2 ^ s < W64) :
    X / 2 ^ t % W64 < y * 2 ^ s ∧ (X / 2 ^ t % W64) * W64 + lo * 2 ^ s % W64 = X * 2 ^ s := by
  have e : X * 2 ^ s / W64 = X / 2 ^ t := by
    rw [w64_split hst, Nat.mul_comm X, Nat.mul_div_mul_left _ _ (Nat.pow_pos (by decide))]
  have hlt : X / 2 ^ t < y * 2 ^ s := by
    rw [← e, Nat.div_lt_iff_lt_mul W64_pos, Nat.mul_right_comm]
    exact Nat.mul_lt_mul_of_pos_right h1 (Nat.pow_pos (by decide))
  have e2 : lo * 2 ^ s % W64 = X * 2 ^ s % W64 := by rw [← h2, Nat.mod_mul_mod]
  rw [Nat.mod_eq_of_lt (Nat.lt_trans hlt hY), e2, ← e]
  refine ⟨by rw [e]; exact hlt, ?_⟩
  rw [Nat.mul_comm]
  exact Nat.div_add_mod _ _
theorem two_halves (u v z : Nat) : (u * 4294967296 + v) * 4294967296 + z = u * W64 + (v * 4294967296 + z) := by
  unfold W64; omega
theorem div_back {X y s u m v v' a b a2 bb Y : Nat} (hX : u * W64 + m = X * 2 ^ s) (hm : m = v * 4294967296 + v') (hY : Y = y * 2 ^ s) (h0 : 0 < Y)
    (ha : a = (u * 4294967296 + v) / Y) (hb : b = (u * 4294967296 + v) % Y) (ha2 : a2 = (b * 4294967296 + v') / Y) (hbb : bb = (b * 4294967296 + v') % Y) :
    a * 4294967296 + a2 = X / y ∧ bb / 2 ^ s = X % y := by
  obtain ⟨h1, h2⟩ := halves (y := Y) (a := u * 4294967296 + v) (w := v') h0
  have hp : 0 < 2 ^ s := Nat.pow_pos (by decide)
  rw [← ha, ← hb, ← ha2] at h1
  rw [← hb, ← hbb] at h2
  have e : (u * 4294967296 + v) * 4294967296 + v' = X * 2 ^ s := by
    rw [← hX, hm]; exact two_halves _ _ _
  rw [e, hY] at h1 h2
  rw [h1, h2, Nat.mul_div_mul_right _ _ hp, Nat.mul_mod_mul_right, Nat.mul_div_cancel _ hp]
  exact ⟨rfl, rfl⟩
end Go.Bg
namespace Go.Proofs.YtgmienggfaahlaaGreatDoor
open Go.RowKit Go.Bg Dg
theorem bits_and64 (a b : Nat) (ha : a < 18446744073709551616) (hb : b < 18446744073709551616) : bits .and .u64 (a : Int) (b : Int) = ((a &&& b : Nat) : Int) := by
  have hx : a &&& b < 18446744073709551616 := Nat.lt_of_le_of_lt Nat.and_le_left ha
  have h1 : (BitVec.ofInt 64 (a : Int)).toNat = a := by
    rw [BitVec.ofInt_natCast, BitVec.toNat_ofNat]; exact Nat.mod_eq_of_lt (by omega)
  have h2 : (BitVec.ofInt 64 (b : Int)).toNat = b := by
    rw [BitVec.ofInt_natCast, BitVec.toNat_ofNat]; exact Nat.mod_eq_of_lt (by omega)
  show IntKind.u64.wrap ((BitVec.ofInt 64 (a : Int) &&& BitVec.ofInt 64 (b : Int)).toNat : Int) = _
  rw [BitVec.toNat_and, h1, h2, IntKind.wrap_u64]
  omega
theorem bits_and63 (s : Nat) (hs : s < 64) : bits .and .u64 (s : Int) 63 = (s : Int) := by
  have h := bits_and64 s 63 (by omega) (by omega)
  have h2 : s &&& 63 = s := by
    have := Nat.and_two_pow_sub_one_eq_mod s 6
    simp at this
    rw [this]; omega
  rw [h2] at h
  exact h
theorem wrap_shl (x s : Nat) : IntKind.u64.wrap ((x : Int) * 2 ^ s) = ((x * 2 ^ s % W64 : Nat) : Int) := by
  rw [IntKind.wrap_u64]
  unfold W64
  simp
theorem bits_orS (x y s t : Nat) (hy : y < W64) : bits .or .u64 (IntKind.u64.wrap ((x : Int) * 2 ^ s)) ((y : Int) / 2 ^ t) = (((x * 2 ^ s % W64) ||| (y / 2 ^ t) : Nat) : Int) := by
  have h1 : x * 2 ^ s % W64 < W64 := Nat.mod_lt _ W64_pos
  have h2 : y / 2 ^ t < W64 := Nat.lt_of_le_of_lt (Nat.div_le_self _ _) hy
  have h3 : ((y : Int) / 2 ^ t) = ((y / 2 ^ t : Nat) : Int) := by simp
  rw [wrap_shl, h3]
  generalize x * 2 ^ s % W64 = a at *
  generalize y / 2 ^ t = b at *
  unfold W64 at h1 h2
  have hx : a ||| b < 2 ^ 64 := Nat.or_lt_two_pow (by omega) (by omega)
  have k1 : (BitVec.ofInt 64 (a : Int)).toNat = a := by
    rw [BitVec.ofInt_natCast, BitVec.toNat_ofNat]; exact Nat.mod_eq_of_lt (by omega)
  have k2 : (BitVec.ofInt 64 (b : Int)).toNat = b := by
    rw [BitVec.ofInt_natCast, BitVec.toNat_ofNat]; exact Nat.mod_eq_of_lt (by omega)
  show IntKind.u64.wrap ((BitVec.ofInt 64 (a : Int) ||| BitVec.ofInt 64 (b : Int)).toNat : Int) = _
  rw [BitVec.toNat_or, k1, k2, IntKind.wrap_u64]
  omega
theorem bits_orS' (x y s t : Nat) (hy : y < W64) : bits .or .u64 ((y : Int) / 2 ^ t) (IntKind.u64.wrap ((x : Int) * 2 ^ s)) = (((x * 2 ^ s % W64) ||| (y / 2 ^ t) : Nat) : Int) := by
  rw [← bits_orS x y s t hy]
  show IntKind.u64.wrap ((BitVec.ofInt 64 _ ||| BitVec.ofInt 64 _).toNat : Int) = IntKind.u64.wrap ((BitVec.ofInt 64 _ ||| BitVec.ofInt 64 _).toNat : Int)
  rw [BitVec.or_comm]
theorem lshVUg_any (g o n c0 b1 o1 c1 : Nat) (cur : Array Value) (X s t : Nat) (w : World) (hg : BlkAt w g cur 155) (hn : n ≤ 1000000) (hn0 : 0 < n) (hr : o + n ≤ cur.size) (h0 : n ≤ c0) (h0m : c0 ≤ maxLen)
    (h1 : WCells w b1 o1 n (dg W64 X)) (h1c : n ≤ c1) (h1m : c1 ≤ maxLen) (hn1 : b1 ≠ g ∨ o1 ≤ o) (hst : s + t = 64) (hs0 : 0 < s) (ht0 : 0 < t) :
    Calls Tryz.prog 260 #[.slice (some ⟨g, o, none⟩) n c0, .slice (some ⟨b1, o1, none⟩) n c1, .int .u64 s] w
      (VecIs g o n cur (dg W64 (X * 2 ^ s)) (dg W64 X (n - 1) / 2 ^ t) w) := by
  unfold maxLen at h0m h1m
  have hz : ((s : Int) == 0) = false := by simp; omega
  have hzn : ((n : Int) == 0) = false := by simp; omega
  have hand := bits_and63 s (by omega)
  have hand2 := bits_and63 t (by omega)
  have hsub : (64 : Int) - s = t := by omega
  have e0 : w.cell? ⟨b1, o1 + (n - 1), none⟩ = some (.int .u64 (dg W64 X (n - 1) : Nat)) := h1 (n - 1) (by omega)
  have d0 : dg W64 X (n - 1) < 18446744073709551616 := W64_lt (dg_lt W64_pos _ _)
  have HG := Lib.hid hg
  have H1 := Lib.hid h1
  clear hg h1
  generalize dg W64 X (n - 1) = top at *
  have htn : ((n : Int) - 1).toNat = n - 1 := by omega
  go_enter Tryz.func260, Tryz.ntmps260
  go_wp2
  go_loopw [8] (fun i wr => ∃ k m : Nat, k + 1 + m = n ∧ i = .int .i64 k ∧ RowUp 155 w wr g (o + (k + 1)) m cur (fun j => dg W64 (X * 2 ^ s) (k + 1 + j)))
    (fun i _ => (intOf i).toNat)
  case atStart => exact ⟨n - 1, 0, by omega, congrArg _ (by omega), RowUp.start HG.out _ _⟩
  case round =>
    obtain ⟨k, m, hkm, rfl, hR⟩ := hrel
    have a1 : k < n := by omega
    have e1 := hR.readOut HG.out (H1.out k a1) (by omega)
    have d1 : dg W64 X k < 18446744073709551616 := W64_lt (dg_lt W64_pos _ _)
    have hroom := hR.room (j := o + k) (by omega)
    obtain ⟨⟨u0, p0⟩, f0⟩ := hroom
    have HR := Lib.hid hR
    by_cases k0 : 0 < k
    · obtain ⟨q, rfl⟩ : ∃ q, k = q + 1 := ⟨k - 1, by omega⟩
      have e2 := hR.readOut HG.out (H1.out q (by omega)) (by omega)
      have d2 : dg W64 X q < 18446744073709551616 := W64_lt (dg_lt W64_pos _ _)
      have HE := Lib.hid (dg_shl hst X q)
      clear hR
      generalize dg W64 X (q + 1) = x at *
      generalize dg W64 X q = y at *
      have hbt := bits_orS x y s t (by unfold W64; exact d2)
      have hq1 : ((q + 1 : Nat) : Int) - 1 = q := by omega
      have kl1 : ((q + 1 : Nat) : Int) < n := by omega
      have kl2 : (q : Int) < n := by omega
      go_upto_region 13 with fail
      go_region
      all_goals
        go_wp2
        try rw [hbt]
        go_roundw
        case rel => exact ⟨q, m + 1, by omega, rfl, (HR.out.down (h := dg W64 (X * 2 ^ s)) (k := q + 1) (by omega) HE.out.symm).drewN 1⟩
        case measure => simp [intOf]
    · obtain rfl : k = 0 := by omega
      clear hR
      have HE := Lib.hid (dg_shl0 hst X)
      generalize dg W64 X 0 = x at *
      simp only [Nat.add_zero] at e1 p0 f0
      have HW := Lib.hid (wrap_shl x s)
      have HF := Lib.hid (HR.out.down (h := dg W64 (X * 2 ^ s)) (by omega) HE.out.symm)
      go_wp2
      rw [HW.out]
      go_ret
      refine ⟨ret_int (by simp), ?_⟩
      have h := HF.out
      rw [Nat.add_zero, show m + 1 = n from by omega] at h
      simpa using h
theorem lshVU_any (g o n c0 b1 o1 c1 : Nat) (cur : Array Value) (X s t : Nat) (w : World) (hg : BlkAt w g cur 155) (hn : n ≤ 1000000) (hn0 : 0 < n) (hr : o + n ≤ cur.size) (h0 : n ≤ c0) (h0m : c0 ≤ maxLen)
    (h1 : WCells w b1 o1 n (dg W64 X)) (h1c : n ≤ c1) (h1m : c1 ≤ maxLen) (hn1 : b1 ≠ g ∨ o1 ≤ o) (hst : s + t = 64) (hs0 : 0 < s) (ht0 : 0 < t) :
    Calls Tryz.prog 221 #[.slice (some ⟨g, o, none⟩) n c0, .slice (some ⟨b1, o1, none⟩) n c1, .int .u64 s] w
      (VecIs g o n cur (dg W64 (X * 2 ^ s)) (dg W64 X (n - 1) / 2 ^ t) w) := by
  have HS := Lib.hid (lshVUg_any g o n c0 b1 o1 c1 cur X s t w hg hn hn0 hr h0 h0m h1 h1c h1m hn1 hst hs0 ht0)
  clear hg h1
  go_enter Tryz.func221, Tryz.ntmps221
  go_wp2_with fail
  refine HS.out.mono ?_
  rintro e w1 ⟨rfl, hR⟩
  have HR := Lib.hid hR
  clear hR
  go_wp2
  go_ret
  exact ⟨rfl, HR.out⟩
theorem rshVUg_any (g o n c0 b1 o1 c1 : Nat) (cur : Array Value) (X s t : Nat) (w : World) (hg : BlkAt w g cur 155) (hn : n ≤ 1000000) (hn0 : 0 < n) (hr : o + n ≤ cur.size) (h0 : n ≤ c0) (h0m : c0 ≤ maxLen)
    (h1 : WCells w b1 o1 n (dg W64 X)) (h1c : n ≤ c1) (h1m : c1 ≤ maxLen) (hn1 : b1 ≠ g ∨ o ≤ o1) (hst : s + t = 64) (hs0 : 0 < s) (ht0 : 0 < t) (hX : X < W64 ^ n) :
    Calls Tryz.prog 261 #[.slice (some ⟨g, o, none⟩) n c0, .slice (some ⟨b1, o1, none⟩) n c1, .int .u64 t] w
      (VecIs g o n cur (dg W64 (X / 2 ^ t)) (dg W64 X 0 * 2 ^ s % W64) w) := by
  unfold maxLen at h0m h1m
  have hz : ((t : Int) == 0) = false := by simp; omega
  have hzn : ((n : Int) == 0) = false := by simp; omega
  have hand := bits_and63 s (by omega)
  have hand2 := bits_and63 t (by omega)
  have hsub : (64 : Int) - t = s := by omega
  have e0 : w.cell? ⟨b1, o1, none⟩ = some (.int .u64 (dg W64 X 0 : Nat)) := by have := h1 0 hn0; rwa [Nat.add_zero] at this
  have d0 : dg W64 X 0 < 18446744073709551616 := W64_lt (dg_lt W64_pos _ _)
  have HG := Lib.hid hg
  have H1 := Lib.hid h1
  have HX := Lib.hid hX
  clear hg h1 hX
  have HW0 := Lib.hid (wrap_shl (dg W64 X 0) s)
  generalize dg W64 X 0 = low at *
  go_enter Tryz.func261, Tryz.ntmps261
  go_wp2
  go_loopw [8] (fun i wr => ∃ k : Nat, k + 1 ≤ n ∧ i = .int .i64 (k + 1 : Nat) ∧ RowUp 155 w wr g o k cur (dg W64 (X / 2 ^ t)))
    (fun i _ => n - (intOf i).toNat)
  case atStart => exact ⟨0, by omega, rfl, RowUp.start HG.out _ _⟩
  case round =>
    obtain ⟨k, hkm, rfl, hR⟩ := hrel
    have e1 := hR.read HG.out (H1.out k (by omega)) hn1 (Nat.le_refl _)
    have d1 : dg W64 X k < 18446744073709551616 := W64_lt (dg_lt W64_pos _ _)
    have hroom := hR.room (j := o + k) (by omega)
    obtain ⟨⟨u0, p0⟩, f0⟩ := hroom
    have HR := Lib.hid hR
    have hk1 : ((k + 1 : Nat) : Int) - 1 = k := by omega
    by_cases k0 : k + 1 < n
    · have e2 := hR.read HG.out (H1.out (k + 1) k0) hn1 (Nat.le_succ _)
      have d2 : dg W64 X (k + 1) < 18446744073709551616 := W64_lt (dg_lt W64_pos _ _)
      have HE := Lib.hid (dg_shr hst X k)
      clear hR
      generalize dg W64 X (k + 1) = x at *
      generalize dg W64 X k = y at *
      have hbt := bits_orS' x y s t (by unfold W64; exact d1)
      have kl1 : ((k + 1 : Nat) : Int) < n := by omega
      have kl2 : (k : Int) < n := by omega
      go_upto_region 13 with fail
      go_region
      all_goals
        go_wp2
        try rw [hbt]
        go_roundw
        case rel => exact ⟨k + 1, by omega, by go_num, (HR.out.step (by omega) HE.out.symm).drewN 1⟩
        case measure => simp [intOf]; omega
    · obtain rfl : n = k + 1 := by omega
      clear hR
      have HE := Lib.hid (dg_shr_top (t := t) HX.out)
      generalize dg W64 X k = y at *
      have HF := Lib.hid (HR.out.step (x := y / 2 ^ t) (by omega) HE.out.symm)
      go_wp2
      rw [HW0.out]
      go_ret
      refine ⟨rfl, ?_⟩
      simpa using HF.out
theorem rshVU_any (g o n c0 b1 o1 c1 : Nat) (cur : Array Value) (X s t : Nat) (w : World) (hg : BlkAt w g cur 155) (hn : n ≤ 1000000) (hn0 : 0 < n) (hr : o + n ≤ cur.size) (h0 : n ≤ c0) (h0m : c0 ≤ maxLen)
    (h1 : WCells w b1 o1 n (dg W64 X)) (h1c : n ≤ c1) (h1m : c1 ≤ maxLen) (hn1 : b1 ≠ g ∨ o ≤ o1) (hst : s + t = 64) (hs0 : 0 < s) (ht0 : 0 < t) (hX : X < W64 ^ n) :
    Calls Tryz.prog 222 #[.slice (some ⟨g, o, none⟩) n c0, .slice (some ⟨b1, o1, none⟩) n c1, .int .u64 t] w
      (VecIs g o n cur (dg W64 (X / 2 ^ t)) (dg W64 X 0 * 2 ^ s % W64) w) := by
  have HS := Lib.hid (rshVUg_any g o n c0 b1 o1 c1 cur X s t w hg hn hn0 hr h0 h0m h1 h1c h1m hn1 hst hs0 ht0 hX)
  clear hg h1
  go_enter Tryz.func222, Tryz.ntmps222
  go_wp2_with fail
  refine HS.out.mono ?_
  rintro e w1 ⟨rfl, hR⟩
  have HR := Lib.hid hR
  clear hR
  go_wp2
  go_ret
  exact ⟨rfl, HR.out⟩
end Go.Proofs.YtgmienggfaahlaaGreatDoor
namespace Go.Bg
open Go.RowKit Dg
theorem bitLenAux_bl : ∀ (f n : Nat), n < 2 ^ f → Lib.bitLenAux f n = bl n := by
  intro f
  induction f with
  | zero => intro n h; obtain rfl : n = 0 := by simpa using h
            rfl
  | succ f ih =>
    intro n h
    rw [Lib.bitLenAux]
    by_cases h0 : n = 0
    · subst h0; rfl
    · rw [if_neg h0, bl_half (by omega : 0 < n), ih (n / 2) (by rw [Nat.pow_succ] at h; omega)]; omega
theorem bitLen_bl {n : Nat} (h : n < 18446744073709551616) : Lib.bitLen n = bl n := bitLenAux_bl 64 n h
theorem bl_or_shr (t k : Nat) : bl (t ||| t / 2 ^ k) = bl t := by
  have hle : t / 2 ^ k ≤ t := Nat.div_le_self _ _
  refine (bl_unique ?_ ?_).symm
  · exact Nat.or_lt_two_pow (bl_lt t) (Nat.lt_of_le_of_lt hle (bl_lt t))
  · rcases bl_top t with h | h
    · exact .inl h
    · exact .inr (Nat.le_trans h Nat.left_le_or)
theorem or_shr_lt {t : Nat} (k : Nat) (h : t < 18446744073709551616) : (t ||| t / 2 ^ k) < 18446744073709551616 :=
  Nat.or_lt_two_pow (n := 64) h (Nat.lt_of_le_of_lt (Nat.div_le_self _ _) h)
def smear (t : Nat) : Nat :=
  let a := t ||| t / 2 ^ 1
  let b := a ||| a / 2 ^ 2
  let c := b ||| b / 2 ^ 4
  let d := c ||| c / 2 ^ 8
  let e := d ||| d / 2 ^ 16
  e ||| e / 2 ^ 32
theorem smear_lt {t : Nat} (h : t < 18446744073709551616) : smear t < 18446744073709551616 :=
  or_shr_lt _ (or_shr_lt _ (or_shr_lt _ (or_shr_lt _ (or_shr_lt _ (or_shr_lt _ h)))))
theorem smear_eq {t a b c d e : Nat} (ha : a = t ||| t / 2 ^ 1) (hb : b = a ||| a / 2 ^ 2) (hc : c = b ||| b / 2 ^ 4) (hd : d = c ||| c / 2 ^ 8) (he : e = d ||| d / 2 ^ 16) : (e ||| e / 2 ^ 32) = smear t := by
  subst ha hb hc hd he; rfl
theorem smear_bl (t : Nat) : bl (smear t) = bl t := by
  unfold smear
  simp only [bl_or_shr]
theorem bl_top_word {N n : Nat} (h : N < W64 ^ (n + 1)) (ht : W64 ^ n ≤ N) : bl N = n * 64 + bl (dg W64 N n) := by
  have hd : dg W64 N n = N / W64 ^ n := by
    unfold dg
    refine Nat.mod_eq_of_lt ((Nat.div_lt_iff_lt_mul (Nat.pow_pos W64_pos)).2 ?_)
    rw [← Nat.pow_succ']; exact h
  have hp : W64 ^ n = 2 ^ (64 * n) := by rw [W64_eq, ← Nat.pow_mul]
  have hq : 0 < N / W64 ^ n := Nat.div_pos ht (Nat.pow_pos W64_pos)
  rw [hd]
  have hb := bl_pos hq
  refine (bl_unique ?_ ?_).symm
  · have := bl_lt (N / W64 ^ n)
    rw [Nat.div_lt_iff_lt_mul (Nat.pow_pos W64_pos)] at this
    rw [hp] at this ⊢
    rw [← Nat.pow_add] at this
    rw [show n * 64 + bl (N / 2 ^ (64 * n)) = bl (N / 2 ^ (64 * n)) + 64 * n from by omega]
    exact this
  · right
    rcases bl_top (N / W64 ^ n) with h0 | h0
    · omega
    · have h1 : 2 ^ (bl (N / W64 ^ n) - 1) * W64 ^ n ≤ N := Nat.le_trans (Nat.mul_le_mul_right _ h0) (Nat.div_mul_le_self _ _)
      rw [hp, ← Nat.pow_add] at h1
      rw [hp]
      rw [hp] at hb
      rw [show n * 64 + bl (N / 2 ^ (64 * n)) - 1 = bl (N / 2 ^ (64 * n)) - 1 + 64 * n from by omega]
      exact h1
end Go.Bg
namespace Go.Proofs.YtgmienggfaahlaaGreatDoor
open Go.RowKit Go.Bg Dg
theorem u64_or_shr (t k : Nat) (h : t < 18446744073709551616) : bits BinOp.or IntKind.u64 (t : Int) ((t : Int) / 2 ^ k) = ((t ||| t / 2 ^ k : Nat) : Int) := by
  have e : (t : Int) / 2 ^ k = ((t / 2 ^ k : Nat) : Int) := by simp
  rw [e, u64_or_nat _ _ h (Nat.lt_of_le_of_lt (Nat.div_le_self _ _) h)]
theorem natBitLen_any (a : Option Addr) (n c N : Nat) (w : World) (h : NumAt .u64 W64 w a n c N) (hn : n ≤ 1000000) :
    Calls Tryz.prog 217 #[.slice a n c] w fun e w' => e = .returned (.int .i64 (bl N : Nat)) ∧ w = w' := by
  have hcm := h.cm
  have hnc := h.nc
  by_cases h0 : n = 0
  · subst h0
    have hN : N = 0 := by have := h.lt; simpa using this
    clear h
    subst hN
    go_enter Tryz.func217, Tryz.ntmps217
    go_wp2
    go_ret
    exact ⟨rfl, rfl⟩
  · obtain ⟨m, rfl⟩ : ∃ m, n = m + 1 := ⟨n - 1, by omega⟩
    obtain ⟨b, off, rfl, _⟩ := h.form (by omega)
    have hc := h.cell (i := m) (by omega)
    have HB := Lib.hid (show bl N = m * 64 + bl (dg W64 N m) from bl_top_word h.lt (by rcases h.top with h1 | h1; omega; simpa using h1))
    have HX := Lib.hid (show dg W64 N m < 18446744073709551616 from W64_lt (dg_lt W64_pos _ _))
    clear h
    generalize dg W64 N m = x at *
    go_enter Tryz.func217, Tryz.ntmps217
    go_wp2_with fail
    have E1 : bits BinOp.or IntKind.u64 (x : Int) ((x : Int) / 2) = ((x ||| x / 2 ^ 1 : Nat) : Int) := u64_or_shr x 1 HX.out
    rw [E1]
    have L1 := or_shr_lt 1 HX.out
    obtain ⟨x1, h1⟩ : ∃ x1, x1 = x ||| x / 2 ^ 1 := ⟨_, rfl⟩
    rw [← h1] at L1 ⊢
    have E2 : bits BinOp.or IntKind.u64 (x1 : Int) ((x1 : Int) / 4) = ((x1 ||| x1 / 2 ^ 2 : Nat) : Int) := u64_or_shr x1 2 L1
    rw [E2]
    have L2 := or_shr_lt 2 L1
    obtain ⟨x2, h2⟩ : ∃ x2, x2 = x1 ||| x1 / 2 ^ 2 := ⟨_, rfl⟩
    rw [← h2] at L2 ⊢
    have E3 : bits BinOp.or IntKind.u64 (x2 : Int) ((x2 : Int) / 16) = ((x2 ||| x2 / 2 ^ 4 : Nat) : Int) := u64_or_shr x2 4 L2
    rw [E3]
    have L3 := or_shr_lt 4 L2
    obtain ⟨x3, h3⟩ : ∃ x3, x3 = x2 ||| x2 / 2 ^ 4 := ⟨_, rfl⟩
    rw [← h3] at L3 ⊢
    have E4 : bits BinOp.or IntKind.u64 (x3 : Int) ((x3 : Int) / 256) = ((x3 ||| x3 / 2 ^ 8 : Nat) : Int) := u64_or_shr x3 8 L3
    rw [E4]
    have L4 := or_shr_lt 8 L3
    obtain ⟨x4, h4⟩ : ∃ x4, x4 = x3 ||| x3 / 2 ^ 8 := ⟨_, rfl⟩
    rw [← h4] at L4 ⊢
    have E5 : bits BinOp.or IntKind.u64 (x4 : Int) ((x4 : Int) / 65536) = ((x4 ||| x4 / 2 ^ 16 : Nat) : Int) := u64_or_shr x4 16 L4
    rw [E5]
    have L5 := or_shr_lt 16 L4
    obtain ⟨x5, h5⟩ : ∃ x5, x5 = x4 ||| x4 / 2 ^ 16 := ⟨_, rfl⟩
    rw [← h5] at L5 ⊢
    have E6 : bits BinOp.or IntKind.u64 (x5 : Int) ((x5 : Int) / 65536 / 65536) = ((smear x : Nat) : Int) := by
      rw [← smear_eq h1 h2 h3 h4 h5, ← u64_or_shr x5 32 L5, Int.ediv_ediv_of_nonneg (by decide)]; rfl
    rw [E6]
    have HS := Lib.hid (smear_lt HX.out)
    have HE := Lib.hid (smear_bl x)
    clear E1 E2 E3 E4 E5 E6 L1 L2 L3 L4 L5 h1 h2 h3 h4 h5
    generalize smear x = y at *
    refine (Tryz.bits_Len y _ (by omega) (by have := HS.out; omega)).mono ?_
    rintro e w1 ⟨rfl, rfl⟩
    rw [Int.toNat_natCast, bitLen_bl HS.out, HE.out]
    have hbl : bl x ≤ 64 := by
      have := bl_top x
      rcases this with h | h
      · omega
      · have := (Nat.pow_lt_pow_iff_right (by decide : 1 < 2)).1 (Nat.lt_of_le_of_lt h (show x < 2 ^ 64 from HX.out)); omega
    generalize bl x = z at *
    go_wp2
    go_ret
    exact ⟨ret_int (by rw [HB.out]; simp), rfl⟩
theorem intBitLen_any (b o : Nat) (s : Bool) (N L : Nat) (w : World) (h : BigAt 155 w b o s N) (hN : N < W64 ^ L) (hL : L ≤ 1000000) :
    Calls Tryz.prog 176 #[.pointer (some ⟨b, o, none⟩)] w fun e w' => e = .returned (.int .i64 (bl N : Nat)) ∧ w = w' := by
  obtain ⟨a, n, c, p0, p1, hNN⟩ := h.val
  have hn : n ≤ 1000000 := Nat.le_trans (len_le W64_gt hNN.num.top hN) hL
  have HN := Lib.hid hNN.num
  clear h hNN hN
  go_enter Tryz.func176, Tryz.ntmps176
  go_wp2_with fail
  refine (natBitLen_any a n c N _ HN.out hn).mono ?_
  rintro e w1 ⟨rfl, rfl⟩
  go_wp2
  go_ret
  exact ⟨rfl, rfl⟩
end Go.Proofs.YtgmienggfaahlaaGreatDoor
