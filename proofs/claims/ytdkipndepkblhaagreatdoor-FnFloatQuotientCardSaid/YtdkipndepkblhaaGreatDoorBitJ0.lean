/-
  Two words of 64 bits joined bit by bit: what the and-not of 64 bits is, alone (from BitJ, for StkB).
-/
import Derived.Test.YtdkipndepkblhaaGreatDoorBuH
import Derived.Test.YtdkipndepkblhaaGreatDoorBuP
import Derived.Laws.BitsAllLaws
set_option linter.unusedSimpArgs false
set_option linter.unusedVariables false
namespace Go.Bg
open Go.RowKit Dg
/-- the bits of a that b has not -/
def andn (a b : Nat) : Nat := a ^^^ (a &&& b)
theorem bv_andNot (x y : BitVec 64) : x &&& ~~~y = x ^^^ (x &&& y) := by
  apply BitVec.eq_of_getLsbD_eq
  intro i hi
  simp [hi]
  cases x[i] <;> cases y[i] <;> rfl
/-- the number whose bits below k are told by f -/
def bitsN (f : Nat → Bool) : Nat → Nat
  | 0 => 0
  | k + 1 => bitsN f k + (if f k then 2 ^ k else 0)
theorem bitsN_lt (f : Nat → Bool) (k : Nat) : bitsN f k < 2 ^ k := by
  induction k with
  | zero => simp [bitsN]
  | succ k ih =>
    have e : bitsN f (k + 1) = bitsN f k + (if f k then 2 ^ k else 0) := rfl
    rw [e, Nat.pow_succ]; split <;> omega
theorem bitsN_bit (f : Nat → Bool) (k i : Nat) : (bitsN f k).testBit i = (decide (i < k) && f i) := by
  induction k with
  | zero => simp [bitsN]
  | succ k ih =>
    have hl := bitsN_lt f k
    have e : bitsN f (k + 1) = bitsN f k + (if f k then 2 ^ k else 0) := rfl
    rw [e]
    cases hf : f k
    · simp only [Bool.false_eq_true, if_false, Nat.add_zero]
      rw [ih]
      by_cases h : i = k
      · subst h; simp [hf]
      · rw [decide_eq_decide.2 (show i < k ↔ i < k + 1 from by omega)]
    · simp only [if_true]
      rw [Nat.add_comm]
      rcases Nat.lt_trichotomy i k with h | h | h
      · rw [Nat.testBit_two_pow_add_gt h, ih, decide_eq_true h, decide_eq_true (show i < k + 1 from by omega)]
      · subst h
        rw [Nat.testBit_two_pow_add_eq, Nat.testBit_lt_two_pow hl]; simp [hf]
      · rw [Nat.testBit_lt_two_pow (Nat.lt_of_lt_of_le (show 2 ^ k + bitsN f k < 2 ^ (k + 1) from by rw [Nat.pow_succ]; omega) (Nat.pow_le_pow_right (by decide) (by omega))), decide_eq_false (show ¬ i < k + 1 from by omega)]; rfl
theorem bitsN_eq {f : Nat → Bool} {k X : Nat} (hX : X < 2 ^ k) (h : ∀ i, i < k → X.testBit i = f i) : bitsN f k = X := by
  apply Nat.eq_of_testBit_eq
  intro i
  rw [bitsN_bit]
  by_cases hi : i < k
  · rw [decide_eq_true hi, h i hi]; rfl
  · rw [decide_eq_false hi, Nat.testBit_lt_two_pow (Nat.lt_of_lt_of_le hX (Nat.pow_le_pow_right (by decide) (by omega)))]; rfl
/-- the magnitude whose bits a number has, or has not where it is negative -/
def low (s : Bool) (N : Nat) : Nat := if s then N - 1 else N
/-- a bit of an integer in two's complement -/
def bitAt (s : Bool) (N i : Nat) : Bool := s != (low s N).testBit i
theorem low_le (s : Bool) (N : Nat) : low s N ≤ N := by unfold low; split <;> omega
theorem bitAt_high {s : Bool} {N i : Nat} (h : N < 2 ^ i) : bitAt s N i = s := by
  unfold bitAt
  rw [Nat.testBit_lt_two_pow (Nat.lt_of_le_of_lt (low_le s N) h)]
  cases s <;> rfl
theorem lt_bl (N : Nat) : N < 2 ^ bl N := by
  unfold bl
  split
  · subst N; decide
  · exact Nat.lt_log2_self
theorem lt_size {N k : Nat} (h : bl N ≤ k) : N < 2 ^ k := Nat.lt_of_lt_of_le (lt_bl N) (Nat.pow_le_pow_right (by decide) h)
/-- what comes of two numbers bit by bit: the magnitude without what the sign adds -/
def jlow (T : Bool → Bool → Bool) (s t : Bool) (N M : Nat) : Nat :=
  bitsN (fun i => T (bitAt s N i) (bitAt t M i) != T s t) (max (bl N) (bl M) + 1)
/-- its magnitude -/
def jmag (T : Bool → Bool → Bool) (s t : Bool) (N M : Nat) : Nat := if T s t then jlow T s t N M + 1 else jlow T s t N M
/-- two integers joined -/
def jz (T : Bool → Bool → Bool) (a b : Int) : Int := sg (T (decide (a < 0)) (decide (b < 0))) (jmag T (decide (a < 0)) (decide (b < 0)) a.natAbs b.natAbs)
theorem jlow_of {T : Bool → Bool → Bool} {s t : Bool} {N M X : Nat} (hX : ∀ i, X.testBit i = (T (bitAt s N i) (bitAt t M i) != T s t)) : jlow T s t N M = X := by
  refine bitsN_eq (Nat.lt_pow_two_of_testBit _ fun i hi => ?_) fun i _ => hX i
  rw [hX i, bitAt_high (lt_size (Nat.le_trans (Nat.le_max_left (bl N) (bl M)) (by omega))), bitAt_high (lt_size (Nat.le_trans (Nat.le_max_right (bl N) (bl M)) (by omega)))]
  cases T s t <;> rfl
theorem jlow_bit (T : Bool → Bool → Bool) (s t : Bool) (N M i : Nat) : (jlow T s t N M).testBit i = (T (bitAt s N i) (bitAt t M i) != T s t) := by
  unfold jlow
  rw [bitsN_bit]
  by_cases hi : i < max (bl N) (bl M) + 1
  · rw [decide_eq_true hi]; rfl
  · rw [decide_eq_false hi, bitAt_high (lt_size (Nat.le_trans (Nat.le_max_left (bl N) (bl M)) (by omega))), bitAt_high (lt_size (Nat.le_trans (Nat.le_max_right (bl N) (bl M)) (by omega)))]
    cases T s t <;> rfl
theorem jlow_lt {T : Bool → Bool → Bool} {s t : Bool} {N M k : Nat} (h1 : low s N < 2 ^ k) (h2 : low t M < 2 ^ k) : jlow T s t N M < 2 ^ k := by
  refine Nat.lt_pow_two_of_testBit _ fun i hi => ?_
  rw [jlow_bit]
  unfold bitAt
  rw [Nat.testBit_lt_two_pow (Nat.lt_of_lt_of_le h1 (Nat.pow_le_pow_right (by decide) hi)), Nat.testBit_lt_two_pow (Nat.lt_of_lt_of_le h2 (Nat.pow_le_pow_right (by decide) hi))]
  cases s <;> cases t <;> simp
theorem jmag_le {T : Bool → Bool → Bool} {s t : Bool} {N M k : Nat} (h1 : N < 2 ^ k) (h2 : M < 2 ^ k) : jmag T s t N M ≤ 2 ^ k := by
  have := jlow_lt (T := T) (s := s) (t := t) (Nat.lt_of_le_of_lt (low_le s N) h1) (Nat.lt_of_le_of_lt (low_le t M) h2)
  unfold jmag; split <;> omega
theorem jmag_pos {T : Bool → Bool → Bool} {s t : Bool} (N M : Nat) (h : T s t = true) : 0 < jmag T s t N M := by
  unfold jmag; rw [if_pos h]; omega

def andnT (a b : Bool) : Bool := a && !b
theorem jmag_andn00 (N M : Nat) : jmag andnT false false N M = andn (N) (M) := by
  have e : jlow andnT false false N M = andn (N) (M) := jlow_of fun i => by
    show (andn (N) (M)).testBit i = (andnT (false != (N).testBit i) (false != (M).testBit i) != andnT false false)
    unfold andn; rw [Nat.testBit_xor, Nat.testBit_and]
    cases (N).testBit i <;> cases (M).testBit i <;> rfl
  show jlow andnT false false N M = _
  rw [e]
/-- two words of 64 bits, joined bit by bit -/
theorem ofInt_bit (z : Int) (i : Nat) (hi : i < 64) : (BitVec.ofInt 64 z).getLsbD i = bitAt (decide (z < 0)) z.natAbs i := by
  unfold bitAt low
  by_cases h : z < 0
  · obtain ⟨m, rfl⟩ : ∃ m : Nat, z = Int.negSucc m := ⟨z.natAbs - 1, by omega⟩
    rw [decide_eq_true h, if_pos rfl, BitVec.ofInt_negSucc_eq_not_ofNat, BitVec.getLsbD_not, BitVec.getLsbD_ofNat]
    simp [hi, Int.natAbs_negSucc]
  · obtain ⟨m, rfl⟩ : ∃ m : Nat, z = m := ⟨z.natAbs, by omega⟩
    rw [decide_eq_false h, BitVec.ofInt_natCast, BitVec.getLsbD_ofNat]
    simp [hi]
theorem jz_neg (T : Bool → Bool → Bool) (a b : Int) : decide (jz T a b < 0) = T (decide (a < 0)) (decide (b < 0)) := by
  unfold jz sg
  cases h : T (decide (a < 0)) (decide (b < 0))
  · simp
  · have := jmag_pos (T := T) (s := decide (a < 0)) (t := decide (b < 0)) a.natAbs b.natAbs h
    simp; omega
theorem jz_abs (T : Bool → Bool → Bool) (a b : Int) : (jz T a b).natAbs = jmag T (decide (a < 0)) (decide (b < 0)) a.natAbs b.natAbs := by
  unfold jz; rw [sg_nat]
theorem jz_low (T : Bool → Bool → Bool) (a b : Int) : low (T (decide (a < 0)) (decide (b < 0))) (jmag T (decide (a < 0)) (decide (b < 0)) a.natAbs b.natAbs) = jlow T (decide (a < 0)) (decide (b < 0)) a.natAbs b.natAbs := by
  unfold low jmag
  cases T (decide (a < 0)) (decide (b < 0)) <;> simp
theorem jz_bit (T : Bool → Bool → Bool) (a b : Int) (i : Nat) : bitAt (decide (jz T a b < 0)) (jz T a b).natAbs i = T (bitAt (decide (a < 0)) a.natAbs i) (bitAt (decide (b < 0)) b.natAbs i) := by
  rw [jz_neg, jz_abs]
  unfold bitAt
  rw [jz_low, jlow_bit]
  show (_ != (T (bitAt _ _ _) (bitAt _ _ _) != _)) = _
  unfold bitAt
  cases T (decide (a < 0)) (decide (b < 0)) <;> simp
theorem jz_vec (T : Bool → Bool → Bool) (a b : Int) (v : BitVec 64) (hv : ∀ i, i < 64 → v.getLsbD i = T ((BitVec.ofInt 64 a).getLsbD i) ((BitVec.ofInt 64 b).getLsbD i)) : v = BitVec.ofInt 64 (jz T a b) := by
  apply BitVec.eq_of_getLsbD_eq
  intro i hi
  rw [hv i hi, ofInt_bit _ _ hi, ofInt_bit _ _ hi, ofInt_bit _ _ hi, jz_bit]
end Go.Bg
namespace Go.Proofs.YtdkipndepkblhaaGreatDoor
open Go.RowKit Go.Bg Dg
theorem jz_sg {T : Bool → Bool → Bool} {s t : Bool} {N M : Nat} (hs : s = true → 0 < N) (ht : t = true → 0 < M) : sg (T s t) (jmag T s t N M) = jz T (sg s N) (sg t M) := by
  obtain ⟨e1, e2⟩ := sg_abs hs
  obtain ⟨e3, e4⟩ := sg_abs ht
  unfold jz
  rw [e1, e2, e3, e4]
theorem jz_fit {T : Bool → Bool → Bool} {a b : Int} (ha : fit64 a = true) (hb : fit64 b = true) : fit64 (jz T a b) = true := by
  have l1 : low (decide (a < 0)) a.natAbs < 2 ^ 63 := by
    have := fit64_bd ha
    unfold low; split <;> simp_all <;> omega
  have l2 : low (decide (b < 0)) b.natAbs < 2 ^ 63 := by
    have := fit64_bd hb
    unfold low; split <;> simp_all <;> omega
  have h := jlow_lt (T := T) l1 l2
  unfold jz jmag sg fit64
  cases T (decide (a < 0)) (decide (b < 0)) <;> simp <;> omega
theorem wrap_ofInt {z : Int} (h : fit64 z = true) : IntKind.i64.wrap ((BitVec.ofInt 64 z).toNat : Int) = z := by
  have := fit64_bd h
  rw [BitVec.toNat_ofInt, IntKind.wrap_i64]
  omega
theorem bits_andn_i64 {a b : Int} (ha : fit64 a = true) (hb : fit64 b = true) : bits .andNot .i64 a b = jz andnT a b := by
  show IntKind.i64.wrap ((BitVec.ofInt 64 a &&& ~~~ BitVec.ofInt 64 b).toNat : Int) = _
  rw [jz_vec andnT a b (BitVec.ofInt 64 a &&& ~~~ BitVec.ofInt 64 b) (fun i hi => by simp [andnT, hi]), wrap_ofInt (jz_fit ha hb)]
end Go.Proofs.YtdkipndepkblhaaGreatDoor
