/-
  What comes of two integers bit by bit, plain. PRINTED BY wip/gen_bitj.py.
  Bits turned: Not, De Morgan's law, plain.
-/
import Derived.Test.YtdkipndepkblhaaGreatDoorBuH
import Derived.Test.YtdkipndepkblhaaGreatDoorBuHH
import Derived.Test.YtdkipndepkblhaaGreatDoorBuP
set_option linter.unusedSimpArgs false
set_option linter.unusedVariables false
namespace Go.Bg
open Go.RowKit Dg
/-- the number whose bits below k are told by f -/
def bitsN (f : Nat → Bool) : Nat → Nat
  | 0 => 0
  | k + 1 => bitsN f k + (if f k then 2 ^ k else 0)
theorem bitsN_lt (f : Nat → Bool) (k : Nat) : bitsN f k < 2 ^ k := by
  induction k with
  | zero => simp [bitsN]
  | succ k ih =>
    have e : bitsN f (k + 1) = bitsN f k + (if f k then 2 ^ k else 0) := rfl
    rw [e, Nat.pow_succ]; split <;> omega
theorem bitsN_bit (f : Nat → Bool) (k i : Nat) : (bitsN f k).testBit i = (decide (i < k) && f i) := by
  induction k with
  | zero => simp [bitsN]
  | succ k ih =>
    have hl := bitsN_lt f k
    have e : bitsN f (k + 1) = bitsN f k + (if f k then 2 ^ k else 0) := rfl
    rw [e]
    cases hf : f k
    · simp only [Bool.false_eq_true, if_false, Nat.add_zero]
      rw [ih]
      by_cases h : i = k
      · subst h; simp [hf]
      · rw [decide_eq_decide.2 (show i < k ↔ i < k + 1 from by omega)]
    · simp only [if_true]
      rw [Nat.add_comm]
      rcases Nat.lt_trichotomy i k with h | h | h
      · rw [Nat.testBit_two_pow_add_gt h, ih, decide_eq_true h, decide_eq_true (show i < k + 1 from by omega)]
      · subst h
        rw [Nat.testBit_two_pow_add_eq, Nat.testBit_lt_two_pow hl]; simp [hf]
      · rw [Nat.testBit_lt_two_pow (Nat.lt_of_lt_of_le (show 2 ^ k + bitsN f k < 2 ^ (k + 1) from by rw [Nat.pow_succ]; omega) (Nat.pow_le_pow_right (by decide) (by omega))), decide_eq_false (show ¬ i < k + 1 from by omega)]; rfl
theorem bitsN_eq {f : Nat → Bool} {k X : Nat} (hX : X < 2 ^ k) (h : ∀ i, i < k → X.testBit i = f i) : bitsN f k = X := by
  apply Nat.eq_of_testBit_eq
  intro i
  rw [bitsN_bit]
  by_cases hi : i < k
  · rw [decide_eq_true hi, h i hi]; rfl
  · rw [decide_eq_false hi, Nat.testBit_lt_two_pow (Nat.lt_of_lt_of_le hX (Nat.pow_le_pow_right (by decide) (by omega)))]; rfl
/-- the magnitude whose bits a number has, or has not where it is negative -/
def low (s : Bool) (N : Nat) : Nat := if s then N - 1 else N
/-- a bit of an integer in two's complement -/
def bitAt (s : Bool) (N i : Nat) : Bool := s != (low s N).testBit i
theorem low_le (s : Bool) (N : Nat) : low s N ≤ N := by unfold low; split <;> omega
theorem bitAt_high {s : Bool} {N i : Nat} (h : N < 2 ^ i) : bitAt s N i = s := by
  unfold bitAt
  rw [Nat.testBit_lt_two_pow (Nat.lt_of_le_of_lt (low_le s N) h)]
  cases s <;> rfl
theorem lt_bl (N : Nat) : N < 2 ^ bl N := by
  unfold bl
  split
  · subst N; decide
  · exact Nat.lt_log2_self
theorem lt_size {N k : Nat} (h : bl N ≤ k) : N < 2 ^ k := Nat.lt_of_lt_of_le (lt_bl N) (Nat.pow_le_pow_right (by decide) h)
/-- what comes of two numbers bit by bit: the magnitude without what the sign adds -/
def jlow (T : Bool → Bool → Bool) (s t : Bool) (N M : Nat) : Nat :=
  bitsN (fun i => T (bitAt s N i) (bitAt t M i) != T s t) (max (bl N) (bl M) + 1)
/-- its magnitude -/
def jmag (T : Bool → Bool → Bool) (s t : Bool) (N M : Nat) : Nat := if T s t then jlow T s t N M + 1 else jlow T s t N M
/-- two integers joined -/
def jz (T : Bool → Bool → Bool) (a b : Int) : Int := sg (T (decide (a < 0)) (decide (b < 0))) (jmag T (decide (a < 0)) (decide (b < 0)) a.natAbs b.natAbs)
theorem jlow_of {T : Bool → Bool → Bool} {s t : Bool} {N M X : Nat} (hX : ∀ i, X.testBit i = (T (bitAt s N i) (bitAt t M i) != T s t)) : jlow T s t N M = X := by
  refine bitsN_eq (Nat.lt_pow_two_of_testBit _ fun i hi => ?_) fun i _ => hX i
  rw [hX i, bitAt_high (lt_size (Nat.le_trans (Nat.le_max_left (bl N) (bl M)) (by omega))), bitAt_high (lt_size (Nat.le_trans (Nat.le_max_right (bl N) (bl M)) (by omega)))]
  cases T s t <;> rfl
theorem jlow_bit (T : Bool → Bool → Bool) (s t : Bool) (N M i : Nat) : (jlow T s t N M).testBit i = (T (bitAt s N i) (bitAt t M i) != T s t) := by
  unfold jlow
  rw [bitsN_bit]
  by_cases hi : i < max (bl N) (bl M) + 1
  · rw [decide_eq_true hi]; rfl
  · rw [decide_eq_false hi, bitAt_high (lt_size (Nat.le_trans (Nat.le_max_left (bl N) (bl M)) (by omega))), bitAt_high (lt_size (Nat.le_trans (Nat.le_max_right (bl N) (bl M)) (by omega)))]
    cases T s t <;> rfl
theorem jlow_lt {T : Bool → Bool → Bool} {s t : Bool} {N M k : Nat} (h1 : low s N < 2 ^ k) (h2 : low t M < 2 ^ k) : jlow T s t N M < 2 ^ k := by
  refine Nat.lt_pow_two_of_testBit _ fun i hi => ?_
  rw [jlow_bit]
  unfold bitAt
  rw [Nat.testBit_lt_two_pow (Nat.lt_of_lt_of_le h1 (Nat.pow_le_pow_right (by decide) hi)), Nat.testBit_lt_two_pow (Nat.lt_of_lt_of_le h2 (Nat.pow_le_pow_right (by decide) hi))]
  cases s <;> cases t <;> simp
theorem jmag_le {T : Bool → Bool → Bool} {s t : Bool} {N M k : Nat} (h1 : N < 2 ^ k) (h2 : M < 2 ^ k) : jmag T s t N M ≤ 2 ^ k := by
  have := jlow_lt (T := T) (s := s) (t := t) (Nat.lt_of_le_of_lt (low_le s N) h1) (Nat.lt_of_le_of_lt (low_le t M) h2)
  unfold jmag; split <;> omega
theorem jmag_pos {T : Bool → Bool → Bool} {s t : Bool} (N M : Nat) (h : T s t = true) : 0 < jmag T s t N M := by
  unfold jmag; rw [if_pos h]; omega

def andT (a b : Bool) : Bool := a && b
theorem jmag_and00 (N M : Nat) : jmag andT false false N M = (N) &&& (M) := by
  have e : jlow andT false false N M = (N) &&& (M) := jlow_of fun i => by
    show ((N) &&& (M)).testBit i = (andT (false != (N).testBit i) (false != (M).testBit i) != andT false false)
    rw [Nat.testBit_and]
    cases (N).testBit i <;> cases (M).testBit i <;> rfl
  show jlow andT false false N M = _
  rw [e]
theorem jmag_and01 (N M : Nat) : jmag andT false true N M = andn (N) (M - 1) := by
  have e : jlow andT false true N M = andn (N) (M - 1) := jlow_of fun i => by
    show (andn (N) (M - 1)).testBit i = (andT (false != (N).testBit i) (true != (M - 1).testBit i) != andT false true)
    unfold andn; rw [Nat.testBit_xor, Nat.testBit_and]
    cases (N).testBit i <;> cases (M - 1).testBit i <;> rfl
  show jlow andT false true N M = _
  rw [e]
theorem jmag_and10 (N M : Nat) : jmag andT true false N M = andn (M) (N - 1) := by
  have e : jlow andT true false N M = andn (M) (N - 1) := jlow_of fun i => by
    show (andn (M) (N - 1)).testBit i = (andT (true != (N - 1).testBit i) (false != (M).testBit i) != andT true false)
    unfold andn; rw [Nat.testBit_xor, Nat.testBit_and]
    cases (N - 1).testBit i <;> cases (M).testBit i <;> rfl
  show jlow andT true false N M = _
  rw [e]
theorem jmag_and11 (N M : Nat) : jmag andT true true N M = ((N - 1) ||| (M - 1)) + 1 := by
  have e : jlow andT true true N M = (N - 1) ||| (M - 1) := jlow_of fun i => by
    show ((N - 1) ||| (M - 1)).testBit i = (andT (true != (N - 1).testBit i) (true != (M - 1).testBit i) != andT true true)
    rw [Nat.testBit_or]
    cases (N - 1).testBit i <;> cases (M - 1).testBit i <;> rfl
  show jlow andT true true N M + 1 = _
  rw [e]

def orT (a b : Bool) : Bool := a || b
theorem jmag_or00 (N M : Nat) : jmag orT false false N M = (N) ||| (M) := by
  have e : jlow orT false false N M = (N) ||| (M) := jlow_of fun i => by
    show ((N) ||| (M)).testBit i = (orT (false != (N).testBit i) (false != (M).testBit i) != orT false false)
    rw [Nat.testBit_or]
    cases (N).testBit i <;> cases (M).testBit i <;> rfl
  show jlow orT false false N M = _
  rw [e]
theorem jmag_or01 (N M : Nat) : jmag orT false true N M = (andn (M - 1) (N)) + 1 := by
  have e : jlow orT false true N M = andn (M - 1) (N) := jlow_of fun i => by
    show (andn (M - 1) (N)).testBit i = (orT (false != (N).testBit i) (true != (M - 1).testBit i) != orT false true)
    unfold andn; rw [Nat.testBit_xor, Nat.testBit_and]
    cases (N).testBit i <;> cases (M - 1).testBit i <;> rfl
  show jlow orT false true N M + 1 = _
  rw [e]
theorem jmag_or10 (N M : Nat) : jmag orT true false N M = (andn (N - 1) (M)) + 1 := by
  have e : jlow orT true false N M = andn (N - 1) (M) := jlow_of fun i => by
    show (andn (N - 1) (M)).testBit i = (orT (true != (N - 1).testBit i) (false != (M).testBit i) != orT true false)
    unfold andn; rw [Nat.testBit_xor, Nat.testBit_and]
    cases (N - 1).testBit i <;> cases (M).testBit i <;> rfl
  show jlow orT true false N M + 1 = _
  rw [e]
theorem jmag_or11 (N M : Nat) : jmag orT true true N M = ((N - 1) &&& (M - 1)) + 1 := by
  have e : jlow orT true true N M = (N - 1) &&& (M - 1) := jlow_of fun i => by
    show ((N - 1) &&& (M - 1)).testBit i = (orT (true != (N - 1).testBit i) (true != (M - 1).testBit i) != orT true true)
    rw [Nat.testBit_and]
    cases (N - 1).testBit i <;> cases (M - 1).testBit i <;> rfl
  show jlow orT true true N M + 1 = _
  rw [e]

def xorT (a b : Bool) : Bool := a != b
theorem jmag_xor00 (N M : Nat) : jmag xorT false false N M = (N) ^^^ (M) := by
  have e : jlow xorT false false N M = (N) ^^^ (M) := jlow_of fun i => by
    show ((N) ^^^ (M)).testBit i = (xorT (false != (N).testBit i) (false != (M).testBit i) != xorT false false)
    rw [Nat.testBit_xor]
    cases (N).testBit i <;> cases (M).testBit i <;> rfl
  show jlow xorT false false N M = _
  rw [e]
theorem jmag_xor01 (N M : Nat) : jmag xorT false true N M = ((N) ^^^ (M - 1)) + 1 := by
  have e : jlow xorT false true N M = (N) ^^^ (M - 1) := jlow_of fun i => by
    show ((N) ^^^ (M - 1)).testBit i = (xorT (false != (N).testBit i) (true != (M - 1).testBit i) != xorT false true)
    rw [Nat.testBit_xor]
    cases (N).testBit i <;> cases (M - 1).testBit i <;> rfl
  show jlow xorT false true N M + 1 = _
  rw [e]
theorem jmag_xor10 (N M : Nat) : jmag xorT true false N M = ((M) ^^^ (N - 1)) + 1 := by
  have e : jlow xorT true false N M = (M) ^^^ (N - 1) := jlow_of fun i => by
    show ((M) ^^^ (N - 1)).testBit i = (xorT (true != (N - 1).testBit i) (false != (M).testBit i) != xorT true false)
    rw [Nat.testBit_xor]
    cases (N - 1).testBit i <;> cases (M).testBit i <;> rfl
  show jlow xorT true false N M + 1 = _
  rw [e]
theorem jmag_xor11 (N M : Nat) : jmag xorT true true N M = (N - 1) ^^^ (M - 1) := by
  have e : jlow xorT true true N M = (N - 1) ^^^ (M - 1) := jlow_of fun i => by
    show ((N - 1) ^^^ (M - 1)).testBit i = (xorT (true != (N - 1).testBit i) (true != (M - 1).testBit i) != xorT true true)
    rw [Nat.testBit_xor]
    cases (N - 1).testBit i <;> cases (M - 1).testBit i <;> rfl
  show jlow xorT true true N M = _
  rw [e]

def andnT (a b : Bool) : Bool := a && !b
theorem jmag_andn00 (N M : Nat) : jmag andnT false false N M = andn (N) (M) := by
  have e : jlow andnT false false N M = andn (N) (M) := jlow_of fun i => by
    show (andn (N) (M)).testBit i = (andnT (false != (N).testBit i) (false != (M).testBit i) != andnT false false)
    unfold andn; rw [Nat.testBit_xor, Nat.testBit_and]
    cases (N).testBit i <;> cases (M).testBit i <;> rfl
  show jlow andnT false false N M = _
  rw [e]
theorem jmag_andn01 (N M : Nat) : jmag andnT false true N M = (N) &&& (M - 1) := by
  have e : jlow andnT false true N M = (N) &&& (M - 1) := jlow_of fun i => by
    show ((N) &&& (M - 1)).testBit i = (andnT (false != (N).testBit i) (true != (M - 1).testBit i) != andnT false true)
    rw [Nat.testBit_and]
    cases (N).testBit i <;> cases (M - 1).testBit i <;> rfl
  show jlow andnT false true N M = _
  rw [e]
theorem jmag_andn10 (N M : Nat) : jmag andnT true false N M = ((N - 1) ||| (M)) + 1 := by
  have e : jlow andnT true false N M = (N - 1) ||| (M) := jlow_of fun i => by
    show ((N - 1) ||| (M)).testBit i = (andnT (true != (N - 1).testBit i) (false != (M).testBit i) != andnT true false)
    rw [Nat.testBit_or]
    cases (N - 1).testBit i <;> cases (M).testBit i <;> rfl
  show jlow andnT true false N M + 1 = _
  rw [e]
theorem jmag_andn11 (N M : Nat) : jmag andnT true true N M = andn (M - 1) (N - 1) := by
  have e : jlow andnT true true N M = andn (M - 1) (N - 1) := jlow_of fun i => by
    show (andn (M - 1) (N - 1)).testBit i = (andnT (true != (N - 1).testBit i) (true != (M - 1).testBit i) != andnT true true)
    unfold andn; rw [Nat.testBit_xor, Nat.testBit_and]
    cases (N - 1).testBit i <;> cases (M - 1).testBit i <;> rfl
  show jlow andnT true true N M = _
  rw [e]

/-- what comes of two fractions that are whole, bit by bit -/
def Rt.joined (x y : Rt) (T : Bool → Bool → Bool) : Rt := Rt.whole (T x.neg y.neg) (jmag T x.neg y.neg x.num y.num)
theorem joined_rz (a b : Int) (T : Bool → Bool → Bool) : (rz a).joined (rz b) T = rz (jz T a b) := whole_rz _ _

/-- two words of 64 bits, joined bit by bit -/
theorem ofInt_bit (z : Int) (i : Nat) (hi : i < 64) : (BitVec.ofInt 64 z).getLsbD i = bitAt (decide (z < 0)) z.natAbs i := by
  unfold bitAt low
  by_cases h : z < 0
  · obtain ⟨m, rfl⟩ : ∃ m : Nat, z = Int.negSucc m := ⟨z.natAbs - 1, by omega⟩
    rw [decide_eq_true h, if_pos rfl, BitVec.ofInt_negSucc_eq_not_ofNat, BitVec.getLsbD_not, BitVec.getLsbD_ofNat]
    simp [hi, Int.natAbs_negSucc]
  · obtain ⟨m, rfl⟩ : ∃ m : Nat, z = m := ⟨z.natAbs, by omega⟩
    rw [decide_eq_false h, BitVec.ofInt_natCast, BitVec.getLsbD_ofNat]
    simp [hi]
theorem jz_neg (T : Bool → Bool → Bool) (a b : Int) : decide (jz T a b < 0) = T (decide (a < 0)) (decide (b < 0)) := by
  unfold jz sg
  cases h : T (decide (a < 0)) (decide (b < 0))
  · simp
  · have := jmag_pos (T := T) (s := decide (a < 0)) (t := decide (b < 0)) a.natAbs b.natAbs h
    simp; omega
theorem jz_abs (T : Bool → Bool → Bool) (a b : Int) : (jz T a b).natAbs = jmag T (decide (a < 0)) (decide (b < 0)) a.natAbs b.natAbs := by
  unfold jz; rw [sg_nat]
theorem jz_low (T : Bool → Bool → Bool) (a b : Int) : low (T (decide (a < 0)) (decide (b < 0))) (jmag T (decide (a < 0)) (decide (b < 0)) a.natAbs b.natAbs) = jlow T (decide (a < 0)) (decide (b < 0)) a.natAbs b.natAbs := by
  unfold low jmag
  cases T (decide (a < 0)) (decide (b < 0)) <;> simp
theorem jz_bit (T : Bool → Bool → Bool) (a b : Int) (i : Nat) : bitAt (decide (jz T a b < 0)) (jz T a b).natAbs i = T (bitAt (decide (a < 0)) a.natAbs i) (bitAt (decide (b < 0)) b.natAbs i) := by
  rw [jz_neg, jz_abs]
  unfold bitAt
  rw [jz_low, jlow_bit]
  show (_ != (T (bitAt _ _ _) (bitAt _ _ _) != _)) = _
  unfold bitAt
  cases T (decide (a < 0)) (decide (b < 0)) <;> simp
theorem jz_vec (T : Bool → Bool → Bool) (a b : Int) (v : BitVec 64) (hv : ∀ i, i < 64 → v.getLsbD i = T ((BitVec.ofInt 64 a).getLsbD i) ((BitVec.ofInt 64 b).getLsbD i)) : v = BitVec.ofInt 64 (jz T a b) := by
  apply BitVec.eq_of_getLsbD_eq
  intro i hi
  rw [hv i hi, ofInt_bit _ _ hi, ofInt_bit _ _ hi, ofInt_bit _ _ hi, jz_bit]
end Go.Bg
namespace Go.Proofs.YtdkipndepkblhaaGreatDoor
open Go.RowKit Go.Bg Dg
theorem jz_sg {T : Bool → Bool → Bool} {s t : Bool} {N M : Nat} (hs : s = true → 0 < N) (ht : t = true → 0 < M) : sg (T s t) (jmag T s t N M) = jz T (sg s N) (sg t M) := by
  obtain ⟨e1, e2⟩ := sg_abs hs
  obtain ⟨e3, e4⟩ := sg_abs ht
  unfold jz
  rw [e1, e2, e3, e4]
theorem jz_fit {T : Bool → Bool → Bool} {a b : Int} (ha : fit64 a = true) (hb : fit64 b = true) : fit64 (jz T a b) = true := by
  have l1 : low (decide (a < 0)) a.natAbs < 2 ^ 63 := by
    have := fit64_bd ha
    unfold low; split <;> simp_all <;> omega
  have l2 : low (decide (b < 0)) b.natAbs < 2 ^ 63 := by
    have := fit64_bd hb
    unfold low; split <;> simp_all <;> omega
  have h := jlow_lt (T := T) l1 l2
  unfold jz jmag sg fit64
  cases T (decide (a < 0)) (decide (b < 0)) <;> simp <;> omega
theorem wrap_ofInt {z : Int} (h : fit64 z = true) : IntKind.i64.wrap ((BitVec.ofInt 64 z).toNat : Int) = z := by
  have := fit64_bd h
  rw [BitVec.toNat_ofInt, IntKind.wrap_i64]
  omega
theorem bits_and_i64 {a b : Int} (ha : fit64 a = true) (hb : fit64 b = true) : bits .and .i64 a b = jz andT a b := by
  show IntKind.i64.wrap ((BitVec.ofInt 64 a &&& BitVec.ofInt 64 b).toNat : Int) = _
  rw [jz_vec andT a b (BitVec.ofInt 64 a &&& BitVec.ofInt 64 b) (fun i hi => by simp [andT, hi]), wrap_ofInt (jz_fit ha hb)]
theorem bits_or_i64 {a b : Int} (ha : fit64 a = true) (hb : fit64 b = true) : bits .or .i64 a b = jz orT a b := by
  show IntKind.i64.wrap ((BitVec.ofInt 64 a ||| BitVec.ofInt 64 b).toNat : Int) = _
  rw [jz_vec orT a b (BitVec.ofInt 64 a ||| BitVec.ofInt 64 b) (fun i hi => by simp [orT, hi]), wrap_ofInt (jz_fit ha hb)]
theorem bits_xor_i64 {a b : Int} (ha : fit64 a = true) (hb : fit64 b = true) : bits .xor .i64 a b = jz xorT a b := by
  show IntKind.i64.wrap ((BitVec.ofInt 64 a ^^^ BitVec.ofInt 64 b).toNat : Int) = _
  rw [jz_vec xorT a b (BitVec.ofInt 64 a ^^^ BitVec.ofInt 64 b) (fun i hi => by simp [xorT, hi]), wrap_ofInt (jz_fit ha hb)]
theorem bits_andn_i64 {a b : Int} (ha : fit64 a = true) (hb : fit64 b = true) : bits .andNot .i64 a b = jz andnT a b := by
  show IntKind.i64.wrap ((BitVec.ofInt 64 a &&& ~~~ BitVec.ofInt 64 b).toNat : Int) = _
  rw [jz_vec andnT a b (BitVec.ofInt 64 a &&& ~~~ BitVec.ofInt 64 b) (fun i hi => by simp [andnT, hi]), wrap_ofInt (jz_fit ha hb)]
end Go.Proofs.YtdkipndepkblhaaGreatDoor

set_option linter.unusedSimpArgs false
set_option linter.unusedVariables false
namespace Go.Bg
open Go.RowKit Dg

/-- a bit of an integer in two's complement -/
def zbit (z : Int) (i : Nat) : Bool := bitAt (decide (z < 0)) z.natAbs i
theorem zbit_not (z : Int) (i : Nat) : zbit (-z - 1) i = !zbit z i := by
  unfold zbit bitAt low
  by_cases h : z < 0
  · obtain ⟨m, rfl⟩ : ∃ m : Nat, z = -(m : Int) - 1 := ⟨z.natAbs - 1, by omega⟩
    have e1 : decide (-(-(m : Int) - 1) - 1 < 0) = false := decide_eq_false (by omega)
    have e2 : (-(-(m : Int) - 1) - 1).natAbs = m := by omega
    have e3 : (-(m : Int) - 1).natAbs - 1 = m := by omega
    rw [e1, e2, decide_eq_true h, if_pos rfl, if_neg (by decide), e3]
    cases m.testBit i <;> rfl
  · obtain ⟨m, rfl⟩ : ∃ m : Nat, z = m := ⟨z.natAbs, by omega⟩
    have e1 : decide (-(m : Int) - 1 < 0) = true := decide_eq_true (by omega)
    have e2 : (-(m : Int) - 1).natAbs - 1 = m := by omega
    rw [e1, if_pos rfl, e2, decide_eq_false h, if_neg (by decide), Int.natAbs_natCast]
    cases m.testBit i <;> rfl
theorem zbit_jz (T : Bool → Bool → Bool) (a b : Int) (i : Nat) : zbit (jz T a b) i = T (zbit a i) (zbit b i) := jz_bit T a b i
theorem zbit_high {z : Int} {i : Nat} (h : bl z.natAbs ≤ i) : zbit z i = decide (z < 0) := bitAt_high (lt_size h)
theorem zbit_ext {x y : Int} (h : ∀ i, zbit x i = zbit y i) : x = y := by
  have hs : decide (x < 0) = decide (y < 0) := by
    have := h (max (bl x.natAbs) (bl y.natAbs))
    rwa [zbit_high (Nat.le_max_left _ _), zbit_high (Nat.le_max_right _ _)] at this
  have hl : low (decide (x < 0)) x.natAbs = low (decide (y < 0)) y.natAbs := by
    apply Nat.eq_of_testBit_eq
    intro i
    have := h i
    unfold zbit bitAt at this
    rw [hs] at this ⊢
    generalize (low (decide (y < 0)) x.natAbs).testBit i = p at *
    generalize (low (decide (y < 0)) y.natAbs).testBit i = q at *
    cases decide (y < 0) <;> cases p <;> cases q <;> simp_all
  unfold low at hl
  by_cases hx : x < 0
  · have hy : y < 0 := by rw [decide_eq_true hx] at hs; simpa using hs.symm
    rw [decide_eq_true hx, decide_eq_true hy, if_pos rfl, if_pos rfl] at hl
    omega
  · have hy : ¬ y < 0 := by rw [decide_eq_false hx] at hs; simpa using hs.symm
    rw [decide_eq_false hx, decide_eq_false hy, if_neg (by decide), if_neg (by decide)] at hl
    omega
/-- not of and is or of nots -/
theorem deMorgan (a b : Int) : jz orT (-a - 1) (-b - 1) = -jz andT a b - 1 := by
  refine zbit_ext fun i => ?_
  rw [zbit_jz, zbit_not, zbit_not, zbit_not, zbit_jz]
  unfold orT andT
  cases zbit a i <;> cases zbit b i <;> rfl
/-- all of so many bits turned -/
theorem andn_ones {N p : Nat} (h : N < 2 ^ p) : andn (2 ^ p - 1) N = 2 ^ p - 1 - N := by
  apply Nat.eq_of_testBit_eq
  intro i
  have e : 2 ^ p - 1 - N = 2 ^ p - (N + 1) := by omega
  rw [e, Nat.testBit_two_pow_sub_succ h]
  unfold andn
  rw [Nat.testBit_xor, Nat.testBit_and, Nat.testBit_two_pow_sub_one]
  cases decide (i < p) <;> cases N.testBit i <;> rfl
theorem jz_lt {T : Bool → Bool → Bool} {a b : Int} {L : Nat} (h1 : a.natAbs < W64 ^ L) (h2 : b.natAbs < W64 ^ L) : (jz T a b).natAbs < W64 ^ (L + 1) := by
  rw [jz_abs]
  rw [pow64] at h1 h2 ⊢
  have := jmag_le (T := T) (s := decide (a < 0)) (t := decide (b < 0)) h1 h2
  exact Nat.lt_of_le_of_lt this (Nat.pow_lt_pow_right (by decide) (by omega))
end Go.Bg
