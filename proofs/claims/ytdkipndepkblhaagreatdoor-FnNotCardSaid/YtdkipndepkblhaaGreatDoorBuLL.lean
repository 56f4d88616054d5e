/-
  The reference's bits, plain.
  The reference's bits: Has, bit.
  The reference's Joined.
  The reference's Joined: the whole. PRINTED BY wip/gen_spl.py.
-/
import Derived.Test.YtdkipndepkblhaaGreatDoorBuKK
import Derived.Test.YtdkipndepkblhaaGreatDoorBuCC
import Derived.Test.YtdkipndepkblhaaGreatDoorBuA
import Derived.Test.YtdkipndepkblhaaGreatDoorSpF
set_option linter.unusedSimpArgs false
set_option linter.unusedVariables false
namespace Go.Bg
open Go.RowKit Dg
theorem dg16_bit (N i : Nat) : (dg 65536 N (i / 16)).testBit (i % 16) = N.testBit i := by
  unfold dg
  rw [show (65536 : Nat) = 2 ^ 16 from rfl, ← Nat.pow_mul, Nat.testBit_mod_two_pow, decide_eq_true (show i % 16 < 16 from Nat.mod_lt _ (by decide)), Bool.true_and, Nat.testBit_div_two_pow]
  congr 1
  omega
theorem dg16_has (N i q r : Nat) (hq : q = i / 16) (hr : r = i % 16) : decide (dg 65536 N q / 2 ^ r % 2 = 1) = N.testBit i := by
  subst hq hr
  rw [← dg16_bit N i, Nat.testBit_eq_decide_div_mod_eq]
theorem has_none {N n i : Nat} (hN : N < 65536 ^ n) (h : n ≤ i / 16) : N.testBit i = false := by
  refine Nat.testBit_lt_two_pow (Nat.lt_of_lt_of_le hN ?_)
  rw [show (65536 : Nat) = 2 ^ 16 from rfl, ← Nat.pow_mul]
  exact Nat.pow_le_pow_right (by decide) (by omega)
end Go.Bg
namespace Go.Proofs.YtdkipndepkblhaaGreatDoor
open Go.RowKit Go.Bg Dg
theorem bits_and_one (x : Nat) (hx : x < 9223372036854775808) : bits .and .i64 (x : Int) 1 = ((x % 2 : Nat) : Int) := by
  have h := bits_and_i64 (a := (x : Int)) (b := 1) (by unfold fit64; simp; omega) (by decide)
  rw [h]
  have e : jz andT (x : Int) 1 = sg (andT false false) (jmag andT false false x 1) := by
    unfold jz
    rw [decide_eq_false (show ¬ ((x : Int) < 0) from by omega), decide_eq_false (show ¬ ((1 : Int) < 0) from by omega)]
    rfl
  rw [e, jmag_and00, Nat.and_one_is_mod]
  rfl
end Go.Proofs.YtdkipndepkblhaaGreatDoor

set_option linter.unusedSimpArgs false
set_option linter.unusedVariables false
namespace Go.Proofs.YtdkipndepkblhaaGreatDoor
open Go.RowKit Go.Bg Dg

end Go.Proofs.YtdkipndepkblhaaGreatDoor

set_option linter.unusedSimpArgs false
set_option linter.unusedVariables false
namespace Go.Proofs.YtdkipndepkblhaaGreatDoor
open Go.RowKit Go.Bg Dg

/-- the table of what comes of two bits -/
structure TabAt (w : World) (b : Nat) (T : Bool → Bool → Bool) : Prop where
  c0 : w.cell? ⟨b, 0, none⟩ = some (.bool (T false false))
  c1 : w.cell? ⟨b, 1, none⟩ = some (.bool (T false true))
  c2 : w.cell? ⟨b, 2, none⟩ = some (.bool (T true false))
  c3 : w.cell? ⟨b, 3, none⟩ = some (.bool (T true true))
theorem TabAt.keep {w w' : World} {b : Nat} {T : Bool → Bool → Bool} (h : TabAt w b T) (hb : Below w.heap.size w w') : TabAt w' b T := ⟨cell_keep h.c0 hb, cell_keep h.c1 hb, cell_keep h.c2 hb, cell_keep h.c3 hb⟩

end Go.Proofs.YtdkipndepkblhaaGreatDoor

set_option linter.unusedSimpArgs false
set_option linter.unusedVariables false
namespace Go.Bg
open Go.RowKit Dg
theorem jlow_L {T : Bool → Bool → Bool} {s t : Bool} {N M L : Nat} (h1 : N < 65536 ^ L) (h2 : M < 65536 ^ L) : jlow T s t N M + 1 < 65536 ^ (L + 1) := by
  have e : (65536 : Nat) ^ L = 2 ^ (16 * L) := by rw [Nat.pow_mul]
  rw [e] at h1 h2
  have := jlow_lt (T := T) (s := s) (t := t) (Nat.lt_of_le_of_lt (low_le s N) h1) (Nat.lt_of_le_of_lt (low_le t M) h2)
  rw [Nat.pow_succ, e]
  omega
theorem max_l {p q : Nat} (h : q ≤ p) : max p q = p := Nat.max_eq_left h
theorem max_r {p q : Nat} (h : p < q) : max p q = q := Nat.max_eq_right (Nat.le_of_lt h)
end Go.Bg
namespace Go.Proofs.YtdkipndepkblhaaGreatDoor
open Go.RowKit Go.Bg Dg

end Go.Proofs.YtdkipndepkblhaaGreatDoor
