/-
  What an integer that is told is.
  impl.Sign: the sign of an integer.
  MakeFromBytes of one byte.
  impl.FromBytes of one byte.
-/
import Derived.Test.YtdkipndepkblhaaGreatDoorBuL
import Derived.Test.YtdkipndepkblhaaGreatDoorBuN
import Derived.Test.YtdkipndepkblhaaGreatDoorBuI
import Derived.Test.YtdkipndepkblhaaGreatDoorBuF
import Derived.Test.YtdkipndepkblhaaGreatDoorBuA
set_option linter.unusedSimpArgs false
set_option linter.unusedVariables false
namespace Go.Proofs.YtdkipndepkblhaaGreatDoor
open Go.RowKit Go.Bg Dg

theorem field_kind (a0 a1 a2 a3 a4 a5 a6 a7 a8 : Value) (w : World) : (Instr.field 26 (.agg #[a0, a1, a2, a3, a4, a5, a6, a7, a8]) 0).run Tryz.prog w = .ok a0 w := by kernel_rfl

theorem isZ_sg {z : Int} {L : Nat} {y : Vl} (h : IsZ z L y) : sg y.neg (val W64 y.wf y.wn) = z := by
  obtain ⟨h1, h2, h3, _⟩ := h
  rw [h2, h3]
  exact sg_natAbs z
theorem isZ_kind {z : Int} {L : Nat} {y : Vl} (h : IsZ z L y) : y.kind = 3 := by
  have := h.1
  unfold intB at this
  simp only [Bool.and_eq_true, decide_eq_true_eq] at this
  exact this.1.1.1
theorem cmpZ_sub (a b : Int) : cmpZ (a - b) 0 = cmpZ a b := by
  unfold cmpZ
  split <;> split <;> (try split) <;> (try split) <;> omega
theorem cmpZ_bd (a b : Int) : -1 ≤ cmpZ a b ∧ cmpZ a b ≤ 1 := by
  unfold cmpZ
  split
  · omega
  · split <;> omega
end Go.Proofs.YtdkipndepkblhaaGreatDoor

set_option linter.unusedSimpArgs false
set_option linter.unusedVariables false
namespace Go.Proofs.YtdkipndepkblhaaGreatDoor
open Go.RowKit Go.Bg Dg

theorem sign_sg (s : Bool) (N : Nat) : (if N = 0 then (0 : Int) else if s then -1 else 1) = cmpZ (sg s N) 0 := by
  unfold cmpZ sg
  by_cases hn : N = 0
  · subst hn; cases s <;> rfl
  · have h2 : (0 : Int) < N := by omega
    have h1 : ¬ ((N : Int) < 0) := by omega
    have h3 : -(N : Int) < 0 := by omega
    cases s
    · simp [hn, h1, h2]
    · simp [hn, h3]

end Go.Proofs.YtdkipndepkblhaaGreatDoor

set_option linter.unusedSimpArgs false
set_option linter.unusedVariables false
namespace Go.Proofs.YtdkipndepkblhaaGreatDoor
open Go.RowKit Go.Bg Dg

theorem bits_or0 (n : Nat) (hn : n < 256) : bits .or .u64 0 (n : Int) = n := by
  have h2 : (BitVec.ofInt 64 (n : Int)).toNat = n := by
    rw [BitVec.ofInt_natCast, BitVec.toNat_ofNat]; exact Nat.mod_eq_of_lt (by omega)
  show IntKind.u64.wrap (((BitVec.ofInt 64 0) ||| BitVec.ofInt 64 (n : Int)).toNat : Int) = _
  rw [BitVec.toNat_or, h2, IntKind.wrap_u64]
  simp
  omega

end Go.Proofs.YtdkipndepkblhaaGreatDoor

set_option linter.unusedSimpArgs false
set_option linter.unusedVariables false
namespace Go.Proofs.YtdkipndepkblhaaGreatDoor
open Go.RowKit Go.Bg Dg

theorem infoU8 : (Tryz.prog.info? 5).map (fun i => (i.zero, i.size, i.bytes)) = some (some (.int .u8 0), 1, 1) := by kernel_rfl

end Go.Proofs.YtdkipndepkblhaaGreatDoor
