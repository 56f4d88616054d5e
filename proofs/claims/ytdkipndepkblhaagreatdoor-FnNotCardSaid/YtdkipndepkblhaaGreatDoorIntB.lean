/-
  Int.And, Or, Xor, AndNot into a new Int. PRINTED BY wip/gen_intb.py.
-/
import Derived.Test.YtdkipndepkblhaaGreatDoorIntBAnd
import Derived.Test.YtdkipndepkblhaaGreatDoorIntBOr
import Derived.Test.YtdkipndepkblhaaGreatDoorIntBXor
import Derived.Test.YtdkipndepkblhaaGreatDoorIntBAnn
set_option linter.unusedSimpArgs false
set_option linter.unusedVariables false
namespace Go.Proofs.YtdkipndepkblhaaGreatDoor
open Go.RowKit Go.Bg Dg

theorem intAnd_new (d p b1 o1 b2 o2 : Nat) (s t : Bool) (N M : Nat) (w : World) (h : NewInt w d p) (h1 : BigAt 151 w b1 o1 s N) (h2 : BigAt 151 w b2 o2 t M) (L : Nat) (hL : L ≤ 300000) (hN : N < W64 ^ L) (hM : M < W64 ^ L) :
    Calls Tryz.prog 74 #[.pointer (some ⟨d, p, none⟩), .pointer (some ⟨b1, o1, none⟩), .pointer (some ⟨b2, o2, none⟩)] w (IntIs d p (decide (jz andT (sg s N) (sg t M) < 0)) (jz andT (sg s N) (sg t M)).natAbs w) := by
  have hj := jz_sg (T := andT) h1.zero h2.zero
  cases s <;> cases t
  · exact (intAnd_00 d p b1 o1 b2 o2 N M w h h1 h2 L hL hN hM).mono fun e w' hI => intIs_z hI (by rw [← hj, jmag_and00]; rfl)
  · exact (intAnd_01 d p b1 o1 b2 o2 N M w h h1 h2 L hL hN hM).mono fun e w' hI => intIs_z hI (by rw [← hj, jmag_and01]; rfl)
  · exact (intAnd_10 d p b1 o1 b2 o2 N M w h h1 h2 L hL hN hM).mono fun e w' hI => intIs_z hI (by rw [← hj, jmag_and10]; rfl)
  · exact (intAnd_11 d p b1 o1 b2 o2 N M w h h1 h2 L hL hN hM).mono fun e w' hI => intIs_z hI (by rw [← hj, jmag_and11]; rfl)

theorem intOr_new (d p b1 o1 b2 o2 : Nat) (s t : Bool) (N M : Nat) (w : World) (h : NewInt w d p) (h1 : BigAt 151 w b1 o1 s N) (h2 : BigAt 151 w b2 o2 t M) (L : Nat) (hL : L ≤ 300000) (hN : N < W64 ^ L) (hM : M < W64 ^ L) :
    Calls Tryz.prog 75 #[.pointer (some ⟨d, p, none⟩), .pointer (some ⟨b1, o1, none⟩), .pointer (some ⟨b2, o2, none⟩)] w (IntIs d p (decide (jz orT (sg s N) (sg t M) < 0)) (jz orT (sg s N) (sg t M)).natAbs w) := by
  have hj := jz_sg (T := orT) h1.zero h2.zero
  cases s <;> cases t
  · exact (intOr_00 d p b1 o1 b2 o2 N M w h h1 h2 L hL hN hM).mono fun e w' hI => intIs_z hI (by rw [← hj, jmag_or00]; rfl)
  · exact (intOr_01 d p b1 o1 b2 o2 N M w h h1 h2 L hL hN hM).mono fun e w' hI => intIs_z hI (by rw [← hj, jmag_or01]; rfl)
  · exact (intOr_10 d p b1 o1 b2 o2 N M w h h1 h2 L hL hN hM).mono fun e w' hI => intIs_z hI (by rw [← hj, jmag_or10]; rfl)
  · exact (intOr_11 d p b1 o1 b2 o2 N M w h h1 h2 L hL hN hM).mono fun e w' hI => intIs_z hI (by rw [← hj, jmag_or11]; rfl)

theorem intXor_new (d p b1 o1 b2 o2 : Nat) (s t : Bool) (N M : Nat) (w : World) (h : NewInt w d p) (h1 : BigAt 151 w b1 o1 s N) (h2 : BigAt 151 w b2 o2 t M) (L : Nat) (hL : L ≤ 300000) (hN : N < W64 ^ L) (hM : M < W64 ^ L) :
    Calls Tryz.prog 76 #[.pointer (some ⟨d, p, none⟩), .pointer (some ⟨b1, o1, none⟩), .pointer (some ⟨b2, o2, none⟩)] w (IntIs d p (decide (jz xorT (sg s N) (sg t M) < 0)) (jz xorT (sg s N) (sg t M)).natAbs w) := by
  have hj := jz_sg (T := xorT) h1.zero h2.zero
  cases s <;> cases t
  · exact (intXor_00 d p b1 o1 b2 o2 N M w h h1 h2 L hL hN hM).mono fun e w' hI => intIs_z hI (by rw [← hj, jmag_xor00]; rfl)
  · exact (intXor_01 d p b1 o1 b2 o2 N M w h h1 h2 L hL hN hM).mono fun e w' hI => intIs_z hI (by rw [← hj, jmag_xor01]; rfl)
  · exact (intXor_10 d p b1 o1 b2 o2 N M w h h1 h2 L hL hN hM).mono fun e w' hI => intIs_z hI (by rw [← hj, jmag_xor10]; rfl)
  · exact (intXor_11 d p b1 o1 b2 o2 N M w h h1 h2 L hL hN hM).mono fun e w' hI => intIs_z hI (by rw [← hj, jmag_xor11]; rfl)

theorem intAndNot_new (d p b1 o1 b2 o2 : Nat) (s t : Bool) (N M : Nat) (w : World) (h : NewInt w d p) (h1 : BigAt 151 w b1 o1 s N) (h2 : BigAt 151 w b2 o2 t M) (L : Nat) (hL : L ≤ 300000) (hN : N < W64 ^ L) (hM : M < W64 ^ L) :
    Calls Tryz.prog 77 #[.pointer (some ⟨d, p, none⟩), .pointer (some ⟨b1, o1, none⟩), .pointer (some ⟨b2, o2, none⟩)] w (IntIs d p (decide (jz andnT (sg s N) (sg t M) < 0)) (jz andnT (sg s N) (sg t M)).natAbs w) := by
  have hj := jz_sg (T := andnT) h1.zero h2.zero
  cases s <;> cases t
  · exact (intAndNot_00 d p b1 o1 b2 o2 N M w h h1 h2 L hL hN hM).mono fun e w' hI => intIs_z hI (by rw [← hj, jmag_andn00]; rfl)
  · exact (intAndNot_01 d p b1 o1 b2 o2 N M w h h1 h2 L hL hN hM).mono fun e w' hI => intIs_z hI (by rw [← hj, jmag_andn01]; rfl)
  · exact (intAndNot_10 d p b1 o1 b2 o2 N M w h h1 h2 L hL hN hM).mono fun e w' hI => intIs_z hI (by rw [← hj, jmag_andn10]; rfl)
  · exact (intAndNot_11 d p b1 o1 b2 o2 N M w h h1 h2 L hL hN hM).mono fun e w' hI => intIs_z hI (by rw [← hj, jmag_andn11]; rfl)

end Go.Proofs.YtdkipndepkblhaaGreatDoor
