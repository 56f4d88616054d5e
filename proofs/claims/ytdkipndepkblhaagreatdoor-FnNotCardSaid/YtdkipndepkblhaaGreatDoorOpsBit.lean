/-
  impl.Binary of two integers, bit by bit; impl.Unary: all bits turned.
-/
import Derived.Test.YtdkipndepkblhaaGreatDoorBuMM
import Derived.Test.YtdkipndepkblhaaGreatDoorBuMM
import Derived.Test.YtdkipndepkblhaaGreatDoorBuMM
import Derived.Test.YtdkipndepkblhaaGreatDoorBuMM
import Derived.Test.YtdkipndepkblhaaGreatDoorBuKK
import Derived.Test.YtdkipndepkblhaaGreatDoorBuU
import Derived.Test.YtdkipndepkblhaaGreatDoorBuNN
import Derived.Test.YtdkipndepkblhaaGreatDoorBuNN
set_option linter.unusedSimpArgs false
set_option linter.unusedVariables false
namespace Go.Proofs.YtdkipndepkblhaaGreatDoor
open Go.RowKit Go.Bg Dg

/-- the tables of the four operators -/
def tabT (k : Nat) : Bool → Bool → Bool := if k = 0 then andT else if k = 1 then orT else if k = 2 then xorT else andnT

theorem implJoin_any (k : Nat) (hk : k < 4) (x y : Vl) (K : Nat) (w : World) (h1 : VlAt w x) (h2 : VlAt w y) (k1 : x.kind = 3) (k2 : y.kind = 3) (n1 : x.wn ≤ K) (n2 : y.wn ≤ K) (hK : K ≤ 1000) :
    Calls Tryz.prog 15 #[.int .i64 ((6 + k : Nat) : Int), .agg #[.int .i64 x.kind, .bool x.truth, .string x.text, .bool x.neg, .slice x.wa x.wn x.wc, .slice x.da x.dn x.dc, .bool x.ineg, .slice x.ia x.inn x.ic, .slice x.ea x.en x.ec], .agg #[.int .i64 y.kind, .bool y.truth, .string y.text, .bool y.neg, .slice y.wa y.wn y.wc, .slice y.da y.dn y.dc, .bool y.ineg, .slice y.ia y.inn y.ic, .slice y.ea y.en y.ec]] w (GivesV (IsZ (jz (tabT k) (sg x.neg (val W64 x.wf x.wn)) (sg y.neg (val W64 y.wf y.wn))) (K + 1)) w) := by
  have l1 := vl_lt h1 n1
  have l2 := vl_lt h2 n2
  have hz := jz_lt (T := tabT k) l1 l2
  refine implBinary_any (6 + k) (by omega) x y _ (K + 1) w h1 h2 k1 k2 (by omega) (by omega) (by omega) hz (fun v1 v2 w' _ c1 c2 _ => ?_)
  rcases (by omega : k = 0 ∨ k = 1 ∨ k = 2 ∨ k = 3) with rfl | rfl | rfl | rfl
  · exact binAnd_any v1 v2 _ _ w' c1 c2 K (by omega) l1 l2
  · exact binOr_any v1 v2 _ _ w' c1 c2 K (by omega) l1 l2
  · exact binXor_any v1 v2 _ _ w' c1 c2 K (by omega) l1 l2
  · exact binAnn_any v1 v2 _ _ w' c1 c2 K (by omega) l1 l2

theorem implNot_any (x : Vl) (K : Nat) (w : World) (h1 : VlAt w x) (k1 : x.kind = 3) (n1 : x.wn ≤ K) (hK : K ≤ 1000) :
    Calls Tryz.prog 19 #[.int .i64 2, .agg #[.int .i64 x.kind, .bool x.truth, .string x.text, .bool x.neg, .slice x.wa x.wn x.wc, .slice x.da x.dn x.dc, .bool x.ineg, .slice x.ia x.inn x.ic, .slice x.ea x.en x.ec], .int .u64 0] w (GivesV (IsZ (-sg x.neg (val W64 x.wf x.wn) - 1) (K + 1)) w) := by
  have l1 := vl_lt h1 n1
  have hp := pow_step K
  have hp0 : 0 < W64 ^ K := Nat.pow_pos W64_pos
  exact implUnaryZ_any 2 (by omega) 19 rfl x 0 _ (K + 1) w h1 k1 (by omega) (by omega) (by omega)
    (fun v w' _ c => unaryNotInt_any v _ w' c K (by omega) l1)
end Go.Proofs.YtdkipndepkblhaaGreatDoor
