/-
  FnUnknown walked.
-/
import Derived.Test.YtgcpjlniamebgaaGreatDoorLFnUnknownA
import Derived.Test.YtgcpjlniamebgaaGreatDoorLFnUnknownB
set_option linter.unusedSimpArgs false
set_option linter.unusedVariables false
namespace Go.Proofs.YtgcpjlniamebgaaGreatDoor
open Go.RowKit Go.Bg Dg

theorem lawFnUnknown_any (op : Nat) (hop : op < 256) (x : Vl) (turned : Bool) (w : World) (h1 : VlAt w x) :
    Calls Tryz.prog 10 #[.int .u8 op, .agg #[.int .i64 x.kind, .bool x.truth, .string x.text, .bool x.neg, .slice x.wa x.wn x.wc, .slice x.da x.dn x.dc, .bool x.ineg, .slice x.ia x.inn x.ic, .slice x.ea x.en x.ec], .bool turned] w fun e w' => e = .returned (.bool true) ∧ Below w.heap.size w w' := by
  cases turned
  · exact lawFnUnknown_false op hop x w h1
  · exact lawFnUnknown_true op hop x w h1
end Go.Proofs.YtgcpjlniamebgaaGreatDoor
