/-
  An argument that is a truth, as it is read.
-/
import Derived.Test.YtgcpjlniamebgaaGreatDoorBuA
namespace Go.Bg
end Go.Bg
