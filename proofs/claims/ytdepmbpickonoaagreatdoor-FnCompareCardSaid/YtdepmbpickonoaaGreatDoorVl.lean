/-
  The thin package's values as they lie in memory.
-/
import Derived.Test.YtdepmbpickonoaaGreatDoorRt
set_option linter.unusedSimpArgs false
set_option linter.unusedVariables false
namespace Go.Bg
open Go.RowKit Dg

/-- the nine cells of a value, and what its four slices hold -/
structure Vl where
  kind : Int
  truth : Bool
  text : ByteArray
  neg : Bool
  wa : Option Addr
  wn : Nat
  wc : Nat
  wf : Nat → Nat
  da : Option Addr
  dn : Nat
  dc : Nat
  df : Nat → Nat
  ineg : Bool
  ia : Option Addr
  inn : Nat
  ic : Nat
  jf : Nat → Nat
  ea : Option Addr
  en : Nat
  ec : Nat
  ef : Nat → Nat

/-- a slice of words -/
structure WordsAt (w : World) (a : Option Addr) (n c : Nat) (f : Nat → Nat) : Prop where
  cells : Cells w a n (fun i => .int .u64 (f i : Nat))
  lt : ∀ i, i < n → f i < W64
  nc : n ≤ c
  cm : c ≤ maxLen
  nil : a = none → c = 0

theorem WordsAt.keep {w w' : World} {a : Option Addr} {n c : Nat} {f : Nat → Nat} (h : WordsAt w a n c f) (hb : Below w.heap.size w w') : WordsAt w' a n c f :=
  ⟨h.cells.keep hb, h.lt, h.nc, h.cm, h.nil⟩

structure VlAt (w : World) (v : Vl) : Prop where
  ws : WordsAt w v.wa v.wn v.wc v.wf
  ds : WordsAt w v.da v.dn v.dc v.df
  is : WordsAt w v.ia v.inn v.ic v.jf
  es : WordsAt w v.ea v.en v.ec v.ef
  text : v.text.size ≤ maxLen
  kind : -9223372036854775808 ≤ v.kind ∧ v.kind ≤ 9223372036854775807

theorem VlAt.keep {w w' : World} {v : Vl} (h : VlAt w v) (hb : Below w.heap.size w w') : VlAt w' v :=
  ⟨h.ws.keep hb, h.ds.keep hb, h.is.keep hb, h.es.keep hb, h.text, h.kind⟩

/-- what a number does not use is nothing -/
def Vl.restB (v : Vl) : Bool := !v.truth && v.text.toList.isEmpty && !v.ineg && decide (v.inn = 0) && decide (v.en = 0)
end Go.Bg
