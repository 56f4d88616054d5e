/-
  DERIVED. GIVEN WITH THE SEED: THE CARDS: each row of YtgmienggfaahlaaGreatDoorRows.lean that lists a variable, with what it lists TIED to the program's text (the seventh form; the later family's looks); each row that meets fmt, with fmt's text TOLD by the authors' own Lean function (tested against real Go, not proved from fmt's source: count such statements apart). THE CARD IS WHAT COUNTS. Prove the row's statement (the work); the ties are given (YtgmienggfaahlaaGreatDoorTie.lean); close each card by the builder's one call (the guide's Derived/Test/ToyasCard.lean, 'card_holds'). Laid BY PROGRAM, IN A SANDBOX (cutbox-door.mjs). By AI agents, Wed Nov 11 2026. No macro, syntax, notation, axiom, sorry.
-/
import Derived.Test.YtgmienggfaahlaaGreatDoorRows
import GoSem.ClaimSeven
namespace Go.Proofs.YtgmienggfaahlaaGreatDoor
namespace Rows

/-- THE TIED CARD OF 'laws.FnComplexQuotient'. -/
def fnComplexQuotientCard : Claim7 := { stood := { row := fnComplexQuotientRow, standIns := [], harness := (true, "17737b2c6ca8be98de46e5cb422cd6d74991116b8495e66387215827ca023f29"), looks := true }, kinds := [], alts := [], laidByText := true, laidKinds := [.data, .data, .data, .data], laidTests := true, laidLooks := .later }
def FnComplexQuotientCardSaid : Prop := Claim7.holds Tryz.pinned (.plain (OpenSpec.ofChange fnComplexQuotientSpec)) fnComplexQuotientCard

/-- THE TIED CARD OF 'laws.FnField'. -/
def fnFieldCard : Claim7 := { stood := { row := fnFieldRow, standIns := [], harness := (true, "17737b2c6ca8be98de46e5cb422cd6d74991116b8495e66387215827ca023f29"), looks := true }, kinds := [], alts := [], laidByText := true, laidKinds := [.data, .data, .data, .data], laidTests := true, laidLooks := .later }
def FnFieldCardSaid : Prop := Claim7.holds Tryz.pinned (.plain (OpenSpec.ofChange fnFieldSpec)) fnFieldCard

/-- THE TIED CARD OF 'laws.FnComplexReal'. -/
def fnComplexRealCard : Claim7 := { stood := { row := fnComplexRealRow, standIns := [], harness := (true, "17737b2c6ca8be98de46e5cb422cd6d74991116b8495e66387215827ca023f29"), looks := true }, kinds := [], alts := [], laidByText := true, laidKinds := [.data, .data, .data, .data, .data, .data], laidTests := true, laidLooks := .later }
def FnComplexRealCardSaid : Prop := Claim7.holds Tryz.pinned (.plain (OpenSpec.ofChange fnComplexRealSpec)) fnComplexRealCard

/-- THE SECOND FORM's CARD OF 'laws.FnComplexQuotient'. -/
def fnComplexQuotientUptoCard : Claim7 := { stood := { row := fnComplexQuotientUptoRow, standIns := [], harness := (true, "17737b2c6ca8be98de46e5cb422cd6d74991116b8495e66387215827ca023f29"), looks := true }, kinds := [], alts := [], laidByText := true, laidKinds := [.data, .data, .data, .data], laidTests := true, laidLooks := .later }
def FnComplexQuotientUptoCardSaid : Prop := Claim7.holds Tryz.pinned (.plain (OpenSpec.upto fnComplexQuotientSpec)) fnComplexQuotientUptoCard

/-- THE SECOND FORM's CARD OF 'laws.FnField'. -/
def fnFieldUptoCard : Claim7 := { stood := { row := fnFieldUptoRow, standIns := [], harness := (true, "17737b2c6ca8be98de46e5cb422cd6d74991116b8495e66387215827ca023f29"), looks := true }, kinds := [], alts := [], laidByText := true, laidKinds := [.data, .data, .data, .data], laidTests := true, laidLooks := .later }
def FnFieldUptoCardSaid : Prop := Claim7.holds Tryz.pinned (.plain (OpenSpec.upto fnFieldSpec)) fnFieldUptoCard

/-- THE SECOND FORM's CARD OF 'laws.FnComplexReal'. -/
def fnComplexRealUptoCard : Claim7 := { stood := { row := fnComplexRealUptoRow, standIns := [], harness := (true, "17737b2c6ca8be98de46e5cb422cd6d74991116b8495e66387215827ca023f29"), looks := true }, kinds := [], alts := [], laidByText := true, laidKinds := [.data, .data, .data, .data, .data, .data], laidTests := true, laidLooks := .later }
def FnComplexRealUptoCardSaid : Prop := Claim7.holds Tryz.pinned (.plain (OpenSpec.upto fnComplexRealSpec)) fnComplexRealUptoCard
end Rows
end Go.Proofs.YtgmienggfaahlaaGreatDoor
