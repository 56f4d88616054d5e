/-
  DERIVED. GIVEN WITH THE SEED: THE CARDS: each row of YtnecaaoalfndnaaGreatDoorRows.lean that lists a variable, with what it lists TIED to the program's text (the seventh form; the later family's looks); each row that meets fmt, with fmt's text TOLD by the authors' own Lean function (tested against real Go, not proved from fmt's source: count such statements apart). THE CARD IS WHAT COUNTS. Prove the row's statement (the work); the ties are given (YtnecaaoalfndnaaGreatDoorTie.lean); close each card by the builder's one call (the guide's Derived/Test/ToyasCard.lean, 'card_holds'). Laid BY PROGRAM, IN A SANDBOX (cutbox-door.mjs). By AI agents, Wed Nov 11 2026. No macro, syntax, notation, axiom, sorry.
-/
import Derived.Test.YtnecaaoalfndnaaGreatDoorRows
import GoSem.ClaimSeven
namespace Go.Proofs.YtnecaaoalfndnaaGreatDoor
namespace Rows

/-- THE TIED CARD OF 'laws.FnNegative'. -/
def fnNegativeCard : Claim7 := { stood := { row := fnNegativeRow, standIns := [], harness := (true, "2c0f5a84ac930057bd43b5e51e6915c5dccb218cc9d8ce3c501ee5b1c76066b2"), looks := true }, kinds := [], alts := [], laidByText := true, laidKinds := [.data, .data, .data, .data], laidTests := true, laidLooks := .later }
def FnNegativeCardSaid : Prop := Claim7.holds Tryz.pinned (.plain (OpenSpec.ofChange fnNegativeSpec)) fnNegativeCard

/-- THE TIED CARD OF 'laws.FnImaginary'. -/
def fnImaginaryCard : Claim7 := { stood := { row := fnImaginaryRow, standIns := [], harness := (true, "2c0f5a84ac930057bd43b5e51e6915c5dccb218cc9d8ce3c501ee5b1c76066b2"), looks := true }, kinds := [], alts := [], laidByText := true, laidKinds := [.data, .data, .data, .data], laidTests := true, laidLooks := .later }
def FnImaginaryCardSaid : Prop := Claim7.holds Tryz.pinned (.plain (OpenSpec.ofChange fnImaginarySpec)) fnImaginaryCard

/-- THE TIED CARD OF 'laws.FnRealParts'. -/
def fnRealPartsCard : Claim7 := { stood := { row := fnRealPartsRow, standIns := [], harness := (true, "2c0f5a84ac930057bd43b5e51e6915c5dccb218cc9d8ce3c501ee5b1c76066b2"), looks := true }, kinds := [], alts := [], laidByText := true, laidKinds := [.data, .data, .data, .data], laidTests := true, laidLooks := .later }
def FnRealPartsCardSaid : Prop := Claim7.holds Tryz.pinned (.plain (OpenSpec.ofChange fnRealPartsSpec)) fnRealPartsCard

/-- THE TIED CARD OF 'laws.FnToComplex'. -/
def fnToComplexCard : Claim7 := { stood := { row := fnToComplexRow, standIns := [], harness := (true, "2c0f5a84ac930057bd43b5e51e6915c5dccb218cc9d8ce3c501ee5b1c76066b2"), looks := true }, kinds := [], alts := [], laidByText := true, laidKinds := [.data, .data, .data, .data], laidTests := true, laidLooks := .later }
def FnToComplexCardSaid : Prop := Claim7.holds Tryz.pinned (.plain (OpenSpec.ofChange fnToComplexSpec)) fnToComplexCard

/-- THE TIED CARD OF 'laws.FnToFloat'. -/
def fnToFloatCard : Claim7 := { stood := { row := fnToFloatRow, standIns := [], harness := (true, "2c0f5a84ac930057bd43b5e51e6915c5dccb218cc9d8ce3c501ee5b1c76066b2"), looks := true }, kinds := [], alts := [], laidByText := true, laidKinds := [.data, .data, .data, .data], laidTests := true, laidLooks := .later }
def FnToFloatCardSaid : Prop := Claim7.holds Tryz.pinned (.plain (OpenSpec.ofChange fnToFloatSpec)) fnToFloatCard

/-- THE TIED CARD OF 'laws.FnFloatNegative'. -/
def fnFloatNegativeCard : Claim7 := { stood := { row := fnFloatNegativeRow, standIns := [], harness := (true, "2c0f5a84ac930057bd43b5e51e6915c5dccb218cc9d8ce3c501ee5b1c76066b2"), looks := true }, kinds := [], alts := [], laidByText := true, laidKinds := [.data, .data, .data, .data], laidTests := true, laidLooks := .later }
def FnFloatNegativeCardSaid : Prop := Claim7.holds Tryz.pinned (.plain (OpenSpec.ofChange fnFloatNegativeSpec)) fnFloatNegativeCard

/-- THE TIED CARD OF 'laws.FnDenominator'. -/
def fnDenominatorCard : Claim7 := { stood := { row := fnDenominatorRow, standIns := [], harness := (true, "2c0f5a84ac930057bd43b5e51e6915c5dccb218cc9d8ce3c501ee5b1c76066b2"), looks := true }, kinds := [], alts := [], laidByText := true, laidKinds := [.data, .data, .data, .data], laidTests := true, laidLooks := .later }
def FnDenominatorCardSaid : Prop := Claim7.holds Tryz.pinned (.plain (OpenSpec.ofChange fnDenominatorSpec)) fnDenominatorCard

/-- THE TIED CARD OF 'laws.FnNumerator'. -/
def fnNumeratorCard : Claim7 := { stood := { row := fnNumeratorRow, standIns := [], harness := (true, "2c0f5a84ac930057bd43b5e51e6915c5dccb218cc9d8ce3c501ee5b1c76066b2"), looks := true }, kinds := [], alts := [], laidByText := true, laidKinds := [.data, .data, .data, .data], laidTests := true, laidLooks := .later }
def FnNumeratorCardSaid : Prop := Claim7.holds Tryz.pinned (.plain (OpenSpec.ofChange fnNumeratorSpec)) fnNumeratorCard

/-- THE SECOND FORM's CARD OF 'laws.FnNegative'. -/
def fnNegativeUptoCard : Claim7 := { stood := { row := fnNegativeUptoRow, standIns := [], harness := (true, "2c0f5a84ac930057bd43b5e51e6915c5dccb218cc9d8ce3c501ee5b1c76066b2"), looks := true }, kinds := [], alts := [], laidByText := true, laidKinds := [.data, .data, .data, .data], laidTests := true, laidLooks := .later }
def FnNegativeUptoCardSaid : Prop := Claim7.holds Tryz.pinned (.plain (OpenSpec.upto fnNegativeSpec)) fnNegativeUptoCard

/-- THE SECOND FORM's CARD OF 'laws.FnImaginary'. -/
def fnImaginaryUptoCard : Claim7 := { stood := { row := fnImaginaryUptoRow, standIns := [], harness := (true, "2c0f5a84ac930057bd43b5e51e6915c5dccb218cc9d8ce3c501ee5b1c76066b2"), looks := true }, kinds := [], alts := [], laidByText := true, laidKinds := [.data, .data, .data, .data], laidTests := true, laidLooks := .later }
def FnImaginaryUptoCardSaid : Prop := Claim7.holds Tryz.pinned (.plain (OpenSpec.upto fnImaginarySpec)) fnImaginaryUptoCard

/-- THE SECOND FORM's CARD OF 'laws.FnRealParts'. -/
def fnRealPartsUptoCard : Claim7 := { stood := { row := fnRealPartsUptoRow, standIns := [], harness := (true, "2c0f5a84ac930057bd43b5e51e6915c5dccb218cc9d8ce3c501ee5b1c76066b2"), looks := true }, kinds := [], alts := [], laidByText := true, laidKinds := [.data, .data, .data, .data], laidTests := true, laidLooks := .later }
def FnRealPartsUptoCardSaid : Prop := Claim7.holds Tryz.pinned (.plain (OpenSpec.upto fnRealPartsSpec)) fnRealPartsUptoCard

/-- THE SECOND FORM's CARD OF 'laws.FnToComplex'. -/
def fnToComplexUptoCard : Claim7 := { stood := { row := fnToComplexUptoRow, standIns := [], harness := (true, "2c0f5a84ac930057bd43b5e51e6915c5dccb218cc9d8ce3c501ee5b1c76066b2"), looks := true }, kinds := [], alts := [], laidByText := true, laidKinds := [.data, .data, .data, .data], laidTests := true, laidLooks := .later }
def FnToComplexUptoCardSaid : Prop := Claim7.holds Tryz.pinned (.plain (OpenSpec.upto fnToComplexSpec)) fnToComplexUptoCard

/-- THE SECOND FORM's CARD OF 'laws.FnToFloat'. -/
def fnToFloatUptoCard : Claim7 := { stood := { row := fnToFloatUptoRow, standIns := [], harness := (true, "2c0f5a84ac930057bd43b5e51e6915c5dccb218cc9d8ce3c501ee5b1c76066b2"), looks := true }, kinds := [], alts := [], laidByText := true, laidKinds := [.data, .data, .data, .data], laidTests := true, laidLooks := .later }
def FnToFloatUptoCardSaid : Prop := Claim7.holds Tryz.pinned (.plain (OpenSpec.upto fnToFloatSpec)) fnToFloatUptoCard

/-- THE SECOND FORM's CARD OF 'laws.FnFloatNegative'. -/
def fnFloatNegativeUptoCard : Claim7 := { stood := { row := fnFloatNegativeUptoRow, standIns := [], harness := (true, "2c0f5a84ac930057bd43b5e51e6915c5dccb218cc9d8ce3c501ee5b1c76066b2"), looks := true }, kinds := [], alts := [], laidByText := true, laidKinds := [.data, .data, .data, .data], laidTests := true, laidLooks := .later }
def FnFloatNegativeUptoCardSaid : Prop := Claim7.holds Tryz.pinned (.plain (OpenSpec.upto fnFloatNegativeSpec)) fnFloatNegativeUptoCard

/-- THE SECOND FORM's CARD OF 'laws.FnDenominator'. -/
def fnDenominatorUptoCard : Claim7 := { stood := { row := fnDenominatorUptoRow, standIns := [], harness := (true, "2c0f5a84ac930057bd43b5e51e6915c5dccb218cc9d8ce3c501ee5b1c76066b2"), looks := true }, kinds := [], alts := [], laidByText := true, laidKinds := [.data, .data, .data, .data], laidTests := true, laidLooks := .later }
def FnDenominatorUptoCardSaid : Prop := Claim7.holds Tryz.pinned (.plain (OpenSpec.upto fnDenominatorSpec)) fnDenominatorUptoCard

/-- THE SECOND FORM's CARD OF 'laws.FnNumerator'. -/
def fnNumeratorUptoCard : Claim7 := { stood := { row := fnNumeratorUptoRow, standIns := [], harness := (true, "2c0f5a84ac930057bd43b5e51e6915c5dccb218cc9d8ce3c501ee5b1c76066b2"), looks := true }, kinds := [], alts := [], laidByText := true, laidKinds := [.data, .data, .data, .data], laidTests := true, laidLooks := .later }
def FnNumeratorUptoCardSaid : Prop := Claim7.holds Tryz.pinned (.plain (OpenSpec.upto fnNumeratorSpec)) fnNumeratorUptoCard
end Rows
end Go.Proofs.YtnecaaoalfndnaaGreatDoor
