/-
  DERIVED. GIVEN WITH THE SEED: THE CARDS: each row of YtgcpjlniamebgaaGreatDoorRows.lean that lists a variable, with what it lists TIED to the program's text (the seventh form; the later family's looks); each row that meets fmt, with fmt's text TOLD by the authors' own Lean function (tested against real Go, not proved from fmt's source: count such statements apart). THE CARD IS WHAT COUNTS. Prove the row's statement (the work); the ties are given (YtgcpjlniamebgaaGreatDoorTie.lean); close each card by the builder's one call (the guide's Derived/Test/ToyasCard.lean, 'card_holds'). Laid BY PROGRAM, IN A SANDBOX (cutbox-door.mjs). By AI agents, Wed Nov 11 2026. No macro, syntax, notation, axiom, sorry.
-/
import Derived.Test.YtgcpjlniamebgaaGreatDoorRows
import GoSem.ClaimSeven
namespace Go.Proofs.YtgcpjlniamebgaaGreatDoor
namespace Rows

/-- THE TIED CARD OF 'laws.FnDifference'. -/
def fnDifferenceCard : Claim7 := { stood := { row := fnDifferenceRow, standIns := [], harness := (true, "38acf8a3e43f36fc333e4b055b2a5ed78b61e403e819d67c4bb78007ad1013e2"), looks := true }, kinds := [], alts := [], laidByText := true, laidKinds := [.data, .data, .data, .data], laidTests := true, laidLooks := .later }
def FnDifferenceCardSaid : Prop := Claim7.holds Tryz.pinned (.plain (OpenSpec.ofChange fnDifferenceSpec)) fnDifferenceCard

/-- THE TIED CARD OF 'laws.FnProduct'. -/
def fnProductCard : Claim7 := { stood := { row := fnProductRow, standIns := [], harness := (true, "38acf8a3e43f36fc333e4b055b2a5ed78b61e403e819d67c4bb78007ad1013e2"), looks := true }, kinds := [], alts := [], laidByText := true, laidKinds := [.data, .data, .data, .data], laidTests := true, laidLooks := .later }
def FnProductCardSaid : Prop := Claim7.holds Tryz.pinned (.plain (OpenSpec.ofChange fnProductSpec)) fnProductCard

/-- THE TIED CARD OF 'laws.FnSum'. -/
def fnSumCard : Claim7 := { stood := { row := fnSumRow, standIns := [], harness := (true, "38acf8a3e43f36fc333e4b055b2a5ed78b61e403e819d67c4bb78007ad1013e2"), looks := true }, kinds := [], alts := [], laidByText := true, laidKinds := [.data, .data, .data, .data], laidTests := true, laidLooks := .later }
def FnSumCardSaid : Prop := Claim7.holds Tryz.pinned (.plain (OpenSpec.ofChange fnSumSpec)) fnSumCard

/-- THE TIED CARD OF 'laws.FnShift'. -/
def fnShiftCard : Claim7 := { stood := { row := fnShiftRow, standIns := [], harness := (true, "38acf8a3e43f36fc333e4b055b2a5ed78b61e403e819d67c4bb78007ad1013e2"), looks := true }, kinds := [], alts := [], laidByText := true, laidKinds := [.data, .data, .data, .data], laidTests := true, laidLooks := .later }
def FnShiftCardSaid : Prop := Claim7.holds Tryz.pinned (.plain (OpenSpec.ofChange fnShiftSpec)) fnShiftCard

/-- THE TIED CARD OF 'laws.FnShiftBack'. -/
def fnShiftBackCard : Claim7 := { stood := { row := fnShiftBackRow, standIns := [], harness := (true, "38acf8a3e43f36fc333e4b055b2a5ed78b61e403e819d67c4bb78007ad1013e2"), looks := true }, kinds := [], alts := [], laidByText := true, laidKinds := [.data, .data, .data, .data], laidTests := true, laidLooks := .later }
def FnShiftBackCardSaid : Prop := Claim7.holds Tryz.pinned (.plain (OpenSpec.ofChange fnShiftBackSpec)) fnShiftBackCard

/-- THE TIED CARD OF 'laws.FnOrder'. -/
def fnOrderCard : Claim7 := { stood := { row := fnOrderRow, standIns := [], harness := (true, "38acf8a3e43f36fc333e4b055b2a5ed78b61e403e819d67c4bb78007ad1013e2"), looks := true }, kinds := [], alts := [], laidByText := true, laidKinds := [.data, .data, .data, .data], laidTests := true, laidLooks := .later }
def FnOrderCardSaid : Prop := Claim7.holds Tryz.pinned (.plain (OpenSpec.ofChange fnOrderSpec)) fnOrderCard

/-- THE TIED CARD OF 'laws.FnToInt'. -/
def fnToIntCard : Claim7 := { stood := { row := fnToIntRow, standIns := [], harness := (true, "38acf8a3e43f36fc333e4b055b2a5ed78b61e403e819d67c4bb78007ad1013e2"), looks := true }, kinds := [], alts := [], laidByText := true, laidKinds := [.data, .data, .data, .data, .data, .data], laidTests := true, laidLooks := .later }
def FnToIntCardSaid : Prop := Claim7.holds Tryz.pinned (.plain (OpenSpec.ofChange fnToIntSpec)) fnToIntCard

/-- THE TIED CARD OF 'laws.FnUnknown'. -/
def fnUnknownCard : Claim7 := { stood := { row := fnUnknownRow, standIns := [], harness := (true, "38acf8a3e43f36fc333e4b055b2a5ed78b61e403e819d67c4bb78007ad1013e2"), looks := true }, kinds := [], alts := [], laidByText := true, laidKinds := [.data, .data, .data, .data, .data, .data], laidTests := true, laidLooks := .later }
def FnUnknownCardSaid : Prop := Claim7.holds Tryz.pinned (.plain (OpenSpec.ofChange fnUnknownSpec)) fnUnknownCard

/-- THE SECOND FORM's CARD OF 'laws.FnDifference'. -/
def fnDifferenceUptoCard : Claim7 := { stood := { row := fnDifferenceUptoRow, standIns := [], harness := (true, "38acf8a3e43f36fc333e4b055b2a5ed78b61e403e819d67c4bb78007ad1013e2"), looks := true }, kinds := [], alts := [], laidByText := true, laidKinds := [.data, .data, .data, .data], laidTests := true, laidLooks := .later }
def FnDifferenceUptoCardSaid : Prop := Claim7.holds Tryz.pinned (.plain (OpenSpec.upto fnDifferenceSpec)) fnDifferenceUptoCard

/-- THE SECOND FORM's CARD OF 'laws.FnProduct'. -/
def fnProductUptoCard : Claim7 := { stood := { row := fnProductUptoRow, standIns := [], harness := (true, "38acf8a3e43f36fc333e4b055b2a5ed78b61e403e819d67c4bb78007ad1013e2"), looks := true }, kinds := [], alts := [], laidByText := true, laidKinds := [.data, .data, .data, .data], laidTests := true, laidLooks := .later }
def FnProductUptoCardSaid : Prop := Claim7.holds Tryz.pinned (.plain (OpenSpec.upto fnProductSpec)) fnProductUptoCard

/-- THE SECOND FORM's CARD OF 'laws.FnSum'. -/
def fnSumUptoCard : Claim7 := { stood := { row := fnSumUptoRow, standIns := [], harness := (true, "38acf8a3e43f36fc333e4b055b2a5ed78b61e403e819d67c4bb78007ad1013e2"), looks := true }, kinds := [], alts := [], laidByText := true, laidKinds := [.data, .data, .data, .data], laidTests := true, laidLooks := .later }
def FnSumUptoCardSaid : Prop := Claim7.holds Tryz.pinned (.plain (OpenSpec.upto fnSumSpec)) fnSumUptoCard

/-- THE SECOND FORM's CARD OF 'laws.FnShift'. -/
def fnShiftUptoCard : Claim7 := { stood := { row := fnShiftUptoRow, standIns := [], harness := (true, "38acf8a3e43f36fc333e4b055b2a5ed78b61e403e819d67c4bb78007ad1013e2"), looks := true }, kinds := [], alts := [], laidByText := true, laidKinds := [.data, .data, .data, .data], laidTests := true, laidLooks := .later }
def FnShiftUptoCardSaid : Prop := Claim7.holds Tryz.pinned (.plain (OpenSpec.upto fnShiftSpec)) fnShiftUptoCard

/-- THE SECOND FORM's CARD OF 'laws.FnShiftBack'. -/
def fnShiftBackUptoCard : Claim7 := { stood := { row := fnShiftBackUptoRow, standIns := [], harness := (true, "38acf8a3e43f36fc333e4b055b2a5ed78b61e403e819d67c4bb78007ad1013e2"), looks := true }, kinds := [], alts := [], laidByText := true, laidKinds := [.data, .data, .data, .data], laidTests := true, laidLooks := .later }
def FnShiftBackUptoCardSaid : Prop := Claim7.holds Tryz.pinned (.plain (OpenSpec.upto fnShiftBackSpec)) fnShiftBackUptoCard

/-- THE SECOND FORM's CARD OF 'laws.FnOrder'. -/
def fnOrderUptoCard : Claim7 := { stood := { row := fnOrderUptoRow, standIns := [], harness := (true, "38acf8a3e43f36fc333e4b055b2a5ed78b61e403e819d67c4bb78007ad1013e2"), looks := true }, kinds := [], alts := [], laidByText := true, laidKinds := [.data, .data, .data, .data], laidTests := true, laidLooks := .later }
def FnOrderUptoCardSaid : Prop := Claim7.holds Tryz.pinned (.plain (OpenSpec.upto fnOrderSpec)) fnOrderUptoCard

/-- THE SECOND FORM's CARD OF 'laws.FnToInt'. -/
def fnToIntUptoCard : Claim7 := { stood := { row := fnToIntUptoRow, standIns := [], harness := (true, "38acf8a3e43f36fc333e4b055b2a5ed78b61e403e819d67c4bb78007ad1013e2"), looks := true }, kinds := [], alts := [], laidByText := true, laidKinds := [.data, .data, .data, .data, .data, .data], laidTests := true, laidLooks := .later }
def FnToIntUptoCardSaid : Prop := Claim7.holds Tryz.pinned (.plain (OpenSpec.upto fnToIntSpec)) fnToIntUptoCard

/-- THE SECOND FORM's CARD OF 'laws.FnUnknown'. -/
def fnUnknownUptoCard : Claim7 := { stood := { row := fnUnknownUptoRow, standIns := [], harness := (true, "38acf8a3e43f36fc333e4b055b2a5ed78b61e403e819d67c4bb78007ad1013e2"), looks := true }, kinds := [], alts := [], laidByText := true, laidKinds := [.data, .data, .data, .data, .data, .data], laidTests := true, laidLooks := .later }
def FnUnknownUptoCardSaid : Prop := Claim7.holds Tryz.pinned (.plain (OpenSpec.upto fnUnknownSpec)) fnUnknownUptoCard
end Rows
end Go.Proofs.YtgcpjlniamebgaaGreatDoor
