/-
  DERIVED. GIVEN WITH THE SEED: THE CARDS: each row of YtpfjkaelbaoedaaGreatDoorRows.lean that lists a variable, with what it lists TIED to the program's text (the seventh form; the later family's looks); each row that meets fmt, with fmt's text TOLD by the authors' own Lean function (tested against real Go, not proved from fmt's source: count such statements apart). THE CARD IS WHAT COUNTS. Prove the row's statement (the work); the ties are given (YtpfjkaelbaoedaaGreatDoorTie.lean); close each card by the builder's one call (the guide's Derived/Test/ToyasCard.lean, 'card_holds'). Laid BY PROGRAM, IN A SANDBOX (cutbox-door.mjs). By AI agents, Wed Nov 11 2026. No macro, syntax, notation, axiom, sorry.
-/
import Derived.Test.YtpfjkaelbaoedaaGreatDoorRows
import GoSem.ClaimSeven
namespace Go.Proofs.YtpfjkaelbaoedaaGreatDoor
namespace Rows

/-- THE TIED CARD OF 'laws.FnFloatCompare'. -/
def fnFloatCompareCard : Claim7 := { stood := { row := fnFloatCompareRow, standIns := [], harness := (true, "2b0bdcfe06cb6a2433a0fddd04cb92ae213ae24e2bea519156451781c63b4430"), looks := true }, kinds := [], alts := [], laidByText := true, laidKinds := [.data, .data, .data, .data], laidTests := true, laidLooks := .later }
def FnFloatCompareCardSaid : Prop := Claim7.holds Tryz.pinned (.plain (OpenSpec.ofChange fnFloatCompareSpec)) fnFloatCompareCard

/-- THE TIED CARD OF 'laws.FnMixedCompare'. -/
def fnMixedCompareCard : Claim7 := { stood := { row := fnMixedCompareRow, standIns := [], harness := (true, "2b0bdcfe06cb6a2433a0fddd04cb92ae213ae24e2bea519156451781c63b4430"), looks := true }, kinds := [], alts := [], laidByText := true, laidKinds := [.data, .data, .data, .data], laidTests := true, laidLooks := .later }
def FnMixedCompareCardSaid : Prop := Claim7.holds Tryz.pinned (.plain (OpenSpec.ofChange fnMixedCompareSpec)) fnMixedCompareCard

/-- THE TIED CARD OF 'laws.FnBits'. -/
def fnBitsCard : Claim7 := { stood := { row := fnBitsRow, standIns := [], harness := (true, "2b0bdcfe06cb6a2433a0fddd04cb92ae213ae24e2bea519156451781c63b4430"), looks := true }, kinds := [], alts := [], laidByText := true, laidKinds := [.data, .data, .data, .data], laidTests := true, laidLooks := .later }
def FnBitsCardSaid : Prop := Claim7.holds Tryz.pinned (.plain (OpenSpec.ofChange fnBitsSpec)) fnBitsCard

/-- THE TIED CARD OF 'laws.FnNot'. -/
def fnNotCard : Claim7 := { stood := { row := fnNotRow, standIns := [], harness := (true, "2b0bdcfe06cb6a2433a0fddd04cb92ae213ae24e2bea519156451781c63b4430"), looks := true }, kinds := [], alts := [], laidByText := true, laidKinds := [.data, .data, .data, .data], laidTests := true, laidLooks := .later }
def FnNotCardSaid : Prop := Claim7.holds Tryz.pinned (.plain (OpenSpec.ofChange fnNotSpec)) fnNotCard

/-- THE TIED CARD OF 'laws.FnDeMorgan'. -/
def fnDeMorganCard : Claim7 := { stood := { row := fnDeMorganRow, standIns := [], harness := (true, "2b0bdcfe06cb6a2433a0fddd04cb92ae213ae24e2bea519156451781c63b4430"), looks := true }, kinds := [], alts := [], laidByText := true, laidKinds := [.data, .data, .data, .data], laidTests := true, laidLooks := .later }
def FnDeMorganCardSaid : Prop := Claim7.holds Tryz.pinned (.plain (OpenSpec.ofChange fnDeMorganSpec)) fnDeMorganCard

/-- THE TIED CARD OF 'laws.FnDivide'. -/
def fnDivideCard : Claim7 := { stood := { row := fnDivideRow, standIns := [], harness := (true, "2b0bdcfe06cb6a2433a0fddd04cb92ae213ae24e2bea519156451781c63b4430"), looks := true }, kinds := [], alts := [], laidByText := true, laidKinds := [.data, .data, .data, .data], laidTests := true, laidLooks := .later }
def FnDivideCardSaid : Prop := Claim7.holds Tryz.pinned (.plain (OpenSpec.ofChange fnDivideSpec)) fnDivideCard

/-- THE TIED CARD OF 'laws.FnRemainder'. -/
def fnRemainderCard : Claim7 := { stood := { row := fnRemainderRow, standIns := [], harness := (true, "2b0bdcfe06cb6a2433a0fddd04cb92ae213ae24e2bea519156451781c63b4430"), looks := true }, kinds := [], alts := [], laidByText := true, laidKinds := [.data, .data, .data, .data], laidTests := true, laidLooks := .later }
def FnRemainderCardSaid : Prop := Claim7.holds Tryz.pinned (.plain (OpenSpec.ofChange fnRemainderSpec)) fnRemainderCard

/-- THE TIED CARD OF 'laws.FnDivRem'. -/
def fnDivRemCard : Claim7 := { stood := { row := fnDivRemRow, standIns := [], harness := (true, "2b0bdcfe06cb6a2433a0fddd04cb92ae213ae24e2bea519156451781c63b4430"), looks := true }, kinds := [], alts := [], laidByText := true, laidKinds := [.data, .data, .data, .data], laidTests := true, laidLooks := .later }
def FnDivRemCardSaid : Prop := Claim7.holds Tryz.pinned (.plain (OpenSpec.ofChange fnDivRemSpec)) fnDivRemCard

/-- THE SECOND FORM's CARD OF 'laws.FnFloatCompare'. -/
def fnFloatCompareUptoCard : Claim7 := { stood := { row := fnFloatCompareUptoRow, standIns := [], harness := (true, "2b0bdcfe06cb6a2433a0fddd04cb92ae213ae24e2bea519156451781c63b4430"), looks := true }, kinds := [], alts := [], laidByText := true, laidKinds := [.data, .data, .data, .data], laidTests := true, laidLooks := .later }
def FnFloatCompareUptoCardSaid : Prop := Claim7.holds Tryz.pinned (.plain (OpenSpec.upto fnFloatCompareSpec)) fnFloatCompareUptoCard

/-- THE SECOND FORM's CARD OF 'laws.FnMixedCompare'. -/
def fnMixedCompareUptoCard : Claim7 := { stood := { row := fnMixedCompareUptoRow, standIns := [], harness := (true, "2b0bdcfe06cb6a2433a0fddd04cb92ae213ae24e2bea519156451781c63b4430"), looks := true }, kinds := [], alts := [], laidByText := true, laidKinds := [.data, .data, .data, .data], laidTests := true, laidLooks := .later }
def FnMixedCompareUptoCardSaid : Prop := Claim7.holds Tryz.pinned (.plain (OpenSpec.upto fnMixedCompareSpec)) fnMixedCompareUptoCard

/-- THE SECOND FORM's CARD OF 'laws.FnBits'. -/
def fnBitsUptoCard : Claim7 := { stood := { row := fnBitsUptoRow, standIns := [], harness := (true, "2b0bdcfe06cb6a2433a0fddd04cb92ae213ae24e2bea519156451781c63b4430"), looks := true }, kinds := [], alts := [], laidByText := true, laidKinds := [.data, .data, .data, .data], laidTests := true, laidLooks := .later }
def FnBitsUptoCardSaid : Prop := Claim7.holds Tryz.pinned (.plain (OpenSpec.upto fnBitsSpec)) fnBitsUptoCard

/-- THE SECOND FORM's CARD OF 'laws.FnNot'. -/
def fnNotUptoCard : Claim7 := { stood := { row := fnNotUptoRow, standIns := [], harness := (true, "2b0bdcfe06cb6a2433a0fddd04cb92ae213ae24e2bea519156451781c63b4430"), looks := true }, kinds := [], alts := [], laidByText := true, laidKinds := [.data, .data, .data, .data], laidTests := true, laidLooks := .later }
def FnNotUptoCardSaid : Prop := Claim7.holds Tryz.pinned (.plain (OpenSpec.upto fnNotSpec)) fnNotUptoCard

/-- THE SECOND FORM's CARD OF 'laws.FnDeMorgan'. -/
def fnDeMorganUptoCard : Claim7 := { stood := { row := fnDeMorganUptoRow, standIns := [], harness := (true, "2b0bdcfe06cb6a2433a0fddd04cb92ae213ae24e2bea519156451781c63b4430"), looks := true }, kinds := [], alts := [], laidByText := true, laidKinds := [.data, .data, .data, .data], laidTests := true, laidLooks := .later }
def FnDeMorganUptoCardSaid : Prop := Claim7.holds Tryz.pinned (.plain (OpenSpec.upto fnDeMorganSpec)) fnDeMorganUptoCard

/-- THE SECOND FORM's CARD OF 'laws.FnDivide'. -/
def fnDivideUptoCard : Claim7 := { stood := { row := fnDivideUptoRow, standIns := [], harness := (true, "2b0bdcfe06cb6a2433a0fddd04cb92ae213ae24e2bea519156451781c63b4430"), looks := true }, kinds := [], alts := [], laidByText := true, laidKinds := [.data, .data, .data, .data], laidTests := true, laidLooks := .later }
def FnDivideUptoCardSaid : Prop := Claim7.holds Tryz.pinned (.plain (OpenSpec.upto fnDivideSpec)) fnDivideUptoCard

/-- THE SECOND FORM's CARD OF 'laws.FnRemainder'. -/
def fnRemainderUptoCard : Claim7 := { stood := { row := fnRemainderUptoRow, standIns := [], harness := (true, "2b0bdcfe06cb6a2433a0fddd04cb92ae213ae24e2bea519156451781c63b4430"), looks := true }, kinds := [], alts := [], laidByText := true, laidKinds := [.data, .data, .data, .data], laidTests := true, laidLooks := .later }
def FnRemainderUptoCardSaid : Prop := Claim7.holds Tryz.pinned (.plain (OpenSpec.upto fnRemainderSpec)) fnRemainderUptoCard

/-- THE SECOND FORM's CARD OF 'laws.FnDivRem'. -/
def fnDivRemUptoCard : Claim7 := { stood := { row := fnDivRemUptoRow, standIns := [], harness := (true, "2b0bdcfe06cb6a2433a0fddd04cb92ae213ae24e2bea519156451781c63b4430"), looks := true }, kinds := [], alts := [], laidByText := true, laidKinds := [.data, .data, .data, .data], laidTests := true, laidLooks := .later }
def FnDivRemUptoCardSaid : Prop := Claim7.holds Tryz.pinned (.plain (OpenSpec.upto fnDivRemSpec)) fnDivRemUptoCard
end Rows
end Go.Proofs.YtpfjkaelbaoedaaGreatDoor
