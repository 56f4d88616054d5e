/-
  DERIVED. GIVEN WITH THE SEED: THE CARDS: each row of YtdkipndepkblhaaGreatDoorRows.lean that lists a variable, with what it lists TIED to the program's text (the seventh form; the later family's looks); each row that meets fmt, with fmt's text TOLD by the authors' own Lean function (tested against real Go, not proved from fmt's source: count such statements apart). THE CARD IS WHAT COUNTS. Prove the row's statement (the work); the ties are given (YtdkipndepkblhaaGreatDoorTie.lean); close each card by the builder's one call (the guide's Derived/Test/ToyasCard.lean, 'card_holds'). Laid BY PROGRAM, IN A SANDBOX (cutbox-door.mjs). By AI agents, Wed Nov 11 2026. No macro, syntax, notation, axiom, sorry.
-/
import Derived.Test.YtdkipndepkblhaaGreatDoorRows
import GoSem.ClaimSeven
namespace Go.Proofs.YtdkipndepkblhaaGreatDoor
namespace Rows

/-- THE TIED CARD OF 'laws.FnDivRem'. -/
def fnDivRemCard : Claim7 := { stood := { row := fnDivRemRow, standIns := [], harness := (true, "1d7186c106aaa9d0dc3f15e8d7cced768351510d61d7ec85a20802755a8b68dc"), looks := true }, kinds := [], alts := [], laidByText := true, laidKinds := [.data, .data, .data, .data], laidTests := true, laidLooks := .later }
def FnDivRemCardSaid : Prop := Claim7.holds Tryz.pinned (.plain (OpenSpec.ofChange fnDivRemSpec)) fnDivRemCard

/-- THE TIED CARD OF 'laws.FnNot'. -/
def fnNotCard : Claim7 := { stood := { row := fnNotRow, standIns := [], harness := (true, "1d7186c106aaa9d0dc3f15e8d7cced768351510d61d7ec85a20802755a8b68dc"), looks := true }, kinds := [], alts := [], laidByText := true, laidKinds := [.data, .data, .data, .data], laidTests := true, laidLooks := .later }
def FnNotCardSaid : Prop := Claim7.holds Tryz.pinned (.plain (OpenSpec.ofChange fnNotSpec)) fnNotCard

/-- THE TIED CARD OF 'laws.FnQuotient'. -/
def fnQuotientCard : Claim7 := { stood := { row := fnQuotientRow, standIns := [], harness := (true, "1d7186c106aaa9d0dc3f15e8d7cced768351510d61d7ec85a20802755a8b68dc"), looks := true }, kinds := [], alts := [], laidByText := true, laidKinds := [.data, .data, .data, .data], laidTests := true, laidLooks := .later }
def FnQuotientCardSaid : Prop := Claim7.holds Tryz.pinned (.plain (OpenSpec.ofChange fnQuotientSpec)) fnQuotientCard

/-- THE TIED CARD OF 'laws.FnFloatSum'. -/
def fnFloatSumCard : Claim7 := { stood := { row := fnFloatSumRow, standIns := [], harness := (true, "1d7186c106aaa9d0dc3f15e8d7cced768351510d61d7ec85a20802755a8b68dc"), looks := true }, kinds := [], alts := [], laidByText := true, laidKinds := [.data, .data, .data, .data], laidTests := true, laidLooks := .later }
def FnFloatSumCardSaid : Prop := Claim7.holds Tryz.pinned (.plain (OpenSpec.ofChange fnFloatSumSpec)) fnFloatSumCard

/-- THE TIED CARD OF 'laws.FnFloatDifference'. -/
def fnFloatDifferenceCard : Claim7 := { stood := { row := fnFloatDifferenceRow, standIns := [], harness := (true, "1d7186c106aaa9d0dc3f15e8d7cced768351510d61d7ec85a20802755a8b68dc"), looks := true }, kinds := [], alts := [], laidByText := true, laidKinds := [.data, .data, .data, .data], laidTests := true, laidLooks := .later }
def FnFloatDifferenceCardSaid : Prop := Claim7.holds Tryz.pinned (.plain (OpenSpec.ofChange fnFloatDifferenceSpec)) fnFloatDifferenceCard

/-- THE TIED CARD OF 'laws.FnFloatProduct'. -/
def fnFloatProductCard : Claim7 := { stood := { row := fnFloatProductRow, standIns := [], harness := (true, "1d7186c106aaa9d0dc3f15e8d7cced768351510d61d7ec85a20802755a8b68dc"), looks := true }, kinds := [], alts := [], laidByText := true, laidKinds := [.data, .data, .data, .data], laidTests := true, laidLooks := .later }
def FnFloatProductCardSaid : Prop := Claim7.holds Tryz.pinned (.plain (OpenSpec.ofChange fnFloatProductSpec)) fnFloatProductCard

/-- THE TIED CARD OF 'laws.FnFloatQuotient'. -/
def fnFloatQuotientCard : Claim7 := { stood := { row := fnFloatQuotientRow, standIns := [], harness := (true, "1d7186c106aaa9d0dc3f15e8d7cced768351510d61d7ec85a20802755a8b68dc"), looks := true }, kinds := [], alts := [], laidByText := true, laidKinds := [.data, .data, .data, .data], laidTests := true, laidLooks := .later }
def FnFloatQuotientCardSaid : Prop := Claim7.holds Tryz.pinned (.plain (OpenSpec.ofChange fnFloatQuotientSpec)) fnFloatQuotientCard

/-- THE TIED CARD OF 'laws.FnParted'. -/
def fnPartedCard : Claim7 := { stood := { row := fnPartedRow, standIns := [], harness := (true, "1d7186c106aaa9d0dc3f15e8d7cced768351510d61d7ec85a20802755a8b68dc"), looks := true }, kinds := [], alts := [], laidByText := true, laidKinds := [.data, .data, .data, .data], laidTests := true, laidLooks := .later }
def FnPartedCardSaid : Prop := Claim7.holds Tryz.pinned (.plain (OpenSpec.ofChange fnPartedSpec)) fnPartedCard

/-- THE SECOND FORM's CARD OF 'laws.FnDivRem'. -/
def fnDivRemUptoCard : Claim7 := { stood := { row := fnDivRemUptoRow, standIns := [], harness := (true, "1d7186c106aaa9d0dc3f15e8d7cced768351510d61d7ec85a20802755a8b68dc"), looks := true }, kinds := [], alts := [], laidByText := true, laidKinds := [.data, .data, .data, .data], laidTests := true, laidLooks := .later }
def FnDivRemUptoCardSaid : Prop := Claim7.holds Tryz.pinned (.plain (OpenSpec.upto fnDivRemSpec)) fnDivRemUptoCard

/-- THE SECOND FORM's CARD OF 'laws.FnNot'. -/
def fnNotUptoCard : Claim7 := { stood := { row := fnNotUptoRow, standIns := [], harness := (true, "1d7186c106aaa9d0dc3f15e8d7cced768351510d61d7ec85a20802755a8b68dc"), looks := true }, kinds := [], alts := [], laidByText := true, laidKinds := [.data, .data, .data, .data], laidTests := true, laidLooks := .later }
def FnNotUptoCardSaid : Prop := Claim7.holds Tryz.pinned (.plain (OpenSpec.upto fnNotSpec)) fnNotUptoCard

/-- THE SECOND FORM's CARD OF 'laws.FnQuotient'. -/
def fnQuotientUptoCard : Claim7 := { stood := { row := fnQuotientUptoRow, standIns := [], harness := (true, "1d7186c106aaa9d0dc3f15e8d7cced768351510d61d7ec85a20802755a8b68dc"), looks := true }, kinds := [], alts := [], laidByText := true, laidKinds := [.data, .data, .data, .data], laidTests := true, laidLooks := .later }
def FnQuotientUptoCardSaid : Prop := Claim7.holds Tryz.pinned (.plain (OpenSpec.upto fnQuotientSpec)) fnQuotientUptoCard

/-- THE SECOND FORM's CARD OF 'laws.FnFloatSum'. -/
def fnFloatSumUptoCard : Claim7 := { stood := { row := fnFloatSumUptoRow, standIns := [], harness := (true, "1d7186c106aaa9d0dc3f15e8d7cced768351510d61d7ec85a20802755a8b68dc"), looks := true }, kinds := [], alts := [], laidByText := true, laidKinds := [.data, .data, .data, .data], laidTests := true, laidLooks := .later }
def FnFloatSumUptoCardSaid : Prop := Claim7.holds Tryz.pinned (.plain (OpenSpec.upto fnFloatSumSpec)) fnFloatSumUptoCard

/-- THE SECOND FORM's CARD OF 'laws.FnFloatDifference'. -/
def fnFloatDifferenceUptoCard : Claim7 := { stood := { row := fnFloatDifferenceUptoRow, standIns := [], harness := (true, "1d7186c106aaa9d0dc3f15e8d7cced768351510d61d7ec85a20802755a8b68dc"), looks := true }, kinds := [], alts := [], laidByText := true, laidKinds := [.data, .data, .data, .data], laidTests := true, laidLooks := .later }
def FnFloatDifferenceUptoCardSaid : Prop := Claim7.holds Tryz.pinned (.plain (OpenSpec.upto fnFloatDifferenceSpec)) fnFloatDifferenceUptoCard

/-- THE SECOND FORM's CARD OF 'laws.FnFloatProduct'. -/
def fnFloatProductUptoCard : Claim7 := { stood := { row := fnFloatProductUptoRow, standIns := [], harness := (true, "1d7186c106aaa9d0dc3f15e8d7cced768351510d61d7ec85a20802755a8b68dc"), looks := true }, kinds := [], alts := [], laidByText := true, laidKinds := [.data, .data, .data, .data], laidTests := true, laidLooks := .later }
def FnFloatProductUptoCardSaid : Prop := Claim7.holds Tryz.pinned (.plain (OpenSpec.upto fnFloatProductSpec)) fnFloatProductUptoCard

/-- THE SECOND FORM's CARD OF 'laws.FnFloatQuotient'. -/
def fnFloatQuotientUptoCard : Claim7 := { stood := { row := fnFloatQuotientUptoRow, standIns := [], harness := (true, "1d7186c106aaa9d0dc3f15e8d7cced768351510d61d7ec85a20802755a8b68dc"), looks := true }, kinds := [], alts := [], laidByText := true, laidKinds := [.data, .data, .data, .data], laidTests := true, laidLooks := .later }
def FnFloatQuotientUptoCardSaid : Prop := Claim7.holds Tryz.pinned (.plain (OpenSpec.upto fnFloatQuotientSpec)) fnFloatQuotientUptoCard

/-- THE SECOND FORM's CARD OF 'laws.FnParted'. -/
def fnPartedUptoCard : Claim7 := { stood := { row := fnPartedUptoRow, standIns := [], harness := (true, "1d7186c106aaa9d0dc3f15e8d7cced768351510d61d7ec85a20802755a8b68dc"), looks := true }, kinds := [], alts := [], laidByText := true, laidKinds := [.data, .data, .data, .data], laidTests := true, laidLooks := .later }
def FnPartedUptoCardSaid : Prop := Claim7.holds Tryz.pinned (.plain (OpenSpec.upto fnPartedSpec)) fnPartedUptoCard
end Rows
end Go.Proofs.YtdkipndepkblhaaGreatDoor
