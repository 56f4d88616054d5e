/-
  DERIVED. GIVEN WITH THE SEED: THE CARDS: each row of YtececkbcinmmpaaGreatDoorRows.lean that lists a variable, with what it lists TIED to the program's text (the seventh form; the later family's looks); each row that meets fmt, with fmt's text TOLD by the authors' own Lean function (tested against real Go, not proved from fmt's source: count such statements apart). THE CARD IS WHAT COUNTS. Prove the row's statement (the work); the ties are given (YtececkbcinmmpaaGreatDoorTie.lean); close each card by the builder's one call (the guide's Derived/Test/ToyasCard.lean, 'card_holds'). Laid BY PROGRAM, IN A SANDBOX (cutbox-door.mjs). By AI agents, Wed Nov 11 2026. No macro, syntax, notation, axiom, sorry.
-/
import Derived.Test.YtececkbcinmmpaaGreatDoorRows
import GoSem.ClaimSeven
namespace Go.Proofs.YtececkbcinmmpaaGreatDoor
namespace Rows

/-- THE TIED CARD OF 'laws.FnFloatSum'. -/
def fnFloatSumCard : Claim7 := { stood := { row := fnFloatSumRow, standIns := [], harness := (true, "96978facc7b0214d61b97f1bbded78824790c5f8de431443b714ad8aff1b4480"), looks := true }, kinds := [], alts := [], laidByText := true, laidKinds := [.data, .data, .data, .data], laidTests := true, laidLooks := .later }
def FnFloatSumCardSaid : Prop := Claim7.holds Tryz.pinned (.plain (OpenSpec.ofChange fnFloatSumSpec)) fnFloatSumCard

/-- THE TIED CARD OF 'laws.FnFloatDifference'. -/
def fnFloatDifferenceCard : Claim7 := { stood := { row := fnFloatDifferenceRow, standIns := [], harness := (true, "96978facc7b0214d61b97f1bbded78824790c5f8de431443b714ad8aff1b4480"), looks := true }, kinds := [], alts := [], laidByText := true, laidKinds := [.data, .data, .data, .data], laidTests := true, laidLooks := .later }
def FnFloatDifferenceCardSaid : Prop := Claim7.holds Tryz.pinned (.plain (OpenSpec.ofChange fnFloatDifferenceSpec)) fnFloatDifferenceCard

/-- THE TIED CARD OF 'laws.FnFloatProduct'. -/
def fnFloatProductCard : Claim7 := { stood := { row := fnFloatProductRow, standIns := [], harness := (true, "96978facc7b0214d61b97f1bbded78824790c5f8de431443b714ad8aff1b4480"), looks := true }, kinds := [], alts := [], laidByText := true, laidKinds := [.data, .data, .data, .data], laidTests := true, laidLooks := .later }
def FnFloatProductCardSaid : Prop := Claim7.holds Tryz.pinned (.plain (OpenSpec.ofChange fnFloatProductSpec)) fnFloatProductCard

/-- THE TIED CARD OF 'laws.FnMixed'. -/
def fnMixedCard : Claim7 := { stood := { row := fnMixedRow, standIns := [], harness := (true, "96978facc7b0214d61b97f1bbded78824790c5f8de431443b714ad8aff1b4480"), looks := true }, kinds := [], alts := [], laidByText := true, laidKinds := [.data, .data, .data, .data], laidTests := true, laidLooks := .later }
def FnMixedCardSaid : Prop := Claim7.holds Tryz.pinned (.plain (OpenSpec.ofChange fnMixedSpec)) fnMixedCard

/-- THE TIED CARD OF 'laws.FnSame'. -/
def fnSameCard : Claim7 := { stood := { row := fnSameRow, standIns := [], harness := (true, "96978facc7b0214d61b97f1bbded78824790c5f8de431443b714ad8aff1b4480"), looks := true }, kinds := [], alts := [], laidByText := true, laidKinds := [.data, .data, .data, .data], laidTests := true, laidLooks := .later }
def FnSameCardSaid : Prop := Claim7.holds Tryz.pinned (.plain (OpenSpec.ofChange fnSameSpec)) fnSameCard

/-- THE TIED CARD OF 'laws.FnParts'. -/
def fnPartsCard : Claim7 := { stood := { row := fnPartsRow, standIns := [], harness := (true, "96978facc7b0214d61b97f1bbded78824790c5f8de431443b714ad8aff1b4480"), looks := true }, kinds := [], alts := [], laidByText := true, laidKinds := [.data, .data, .data, .data], laidTests := true, laidLooks := .later }
def FnPartsCardSaid : Prop := Claim7.holds Tryz.pinned (.plain (OpenSpec.ofChange fnPartsSpec)) fnPartsCard

/-- THE TIED CARD OF 'laws.FnComplexSum'. -/
def fnComplexSumCard : Claim7 := { stood := { row := fnComplexSumRow, standIns := [], harness := (true, "96978facc7b0214d61b97f1bbded78824790c5f8de431443b714ad8aff1b4480"), looks := true }, kinds := [], alts := [], laidByText := true, laidKinds := [.data, .data, .data, .data], laidTests := true, laidLooks := .later }
def FnComplexSumCardSaid : Prop := Claim7.holds Tryz.pinned (.plain (OpenSpec.ofChange fnComplexSumSpec)) fnComplexSumCard

/-- THE TIED CARD OF 'laws.FnComplexDifference'. -/
def fnComplexDifferenceCard : Claim7 := { stood := { row := fnComplexDifferenceRow, standIns := [], harness := (true, "96978facc7b0214d61b97f1bbded78824790c5f8de431443b714ad8aff1b4480"), looks := true }, kinds := [], alts := [], laidByText := true, laidKinds := [.data, .data, .data, .data], laidTests := true, laidLooks := .later }
def FnComplexDifferenceCardSaid : Prop := Claim7.holds Tryz.pinned (.plain (OpenSpec.ofChange fnComplexDifferenceSpec)) fnComplexDifferenceCard

/-- THE TIED CARD OF 'laws.FnComplexProduct'. -/
def fnComplexProductCard : Claim7 := { stood := { row := fnComplexProductRow, standIns := [], harness := (true, "96978facc7b0214d61b97f1bbded78824790c5f8de431443b714ad8aff1b4480"), looks := true }, kinds := [], alts := [], laidByText := true, laidKinds := [.data, .data, .data, .data], laidTests := true, laidLooks := .later }
def FnComplexProductCardSaid : Prop := Claim7.holds Tryz.pinned (.plain (OpenSpec.ofChange fnComplexProductSpec)) fnComplexProductCard

/-- THE TIED CARD OF 'laws.FnConjugate'. -/
def fnConjugateCard : Claim7 := { stood := { row := fnConjugateRow, standIns := [], harness := (true, "96978facc7b0214d61b97f1bbded78824790c5f8de431443b714ad8aff1b4480"), looks := true }, kinds := [], alts := [], laidByText := true, laidKinds := [.data, .data, .data, .data], laidTests := true, laidLooks := .later }
def FnConjugateCardSaid : Prop := Claim7.holds Tryz.pinned (.plain (OpenSpec.ofChange fnConjugateSpec)) fnConjugateCard

/-- THE TIED CARD OF 'laws.FnRejoined'. -/
def fnRejoinedCard : Claim7 := { stood := { row := fnRejoinedRow, standIns := [], harness := (true, "96978facc7b0214d61b97f1bbded78824790c5f8de431443b714ad8aff1b4480"), looks := true }, kinds := [], alts := [], laidByText := true, laidKinds := [.data, .data, .data, .data], laidTests := true, laidLooks := .later }
def FnRejoinedCardSaid : Prop := Claim7.holds Tryz.pinned (.plain (OpenSpec.ofChange fnRejoinedSpec)) fnRejoinedCard

/-- THE TIED CARD OF 'laws.FnComplexSign'. -/
def fnComplexSignCard : Claim7 := { stood := { row := fnComplexSignRow, standIns := [], harness := (true, "96978facc7b0214d61b97f1bbded78824790c5f8de431443b714ad8aff1b4480"), looks := true }, kinds := [], alts := [], laidByText := true, laidKinds := [.data, .data, .data, .data], laidTests := true, laidLooks := .later }
def FnComplexSignCardSaid : Prop := Claim7.holds Tryz.pinned (.plain (OpenSpec.ofChange fnComplexSignSpec)) fnComplexSignCard

/-- THE TIED CARD OF 'laws.FnComplexNegative'. -/
def fnComplexNegativeCard : Claim7 := { stood := { row := fnComplexNegativeRow, standIns := [], harness := (true, "96978facc7b0214d61b97f1bbded78824790c5f8de431443b714ad8aff1b4480"), looks := true }, kinds := [], alts := [], laidByText := true, laidKinds := [.data, .data, .data, .data], laidTests := true, laidLooks := .later }
def FnComplexNegativeCardSaid : Prop := Claim7.holds Tryz.pinned (.plain (OpenSpec.ofChange fnComplexNegativeSpec)) fnComplexNegativeCard

/-- THE TIED CARD OF 'laws.FnComplexCompare'. -/
def fnComplexCompareCard : Claim7 := { stood := { row := fnComplexCompareRow, standIns := [], harness := (true, "96978facc7b0214d61b97f1bbded78824790c5f8de431443b714ad8aff1b4480"), looks := true }, kinds := [], alts := [], laidByText := true, laidKinds := [.data, .data, .data, .data], laidTests := true, laidLooks := .later }
def FnComplexCompareCardSaid : Prop := Claim7.holds Tryz.pinned (.plain (OpenSpec.ofChange fnComplexCompareSpec)) fnComplexCompareCard

/-- THE SECOND FORM's CARD OF 'laws.FnFloatSum'. -/
def fnFloatSumUptoCard : Claim7 := { stood := { row := fnFloatSumUptoRow, standIns := [], harness := (true, "96978facc7b0214d61b97f1bbded78824790c5f8de431443b714ad8aff1b4480"), looks := true }, kinds := [], alts := [], laidByText := true, laidKinds := [.data, .data, .data, .data], laidTests := true, laidLooks := .later }
def FnFloatSumUptoCardSaid : Prop := Claim7.holds Tryz.pinned (.plain (OpenSpec.upto fnFloatSumSpec)) fnFloatSumUptoCard

/-- THE SECOND FORM's CARD OF 'laws.FnFloatDifference'. -/
def fnFloatDifferenceUptoCard : Claim7 := { stood := { row := fnFloatDifferenceUptoRow, standIns := [], harness := (true, "96978facc7b0214d61b97f1bbded78824790c5f8de431443b714ad8aff1b4480"), looks := true }, kinds := [], alts := [], laidByText := true, laidKinds := [.data, .data, .data, .data], laidTests := true, laidLooks := .later }
def FnFloatDifferenceUptoCardSaid : Prop := Claim7.holds Tryz.pinned (.plain (OpenSpec.upto fnFloatDifferenceSpec)) fnFloatDifferenceUptoCard

/-- THE SECOND FORM's CARD OF 'laws.FnFloatProduct'. -/
def fnFloatProductUptoCard : Claim7 := { stood := { row := fnFloatProductUptoRow, standIns := [], harness := (true, "96978facc7b0214d61b97f1bbded78824790c5f8de431443b714ad8aff1b4480"), looks := true }, kinds := [], alts := [], laidByText := true, laidKinds := [.data, .data, .data, .data], laidTests := true, laidLooks := .later }
def FnFloatProductUptoCardSaid : Prop := Claim7.holds Tryz.pinned (.plain (OpenSpec.upto fnFloatProductSpec)) fnFloatProductUptoCard

/-- THE SECOND FORM's CARD OF 'laws.FnMixed'. -/
def fnMixedUptoCard : Claim7 := { stood := { row := fnMixedUptoRow, standIns := [], harness := (true, "96978facc7b0214d61b97f1bbded78824790c5f8de431443b714ad8aff1b4480"), looks := true }, kinds := [], alts := [], laidByText := true, laidKinds := [.data, .data, .data, .data], laidTests := true, laidLooks := .later }
def FnMixedUptoCardSaid : Prop := Claim7.holds Tryz.pinned (.plain (OpenSpec.upto fnMixedSpec)) fnMixedUptoCard

/-- THE SECOND FORM's CARD OF 'laws.FnSame'. -/
def fnSameUptoCard : Claim7 := { stood := { row := fnSameUptoRow, standIns := [], harness := (true, "96978facc7b0214d61b97f1bbded78824790c5f8de431443b714ad8aff1b4480"), looks := true }, kinds := [], alts := [], laidByText := true, laidKinds := [.data, .data, .data, .data], laidTests := true, laidLooks := .later }
def FnSameUptoCardSaid : Prop := Claim7.holds Tryz.pinned (.plain (OpenSpec.upto fnSameSpec)) fnSameUptoCard

/-- THE SECOND FORM's CARD OF 'laws.FnParts'. -/
def fnPartsUptoCard : Claim7 := { stood := { row := fnPartsUptoRow, standIns := [], harness := (true, "96978facc7b0214d61b97f1bbded78824790c5f8de431443b714ad8aff1b4480"), looks := true }, kinds := [], alts := [], laidByText := true, laidKinds := [.data, .data, .data, .data], laidTests := true, laidLooks := .later }
def FnPartsUptoCardSaid : Prop := Claim7.holds Tryz.pinned (.plain (OpenSpec.upto fnPartsSpec)) fnPartsUptoCard

/-- THE SECOND FORM's CARD OF 'laws.FnComplexSum'. -/
def fnComplexSumUptoCard : Claim7 := { stood := { row := fnComplexSumUptoRow, standIns := [], harness := (true, "96978facc7b0214d61b97f1bbded78824790c5f8de431443b714ad8aff1b4480"), looks := true }, kinds := [], alts := [], laidByText := true, laidKinds := [.data, .data, .data, .data], laidTests := true, laidLooks := .later }
def FnComplexSumUptoCardSaid : Prop := Claim7.holds Tryz.pinned (.plain (OpenSpec.upto fnComplexSumSpec)) fnComplexSumUptoCard

/-- THE SECOND FORM's CARD OF 'laws.FnComplexDifference'. -/
def fnComplexDifferenceUptoCard : Claim7 := { stood := { row := fnComplexDifferenceUptoRow, standIns := [], harness := (true, "96978facc7b0214d61b97f1bbded78824790c5f8de431443b714ad8aff1b4480"), looks := true }, kinds := [], alts := [], laidByText := true, laidKinds := [.data, .data, .data, .data], laidTests := true, laidLooks := .later }
def FnComplexDifferenceUptoCardSaid : Prop := Claim7.holds Tryz.pinned (.plain (OpenSpec.upto fnComplexDifferenceSpec)) fnComplexDifferenceUptoCard

/-- THE SECOND FORM's CARD OF 'laws.FnComplexProduct'. -/
def fnComplexProductUptoCard : Claim7 := { stood := { row := fnComplexProductUptoRow, standIns := [], harness := (true, "96978facc7b0214d61b97f1bbded78824790c5f8de431443b714ad8aff1b4480"), looks := true }, kinds := [], alts := [], laidByText := true, laidKinds := [.data, .data, .data, .data], laidTests := true, laidLooks := .later }
def FnComplexProductUptoCardSaid : Prop := Claim7.holds Tryz.pinned (.plain (OpenSpec.upto fnComplexProductSpec)) fnComplexProductUptoCard

/-- THE SECOND FORM's CARD OF 'laws.FnConjugate'. -/
def fnConjugateUptoCard : Claim7 := { stood := { row := fnConjugateUptoRow, standIns := [], harness := (true, "96978facc7b0214d61b97f1bbded78824790c5f8de431443b714ad8aff1b4480"), looks := true }, kinds := [], alts := [], laidByText := true, laidKinds := [.data, .data, .data, .data], laidTests := true, laidLooks := .later }
def FnConjugateUptoCardSaid : Prop := Claim7.holds Tryz.pinned (.plain (OpenSpec.upto fnConjugateSpec)) fnConjugateUptoCard

/-- THE SECOND FORM's CARD OF 'laws.FnRejoined'. -/
def fnRejoinedUptoCard : Claim7 := { stood := { row := fnRejoinedUptoRow, standIns := [], harness := (true, "96978facc7b0214d61b97f1bbded78824790c5f8de431443b714ad8aff1b4480"), looks := true }, kinds := [], alts := [], laidByText := true, laidKinds := [.data, .data, .data, .data], laidTests := true, laidLooks := .later }
def FnRejoinedUptoCardSaid : Prop := Claim7.holds Tryz.pinned (.plain (OpenSpec.upto fnRejoinedSpec)) fnRejoinedUptoCard

/-- THE SECOND FORM's CARD OF 'laws.FnComplexSign'. -/
def fnComplexSignUptoCard : Claim7 := { stood := { row := fnComplexSignUptoRow, standIns := [], harness := (true, "96978facc7b0214d61b97f1bbded78824790c5f8de431443b714ad8aff1b4480"), looks := true }, kinds := [], alts := [], laidByText := true, laidKinds := [.data, .data, .data, .data], laidTests := true, laidLooks := .later }
def FnComplexSignUptoCardSaid : Prop := Claim7.holds Tryz.pinned (.plain (OpenSpec.upto fnComplexSignSpec)) fnComplexSignUptoCard

/-- THE SECOND FORM's CARD OF 'laws.FnComplexNegative'. -/
def fnComplexNegativeUptoCard : Claim7 := { stood := { row := fnComplexNegativeUptoRow, standIns := [], harness := (true, "96978facc7b0214d61b97f1bbded78824790c5f8de431443b714ad8aff1b4480"), looks := true }, kinds := [], alts := [], laidByText := true, laidKinds := [.data, .data, .data, .data], laidTests := true, laidLooks := .later }
def FnComplexNegativeUptoCardSaid : Prop := Claim7.holds Tryz.pinned (.plain (OpenSpec.upto fnComplexNegativeSpec)) fnComplexNegativeUptoCard

/-- THE SECOND FORM's CARD OF 'laws.FnComplexCompare'. -/
def fnComplexCompareUptoCard : Claim7 := { stood := { row := fnComplexCompareUptoRow, standIns := [], harness := (true, "96978facc7b0214d61b97f1bbded78824790c5f8de431443b714ad8aff1b4480"), looks := true }, kinds := [], alts := [], laidByText := true, laidKinds := [.data, .data, .data, .data], laidTests := true, laidLooks := .later }
def FnComplexCompareUptoCardSaid : Prop := Claim7.holds Tryz.pinned (.plain (OpenSpec.upto fnComplexCompareSpec)) fnComplexCompareUptoCard
end Rows
end Go.Proofs.YtececkbcinmmpaaGreatDoor
