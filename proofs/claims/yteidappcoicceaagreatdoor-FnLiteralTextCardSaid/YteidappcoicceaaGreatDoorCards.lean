/-
  DERIVED. GIVEN WITH THE SEED: THE CARDS: each row of YteidappcoicceaaGreatDoorRows.lean that lists a variable, with what it lists TIED to the program's text (the seventh form; the later family's looks); each row that meets fmt, with fmt's text TOLD by the authors' own Lean function (tested against real Go, not proved from fmt's source: count such statements apart). THE CARD IS WHAT COUNTS. Prove the row's statement (the work); the ties are given (YteidappcoicceaaGreatDoorTie.lean); close each card by the builder's one call (the guide's Derived/Test/ToyasCard.lean, 'card_holds'). Laid BY PROGRAM, IN A SANDBOX (cutbox-door.mjs). By AI agents, Wed Nov 11 2026. No macro, syntax, notation, axiom, sorry.
-/
import Derived.Test.YteidappcoicceaaGreatDoorRows
import GoSem.ClaimSeven
namespace Go.Proofs.YteidappcoicceaaGreatDoor
namespace Rows

/-- THE TIED CARD OF 'laws.FnLiteralTextBad'. -/
def fnLiteralTextBadCard : Claim7 := { stood := { row := fnLiteralTextBadRow, standIns := [], harness := (true, "20998b938356d2c1a2df766f6c780e42ed4ab911b5e6d56bf293cf1b784e5b06"), looks := true }, kinds := [], alts := [], laidByText := true, laidKinds := [.data, .data, .data, .data, .sentinel, .sentinel, .sentinel, .data, .sentinel, .sentinel, .data, .data, .data, .data, .pinned], laidTests := true, laidLooks := .later }
def FnLiteralTextBadCardSaid : Prop := Claim7.holds Tryz.pinned (.plain (OpenSpec.ofChange fnLiteralTextBadSpec)) fnLiteralTextBadCard

/-- THE TIED CARD OF 'laws.FnLiteralText'. -/
def fnLiteralTextCard : Claim7 := { stood := { row := fnLiteralTextRow, standIns := [], harness := (true, "20998b938356d2c1a2df766f6c780e42ed4ab911b5e6d56bf293cf1b784e5b06"), looks := true }, kinds := [], alts := [], laidByText := true, laidKinds := [.data, .data, .data, .data, .sentinel, .sentinel, .sentinel, .data, .sentinel, .sentinel, .data, .data, .data, .data, .pinned], laidTests := true, laidLooks := .later }
def FnLiteralTextCardSaid : Prop := Claim7.holds Tryz.pinned (.plain (OpenSpec.ofChange fnLiteralTextSpec)) fnLiteralTextCard

/-- THE TIED CARD OF 'laws.FnLiteralBad'. -/
def fnLiteralBadCard : Claim7 := { stood := { row := fnLiteralBadRow, standIns := [], harness := (true, "20998b938356d2c1a2df766f6c780e42ed4ab911b5e6d56bf293cf1b784e5b06"), looks := true }, kinds := [], alts := [], laidByText := true, laidKinds := [.data, .data, .data, .data, .sentinel, .sentinel, .sentinel, .data, .sentinel, .sentinel, .data, .data, .data, .data, .pinned], laidTests := true, laidLooks := .later }
def FnLiteralBadCardSaid : Prop := Claim7.holds Tryz.pinned (.plain (OpenSpec.ofChange fnLiteralBadSpec)) fnLiteralBadCard

/-- THE SECOND FORM's CARD OF 'laws.FnLiteralTextBad'. -/
def fnLiteralTextBadUptoCard : Claim7 := { stood := { row := fnLiteralTextBadUptoRow, standIns := [], harness := (true, "20998b938356d2c1a2df766f6c780e42ed4ab911b5e6d56bf293cf1b784e5b06"), looks := true }, kinds := [], alts := [], laidByText := true, laidKinds := [.data, .data, .data, .data, .sentinel, .sentinel, .sentinel, .data, .sentinel, .sentinel, .data, .data, .data, .data, .pinned], laidTests := true, laidLooks := .later }
def FnLiteralTextBadUptoCardSaid : Prop := Claim7.holds Tryz.pinned (.plain (OpenSpec.upto fnLiteralTextBadSpec)) fnLiteralTextBadUptoCard

/-- THE SECOND FORM's CARD OF 'laws.FnLiteralText'. -/
def fnLiteralTextUptoCard : Claim7 := { stood := { row := fnLiteralTextUptoRow, standIns := [], harness := (true, "20998b938356d2c1a2df766f6c780e42ed4ab911b5e6d56bf293cf1b784e5b06"), looks := true }, kinds := [], alts := [], laidByText := true, laidKinds := [.data, .data, .data, .data, .sentinel, .sentinel, .sentinel, .data, .sentinel, .sentinel, .data, .data, .data, .data, .pinned], laidTests := true, laidLooks := .later }
def FnLiteralTextUptoCardSaid : Prop := Claim7.holds Tryz.pinned (.plain (OpenSpec.upto fnLiteralTextSpec)) fnLiteralTextUptoCard

/-- THE SECOND FORM's CARD OF 'laws.FnLiteralBad'. -/
def fnLiteralBadUptoCard : Claim7 := { stood := { row := fnLiteralBadUptoRow, standIns := [], harness := (true, "20998b938356d2c1a2df766f6c780e42ed4ab911b5e6d56bf293cf1b784e5b06"), looks := true }, kinds := [], alts := [], laidByText := true, laidKinds := [.data, .data, .data, .data, .sentinel, .sentinel, .sentinel, .data, .sentinel, .sentinel, .data, .data, .data, .data, .pinned], laidTests := true, laidLooks := .later }
def FnLiteralBadUptoCardSaid : Prop := Claim7.holds Tryz.pinned (.plain (OpenSpec.upto fnLiteralBadSpec)) fnLiteralBadUptoCard
end Rows
end Go.Proofs.YteidappcoicceaaGreatDoor
