/-
  DERIVED. GIVEN WITH THE SEED: THE CARDS: each row of YthmogfjmngbamaaGreatDoorRows.lean that lists a variable, with what it lists TIED to the program's text (the seventh form; the later family's looks); each row that meets fmt, with fmt's text TOLD by the authors' own Lean function (tested against real Go, not proved from fmt's source: count such statements apart). THE CARD IS WHAT COUNTS. Prove the row's statement (the work); the ties are given (YthmogfjmngbamaaGreatDoorTie.lean); close each card by the builder's one call (the guide's Derived/Test/ToyasCard.lean, 'card_holds'). Laid BY PROGRAM, IN A SANDBOX (cutbox-door.mjs). By AI agents, Wed Nov 11 2026. No macro, syntax, notation, axiom, sorry.
-/
import Derived.Test.YthmogfjmngbamaaGreatDoorRows
import GoSem.ClaimSeven
namespace Go.Proofs.YthmogfjmngbamaaGreatDoor
namespace Rows

/-- THE TIED CARD OF 'laws.FnRounding'. -/
def fnRoundingCard : Claim7 := { stood := { row := fnRoundingRow, standIns := [], harness := (true, "9c03b456bcd54046303eb146513fbc6de6677cf855b66e4ce209f383b1626f3a"), looks := true }, kinds := [], alts := [], laidByText := true, laidKinds := [.data, .data, .widerDeep, .widerDeep, .data, .data, .data, .data, .data, .sentinel, .sentinel, .pinned, .pinned], laidTests := true, laidLooks := .later }
def FnRoundingCardSaid : Prop := Claim7.holds Tryz.pinned (.plain (OpenSpec.ofChange fnRoundingSpec)) fnRoundingCard

/-- THE TIED CARD OF 'laws.FnConversions'. -/
def fnConversionsCard : Claim7 := { stood := { row := fnConversionsRow, standIns := [], harness := (true, "9c03b456bcd54046303eb146513fbc6de6677cf855b66e4ce209f383b1626f3a"), looks := true }, kinds := [], alts := [], laidByText := true, laidKinds := [.data, .data, .widerDeep, .widerDeep, .data, .data, .data, .data, .data, .sentinel, .sentinel, .pinned, .pinned], laidTests := true, laidLooks := .later }
def FnConversionsCardSaid : Prop := Claim7.holds Tryz.pinned (.plain (OpenSpec.ofChange fnConversionsSpec)) fnConversionsCard

/-- THE SECOND FORM's CARD OF 'laws.FnRounding'. -/
def fnRoundingUptoCard : Claim7 := { stood := { row := fnRoundingUptoRow, standIns := [], harness := (true, "9c03b456bcd54046303eb146513fbc6de6677cf855b66e4ce209f383b1626f3a"), looks := true }, kinds := [], alts := [], laidByText := true, laidKinds := [.data, .data, .widerDeep, .widerDeep, .data, .data, .data, .data, .data, .sentinel, .sentinel, .pinned, .pinned], laidTests := true, laidLooks := .later }
def FnRoundingUptoCardSaid : Prop := Claim7.holds Tryz.pinned (.plain (OpenSpec.upto fnRoundingSpec)) fnRoundingUptoCard

/-- THE SECOND FORM's CARD OF 'laws.FnConversions'. -/
def fnConversionsUptoCard : Claim7 := { stood := { row := fnConversionsUptoRow, standIns := [], harness := (true, "9c03b456bcd54046303eb146513fbc6de6677cf855b66e4ce209f383b1626f3a"), looks := true }, kinds := [], alts := [], laidByText := true, laidKinds := [.data, .data, .widerDeep, .widerDeep, .data, .data, .data, .data, .data, .sentinel, .sentinel, .pinned, .pinned], laidTests := true, laidLooks := .later }
def FnConversionsUptoCardSaid : Prop := Claim7.holds Tryz.pinned (.plain (OpenSpec.upto fnConversionsSpec)) fnConversionsUptoCard
end Rows
end Go.Proofs.YthmogfjmngbamaaGreatDoor
