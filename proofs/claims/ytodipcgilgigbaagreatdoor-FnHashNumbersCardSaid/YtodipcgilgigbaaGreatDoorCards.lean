/-
  DERIVED. GIVEN WITH THE SEED: THE CARDS: each row of YtodipcgilgigbaaGreatDoorRows.lean that lists a variable, with what it lists TIED to the program's text (the seventh form; the later family's looks); each row that meets fmt, with fmt's text TOLD by the authors' own Lean function (tested against real Go, not proved from fmt's source: count such statements apart). THE CARD IS WHAT COUNTS. Prove the row's statement (the work); the ties are given (YtodipcgilgigbaaGreatDoorTie.lean); close each card by the builder's one call (the guide's Derived/Test/ToyasCard.lean, 'card_holds'). Laid BY PROGRAM, IN A SANDBOX (cutbox-door.mjs). By AI agents, Wed Nov 11 2026. No macro, syntax, notation, axiom, sorry.
-/
import Derived.Test.YtodipcgilgigbaaGreatDoorRows
import GoSem.ClaimSeven
namespace Go.Proofs.YtodipcgilgigbaaGreatDoor
namespace Rows

/-- THE TIED CARD OF 'laws.FnHashNumbers'. -/
def fnHashNumbersCard : Claim7 := { stood := { row := fnHashNumbersRow, standIns := [], harness := (true, "555d5849647adc7d92c3aca05a4c86bec7eee8f52229bbf8088969c5682a73f8"), looks := true }, kinds := [], alts := [], laidByText := true, laidKinds := [.data, .data, .data, .data, .data], laidTests := true, laidLooks := .later }
def FnHashNumbersCardSaid : Prop := Claim7.holds Tryz.pinned (.plain (OpenSpec.ofChange fnHashNumbersSpec)) fnHashNumbersCard

/-- THE TIED CARD OF 'laws.FnAsFloat'. -/
def fnAsFloatCard : Claim7 := { stood := { row := fnAsFloatRow, standIns := [], harness := (true, "555d5849647adc7d92c3aca05a4c86bec7eee8f52229bbf8088969c5682a73f8"), looks := true }, kinds := [], alts := [], laidByText := true, laidKinds := [.data, .data, .data, .data, .data], laidTests := true, laidLooks := .later }
def FnAsFloatCardSaid : Prop := Claim7.holds Tryz.pinned (.plain (OpenSpec.ofChange fnAsFloatSpec)) fnAsFloatCard

/-- THE SECOND FORM's CARD OF 'laws.FnHashNumbers'. -/
def fnHashNumbersUptoCard : Claim7 := { stood := { row := fnHashNumbersUptoRow, standIns := [], harness := (true, "555d5849647adc7d92c3aca05a4c86bec7eee8f52229bbf8088969c5682a73f8"), looks := true }, kinds := [], alts := [], laidByText := true, laidKinds := [.data, .data, .data, .data, .data], laidTests := true, laidLooks := .later }
def FnHashNumbersUptoCardSaid : Prop := Claim7.holds Tryz.pinned (.plain (OpenSpec.upto fnHashNumbersSpec)) fnHashNumbersUptoCard

/-- THE SECOND FORM's CARD OF 'laws.FnAsFloat'. -/
def fnAsFloatUptoCard : Claim7 := { stood := { row := fnAsFloatUptoRow, standIns := [], harness := (true, "555d5849647adc7d92c3aca05a4c86bec7eee8f52229bbf8088969c5682a73f8"), looks := true }, kinds := [], alts := [], laidByText := true, laidKinds := [.data, .data, .data, .data, .data], laidTests := true, laidLooks := .later }
def FnAsFloatUptoCardSaid : Prop := Claim7.holds Tryz.pinned (.plain (OpenSpec.upto fnAsFloatSpec)) fnAsFloatUptoCard
end Rows
end Go.Proofs.YtodipcgilgigbaaGreatDoor
