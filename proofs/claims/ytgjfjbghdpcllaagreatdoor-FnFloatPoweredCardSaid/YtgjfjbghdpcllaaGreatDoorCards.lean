/-
  DERIVED. GIVEN WITH THE SEED: THE CARDS: each row of YtgjfjbghdpcllaaGreatDoorRows.lean that lists a variable, with what it lists TIED to the program's text (the seventh form; the later family's looks); each row that meets fmt, with fmt's text TOLD by the authors' own Lean function (tested against real Go, not proved from fmt's source: count such statements apart). THE CARD IS WHAT COUNTS. Prove the row's statement (the work); the ties are given (YtgjfjbghdpcllaaGreatDoorTie.lean); close each card by the builder's one call (the guide's Derived/Test/ToyasCard.lean, 'card_holds'). Laid BY PROGRAM, IN A SANDBOX (cutbox-door.mjs). By AI agents, Wed Nov 11 2026. No macro, syntax, notation, axiom, sorry.
-/
import Derived.Test.YtgjfjbghdpcllaaGreatDoorRows
import GoSem.ClaimSeven
namespace Go.Proofs.YtgjfjbghdpcllaaGreatDoor
namespace Rows

/-- THE TIED CARD OF 'laws.FnFloatPowered'. -/
def fnFloatPoweredCard : Claim7 := { stood := { row := fnFloatPoweredRow, standIns := [], harness := (true, "194dea77dcb2e8dc77ffc454006d7795fd804e23f271fe427d49a23bd1263b5f"), looks := false }, kinds := [], alts := [], laidByText := true, laidKinds := [.data, .data, .data, .data, .pinned, .pinned], laidTests := true, laidLooks := .later }
def FnFloatPoweredCardSaid : Prop := Claim7.holds Tryz.pinned (.plain (OpenSpec.ofChange fnFloatPoweredSpec)) fnFloatPoweredCard

/-- THE SECOND FORM's CARD OF 'laws.FnFloatPowered'. -/
def fnFloatPoweredUptoCard : Claim7 := { stood := { row := fnFloatPoweredUptoRow, standIns := [], harness := (true, "194dea77dcb2e8dc77ffc454006d7795fd804e23f271fe427d49a23bd1263b5f"), looks := false }, kinds := [], alts := [], laidByText := true, laidKinds := [.data, .data, .data, .data, .pinned, .pinned], laidTests := true, laidLooks := .later }
def FnFloatPoweredUptoCardSaid : Prop := Claim7.holds Tryz.pinned (.plain (OpenSpec.upto fnFloatPoweredSpec)) fnFloatPoweredUptoCard
end Rows
end Go.Proofs.YtgjfjbghdpcllaaGreatDoor
