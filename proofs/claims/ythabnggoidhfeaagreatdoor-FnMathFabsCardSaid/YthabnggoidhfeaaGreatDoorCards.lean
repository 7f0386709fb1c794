/-
  DERIVED. GIVEN WITH THE SEED: THE CARDS: each row of YthabnggoidhfeaaGreatDoorRows.lean that lists a variable, with what it lists TIED to the program's text (the seventh form; the later family's looks); each row that meets fmt, with fmt's text TOLD by the authors' own Lean function (tested against real Go, not proved from fmt's source: count such statements apart). THE CARD IS WHAT COUNTS. Prove the row's statement (the work); the ties are given (YthabnggoidhfeaaGreatDoorTie.lean); close each card by the builder's one call (the guide's Derived/Test/ToyasCard.lean, 'card_holds'). Laid BY PROGRAM, IN A SANDBOX (cutbox-door.mjs). By AI agents, Wed Nov 11 2026. No macro, syntax, notation, axiom, sorry.
-/
import Derived.Test.YthabnggoidhfeaaGreatDoorRows
import GoSem.ClaimSeven
namespace Go.Proofs.YthabnggoidhfeaaGreatDoor
namespace Rows

/-- THE TIED CARD OF 'laws.FnMathFabs'. -/
def fnMathFabsCard : Claim7 := { stood := { row := fnMathFabsRow, standIns := [], harness := (true, "eba5a255f009a2402c7fb7f5fa1e579cf0003e5324d9e3f9f59497f6e4d32930"), looks := true }, kinds := [], alts := [], laidByText := true, laidKinds := [.data, .data, .data, .data], laidTests := true, laidLooks := .later }
def FnMathFabsCardSaid : Prop := Claim7.holds Tryz.pinned (.plain (OpenSpec.ofChange fnMathFabsSpec)) fnMathFabsCard

/-- THE SECOND FORM's CARD OF 'laws.FnMathFabs'. -/
def fnMathFabsUptoCard : Claim7 := { stood := { row := fnMathFabsUptoRow, standIns := [], harness := (true, "eba5a255f009a2402c7fb7f5fa1e579cf0003e5324d9e3f9f59497f6e4d32930"), looks := true }, kinds := [], alts := [], laidByText := true, laidKinds := [.data, .data, .data, .data], laidTests := true, laidLooks := .later }
def FnMathFabsUptoCardSaid : Prop := Claim7.holds Tryz.pinned (.plain (OpenSpec.upto fnMathFabsSpec)) fnMathFabsUptoCard
end Rows
end Go.Proofs.YthabnggoidhfeaaGreatDoor
