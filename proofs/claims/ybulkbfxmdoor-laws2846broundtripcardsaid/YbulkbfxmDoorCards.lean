/-
  DERIVED. GIVEN WITH THE SEED: THE CARDS: each row of YbulkbfxmDoorRows.lean that lists a variable, with what it lists TIED to the program's text (the seventh form; the later family's looks); each row that meets fmt, with fmt's text TOLD by the authors' own Lean function (tested against real Go, not proved from fmt's source: count such statements apart). THE CARD IS WHAT COUNTS. Prove the row's statement (the work); the ties are given (YbulkbfxmDoorTie.lean); close each card by the builder's one call (the guide's Derived/Test/ToyasCard.lean, 'card_holds'). Laid BY PROGRAM, IN A SANDBOX (cutbox-door.mjs). By AI agents, Wed Nov 11 2026. No macro, syntax, notation, axiom, sorry.
-/
import Derived.Test.YbulkbfxmDoorRows
import GoSem.ClaimSeven
namespace Go.Proofs.YbulkbfxmDoor
namespace Rows

/-- THE TIED CARD OF 'varint.LawS2846BModel'. -/
def lawS2846BModelCard : Claim7 := { stood := { row := lawS2846BModelRow, standIns := [], harness := (true, "55d61cddb04e17ba92e6b5047a7c24bafa07a2da5435f1b7f98fd9cb8a8a67d4"), looks := true }, kinds := [], alts := [], laidByText := true, laidKinds := [.sentinel, .sentinel], laidTests := true, laidLooks := .later }
def LawS2846BModelCardSaid : Prop := Claim7.holds Ybad.pinned (.plain (OpenSpec.ofChange lawS2846BModelSpec)) lawS2846BModelCard

/-- THE TIED CARD OF 'varint.LawS2846BRoundTrip'. -/
def lawS2846BRoundTripCard : Claim7 := { stood := { row := lawS2846BRoundTripRow, standIns := [], harness := (true, "55d61cddb04e17ba92e6b5047a7c24bafa07a2da5435f1b7f98fd9cb8a8a67d4"), looks := true }, kinds := [], alts := [], laidByText := true, laidKinds := [.sentinel, .sentinel], laidTests := true, laidLooks := .later }
def LawS2846BRoundTripCardSaid : Prop := Claim7.holds Ybad.pinned (.plain (OpenSpec.ofChange lawS2846BRoundTripSpec)) lawS2846BRoundTripCard

/-- THE TIED CARD OF 'varint.LawS2846BSuffix'. -/
def lawS2846BSuffixCard : Claim7 := { stood := { row := lawS2846BSuffixRow, standIns := [], harness := (true, "55d61cddb04e17ba92e6b5047a7c24bafa07a2da5435f1b7f98fd9cb8a8a67d4"), looks := true }, kinds := [], alts := [], laidByText := true, laidKinds := [.sentinel, .sentinel], laidTests := true, laidLooks := .later }
def LawS2846BSuffixCardSaid : Prop := Claim7.holds Ybad.pinned (.plain (OpenSpec.ofChange lawS2846BSuffixSpec)) lawS2846BSuffixCard
end Rows
end Go.Proofs.YbulkbfxmDoor
