/-
  DERIVED. GIVEN WITH THE SEED: THE CARDS: each row of YbulkayhiDoorRows.lean that lists a variable, with what it lists TIED to the program's text (the seventh form; the later family's looks); each row that meets fmt, with fmt's text TOLD by the authors' own Lean function (tested against real Go, not proved from fmt's source: count such statements apart). THE CARD IS WHAT COUNTS. Prove the row's statement (the work); the ties are given (YbulkayhiDoorTie.lean); close each card by the builder's one call (the guide's Derived/Test/ToyasCard.lean, 'card_holds'). Laid BY PROGRAM, IN A SANDBOX (cutbox-door.mjs). By AI agents, Wed Nov 11 2026. No macro, syntax, notation, axiom, sorry.
-/
import Derived.Test.YbulkayhiDoorRows
import GoSem.ClaimSeven
namespace Go.Proofs.YbulkayhiDoor
namespace Rows

/-- THE TIED CARD OF 'geo.LawS2478BModel'. -/
def lawS2478BModelCard : Claim7 := { stood := { row := lawS2478BModelRow, standIns := [], harness := (true, "8ed18361d629e91b0614bec47eb3ccbe74c8339cf8478b679f1209826b7e587e"), looks := false }, kinds := [], alts := [], laidByText := true, laidKinds := [.data, .data, .data], laidTests := true, laidLooks := .later }
def LawS2478BModelCardSaid : Prop := Claim7.holds Ybad.pinned (.plain (OpenSpec.ofChange lawS2478BModelSpec)) lawS2478BModelCard

/-- THE TIED CARD OF 'geo.LawS2478BRoundTrip'. -/
def lawS2478BRoundTripCard : Claim7 := { stood := { row := lawS2478BRoundTripRow, standIns := [], harness := (true, "8ed18361d629e91b0614bec47eb3ccbe74c8339cf8478b679f1209826b7e587e"), looks := false }, kinds := [], alts := [], laidByText := true, laidKinds := [.data, .data, .data], laidTests := true, laidLooks := .later }
def LawS2478BRoundTripCardSaid : Prop := Claim7.holds Ybad.pinned (.plain (OpenSpec.ofChange lawS2478BRoundTripSpec)) lawS2478BRoundTripCard
end Rows
end Go.Proofs.YbulkayhiDoor
