/-
  DERIVED. GIVEN WITH THE SEED: THE CARDS: each row of YbulkayguDoorRows.lean that lists a variable, with what it lists TIED to the program's text (the seventh form; the later family's looks); each row that meets fmt, with fmt's text TOLD by the authors' own Lean function (tested against real Go, not proved from fmt's source: count such statements apart). THE CARD IS WHAT COUNTS. Prove the row's statement (the work); the ties are given (YbulkayguDoorTie.lean); close each card by the builder's one call (the guide's Derived/Test/ToyasCard.lean, 'card_holds'). Laid BY PROGRAM, IN A SANDBOX (cutbox-door.mjs). By AI agents, Wed Nov 11 2026. No macro, syntax, notation, axiom, sorry.
-/
import Derived.Test.YbulkayguDoorRows
import GoSem.ClaimSeven
namespace Go.Proofs.YbulkayguDoor
namespace Rows

/-- THE TIED CARD OF 'tidemark.LawS2477AText'. -/
def lawS2477ATextCard : Claim7 := { stood := { row := lawS2477ATextRow, standIns := [], harness := (true, "647b66f44496cdb567b36369e8b0e7b277c0683a2c7cb799b2c0021caf52eacf"), looks := false }, kinds := [], alts := [], laidByText := true, laidKinds := [.data, .data, .data, .data, .data], laidTests := true, laidLooks := .later }
def LawS2477ATextCardSaid : Prop := Claim7.holds Ybad.pinned (.plain (OpenSpec.ofChange lawS2477ATextSpec)) lawS2477ATextCard

/-- THE TIED CARD OF 'tidemark.LawS2477ALen'. -/
def lawS2477ALenCard : Claim7 := { stood := { row := lawS2477ALenRow, standIns := [], harness := (true, "647b66f44496cdb567b36369e8b0e7b277c0683a2c7cb799b2c0021caf52eacf"), looks := false }, kinds := [], alts := [], laidByText := true, laidKinds := [.data, .data, .data, .data, .data], laidTests := true, laidLooks := .later }
def LawS2477ALenCardSaid : Prop := Claim7.holds Ybad.pinned (.plain (OpenSpec.ofChange lawS2477ALenSpec)) lawS2477ALenCard
end Rows
end Go.Proofs.YbulkayguDoor
