/-
  DERIVED. GIVEN WITH THE SEED: THE CARDS: each row of YbulkebiiDoorRows.lean that lists a variable, with what it lists TIED to the program's text (the seventh form; the later family's looks); each row that meets fmt, with fmt's text TOLD by the authors' own Lean function (tested against real Go, not proved from fmt's source: count such statements apart). THE CARD IS WHAT COUNTS. Prove the row's statement (the work); the ties are given (YbulkebiiDoorTie.lean); close each card by the builder's one call (the guide's Derived/Test/ToyasCard.lean, 'card_holds'). Laid BY PROGRAM, IN A SANDBOX (cutbox-door.mjs). By AI agents, Wed Nov 11 2026. No macro, syntax, notation, axiom, sorry.
-/
import Derived.Test.YbulkebiiDoorRows
import GoSem.ClaimSeven
namespace Go.Proofs.YbulkebiiDoor
namespace Rows

/-- THE TIED CARD OF 'nass.LawS6391AWhole'. -/
def lawS6391AWholeCard : Claim7 := { stood := { row := lawS6391AWholeRow, standIns := [], harness := (true, "7ec6082e46fc3eb94f6d1e01b0aea92bde640cb3844c560022613bc86f164c6f"), looks := true }, kinds := [], alts := [], laidByText := true, laidKinds := [.data, .data, .data, .sentinel, .called, .called, .zero], laidTests := true, laidLooks := .later }
def LawS6391AWholeCardSaid : Prop := Claim7.holds Ybad.pinned (.plain (OpenSpec.ofChange lawS6391AWholeSpec)) lawS6391AWholeCard

/-- THE TIED CARD OF 'config.LawS6391CWhole'. -/
def lawS6391CWholeCard : Claim7 := { stood := { row := lawS6391CWholeRow, standIns := [], harness := (true, "7ec6082e46fc3eb94f6d1e01b0aea92bde640cb3844c560022613bc86f164c6f"), looks := true }, kinds := [], alts := [], laidByText := true, laidKinds := [.data, .data, .data, .pinned, .pinned], laidTests := true, laidLooks := .later }
def LawS6391CWholeCardSaid : Prop := Claim7.holds Ybad.pinned (.plain (OpenSpec.ofChange lawS6391CWholeSpec)) lawS6391CWholeCard
end Rows
end Go.Proofs.YbulkebiiDoor
