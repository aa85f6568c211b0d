/-
  DERIVED. GIVEN WITH THE SEED: THE CARDS: each row of YbulkaybyDoorRows.lean that lists a variable, with what it lists TIED to the program's text (the seventh form; the later family's looks); each row that meets fmt, with fmt's text TOLD by the authors' own Lean function (tested against real Go, not proved from fmt's source: count such statements apart). THE CARD IS WHAT COUNTS. Prove the row's statement (the work); the ties are given (YbulkaybyDoorTie.lean); close each card by the builder's one call (the guide's Derived/Test/ToyasCard.lean, 'card_holds'). Laid BY PROGRAM, IN A SANDBOX (cutbox-door.mjs). By AI agents, Wed Nov 11 2026. No macro, syntax, notation, axiom, sorry.
-/
import Derived.Test.YbulkaybyDoorRows
import GoSem.ClaimSeven
namespace Go.Proofs.YbulkaybyDoor
namespace Rows

/-- THE TIED CARD OF 'fleet.LawS2468BModel'. -/
def lawS2468BModelCard : Claim7 := { stood := { row := lawS2468BModelRow, standIns := [], harness := (true, "75bde9a3a5c30f7a62c06eb79fb976e186f1832bf40edc6e6c31ac8fa0e0874f"), looks := true }, kinds := [], alts := [], laidByText := true, laidKinds := [.data, .data, .data, .sentinel, .sentinel, .mapped], laidTests := true, laidLooks := .later }
def LawS2468BModelCardSaid : Prop := Claim7.holds Ybad.pinned (.plain (OpenSpec.ofChange lawS2468BModelSpec)) lawS2468BModelCard

/-- THE TIED CARD OF 'fleet.LawS2468BBuilt'. -/
def lawS2468BBuiltCard : Claim7 := { stood := { row := lawS2468BBuiltRow, standIns := [], harness := (true, "75bde9a3a5c30f7a62c06eb79fb976e186f1832bf40edc6e6c31ac8fa0e0874f"), looks := true }, kinds := [], alts := [], laidByText := true, laidKinds := [.data, .data, .data, .sentinel, .sentinel, .mapped], laidTests := true, laidLooks := .later }
def LawS2468BBuiltCardSaid : Prop := Claim7.holds Ybad.pinned (.plain (OpenSpec.ofChange lawS2468BBuiltSpec)) lawS2468BBuiltCard
end Rows
end Go.Proofs.YbulkaybyDoor
