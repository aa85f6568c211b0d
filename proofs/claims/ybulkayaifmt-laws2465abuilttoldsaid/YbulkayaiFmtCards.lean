/-
  DERIVED. GIVEN WITH THE SEED: THE CARDS: each row of YbulkayaiFmtRows.lean that lists a variable, with what it lists TIED to the program's text (the seventh form; the later family's looks); each row that meets fmt, with fmt's text TOLD by the authors' own Lean function (tested against real Go, not proved from fmt's source: count such statements apart). THE CARD IS WHAT COUNTS. Prove the row's statement (the work); the ties are given (YbulkayaiFmtTie.lean); close each card by the builder's one call (the guide's Derived/Test/ToyasCard.lean, 'card_holds'). Laid BY PROGRAM, IN A SANDBOX (cutbox-door.mjs). By AI agents, Wed Nov 11 2026. No macro, syntax, notation, axiom, sorry.
-/
import Derived.Test.YbulkayaiFmtRows
import GoSem.ClaimSeven
namespace Go.Proofs.YbulkayaiFmt
namespace Rows

/-- THE TOLD AND TIED CARD OF 'kinpath.LawS2465AAgrees'. -/
def lawS2465AAgreesCard : Claim7 := { stood := { row := lawS2465AAgreesRow, standIns := [], harness := (true, "d2acf79c1e5fe018c5ad9fcc771787532fc222fa8cad888d4379230078846520"), looks := false }, told := true, laidByText := true, laidKinds := [.data, .data, .data], laidTests := true, laidLooks := .later, goes := false }
def LawS2465AAgreesToldSaid : Prop := Claim7.holds Ybaf.pinned (.plain (OpenSpec.ofChange lawS2465AAgreesSpec)) lawS2465AAgreesCard
/-- ITS FALSE NEIGHBOUR. Refute it at one input. -/
def LawS2465AAgreesToldWrongFalsely : Prop := Claim7.holds Ybaf.pinned (.plain (OpenSpec.ofChange lawS2465AAgreesWrong)) lawS2465AAgreesCard

/-- THE TOLD AND TIED CARD OF 'kinpath.LawS2465ABuilt'. -/
def lawS2465ABuiltCard : Claim7 := { stood := { row := lawS2465ABuiltRow, standIns := [], harness := (true, "d2acf79c1e5fe018c5ad9fcc771787532fc222fa8cad888d4379230078846520"), looks := false }, told := true, laidByText := true, laidKinds := [.data, .data, .data], laidTests := true, laidLooks := .later, goes := false }
def LawS2465ABuiltToldSaid : Prop := Claim7.holds Ybaf.pinned (.plain (OpenSpec.ofChange lawS2465ABuiltSpec)) lawS2465ABuiltCard
/-- ITS FALSE NEIGHBOUR. Refute it at one input. -/
def LawS2465ABuiltToldWrongFalsely : Prop := Claim7.holds Ybaf.pinned (.plain (OpenSpec.ofChange lawS2465ABuiltWrong)) lawS2465ABuiltCard

/-- THE TOLD CARD OF 'der.LawS2465CKnown'. -/
def lawS2465CKnownCard : Claim7 := { stood := { row := lawS2465CKnownRow, standIns := [], harness := (true, "d2acf79c1e5fe018c5ad9fcc771787532fc222fa8cad888d4379230078846520"), looks := false }, told := true, goes := false }
def LawS2465CKnownToldSaid : Prop := Claim7.holds Ybaf.pinned (.plain (OpenSpec.ofChange lawS2465CKnownSpec)) lawS2465CKnownCard
/-- ITS FALSE NEIGHBOUR. Refute it at one input. -/
def LawS2465CKnownToldWrongFalsely : Prop := Claim7.holds Ybaf.pinned (.plain (OpenSpec.ofChange lawS2465CKnownWrong)) lawS2465CKnownCard

/-- THE TOLD CARD OF 'der.LawS2465CAny'. -/
def lawS2465CAnyCard : Claim7 := { stood := { row := lawS2465CAnyRow, standIns := [], harness := (true, "d2acf79c1e5fe018c5ad9fcc771787532fc222fa8cad888d4379230078846520"), looks := false }, told := true, goes := false }
def LawS2465CAnyToldSaid : Prop := Claim7.holds Ybaf.pinned (.plain (OpenSpec.ofChange lawS2465CAnySpec)) lawS2465CAnyCard
/-- ITS FALSE NEIGHBOUR. Refute it at one input. -/
def LawS2465CAnyToldWrongFalsely : Prop := Claim7.holds Ybaf.pinned (.plain (OpenSpec.ofChange lawS2465CAnyWrong)) lawS2465CAnyCard
end Rows
end Go.Proofs.YbulkayaiFmt
