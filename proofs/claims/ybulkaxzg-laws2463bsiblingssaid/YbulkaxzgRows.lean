/-
  No cell of these rows narrows 'for every input' (looked for: loops, veiled, ifaces, maps, wideKeys, modest, calm, conditions, laid).
  DERIVED. THE GIVEN ROWS OF THIS SEAT. 4 by the template 'for every input the law returns true; each argument reads behind the call as it read before'; 0 by the template 'total and deterministic' (their statements: YbulkaxzgTotals.lean).
  GIVEN WITH THE SEED: the statements are not yours to turn. If you find one false, say at which input.
  Laid BY PROGRAM, IN A SANDBOX (cutbox-rows.mjs): the forced cells as the released guide's own fill.sh prints them over the translation a6c9b274e37d907d… (all of the seat's roots in one cut). By AI agents, Wed Nov 11 2026. No macro, syntax, notation, axiom, sorry.
-/
import Derived.Test.YbulkaxzgChecked
import GoSem.Claim
import GoSem.ClaimJoined
import GoSem.ClaimMapViews
import Derived.JoinedTies
import Derived.KernelRfl
namespace Go.Proofs.Ybulkaxzg
/- THE CELL 'sum', in the pinned program and in every row, IS THE sha256 OF THE DUMP (.gsa) THAT YbulkaxzgProg.lean LOADS. Nothing in Lean hashes anything: it is a label: what it is worth is what the hold of that sum in a sandbox is worth. -/
noncomputable def Yba.pinned : Pinned := { name := "ybulkaxzg", sum := "a6c9b274e37d907ddec17d1a85a288eed1158acf6e75a2d5784d317a72de61d8", checked := Yba.checked }
namespace Rows
def none {H : Type} : Left H := { results := [], args := [] }

/-- 'mortise.LawS2463BExact': WHATEVER THE INPUT: true; the input reads as it did. -/
def lawS2463BExactSpec : ChangeSpec := { name := "lawS2463BExact", fn := fun _ => fun
  | [d1, d2] => { results := [.lit (.bool true)], args := [d1, d2] }
  | _ => none }
def lawS2463BExactRow : OpenClaim := { program := "ybulkaxzg", sum := "a6c9b274e37d907ddec17d1a85a288eed1158acf6e75a2d5784d317a72de61d8", func := "example.com/mortise/mortise.LawS2463BExact", spec := "lawS2463BExact", apart := false }
def LawS2463BExactSaid : Prop := lawS2463BExactRow.holds Yba.pinned (OpenSpec.ofChange lawS2463BExactSpec)

/-- ITS FALSE NEIGHBOUR: 'it returns false'. Refute it at one input. -/
def lawS2463BExactWrong : ChangeSpec := { name := "lawS2463BExact", fn := fun _ => fun
  | [d1, d2] => { results := [.lit (.bool false)], args := [d1, d2] }
  | _ => none }
def LawS2463BExactWrongFalsely : Prop := lawS2463BExactRow.holds Yba.pinned (OpenSpec.ofChange lawS2463BExactWrong)

/-- 'mortise.LawS2463BSiblings': WHATEVER THE INPUT: true; the input reads as it did. -/
def lawS2463BSiblingsSpec : ChangeSpec := { name := "lawS2463BSiblings", fn := fun _ => fun
  | [d] => { results := [.lit (.bool true)], args := [d] }
  | _ => none }
def lawS2463BSiblingsRow : OpenClaim := { program := "ybulkaxzg", sum := "a6c9b274e37d907ddec17d1a85a288eed1158acf6e75a2d5784d317a72de61d8", func := "example.com/mortise/mortise.LawS2463BSiblings", spec := "lawS2463BSiblings", named := ["encoding/binary.BigEndian"], apart := false }
def LawS2463BSiblingsSaid : Prop := lawS2463BSiblingsRow.holds Yba.pinned (OpenSpec.ofChange lawS2463BSiblingsSpec)

/-- ITS FALSE NEIGHBOUR: 'it returns false'. Refute it at one input. -/
def lawS2463BSiblingsWrong : ChangeSpec := { name := "lawS2463BSiblings", fn := fun _ => fun
  | [d] => { results := [.lit (.bool false)], args := [d] }
  | _ => none }
def LawS2463BSiblingsWrongFalsely : Prop := lawS2463BSiblingsRow.holds Yba.pinned (OpenSpec.ofChange lawS2463BSiblingsWrong)

/-- 'mortise.LawS2463CStep': WHATEVER THE INPUT: true; the input reads as it did. -/
def lawS2463CStepSpec : ChangeSpec := { name := "lawS2463CStep", fn := fun _ => fun
  | [d1, d2] => { results := [.lit (.bool true)], args := [d1, d2] }
  | _ => none }
def lawS2463CStepRow : OpenClaim := { program := "ybulkaxzg", sum := "a6c9b274e37d907ddec17d1a85a288eed1158acf6e75a2d5784d317a72de61d8", func := "example.com/mortise/mortise.LawS2463CStep", spec := "lawS2463CStep", apart := false }
def LawS2463CStepSaid : Prop := lawS2463CStepRow.holds Yba.pinned (OpenSpec.ofChange lawS2463CStepSpec)

/-- ITS FALSE NEIGHBOUR: 'it returns false'. Refute it at one input. -/
def lawS2463CStepWrong : ChangeSpec := { name := "lawS2463CStep", fn := fun _ => fun
  | [d1, d2] => { results := [.lit (.bool false)], args := [d1, d2] }
  | _ => none }
def LawS2463CStepWrongFalsely : Prop := lawS2463CStepRow.holds Yba.pinned (OpenSpec.ofChange lawS2463CStepWrong)

/-- 'mortise.LawS2463CAll': WHATEVER THE INPUT: true; the input reads as it did. -/
def lawS2463CAllSpec : ChangeSpec := { name := "lawS2463CAll", fn := fun _ => fun
  | [d] => { results := [.lit (.bool true)], args := [d] }
  | _ => none }
def lawS2463CAllRow : OpenClaim := { program := "ybulkaxzg", sum := "a6c9b274e37d907ddec17d1a85a288eed1158acf6e75a2d5784d317a72de61d8", func := "example.com/mortise/mortise.LawS2463CAll", spec := "lawS2463CAll", apart := false }
def LawS2463CAllSaid : Prop := lawS2463CAllRow.holds Yba.pinned (OpenSpec.ofChange lawS2463CAllSpec)

/-- ITS FALSE NEIGHBOUR: 'it returns false'. Refute it at one input. -/
def lawS2463CAllWrong : ChangeSpec := { name := "lawS2463CAll", fn := fun _ => fun
  | [d] => { results := [.lit (.bool false)], args := [d] }
  | _ => none }
def LawS2463CAllWrongFalsely : Prop := lawS2463CAllRow.holds Yba.pinned (OpenSpec.ofChange lawS2463CAllWrong)

end Rows
end Go.Proofs.Ybulkaxzg
