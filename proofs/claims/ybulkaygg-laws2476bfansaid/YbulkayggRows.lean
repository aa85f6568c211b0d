/-
  No cell of these rows narrows 'for every input' (looked for: loops, veiled, ifaces, maps, wideKeys, modest, calm, conditions, laid).
  DERIVED. THE GIVEN ROWS OF THIS SEAT. 1 by the template 'for every input the law returns true; each argument reads behind the call as it read before'; 0 by the template 'total and deterministic' (their statements: YbulkayggTotals.lean).
  GIVEN WITH THE SEED: the statements are not yours to turn. If you find one false, say at which input.
  Laid BY PROGRAM, IN A SANDBOX (cutbox-rows.mjs): the forced cells as the released guide's own fill.sh prints them over the translation 51c11357289615ad… (all of the seat's roots in one cut). By AI agents, Wed Nov 11 2026. No macro, syntax, notation, axiom, sorry.
-/
import Derived.Test.YbulkayggChecked
import GoSem.Claim
import GoSem.ClaimJoined
import GoSem.ClaimMapViews
import Derived.JoinedTies
import Derived.KernelRfl
namespace Go.Proofs.Ybulkaygg
/- THE CELL 'sum', in the pinned program and in every row, IS THE sha256 OF THE DUMP (.gsa) THAT YbulkayggProg.lean LOADS. Nothing in Lean hashes anything: it is a label: what it is worth is what the hold of that sum in a sandbox is worth. -/
noncomputable def Yba.pinned : Pinned := { name := "ybulkaygg", sum := "51c11357289615adf869a6a5201261d0e7ca011afe007e7c988650cdf5e91072", checked := Yba.checked }
namespace Rows
def none {H : Type} : Left H := { results := [], args := [] }

/-- 'sim.LawS2476BFan': WHATEVER THE INPUT: true; the input reads as it did. -/
def lawS2476BFanSpec : ChangeSpec := { name := "lawS2476BFan", fn := fun _ => fun
  | [d1, d2, d3, d4, d5, d6, d7, d8] => { results := [.lit (.bool true)], args := [d1, d2, d3, d4, d5, d6, d7, d8] }
  | _ => none }
def lawS2476BFanRow : OpenClaim := { program := "ybulkaygg", sum := "51c11357289615adf869a6a5201261d0e7ca011afe007e7c988650cdf5e91072", func := "example.com/quorumweave/quorumweave/pkg/sim.LawS2476BFan", spec := "lawS2476BFan", unfollowed := true, recurses := true, apart := false }
def LawS2476BFanSaid : Prop := lawS2476BFanRow.holds Yba.pinned (OpenSpec.ofChange lawS2476BFanSpec)

/-- ITS FALSE NEIGHBOUR: 'it returns false'. Refute it at one input. -/
def lawS2476BFanWrong : ChangeSpec := { name := "lawS2476BFan", fn := fun _ => fun
  | [d1, d2, d3, d4, d5, d6, d7, d8] => { results := [.lit (.bool false)], args := [d1, d2, d3, d4, d5, d6, d7, d8] }
  | _ => none }
def LawS2476BFanWrongFalsely : Prop := lawS2476BFanRow.holds Yba.pinned (OpenSpec.ofChange lawS2476BFanWrong)

end Rows
end Go.Proofs.Ybulkaygg
