/-
  NARROWER THAN 'FOR EVERY INPUT', by the rows' own cells (each row's printed sentence says how): LawS2465AAgrees: laid · LawS2465ABuilt: laid.
  DERIVED. THE GIVEN ROWS OF THIS SEAT. 4 by the template 'for every input the law returns true; each argument reads behind the call as it read before'; 0 by the template 'total and deterministic' (their statements: YbulkayaiFmtTotals.lean).
  GIVEN WITH THE SEED: the statements are not yours to turn. If you find one false, say at which input.
  Laid BY PROGRAM, IN A SANDBOX (cutbox-rows.mjs): the forced cells as the released guide's own fill.sh prints them over the translation 8e0d1990c763f9e5… (all of the seat's roots in one cut). By AI agents, Wed Nov 11 2026. No macro, syntax, notation, axiom, sorry.
-/
import Derived.Test.YbulkayaiFmtChecked
import GoSem.Claim
import GoSem.ClaimJoined
import GoSem.ClaimMapViews
import Derived.JoinedTies
import Derived.KernelRfl
namespace Go.Proofs.YbulkayaiFmt
/- THE CELL 'sum', in the pinned program and in every row, IS THE sha256 OF THE DUMP (.gsa) THAT YbulkayaiFmtProg.lean LOADS. Nothing in Lean hashes anything: it is a label: what it is worth is what the hold of that sum in a sandbox is worth. -/
noncomputable def Ybaf.pinned : Pinned := { name := "ybulkayaifmt", sum := "8e0d1990c763f9e5557742bfb282564eae837978f76b06b126a2d9e2d9fc8508", checked := Ybaf.checked }
namespace Rows
def none {H : Type} : Left H := { results := [], args := [] }

/- WHAT THE LISTED PACKAGE-LEVEL VARIABLES READ AS WHEN THE CALL BEGINS. Each datum BY PROGRAM (the guide's laid-datum.mjs) off the statement by which the dump's own 'gosem.cut.vars' lays the variable. In a bare row this is a premise. The card (YbulkayaiFmtCards.lean) ties it to the program's text. -/
def laid_math_bits_deBruijn32tab {H : Type} : DataW H := .agg [.lit (.int .u8 0), .lit (.int .u8 1), .lit (.int .u8 28), .lit (.int .u8 2), .lit (.int .u8 29), .lit (.int .u8 14), .lit (.int .u8 24), .lit (.int .u8 3), .lit (.int .u8 30), .lit (.int .u8 22), .lit (.int .u8 20), .lit (.int .u8 15), .lit (.int .u8 25), .lit (.int .u8 17), .lit (.int .u8 4), .lit (.int .u8 8), .lit (.int .u8 31), .lit (.int .u8 27), .lit (.int .u8 13), .lit (.int .u8 23), .lit (.int .u8 21), .lit (.int .u8 19), .lit (.int .u8 16), .lit (.int .u8 7), .lit (.int .u8 26), .lit (.int .u8 12), .lit (.int .u8 18), .lit (.int .u8 6), .lit (.int .u8 11), .lit (.int .u8 5), .lit (.int .u8 10), .lit (.int .u8 9)]
def laid_math_bits_deBruijn64tab {H : Type} : DataW H := .agg [.lit (.int .u8 0), .lit (.int .u8 1), .lit (.int .u8 56), .lit (.int .u8 2), .lit (.int .u8 57), .lit (.int .u8 49), .lit (.int .u8 28), .lit (.int .u8 3), .lit (.int .u8 61), .lit (.int .u8 58), .lit (.int .u8 42), .lit (.int .u8 50), .lit (.int .u8 38), .lit (.int .u8 29), .lit (.int .u8 17), .lit (.int .u8 4), .lit (.int .u8 62), .lit (.int .u8 47), .lit (.int .u8 59), .lit (.int .u8 36), .lit (.int .u8 45), .lit (.int .u8 43), .lit (.int .u8 51), .lit (.int .u8 22), .lit (.int .u8 53), .lit (.int .u8 39), .lit (.int .u8 33), .lit (.int .u8 30), .lit (.int .u8 24), .lit (.int .u8 18), .lit (.int .u8 12), .lit (.int .u8 5), .lit (.int .u8 63), .lit (.int .u8 55), .lit (.int .u8 48), .lit (.int .u8 27), .lit (.int .u8 60), .lit (.int .u8 41), .lit (.int .u8 37), .lit (.int .u8 16), .lit (.int .u8 46), .lit (.int .u8 35), .lit (.int .u8 44), .lit (.int .u8 21), .lit (.int .u8 52), .lit (.int .u8 32), .lit (.int .u8 23), .lit (.int .u8 11), .lit (.int .u8 54), .lit (.int .u8 26), .lit (.int .u8 40), .lit (.int .u8 15), .lit (.int .u8 34), .lit (.int .u8 20), .lit (.int .u8 31), .lit (.int .u8 10), .lit (.int .u8 25), .lit (.int .u8 14), .lit (.int .u8 19), .lit (.int .u8 9), .lit (.int .u8 13), .lit (.int .u8 8), .lit (.int .u8 7), .lit (.int .u8 6)]
def laid_internal_strconv_uint64pow10 {H : Type} : DataW H := .agg [.lit (.int .u64 1), .lit (.int .u64 10), .lit (.int .u64 100), .lit (.int .u64 1000), .lit (.int .u64 10000), .lit (.int .u64 100000), .lit (.int .u64 1000000), .lit (.int .u64 10000000), .lit (.int .u64 100000000), .lit (.int .u64 1000000000), .lit (.int .u64 10000000000), .lit (.int .u64 100000000000), .lit (.int .u64 1000000000000), .lit (.int .u64 10000000000000), .lit (.int .u64 100000000000000), .lit (.int .u64 1000000000000000), .lit (.int .u64 10000000000000000), .lit (.int .u64 100000000000000000), .lit (.int .u64 1000000000000000000), .lit (.int .u64 10000000000000000000)]

/-- 'kinpath.LawS2465AAgrees': WHATEVER THE INPUT: true; the input reads as it did. -/
def lawS2465AAgreesSpec : ChangeSpec := { name := "lawS2465AAgrees", fn := fun _ => fun
  | [d] => { results := [.lit (.bool true)], args := [d] }
  | _ => none }
def lawS2465AAgreesRow : OpenClaim := { program := "ybulkayaifmt", sum := "8e0d1990c763f9e5557742bfb282564eae837978f76b06b126a2d9e2d9fc8508", func := "example.com/kinpath/kinpath.LawS2465AAgrees", spec := "lawS2465AAgrees", stops := ["fmt.Sprintf", "fmt.errorf"], inPlace := ["fmt.Sprintf", "fmt.errorf", "internal/abi.NoEscape"], unfollowed := true, recurses := true, named := ["internal/strconv.uint64pow10", "math/bits.deBruijn32tab", "math/bits.deBruijn64tab"], apart := false, laid := [("math/bits.deBruijn32tab", laid_math_bits_deBruijn32tab), ("math/bits.deBruijn64tab", laid_math_bits_deBruijn64tab), ("internal/strconv.uint64pow10", laid_internal_strconv_uint64pow10)] }
/-- NO THEOREM (fmt's text is open here; it may be false): for the released tool's asking of the row's closed facts alone. THE STATEMENT IS 'LawS2465AAgreesToldSaid' (YbulkayaiFmtCards.lean). -/
def LawS2465AAgreesFormAsk : Prop := lawS2465AAgreesRow.holds Ybaf.pinned (OpenSpec.ofChange lawS2465AAgreesSpec)

/-- ITS FALSE NEIGHBOUR: 'it returns false'. Refute it at one input. -/
def lawS2465AAgreesWrong : ChangeSpec := { name := "lawS2465AAgrees", fn := fun _ => fun
  | [d] => { results := [.lit (.bool false)], args := [d] }
  | _ => none }
def LawS2465AAgreesWrongFormAsk : Prop := lawS2465AAgreesRow.holds Ybaf.pinned (OpenSpec.ofChange lawS2465AAgreesWrong)

/-- 'kinpath.LawS2465ABuilt': WHATEVER THE INPUT: true; the input reads as it did. -/
def lawS2465ABuiltSpec : ChangeSpec := { name := "lawS2465ABuilt", fn := fun _ => fun
  | [d1, d2] => { results := [.lit (.bool true)], args := [d1, d2] }
  | _ => none }
def lawS2465ABuiltRow : OpenClaim := { program := "ybulkayaifmt", sum := "8e0d1990c763f9e5557742bfb282564eae837978f76b06b126a2d9e2d9fc8508", func := "example.com/kinpath/kinpath.LawS2465ABuilt", spec := "lawS2465ABuilt", stops := ["fmt.Sprintf", "fmt.errorf"], inPlace := ["fmt.Sprintf", "fmt.errorf", "internal/abi.NoEscape"], unfollowed := true, recurses := true, named := ["internal/strconv.uint64pow10", "math/bits.deBruijn32tab", "math/bits.deBruijn64tab"], apart := false, laid := [("math/bits.deBruijn32tab", laid_math_bits_deBruijn32tab), ("math/bits.deBruijn64tab", laid_math_bits_deBruijn64tab), ("internal/strconv.uint64pow10", laid_internal_strconv_uint64pow10)] }
/-- NO THEOREM (fmt's text is open here; it may be false): for the released tool's asking of the row's closed facts alone. THE STATEMENT IS 'LawS2465ABuiltToldSaid' (YbulkayaiFmtCards.lean). -/
def LawS2465ABuiltFormAsk : Prop := lawS2465ABuiltRow.holds Ybaf.pinned (OpenSpec.ofChange lawS2465ABuiltSpec)

/-- ITS FALSE NEIGHBOUR: 'it returns false'. Refute it at one input. -/
def lawS2465ABuiltWrong : ChangeSpec := { name := "lawS2465ABuilt", fn := fun _ => fun
  | [d1, d2] => { results := [.lit (.bool false)], args := [d1, d2] }
  | _ => none }
def LawS2465ABuiltWrongFormAsk : Prop := lawS2465ABuiltRow.holds Ybaf.pinned (OpenSpec.ofChange lawS2465ABuiltWrong)

/-- 'der.LawS2465CKnown': WHATEVER THE INPUT: true; the input reads as it did. -/
def lawS2465CKnownSpec : ChangeSpec := { name := "lawS2465CKnown", fn := fun _ => fun
  | [d] => { results := [.lit (.bool true)], args := [d] }
  | _ => none }
def lawS2465CKnownRow : OpenClaim := { program := "ybulkayaifmt", sum := "8e0d1990c763f9e5557742bfb282564eae837978f76b06b126a2d9e2d9fc8508", func := "example.com/kinpath/kinpath/internal/der.LawS2465CKnown", spec := "lawS2465CKnown", stops := ["fmt.Sprintf", "fmt.errorf"], inPlace := ["fmt.Sprintf"], apart := false }
/-- NO THEOREM (fmt's text is open here; it may be false): for the released tool's asking of the row's closed facts alone. THE STATEMENT IS 'LawS2465CKnownToldSaid' (YbulkayaiFmtCards.lean). -/
def LawS2465CKnownFormAsk : Prop := lawS2465CKnownRow.holds Ybaf.pinned (OpenSpec.ofChange lawS2465CKnownSpec)

/-- ITS FALSE NEIGHBOUR: 'it returns false'. Refute it at one input. -/
def lawS2465CKnownWrong : ChangeSpec := { name := "lawS2465CKnown", fn := fun _ => fun
  | [d] => { results := [.lit (.bool false)], args := [d] }
  | _ => none }
def LawS2465CKnownWrongFormAsk : Prop := lawS2465CKnownRow.holds Ybaf.pinned (OpenSpec.ofChange lawS2465CKnownWrong)

/-- 'der.LawS2465CAny': WHATEVER THE INPUT: true; the input reads as it did. -/
def lawS2465CAnySpec : ChangeSpec := { name := "lawS2465CAny", fn := fun _ => fun
  | [d] => { results := [.lit (.bool true)], args := [d] }
  | _ => none }
def lawS2465CAnyRow : OpenClaim := { program := "ybulkayaifmt", sum := "8e0d1990c763f9e5557742bfb282564eae837978f76b06b126a2d9e2d9fc8508", func := "example.com/kinpath/kinpath/internal/der.LawS2465CAny", spec := "lawS2465CAny", stops := ["fmt.Sprintf", "fmt.errorf"], inPlace := ["fmt.Sprintf"], apart := false }
/-- NO THEOREM (fmt's text is open here; it may be false): for the released tool's asking of the row's closed facts alone. THE STATEMENT IS 'LawS2465CAnyToldSaid' (YbulkayaiFmtCards.lean). -/
def LawS2465CAnyFormAsk : Prop := lawS2465CAnyRow.holds Ybaf.pinned (OpenSpec.ofChange lawS2465CAnySpec)

/-- ITS FALSE NEIGHBOUR: 'it returns false'. Refute it at one input. -/
def lawS2465CAnyWrong : ChangeSpec := { name := "lawS2465CAny", fn := fun _ => fun
  | [d] => { results := [.lit (.bool false)], args := [d] }
  | _ => none }
def LawS2465CAnyWrongFormAsk : Prop := lawS2465CAnyRow.holds Ybaf.pinned (OpenSpec.ofChange lawS2465CAnyWrong)

end Rows
end Go.Proofs.YbulkayaiFmt
