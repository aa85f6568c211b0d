/-
  THE WALK of der.LawS2465CKnown: each of the eight tags gets its fixed name; fmt is never come to.
-/
import Derived.Test.YbulkayaiFmtRows
import Derived.WalkKit
import Derived.WalkSpells
import Derived.WalkLawsBesides
namespace Go.Proofs.YbulkayaiFmt.Known
open Go.RowKit
set_option linter.unusedVariables false

set_option maxHeartbeats 1000000 in
theorem known (x : Int) (w : World) (h0 : 0 ≤ x) (h1 : x ≤ 255) :
    Calls Ybaf.prog 5 #[.int .u8 x] w fun e w' => e = .returned (.bool true) ∧ w' = w := by
  have hm : x % 8 = 0 ∨ x % 8 = 1 ∨ x % 8 = 2 ∨ x % 8 = 3 ∨ x % 8 = 4 ∨ x % 8 = 5 ∨ x % 8 = 6 ∨ x % 8 = 7 := by omega
  rcases hm with hm | hm | hm | hm | hm | hm | hm | hm
  all_goals
    go_enter Ybaf.func5, Ybaf.ntmps5
    go_wp2
    go_ret
    exact ⟨rfl, rfl⟩

end Go.Proofs.YbulkayaiFmt.Known
