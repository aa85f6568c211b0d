/-
  THE LAW's WALK, JOINED.
-/
import Derived.Test.YbulkaybyDoorLaw0
import Derived.Test.YbulkaybyDoorLaw1
import Derived.Test.YbulkaybyDoorLaw2
import Derived.Test.YbulkaybyDoorLaw3
namespace Go.Proofs.YbulkaybyDoor.A
open Go.RowKit Go.Lib
set_option linter.unusedVariables false

theorem b_or (b : Bool) : b = true ∨ b = false := by cases b <;> simp

theorem law (p : Option Addr) (n c : Nat) (a x y : Int) (j : ByteArray) (zs : List Int) (w : World) (hz : Task w p n zs)
    (hx0 : 0 ≤ x) (hx1 : x ≤ 255) (hy0 : 0 ≤ y) (hy1 : y ≤ 255) (ha0 : -2147483648 ≤ a) (ha1 : a ≤ 2147483647) (E : Env w) (SV : ∀ w', Below w.heap.size w w' → Sev w') :
    Calls Ybad.prog 4 #[.slice p n c, .int .i32 a, .int .u8 x, .int .u8 y, .string j] w fun e w' => e = .returned (.bool true) ∧ Below w.heap.size w w' := by
  by_cases hn0 : 1024 < n
  · exact law_long1 p n c a x y j w hn0
  by_cases hj0 : 1024 < j.size
  · exact law_long2 p n c a x y j w hn0 hj0
  have hn : n ≤ 1024 := by omega
  have hj : j.size ≤ 1024 := by omega
  rcases b_or (x % 5 == 1) with e1 | e1
  · rcases b_or (y % 7 == 1) with f1 | f1
    · exact law_1_1 x y e1 f1 p n c a j zs w hn hj hz hx0 hx1 hy0 hy1 ha0 ha1 E SV
    rcases b_or (y % 7 == 2) with f2 | f2
    · exact law_1_2 x y e1 f1 f2 p n c a j zs w hn hj hz hx0 hx1 hy0 hy1 ha0 ha1 E SV
    rcases b_or (y % 7 == 3) with f3 | f3
    · exact law_1_3 x y e1 f1 f2 f3 p n c a j zs w hn hj hz hx0 hx1 hy0 hy1 ha0 ha1 E SV
    rcases b_or (y % 7 == 4) with f4 | f4
    · exact law_1_4 x y e1 f1 f2 f3 f4 p n c a j zs w hn hj hz hx0 hx1 hy0 hy1 ha0 ha1 E SV
    rcases b_or (y % 7 == 5) with f5 | f5
    · exact law_1_5 x y e1 f1 f2 f3 f4 f5 p n c a j zs w hn hj hz hx0 hx1 hy0 hy1 ha0 ha1 E SV
    exact law_1_0 x y e1 f1 f2 f3 f4 f5 p n c a j zs w hn hj hz hx0 hx1 hy0 hy1 ha0 ha1 E SV
  rcases b_or (x % 5 == 2) with e2 | e2
  · rcases b_or (y % 7 == 1) with f1 | f1
    · exact law_2_1 x y e1 e2 f1 p n c a j zs w hn hj hz hx0 hx1 hy0 hy1 ha0 ha1 E SV
    rcases b_or (y % 7 == 2) with f2 | f2
    · exact law_2_2 x y e1 e2 f1 f2 p n c a j zs w hn hj hz hx0 hx1 hy0 hy1 ha0 ha1 E SV
    rcases b_or (y % 7 == 3) with f3 | f3
    · exact law_2_3 x y e1 e2 f1 f2 f3 p n c a j zs w hn hj hz hx0 hx1 hy0 hy1 ha0 ha1 E SV
    rcases b_or (y % 7 == 4) with f4 | f4
    · exact law_2_4 x y e1 e2 f1 f2 f3 f4 p n c a j zs w hn hj hz hx0 hx1 hy0 hy1 ha0 ha1 E SV
    rcases b_or (y % 7 == 5) with f5 | f5
    · exact law_2_5 x y e1 e2 f1 f2 f3 f4 f5 p n c a j zs w hn hj hz hx0 hx1 hy0 hy1 ha0 ha1 E SV
    exact law_2_0 x y e1 e2 f1 f2 f3 f4 f5 p n c a j zs w hn hj hz hx0 hx1 hy0 hy1 ha0 ha1 E SV
  rcases b_or (x % 5 == 3) with e3 | e3
  · rcases b_or (y % 7 == 1) with f1 | f1
    · exact law_3_1 x y e1 e2 e3 f1 p n c a j zs w hn hj hz hx0 hx1 hy0 hy1 ha0 ha1 E SV
    rcases b_or (y % 7 == 2) with f2 | f2
    · exact law_3_2 x y e1 e2 e3 f1 f2 p n c a j zs w hn hj hz hx0 hx1 hy0 hy1 ha0 ha1 E SV
    rcases b_or (y % 7 == 3) with f3 | f3
    · exact law_3_3 x y e1 e2 e3 f1 f2 f3 p n c a j zs w hn hj hz hx0 hx1 hy0 hy1 ha0 ha1 E SV
    rcases b_or (y % 7 == 4) with f4 | f4
    · exact law_3_4 x y e1 e2 e3 f1 f2 f3 f4 p n c a j zs w hn hj hz hx0 hx1 hy0 hy1 ha0 ha1 E SV
    rcases b_or (y % 7 == 5) with f5 | f5
    · exact law_3_5 x y e1 e2 e3 f1 f2 f3 f4 f5 p n c a j zs w hn hj hz hx0 hx1 hy0 hy1 ha0 ha1 E SV
    exact law_3_0 x y e1 e2 e3 f1 f2 f3 f4 f5 p n c a j zs w hn hj hz hx0 hx1 hy0 hy1 ha0 ha1 E SV
  rcases b_or (y % 7 == 1) with f1 | f1
  · exact law_0_1 x y e1 e2 e3 f1 p n c a j zs w hn hj hz hx0 hx1 hy0 hy1 ha0 ha1 E SV
  rcases b_or (y % 7 == 2) with f2 | f2
  · exact law_0_2 x y e1 e2 e3 f1 f2 p n c a j zs w hn hj hz hx0 hx1 hy0 hy1 ha0 ha1 E SV
  rcases b_or (y % 7 == 3) with f3 | f3
  · exact law_0_3 x y e1 e2 e3 f1 f2 f3 p n c a j zs w hn hj hz hx0 hx1 hy0 hy1 ha0 ha1 E SV
  rcases b_or (y % 7 == 4) with f4 | f4
  · exact law_0_4 x y e1 e2 e3 f1 f2 f3 f4 p n c a j zs w hn hj hz hx0 hx1 hy0 hy1 ha0 ha1 E SV
  rcases b_or (y % 7 == 5) with f5 | f5
  · exact law_0_5 x y e1 e2 e3 f1 f2 f3 f4 f5 p n c a j zs w hn hj hz hx0 hx1 hy0 hy1 ha0 ha1 E SV
  exact law_0_0 x y e1 e2 e3 f1 f2 f3 f4 f5 p n c a j zs w hn hj hz hx0 hx1 hy0 hy1 ha0 ha1 E SV

end Go.Proofs.YbulkaybyDoor.A
