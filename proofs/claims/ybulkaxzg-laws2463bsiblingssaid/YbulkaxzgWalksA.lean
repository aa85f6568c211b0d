/-
  THE WALKS of the parser's methods (wire.go): each leaves a world that is written out.
-/
import Derived.Test.YbulkaxzgRows
import Derived.WalkKit
import Derived.WalkSpells
import Derived.WalkLawsBesides
import Derived.RegionTactic
import Derived.ChangeAlike
namespace Go.Proofs.Ybulkaxzg.W
open Go.RowKit
set_option linter.unusedVariables false

/-- 'take' on a parser that has failed. -/
theorem take_failed (b : Nat) (k : Int) (w : World)
    (h1 : w.cell? ⟨b, 1, none⟩ = some (.bool true)) (f1 : w.frozen? ⟨b, 1, none⟩ = false) :
    Calls Yba.prog 15 #[.pointer (some ⟨b, 0, none⟩), .int .i64 k] w fun e w' => e = .returned (.slice none 0 0) ∧ w' = w.setCell ⟨b, 1, none⟩ (.bool true) := by
  go_enter Yba.func15, Yba.ntmps15
  go_wp2
  go_ret
  exact ⟨rfl, rfl⟩

/-- 'take' of more than is there. -/
theorem take_short (b n c : Nat) (a : Option Addr) (k : Int) (w : World) (hk : (n : Int) < k)
    (h0 : w.cell? ⟨b, 0, none⟩ = some (.slice a n c)) (h1 : w.cell? ⟨b, 1, none⟩ = some (.bool false)) (f1 : w.frozen? ⟨b, 1, none⟩ = false) :
    Calls Yba.prog 15 #[.pointer (some ⟨b, 0, none⟩), .int .i64 k] w fun e w' => e = .returned (.slice none 0 0) ∧ w' = w.setCell ⟨b, 1, none⟩ (.bool true) := by
  go_enter Yba.func15, Yba.ntmps15
  go_wp2
  go_ret
  exact ⟨rfl, rfl⟩

/-- Where 'xs[k:]' begins, in a row whose capacity is c. -/
def past (g o c k : Nat) : Addr := if c = k then ⟨g, o, none⟩ else ⟨g, o + k, none⟩

/-- 'take' of what is there. -/
theorem take_ok (b n c : Nat) (g o : Nat) (k : Int) (w : World) (hk0 : 0 ≤ k) (hk : k ≤ n) (hn : n ≤ c) (hc : c ≤ maxLen)
    (h0 : w.cell? ⟨b, 0, none⟩ = some (.slice (some ⟨g, o, none⟩) n c)) (h1 : w.cell? ⟨b, 1, none⟩ = some (.bool false)) (f0 : w.frozen? ⟨b, 0, none⟩ = false) :
    Calls Yba.prog 15 #[.pointer (some ⟨b, 0, none⟩), .int .i64 k] w fun e w' =>
      e = .returned (.slice (some ⟨g, o, none⟩) k.toNat k.toNat) ∧ w' = w.setCell ⟨b, 0, none⟩ (.slice (some (past g o c k.toNat)) (n - k.toNat) (c - k.toNat)) := by
  obtain ⟨k, rfl⟩ := Int.eq_ofNat_of_zero_le hk0
  rw [Int.toNat_natCast]
  unfold maxLen at hc
  unfold past
  go_enter Yba.func15, Yba.ntmps15
  go_wp2
  all_goals (go_ret; exact ⟨rfl, rfl⟩)

/-- 'uint8' on a parser that has failed. -/
theorem u8_failed (b : Nat) (w : World)
    (h1 : w.cell? ⟨b, 1, none⟩ = some (.bool true)) (f1 : w.frozen? ⟨b, 1, none⟩ = false) :
    Calls Yba.prog 10 #[.pointer (some ⟨b, 0, none⟩)] w fun e w' => e = .returned (.int .u8 0) ∧ w' = w.setCell ⟨b, 1, none⟩ (.bool true) := by
  go_enter Yba.func10, Yba.ntmps10
  go_wp2_with (go_at_call 15; refine (take_failed b _ _ h1 f1).mono ?_; rintro e w' ⟨rfl, rfl⟩)
  go_ret
  exact ⟨rfl, rfl⟩

theorem u8_short (b c : Nat) (a : Option Addr) (w : World)
    (h0 : w.cell? ⟨b, 0, none⟩ = some (.slice a 0 c)) (h1 : w.cell? ⟨b, 1, none⟩ = some (.bool false)) (f1 : w.frozen? ⟨b, 1, none⟩ = false) :
    Calls Yba.prog 10 #[.pointer (some ⟨b, 0, none⟩)] w fun e w' => e = .returned (.int .u8 0) ∧ w' = w.setCell ⟨b, 1, none⟩ (.bool true) := by
  go_enter Yba.func10, Yba.ntmps10
  go_wp2_with (go_at_call 15; refine (take_short b 0 c a _ _ (by omega) h0 h1 f1).mono ?_; rintro e w' ⟨rfl, rfl⟩)
  go_ret
  exact ⟨rfl, rfl⟩

theorem u8_ok (b n c g o : Nat) (x : Int) (w : World) (hk : 1 ≤ n) (hn : n ≤ c) (hc : c ≤ maxLen) (hgb : g ≠ b)
    (h0 : w.cell? ⟨b, 0, none⟩ = some (.slice (some ⟨g, o, none⟩) n c)) (h1 : w.cell? ⟨b, 1, none⟩ = some (.bool false)) (f0 : w.frozen? ⟨b, 0, none⟩ = false)
    (hx : w.cell? ⟨g, o, none⟩ = some (.int .u8 x)) :
    Calls Yba.prog 10 #[.pointer (some ⟨b, 0, none⟩)] w fun e w' => e = .returned (.int .u8 x) ∧ w' = w.setCell ⟨b, 0, none⟩ (.slice (some (past g o c 1)) (n - 1) (c - 1)) := by
  go_enter Yba.func10, Yba.ntmps10
  go_wp2_with (go_at_call 15; refine (take_ok b n c g o _ _ (by omega) (by omega) hn hc h0 h1 f0).mono ?_; rintro e w' ⟨rfl, rfl⟩)
  go_ret
  exact ⟨rfl, rfl⟩

end Go.Proofs.Ybulkaxzg.W
