/-
  THE WALKS of the two functions that compare two slices (slices.Equal at byte, zzs2463beq): on two rows of the same bytes they say true.
-/
import Derived.Test.YbulkaxzgWalksB
import Derived.Deep.QuietTactic
import Derived.BigQuiet
namespace Go.Proofs.Ybulkaxzg.W
open Go.RowKit
set_option linter.unusedVariables false

theorem equal_none (p1 p2 : Option Addr) (c1 c2 : Nat) (w : World) :
    Calls Yba.prog 13 #[.slice p1 0 c1, .slice p2 0 c2] w fun e w' => e = .returned (.bool true) ∧ ∃ m, w' = w.drewN m := by
  go_enter Yba.func13, Yba.ntmps13
  go_wp2
  refine wp_loop_rounds 1 ?_; rw [rounds_succ]
  go_wp2
  go_ret
  exact ⟨rfl, 0, rfl⟩

set_option maxHeartbeats 400000 in
theorem equal_some (g1 o1 g2 o2 n c1 c2 : Nat) (zs : List Int) (w : World) (hn : n ≤ 4096)
    (h1 : ∀ i, i < n → w.cell? ⟨g1, o1 + i, none⟩ = some (.int .u8 (zs.getD i 0)))
    (h2 : ∀ i, i < n → w.cell? ⟨g2, o2 + i, none⟩ = some (.int .u8 (zs.getD i 0))) :
    Calls Yba.prog 13 #[.slice (some ⟨g1, o1, none⟩) n c1, .slice (some ⟨g2, o2, none⟩) n c2] w fun e w' => e = .returned (.bool true) ∧ ∃ m, w' = w.drewN m := by
  have H1 : Hid _ := h1
  have H2 : Hid _ := h2
  clear h1 h2
  go_enter Yba.func13, Yba.ntmps13
  go_wp2
  go_loopw [13] (fun i wr => ∃ k m : Nat, k ≤ n ∧ i = .int .i64 k ∧ wr = w.drewN m) (fun i _ => n - (intOf i).toNat)
  case atStart => exact ⟨0, 0, Nat.zero_le _, rfl, rfl⟩
  case round =>
    obtain ⟨k, m, hk, rfl, rfl⟩ := hrel
    by_cases hlt : k < n
    · have c1 := H1.out k hlt
      have c2 := H2.out k hlt
      have hi : (k : Int) < (n : Int) := by omega
      have hi0 : (0 : Int) ≤ (k : Int) := by omega
      go_wp2
      go_quiet (fail)
      go_wp2
      go_roundw
      case rel => exact ⟨k + 1, _, by omega, by go_num, rfl⟩
      case measure => simp [intOf]; omega
    · go_wp2
      go_ret
      exact ⟨rfl, m, rfl⟩

theorem beq_none (p1 p2 : Option Addr) (c1 c2 : Nat) (w : World) :
    Calls Yba.prog 9 #[.slice p1 0 c1, .slice p2 0 c2] w fun e w' => e = .returned (.bool true) ∧ ∃ m, w' = w.drewN m := by
  go_enter Yba.func9, Yba.ntmps9
  go_wp2
  refine wp_loop_rounds 1 ?_; rw [rounds_succ]
  go_wp2
  go_ret
  exact ⟨rfl, 0, rfl⟩

set_option maxHeartbeats 400000 in
theorem beq_some (g1 o1 g2 o2 n c1 c2 : Nat) (zs : List Int) (w : World) (hn : n ≤ 4096)
    (h1 : ∀ i, i < n → w.cell? ⟨g1, o1 + i, none⟩ = some (.int .u8 (zs.getD i 0)))
    (h2 : ∀ i, i < n → w.cell? ⟨g2, o2 + i, none⟩ = some (.int .u8 (zs.getD i 0))) :
    Calls Yba.prog 9 #[.slice (some ⟨g1, o1, none⟩) n c1, .slice (some ⟨g2, o2, none⟩) n c2] w fun e w' => e = .returned (.bool true) ∧ ∃ m, w' = w.drewN m := by
  have H1 : Hid _ := h1
  have H2 : Hid _ := h2
  clear h1 h2
  go_enter Yba.func9, Yba.ntmps9
  go_wp2
  go_loopw [5] (fun i wr => ∃ k m : Nat, k ≤ n ∧ i = .int .i64 k ∧ wr = w.drewN m) (fun i _ => n - (intOf i).toNat)
  case atStart => exact ⟨0, 0, Nat.zero_le _, rfl, rfl⟩
  case round =>
    obtain ⟨k, m, hk, rfl, rfl⟩ := hrel
    by_cases hlt : k < n
    · have c1 := H1.out k hlt
      have c2 := H2.out k hlt
      have hi : (k : Int) < (n : Int) := by omega
      have hi0 : (0 : Int) ≤ (k : Int) := by omega
      go_wp2
      go_quiet (fail)
      go_wp2
      go_roundw
      case rel => exact ⟨k + 1, _, by omega, by go_num, rfl⟩
      case measure => simp [intOf]; omega
    · go_wp2
      go_ret
      exact ⟨rfl, m, rfl⟩


/-- The n bytes from p on are zs. -/
def Bytes (w : World) (p : Option Addr) (n : Nat) (zs : List Int) : Prop :=
  zs.length = n ∧ (n = 0 ∨ ∃ g o, p = some ⟨g, o, none⟩ ∧ ∀ i, i < n → w.cell? ⟨g, o + i, none⟩ = some (.int .u8 (zs.getD i 0)))

theorem equal_any (p1 p2 : Option Addr) (n c1 c2 : Nat) (zs : List Int) (w : World) (hn : n ≤ 4096) (h1 : Bytes w p1 n zs) (h2 : Bytes w p2 n zs) :
    Calls Yba.prog 13 #[.slice p1 n c1, .slice p2 n c2] w fun e w' => e = .returned (.bool true) ∧ ∃ m, w' = w.drewN m := by
  obtain ⟨_, h1⟩ := h1
  obtain ⟨_, h2⟩ := h2
  by_cases h0 : n = 0
  · subst h0
    exact equal_none _ _ _ _ _
  · obtain h1 | ⟨g1, o1, rfl, h1⟩ := h1
    · exact absurd h1 h0
    obtain h2 | ⟨g2, o2, rfl, h2⟩ := h2
    · exact absurd h2 h0
    exact equal_some g1 o1 g2 o2 n c1 c2 zs w hn h1 h2

theorem beq_any (p1 p2 : Option Addr) (n c1 c2 : Nat) (zs : List Int) (w : World) (hn : n ≤ 4096) (h1 : Bytes w p1 n zs) (h2 : Bytes w p2 n zs) :
    Calls Yba.prog 9 #[.slice p1 n c1, .slice p2 n c2] w fun e w' => e = .returned (.bool true) ∧ ∃ m, w' = w.drewN m := by
  obtain ⟨_, h1⟩ := h1
  obtain ⟨_, h2⟩ := h2
  by_cases h0 : n = 0
  · subst h0
    exact beq_none _ _ _ _ _
  · obtain h1 | ⟨g1, o1, rfl, h1⟩ := h1
    · exact absurd h1 h0
    obtain h2 | ⟨g2, o2, rfl, h2⟩ := h2
    · exact absurd h2 h0
    exact beq_some g1 o1 g2 o2 n c1 c2 zs w hn h1 h2

end Go.Proofs.Ybulkaxzg.W
