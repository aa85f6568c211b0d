/-
  A silent liar: its map of rounds, and nothing else, is written.
-/
import Derived.Test.YbulkayggFan
import Derived.Carry
import Derived.WideMake
import Derived.MapKept
namespace Go.Proofs.Ybulkaygg.A
open Go.RowKit
set_option linter.unusedVariables false

theorem look0 (w : World) (M c : Nat) (hb : w.heap[M]? = some (.map #[] c)) : (Instr.lookup 42 (.map (some M)) (.int .i64 0) true).run Yba.prog w = .ok (.tuple #[.int .i64 0, .bool false]) w := by
  have hz : (zeroValue 3).run Yba.prog w = .ok (.int .i64 0) w := by kernel_rfl
  have hc : (Instr.checkKey true 10000 3 (.int .i64 0)).run Yba.prog w = .ok () w := by kernel_rfl
  have hf : (Instr.findKey 3 (.int .i64 0) []).run Yba.prog w = .ok none w := by kernel_rfl
  simp [Instr.lookup, run_underlying Yba.underlying42, MapKept.run_getObj_map hb, hz, hc, hf, Result.andThen]
theorem look1 (w : World) (M c b : Nat) (v : Int) (hb : w.heap[M]? = some (.map #[⟨.int .i64 0, .int .i64 v, b⟩] c)) : (Instr.lookup 42 (.map (some M)) (.int .i64 0) true).run Yba.prog w = .ok (.tuple #[.int .i64 v, .bool true]) w := by
  have hc : (Instr.checkKey false 10000 3 (.int .i64 0)).run Yba.prog w = .ok () w := by kernel_rfl
  have hf : (Instr.findKey 3 (.int .i64 0) [⟨.int .i64 0, .int .i64 v, b⟩]).run Yba.prog w = .ok (some (0, .int .i64 v)) w := by kernel_rfl
  simp [Instr.lookup, run_underlying Yba.underlying42, MapKept.run_getObj_map hb, hc, hf, Result.andThen]
theorem upd0 (w : World) (M c : Nat) (v : Int) (hb : w.heap[M]? = some (.map #[] c)) : (Instr.mapUpdate 42 (.map (some M)) (.int .i64 0) (.int .i64 v)).run Yba.prog w = .ok () { w with heap := w.heap.setIfInBounds M (.map #[⟨.int .i64 0, .int .i64 v, c⟩] (c + 1)) } := by
  have hc : (Instr.checkKey false 10000 3 (.int .i64 0)).run Yba.prog w = .ok () w := by kernel_rfl
  have hf : (Instr.findKey 3 (.int .i64 0) []).run Yba.prog w = .ok none w := by kernel_rfl
  simp [Instr.mapUpdate, run_underlying Yba.underlying42, MapKept.run_getObj_map hb, MapKept.run_setObj_map _ hb, hc, hf, Result.andThen]
theorem upd1 (w : World) (M c b : Nat) (v v' : Int) (hb : w.heap[M]? = some (.map #[⟨.int .i64 0, .int .i64 v, b⟩] c)) : (Instr.mapUpdate 42 (.map (some M)) (.int .i64 0) (.int .i64 v')).run Yba.prog w = .ok () { w with heap := w.heap.setIfInBounds M (.map #[⟨.int .i64 0, .int .i64 v', b⟩] c) } := by
  have hc : (Instr.checkKey false 10000 3 (.int .i64 0)).run Yba.prog w = .ok () w := by kernel_rfl
  have hf : (Instr.findKey 3 (.int .i64 0) [⟨.int .i64 0, .int .i64 v, b⟩]).run Yba.prog w = .ok (some (0, .int .i64 v)) w := by kernel_rfl
  have hk : (Instr.keyThatStays (.int .i64 0) (.int .i64 0)).run Yba.prog w = .ok (.int .i64 0) w := by kernel_rfl
  simp [Instr.mapUpdate, run_underlying Yba.underlying42, MapKept.run_getObj_map hb, MapKept.run_setObj_map _ hb, hc, hf, hk, Result.andThen]

/-- The rounds' map: empty, or one entry at key 0. -/
def MapAt (w : World) (M : Nat) : Prop := (∃ c, w.heap[M]? = some (.map #[] c)) ∨ ∃ v b c, w.heap[M]? = some (.map #[⟨.int .i64 0, .int .i64 v, b⟩] c)

theorem round12 (Q M : Nat) (w : World) (h7 : w.cell? ⟨Q, 7, none⟩ = some (.map (some M))) (hM : MapAt w M) :
    Calls Yba.prog 12 #[.pointer (some ⟨Q, 0, none⟩), .int .i64 0] w fun e w' => ∃ x, e = .returned (.int .i64 x) ∧ w' = w := by
  rcases hM with ⟨c, hb⟩ | ⟨v, b, c, hb⟩
  · have hl := look0 w M c hb
    go_enter Yba.func12, Yba.ntmps12
    go_wp2
    go_ret
    exact ⟨_, rfl, rfl⟩
  · have hl := look1 w M c b v hb
    go_enter Yba.func12, Yba.ntmps12
    go_wp2
    go_ret
    exact ⟨_, rfl, rfl⟩
end Go.Proofs.Ybulkaygg.A
