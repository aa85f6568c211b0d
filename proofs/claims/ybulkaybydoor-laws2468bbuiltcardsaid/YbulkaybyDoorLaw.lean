/-
  THE LAW's WALK.
-/
import Derived.Test.YbulkaybyDoorAlert
import Derived.WalkSpells
import Derived.WalkLawsBesides
import Derived.Deep.AppendLies
import Derived.Deep.RegionHeld3
import Derived.Laws.BytesArg
import Derived.OwnWalk
import Derived.Lib.ItoaLen
import Derived.Laws.Concat
import Derived.Laws.BitsLemmas
namespace Go.Proofs.YbulkaybyDoor.A
open Go.RowKit Go.Lib
set_option linter.unusedVariables false

theorem Ybad.info5 : (Ybad.prog.info? 5).map (fun i => (i.zero, i.size, i.bytes)) = some (some (.int .u8 0), 1, 1) := by kernel_rfl
theorem lt_of_cell {w : World} {a : Addr} {v : Value} (h : w.cell? a = some v) : a.block < w.heap.size := by
  by_cases hlt : a.block < w.heap.size
  · exact hlt
  · simp [World.cell?, Array.getElem?_eq_none (by omega : w.heap.size ≤ a.block)] at h

theorem own_blocks {w : World} {base n : Nat} {t : TypeId} {v : Value} {xs : List Value} (h : w.ownsRow base t 1 v n xs) : ∀ k, v.ownBlock = some k → base ≤ k := by
  intro k hk
  obtain ⟨_, h | ⟨g', cap', cur, hv, hb, _⟩⟩ := h
  · rw [h.1] at hk; simp [Value.ownBlock] at hk
  · rw [hv] at hk; simp [Value.ownBlock] at hk; omega

/-- The n bytes from p on. -/
def Task (w : World) (p : Option Addr) (n : Nat) (zs : List Int) : Prop :=
  zs.length = n ∧ (n = 0 ∨ ∃ g o, p = some ⟨g, o, none⟩ ∧ (∀ i, i < n → w.cell? ⟨g, o + i, none⟩ = some (.int .u8 (zs.getD i 0)))) ∧ ∀ z ∈ zs, 0 ≤ z ∧ z ≤ 255

def cellsI (zs : List Int) : List Value := zs.map (Value.int .u8)

theorem law_long1 (p : Option Addr) (n c : Nat) (a x y : Int) (j : ByteArray) (w : World) (hn : 1024 < n) :
    Calls Ybad.prog 4 #[.slice p n c, .int .i32 a, .int .u8 x, .int .u8 y, .string j] w fun e w' => e = .returned (.bool true) ∧ Below w.heap.size w w' := by
  have hn' : (1024 : Int) < (n : Int) := by omega
  go_enter Ybad.func4, Ybad.ntmps4
  go_wp2
  go_ret
  exact ⟨rfl, Below.refl _ _⟩
theorem law_long2 (p : Option Addr) (n c : Nat) (a x y : Int) (j : ByteArray) (w : World) (hn : ¬ 1024 < n) (hj : 1024 < j.size) :
    Calls Ybad.prog 4 #[.slice p n c, .int .i32 a, .int .u8 x, .int .u8 y, .string j] w fun e w' => e = .returned (.bool true) ∧ Below w.heap.size w w' := by
  have hn' : ¬ (1024 : Int) < (n : Int) := by omega
  have hj' : (1024 : Int) < (j.size : Int) := by omega
  go_enter Ybad.func4, Ybad.ntmps4
  go_wp2
  go_ret
  exact ⟨rfl, Below.refl _ _⟩

theorem conv_run {w w' : World} {base g k cap : Nat} {A : List Int} (hA : A.length = k) (hown : w.ownsRow base 5 1 (.slice (some ⟨g, 0, none⟩) k cap) k (cellsI A)) (hb : Below w.heap.size w w') :
    (convert 23 9 (.slice (some ⟨g, 0, none⟩) k cap)).run Ybad.prog w' = .ok (.string (strOfNums A)) w' := by
  refine run_convert_bytes_arg w' 23 5 Ybad.underlying23 Ybad.underlying5 g 0 k cap A hA (fun i hi => ?_) 9 Ybad.underlying9
  have hcl : w.cell? ⟨g, i, none⟩ = some (.int .u8 (A.getD i 0)) := by
    rw [hown.cellAt i (by simp; omega)]
    simp [cellsI, List.getElem?_eq_getElem (show i < A.length by omega)]
  rw [Nat.zero_add, hb.cell (lt_of_cell hcl)]
  exact hcl

theorem cats (P S I T D : ByteArray) (h1 : P.size ≤ 10) (h2 : S.size ≤ 1024) (h3 : I.size ≤ 30) (h4 : T.size ≤ 1024) (h5 : D.size ≤ 1) : ∃ X1 X2 X3 X4 X5 : ByteArray,
    (∀ w, (Op.stringOp .add P S).run Ybad.prog w = .ok (.string X1) w) ∧ (∀ w, (Op.stringOp .add X1 D).run Ybad.prog w = .ok (.string X2) w) ∧ (∀ w, (Op.stringOp .add X2 I).run Ybad.prog w = .ok (.string X3) w) ∧
    (∀ w, (Op.stringOp .add X3 D).run Ybad.prog w = .ok (.string X4) w) ∧ (∀ w, (Op.stringOp .add X4 T).run Ybad.prog w = .ok (.string X5) w) ∧ X5.size ≤ 1000000 := by
  refine ⟨_, _, _, _, _, fun w => run_string_add_sum w _ _ (by omega), fun w => run_string_add_sum w _ _ ?_, fun w => run_string_add_sum w _ _ ?_, fun w => run_string_add_sum w _ _ ?_, fun w => run_string_add_sum w _ _ ?_, ?_⟩
  all_goals simp only [ByteArray.size_append]
  all_goals omega

theorem itoa_size (a : Int) (h0 : -2147483648 ≤ a) (h1 : a ≤ 2147483647) : (⟨(Lib.itoa a).toArray⟩ : ByteArray).size ≤ 30 := by
  show (Lib.itoa a).toArray.size ≤ 30
  have := Lib.itoa_length_le a (by omega) (by omega)
  simp
  omega
theorem wrap_a (a : Int) (h0 : -2147483648 ≤ a) (h1 : a ≤ 2147483647) : IntKind.i64.wrap a = a := by
  rw [IntKind.wrap_i64]
  omega

end Go.Proofs.YbulkaybyDoor.A
