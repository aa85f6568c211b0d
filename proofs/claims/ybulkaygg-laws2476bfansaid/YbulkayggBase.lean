/-
  THE SMALL FUNCTIONS: the carrier's test, its two methods, the closure.
-/
import Derived.Test.YbulkayggRows
import Derived.WalkKit
import Derived.WalkSpells
import Derived.WalkLawsBesides
import Derived.Laws.BitsAllLaws
import Derived.Deep.AppendLies
import Derived.OwnWalk
import Derived.Laws.EntriesVeiled
import Derived.Deep.OwnRows
namespace Go.Proofs.Ybulkaygg.A
open Go.RowKit
set_option linter.unusedVariables false

theorem Yba.info40 : (Yba.prog.info? 40).map (fun i => (i.zero, i.size, i.bytes)) = some (some (.pointer none), 1, 8) := by kernel_rfl
theorem hid {p : Prop} (h : p) : Hid p := h

/-- The carrier's test. -/
def okB (mask m to : Int) : Bool := (bits .and .u8 (mask / 2 ^ to.toNat) 1 == 1) || (m.tmod 5 == 0)

theorem and7 (to : Int) (t0 : 0 ≤ to) (t1 : to < 8) : bits .and .u64 to 7 = to := by
  obtain rfl | rfl | rfl | rfl | rfl | rfl | rfl | rfl : to = 0 ∨ to = 1 ∨ to = 2 ∨ to = 3 ∨ to = 4 ∨ to = 5 ∨ to = 6 ∨ to = 7 := by omega
  all_goals decide

theorem ok8 (mask m to : Int) (w : World) (h0 : 0 ≤ mask) (h1 : mask ≤ 255) (t0 : 0 ≤ to) (t1 : to < 8) :
    Calls Yba.prog 8 #[.int .u8 mask, .int .i64 m, .int .i64 to] w fun e w' => e = .returned (.bool (okB mask m to)) ∧ w' = w := by
  have hb := and7 to t0 t1
  have t2 : to ≤ 8 := by omega
  go_enter Yba.func8, Yba.ntmps8
  go_wp2
  · rename_i h
    go_ret
    exact ⟨by unfold okB; rw [h]; rfl, rfl⟩
  · go_ret
    exact ⟨rfl, rfl⟩


theorem to38 (mask m to : Int) (Cr : Nat) (w : World) (h0 : 0 ≤ mask) (h1 : mask ≤ 255) (t0 : 0 ≤ to) (t1 : to < 8) (hc : w.cell? ⟨Cr, 0, none⟩ = some (.int .u8 mask)) :
    Calls Yba.prog 38 #[.pointer (some ⟨Cr, 0, none⟩), .int .i64 m, .int .i64 to] w fun e w' => e = .returned (.tuple #[.int .i64 (wrap64 (m + to)), .bool (okB mask m to)]) ∧ w' = w := by
  go_enter Yba.func38, Yba.ntmps38
  go_wp2_with fail
  refine (ok8 mask m to _ h0 h1 t0 t1).mono ?_
  rintro e w' ⟨rfl, rfl⟩
  go_wp2
  go_ret2
  exact ⟨rfl, rfl⟩

abbrev msgV (m : Int) : Array Value := #[.int .u8 0, .int .i64 (wrap64 (m.tdiv 4)), .int .u8 0, .slice none 0 0]

theorem open37 (m : Int) (Cr : Nat) (w : World) :
    Calls Yba.prog 37 #[.pointer (some ⟨Cr, 0, none⟩), .int .i64 m] w fun e w' => e = .returned (.tuple #[.int .i64 0, .agg (msgV m), .bool (m.tmod 3 != 0)]) ∧ w' = w.alloc (.cells (msgV m) 59) := by
  go_enter Yba.func37, Yba.ntmps37
  go_wp2
  refine bodyPost_ret (v := .tuple #[.int .i64 0, .agg (msgV m), .bool (m.tmod 3 != 0)]) (by simp [results, Yba.results37, go_sem]) rfl ?_
  exact ⟨rfl, rfl⟩

/-- Bools in memory. -/
def Bools (w : World) (p : Option Addr) (n : Nat) (bs : List Bool) : Prop :=
  bs.length = n ∧ (n = 0 ∨ ∃ g o, p = some ⟨g, o, none⟩ ∧ ∀ i, i < n → w.cell? ⟨g, o + i, none⟩ = some (.bool (bs.getD i false)))
def at_ (bs : List Bool) (id : Nat) : Bool := bs.getD id false

theorem th5 (id : Nat) (T : Nat) (p : Option Addr) (n c : Nat) (bs : List Bool) (w : World) (hc : w.cell? ⟨T, 0, none⟩ = some (.slice p n c)) (hb : Bools w p n bs) :
    Calls Yba.prog 5 #[.int .i64 id, .pointer (some ⟨T, 0, none⟩)] w fun e w' => e = .returned (.bool (at_ bs id)) ∧ w' = w := by
  by_cases hid' : id < n
  · obtain ⟨hl, h | ⟨g, o, rfl, hcell⟩⟩ := hb
    · omega
    have hx := hcell id hid'
    have hi : (id : Int) < (n : Int) := by omega
    obtain ⟨b, hb⟩ : ∃ b, b = bs.getD id false := ⟨_, rfl⟩
    rw [← hb] at hx
    have e : at_ bs id = b := hb.symm
    have E := Ybulkaygg.A.hid e
    clear hcell hb e
    go_enter Yba.func5, Yba.ntmps5
    go_wp2
    go_ret
    exact ⟨by rw [E.out]; rfl, rfl⟩
  · have hi : ¬ (id : Int) < (n : Int) := by omega
    have e : at_ bs id = false := by unfold at_; rw [List.getD_eq_getElem?_getD, List.getElem?_eq_none (by rw [hb.1]; omega)]; rfl
    have E := Ybulkaygg.A.hid e
    clear e
    go_enter Yba.func5, Yba.ntmps5
    go_wp2
    go_ret
    exact ⟨by rw [E.out]; rfl, rfl⟩

/-- The closure, as a value: what it captured lies in the box T. -/
abbrev thV (T : Nat) : Value := .func (.func 5) #[] #[.pointer (some ⟨T, 0, none⟩)]
/-- The cluster's cells. -/
abbrev cluV (n : Nat) (Cr T : Nat) (pend : Value) (L : Nat) (rnd : Int) : Array Value :=
  #[.int .i64 n, .iface 26 (.pointer (some ⟨Cr, 0, none⟩)), thV T, .nilFunc, pend, .slice none 0 0, .int .i64 0, .slice none 0 0, .slice none 0 0, .int .i64 0, .slice none 0 0, .slice (some ⟨L, 0, none⟩) n n, .int .i64 rnd]

set_option maxRecDepth 20000 in
theorem newC (n : Nat) (Cr T : Nat) (w : World) (h1 : n ≤ 8) :
    Calls Yba.prog 6 #[.int .i64 n, .iface 26 (.pointer (some ⟨Cr, 0, none⟩)), thV T, .nilFunc] w fun e w' => e = .returned (.agg (cluV n Cr T (.slice none 0 0) (w.heap.size + 1) 0)) ∧
      w' = (w.alloc (.cells (cluV n Cr T (.slice none 0 0) (w.heap.size + 1) 0) 38)).alloc (.cells (madeCells #[.pointer none] n) 40) := by
  have hmk := fun w => run_make_row' (P := Yba.prog) 36 40 (.pointer none) 8 Yba.underlying36 Yba.info40 rfl .i64 .i64 n (by omega) (by omega) w
  go_enter Yba.func6, Yba.ntmps6
  go_wp2
  refine bodyPost_ret (v := .agg (cluV n Cr T (.slice none 0 0) (w.heap.size + 1) 0)) (by simp [results, Yba.results6, go_sem]) rfl ?_
  exact ⟨rfl, rfl⟩
end Go.Proofs.Ybulkaygg.A
