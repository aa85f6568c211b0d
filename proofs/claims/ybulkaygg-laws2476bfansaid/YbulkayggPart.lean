/-
  THE CLUSTER IN MEMORY; takesPart; Send.
-/
import Derived.Test.YbulkayggBase
namespace Go.Proofs.Ybulkaygg.A
open Go.RowKit
set_option linter.unusedVariables false

theorem lt_of_cell {w : World} {a : Addr} {v : Value} (h : w.cell? a = some v) : a.block < w.heap.size := by
  by_cases hlt : a.block < w.heap.size
  · exact hlt
  · simp [World.cell?, Array.getElem?_eq_none (by omega : w.heap.size ≤ a.block)] at h

/-- The cluster's block. -/
def CS (w : World) (C n Cr T : Nat) (v : Value) (L : Nat) (r : Int) : Prop := w.heap[C]? = some (.cells (cluV n Cr T v L r) 38 (0, 0))

theorem CS.cell {w : World} {C n Cr T L : Nat} {v : Value} {r : Int} (h : CS w C n Cr T v L r) (k : Nat) : w.cell? ⟨C, k, none⟩ = (cluV n Cr T v L r)[k]? := by
  unfold CS at h
  simp only [World.cell?, h]
  rfl
theorem CS.frozen {w : World} {C n Cr T L : Nat} {v : Value} {r : Int} (h : CS w C n Cr T v L r) (k : Nat) : w.frozen? ⟨C, k, none⟩ = false := by
  unfold CS at h
  simp [World.frozen?, h]
theorem CS.setR {w : World} {C n Cr T L : Nat} {v : Value} {r : Int} (h : CS w C n Cr T v L r) (r' : Int) : CS (w.setCell ⟨C, 12, none⟩ (.int .i64 r')) C n Cr T v L r' := by
  unfold CS at h ⊢
  simp [World.setCell, Array.getElem?_modify, h]
theorem CS.setP {w : World} {C n Cr T L : Nat} {v : Value} {r : Int} (h : CS w C n Cr T v L r) (v' : Value) : CS (w.setCell ⟨C, 4, none⟩ v') C n Cr T v' L r := by
  unfold CS at h ⊢
  simp [World.setCell, Array.getElem?_modify, h]

/-- Of the blocks below B only C may have turned. -/
structure Keep (B C : Nat) (w w' : World) : Prop where
  os : w'.os = w.os
  tape : w'.tape = w.tape
  output : w'.output = w.output
  size : w.heap.size ≤ w'.heap.size
  block : ∀ i, i < B → i ≠ C → w'.heap[i]? = w.heap[i]?

theorem Keep.refl (B C : Nat) (w : World) : Keep B C w w := ⟨rfl, rfl, rfl, Nat.le_refl _, fun _ _ _ => rfl⟩
theorem Keep.trans {B C : Nat} {a b c : World} (h : Keep B C a b) (k : Keep B C b c) : Keep B C a c :=
  ⟨k.os.trans h.os, k.tape.trans h.tape, k.output.trans h.output, Nat.le_trans h.size k.size, fun i h1 h2 => (k.block i h1 h2).trans (h.block i h1 h2)⟩
theorem Keep.cell {B C : Nat} {w w' : World} (h : Keep B C w w') {a : Addr} (h1 : a.block < B) (h2 : a.block ≠ C) : w'.cell? a = w.cell? a := by
  unfold World.cell?
  rw [h.block _ h1 h2]
theorem Keep.below {B C N : Nat} {w w' : World} (h : Keep B C w w') (h1 : N ≤ B) (h2 : N ≤ C) : Below N w w' :=
  ⟨h.os, h.tape, h.output, h.size, fun i hi => h.block i (by omega) (by omega)⟩
theorem Keep.of_below {B C : Nat} {w w' : World} (h : Below B w w') : Keep B C w w' := ⟨h.os, h.tape, h.output, h.size, fun i hi _ => h.block i hi⟩

/-- The liars by node. -/
def LR (w : World) (L n : Nat) (sil : Nat → Bool) : Prop :=
  ∀ id, id < n → (sil id = false ∧ w.cell? ⟨L, id, none⟩ = some (.pointer none)) ∨ (sil id = true ∧ ∃ Q, w.cell? ⟨L, id, none⟩ = some (.pointer (some ⟨Q, 0, none⟩)) ∧ w.cell? ⟨Q, 0, none⟩ = some (.int .u8 1))

set_option maxRecDepth 20000 in
set_option maxHeartbeats 1000000 in
theorem part10 (id : Nat) (C n Cr T L : Nat) (v : Value) (r : Int) (p : Option Addr) (m c : Nat) (bs : List Bool) (sil : Nat → Bool) (w : World) (hid' : id < n) (hn : n ≤ 8) (hC : CS w C n Cr T v L r) (hT : w.cell? ⟨T, 0, none⟩ = some (.slice p m c)) (hb : Bools w p m bs) (hL : LR w L n sil) :
    Calls Yba.prog 10 #[.pointer (some ⟨C, 0, none⟩), .int .i64 id] w fun e w' => e = .returned (.bool (at_ bs id && !sil id)) ∧ w' = w := by
  have c2 := hC.cell 2
  have c11 := hC.cell 11
  simp at c2 c11
  have hi : (id : Int) < (n : Int) := by omega
  rcases hL id hid' with ⟨hs, hl⟩ | ⟨hs, Q, hl, hq⟩
  · go_enter Yba.func10, Yba.ntmps10
    go_wp2_with fail
    refine (th5 id T p m c bs _ hT hb).mono ?_
    rintro e w' ⟨rfl, rfl⟩
    cases hA : at_ bs id
    · go_wp2
      go_ret
      exact ⟨by rw [hA]; rfl, rfl⟩
    · go_wp2
      go_ret
      exact ⟨by rw [hs, hA]; rfl, rfl⟩
  · go_enter Yba.func10, Yba.ntmps10
    go_wp2_with fail
    refine (th5 id T p m c bs _ hT hb).mono ?_
    rintro e w' ⟨rfl, rfl⟩
    cases hA : at_ bs id
    · go_wp2
      go_ret
      exact ⟨by rw [hA]; rfl, rfl⟩
    · go_wp2
      go_ret
      exact ⟨by rw [hs, hA]; rfl, rfl⟩
end Go.Proofs.Ybulkaygg.A
