/-
  Send, on a network that is not split.
-/
import Derived.Test.YbulkayggPart
import Derived.Lib.SliceRun
namespace Go.Proofs.Ybulkaygg.A
open Go.RowKit
set_option linter.unusedVariables false

theorem Yba.info51 : (Yba.prog.info? 51).map (fun i => (i.zero, i.size, i.bytes)) = some (some (.agg #[.int .i64 0, .int .i64 0, .int .i64 0]), 3, 24) := by kernel_rfl

/-- The deliveries, as cells. -/
def delC : List (Int × Int × Int) → List Value
  | [] => []
  | d :: r => .int .i64 d.1 :: .int .i64 d.2.1 :: .int .i64 d.2.2 :: delC r
theorem delC_append : ∀ (a b : List (Int × Int × Int)), delC (a ++ b) = delC a ++ delC b
  | [], b => rfl
  | d :: r, b => by simp [delC, delC_append r b]

theorem news3 (w : World) (x y z : Value) (t : TypeId) : ∀ j u, [x, y, z][j]? = some u → (w.alloc (.cells #[x, y, z] t)).cell? ((⟨w.heap.size, 0, none⟩ : Addr).add j) = some u := by
  intro j u h
  match j, h with
  | 0, h => simpa [Addr.add] using h
  | 1, h => simpa [Addr.add] using h
  | 2, h => simpa [Addr.add] using h

theorem own_blocks {w : World} {base n s : Nat} {t : TypeId} {v : Value} {xs : List Value} (h : w.ownsRow base t s v n xs) : ∀ k, v.ownBlock = some k → base ≤ k := by
  intro k hk
  obtain ⟨_, h | ⟨g', cap', cur, hv, hb, _⟩⟩ := h
  · rw [h.1] at hk; simp [Value.ownBlock] at hk
  · rw [hv] at hk; simp [Value.ownBlock] at hk; omega

theorem CS.alloc {w : World} {C n Cr T L : Nat} {v : Value} {r : Int} (h : CS w C n Cr T v L r) (o : Obj) : CS (w.alloc o) C n Cr T v L r := by
  unfold CS at h ⊢
  have hlt : C < w.heap.size := (Array.getElem?_eq_some_iff.1 h).1
  rw [Below.heap_alloc _ _ _ hlt]
  exact h
theorem CS.grown {w w' : World} {B C n Cr T L : Nat} {v : Value} {r : Int} {o : Option Nat} (h : CS w C n Cr T v L r) (hg : w.grownBy w' o) (hne : ∀ k, o = some k → B ≤ k) (hC : C < B) : CS w' C n Cr T v L r := by
  unfold CS at h ⊢
  have hlt : C < w.heap.size := (Array.getElem?_eq_some_iff.1 h).1
  rw [hg.block C hlt (by intro e; have := hne _ e.symm; omega)]
  exact h
theorem Keep.grown {w w' : World} {B C : Nat} {o : Option Nat} (hg : w.grownBy w' o) (hne : ∀ k, o = some k → B ≤ k) (hB : B ≤ w.heap.size) : Keep B C w w' :=
  ⟨hg.os, hg.tape, hg.output, hg.size, fun i hi _ => hg.block i (by omega) (by intro e; have := hne _ e.symm; omega)⟩
theorem Keep.alloc {w : World} {B C : Nat} (hB : B ≤ w.heap.size) (o : Obj) : Keep B C w (w.alloc o) :=
  Keep.of_below ((Below.refl _ _).alloc hB o)
theorem Keep.setCell {w : World} {B C : Nat} (k : Nat) (v : Value) : Keep B C w (w.setCell ⟨C, k, none⟩ v) :=
  ⟨rfl, rfl, rfl, by simp [World.setCell], fun i _ hne => by simp [World.setCell, Array.getElem?_modify, Ne.symm hne]⟩

theorem own_set {w : World} {B C s n : Nat} {t : TypeId} {v : Value} {xs : List Value} (h : w.ownsRow B t s v n xs) (hC : C < B) (k : Nat) (u : Value) : (w.setCell ⟨C, k, none⟩ u).ownsRow B t s v n xs := by
  obtain ⟨h0, h | ⟨g', cap', cur, hv, hb, hh, h1⟩⟩ := h
  · exact ⟨h0, .inl h⟩
  · refine ⟨h0, .inr ⟨g', cap', cur, hv, hb, ?_, h1⟩⟩
    rw [← hh]
    simp [World.setCell, Array.getElem?_modify, show C ≠ g' by omega]

set_option maxRecDepth 20000 in
set_option maxHeartbeats 1000000 in
theorem send11 (B C n Cr T L : Nat) (f t m r : Int) (v : Value) (k : Nat) (ds : List (Int × Int × Int)) (w : World) (hC : CS w C n Cr T v L r) (hCB : C < B) (hB : B ≤ w.heap.size) (hown : w.ownsRow B 51 3 v k (delC ds)) (hk : k ≤ 4096) :
    Calls Yba.prog 11 #[.pointer (some ⟨C, 4, none⟩), .int .i64 f, .int .i64 t, .int .i64 m] w fun e w' => e = .returned (.tuple #[]) ∧ ∃ v', CS w' C n Cr T v' L r ∧ w'.ownsRow B 51 3 v' (k + 1) (delC (ds ++ [(f, t, m)])) ∧ Keep B C w w' := by
  obtain ⟨i0, hi, hz0, hz1, hz2⟩ := info_parts Yba.info51
  have hq := fun (w : World) => Lib.run_eql_slice_nil (P := Yba.prog) w 23 3 none 0 0 0 0 Yba.underlying23
  have c7 := hC.cell 7
  have c4 := hC.cell 4
  simp at c7 c4
  go_enter Yba.func11, Yba.ntmps11
  go_wp2_with (at_builtin; refine wpList_append_lies _ rfl (.tmp 19) (.tmp 24) 32 rfl B 51 i0 (.agg #[.int .i64 0, .int .i64 0, .int .i64 0]) 3 24 Yba.underlying32 hi hz0 hz1 hz2 rfl (by decide) v k (delC ds) rfl (hown.alloc _) ⟨w.heap.size, 0, none⟩ 1 1 [.int .i64 f, .int .i64 t, .int .i64 m] rfl rfl (news3 _ _ _ _ _) (by simp [Value.oneCell']) (by omega) (by unfold maxLen; omega) (by omega) (by simp; omega) _ rfl ?_; intro g cap w' hown' hgrow hg1 hg2; have hC1 := (hC.alloc _).grown hgrow (own_blocks hown) hCB; have d4 := hC1.cell 4; have f4 := hC1.frozen 4; simp at d4)
  refine bodyPost_ret (v := .tuple #[]) (by simp [results, Yba.results11]) rfl ?_
  refine ⟨rfl, _, hC1.setP _, ?_, ((Keep.alloc hB _).trans (Keep.grown hgrow (own_blocks hown) (by simp; omega))).trans (Keep.setCell 4 _)⟩
  rw [delC_append]
  exact own_set hown' hCB 4 _
end Go.Proofs.Ybulkaygg.A
