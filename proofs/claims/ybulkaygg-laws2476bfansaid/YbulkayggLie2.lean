/-
  lie, of a silent liar.
-/
import Derived.Test.YbulkayggLie
namespace Go.Proofs.Ybulkaygg.A
open Go.RowKit
set_option linter.unusedVariables false

theorem MapAt.keep {w w' : World} {B C M : Nat} (h : MapAt w M) (k : Keep B C w w') (h1 : M < B) (h2 : M ≠ C) : MapAt w' M := by
  unfold MapAt at h ⊢
  rw [k.block M h1 h2]
  exact h
theorem MapAt.alloc {w : World} {M : Nat} (h : MapAt w M) (o : Obj) (hM : M < w.heap.size) : MapAt (w.alloc o) M := by
  unfold MapAt at h ⊢
  rw [Below.heap_alloc _ _ _ hM]
  exact h

def setMap (w : World) (M : Nat) (o : Obj) : World := { w with heap := w.heap.setIfInBounds M o }
theorem setMap_cell (w : World) (M : Nat) (o : Obj) (a : Addr) (h : a.block ≠ M) : (setMap w M o).cell? a = w.cell? a := by
  simp [setMap, World.cell?, Ne.symm h]
theorem setMap_keep {w : World} {B M : Nat} (o : Obj) : Keep B M w (setMap w M o) :=
  ⟨rfl, rfl, rfl, by simp [setMap], fun i _ hne => by simp [setMap, Ne.symm hne]⟩
theorem upd_any (w : World) (M : Nat) (h : MapAt w M) (v : Int) (hlt : M < w.heap.size) : ∃ o, (Instr.mapUpdate 42 (.map (some M)) (.int .i64 0) (.int .i64 v)).run Yba.prog w = .ok () (setMap w M o) ∧ MapAt (setMap w M o) M := by
  rcases h with ⟨c, hb⟩ | ⟨x, b, c, hb⟩
  · exact ⟨_, upd0 w M c v hb, .inr ⟨v, c, c + 1, by simp [setMap, hlt]⟩⟩
  · exact ⟨_, upd1 w M c b x v hb, .inr ⟨v, b, c, by simp [setMap, hlt]⟩⟩

set_option maxRecDepth 20000 in
set_option maxHeartbeats 4000000 in
theorem lie9 (B Q M Cr : Nat) (q : Option Addr) (k kc : Nat) (ms : List Int) (w : World) (hk : k ≤ 256) (hB : B ≤ w.heap.size) (hMB : M < B) (hQB : Q < B) (hQM : Q ≠ M) (q0 : w.cell? ⟨Q, 0, none⟩ = some (.int .u8 1)) (q3 : w.cell? ⟨Q, 3, none⟩ = some (.iface 26 (.pointer (some ⟨Cr, 0, none⟩)))) (q7 : w.cell? ⟨Q, 7, none⟩ = some (.map (some M))) (hM : MapAt w M) (hms : Ints w q k ms) (hqB : ∀ a, q = some a → 0 < k → a.block < B ∧ a.block ≠ M) :
    Calls Yba.prog 9 #[.pointer (some ⟨Q, 0, none⟩), .slice q k kc] w fun e w' => e = .returned (.tuple #[]) ∧ Keep B M w w' := by
  have mo := m_open Cr
  simp [Yba.underlying30] at mo
  go_enter Yba.func9, Yba.ntmps9
  go_wp2
  go_loopw [17] (fun vi wr => ∃ (j : Nat), j ≤ k ∧ vi = .int .i64 j ∧ MapAt wr M ∧ Keep B M w wr) (fun vi _ => k - (RowKit.intOf vi).toNat)
  case atStart => exact ⟨0, Nat.zero_le _, rfl, hM, Keep.refl _ _ _⟩
  case round =>
    obtain ⟨j, hj, rfl, hM1, hK⟩ := hrel
    have hBr : B ≤ wr.heap.size := Nat.le_trans hB hK.size
    by_cases hjk : j < k
    · obtain ⟨hl, hz | ⟨g, o, rfl, hcell⟩⟩ := hms
      · omega
      have hx := hcell j hjk
      obtain ⟨z, hzj⟩ : ∃ z, z = ms.getD j 0 := ⟨_, rfl⟩
      rw [← hzj] at hx
      have hji : (j : Int) < (k : Int) := by omega
      have hx1 : wr.cell? ⟨g, o + j, none⟩ = some (.int .i64 z) := by
        obtain ⟨q1, q2⟩ := hqB _ rfl (by omega)
        exact (hK.cell (a := ⟨g, o + j, none⟩) q1 q2).trans hx
      clear hzj hx hcell
      have d0 : wr.cell? ⟨Q, 0, none⟩ = some (.int .u8 1) := (hK.cell (a := ⟨Q, 0, none⟩) hQB hQM).trans q0
      have d3 : wr.cell? ⟨Q, 3, none⟩ = some (.iface 26 (.pointer (some ⟨Cr, 0, none⟩))) := (hK.cell (a := ⟨Q, 3, none⟩) hQB hQM).trans q3
      have d7 : wr.cell? ⟨Q, 7, none⟩ = some (.map (some M)) := (hK.cell (a := ⟨Q, 7, none⟩) hQB hQM).trans q7
      have hQs : Q < wr.heap.size := by omega
      cases hz3 : (z.tmod 3 != 0)
      · go_wp2_with fail
        refine (open37 z Cr _).mono ?_
        rintro e w' ⟨rfl, rfl⟩
        rw [hz3]
        go_wp2_with fail
        refine (round12 Q M _ ?_ ?_).mono ?_
        · go_simp
        · exact (hM1.alloc _ (by omega)).alloc _ (by simp; omega)
        rintro e w2 ⟨x, rfl, rfl⟩
        go_wp2
        exact ⟨⟨j + 1, by omega, by go_num, (hM1.alloc _ (by omega)).alloc _ (by simp; omega), hK.trans ((Keep.alloc hBr _).trans (Keep.alloc (by simp; omega) _))⟩, by simp [RowKit.intOf]; omega⟩
      · go_wp2_with fail
        refine (open37 z Cr _).mono ?_
        rintro e w' ⟨rfl, rfl⟩
        rw [hz3]
        go_wp2_with fail
        refine (round12 Q M _ ?_ ?_).mono ?_
        · go_simp
        · exact (hM1.alloc _ (by omega)).alloc _ (by simp; omega)
        rintro e w2 ⟨x, rfl, rfl⟩
        obtain ⟨w3, hw3⟩ : ∃ w3, w3 = ((wr.alloc (.cells (msgV z) 59)).alloc (.cells #[.int .u8 0, .int .i64 (wrap64 (z.tdiv 4)), .int .u8 0, .slice none 0 0] 59)) := ⟨_, rfl⟩
        have hM3 : MapAt w3.drew M := by rw [hw3]; exact (hM1.alloc _ (by omega)).alloc _ (by simp; omega)
        have hM3l : M < w3.drew.heap.size := by rw [hw3]; simp; omega
        have hK3 : Keep B M w w3.drew := by rw [hw3]; exact hK.trans ((Keep.alloc hBr _).trans ((Keep.alloc (by simp; omega) _).trans (Keep.of_below (Below.refl _ _).drew)))
        by_cases hxq : x < wrap64 (z.tdiv 4)
        · obtain ⟨ob, hu, hM4⟩ := upd_any w3.drew M hM3 (wrap64 (z.tdiv 4)) hM3l
          have d0' : (setMap w3.drew M ob).cell? ⟨Q, 0, none⟩ = some (.int .u8 1) := by
            rw [setMap_cell _ _ _ _ hQM, hK3.cell (a := ⟨Q, 0, none⟩) hQB hQM]; exact q0
          have hK4 := hK3.trans (setMap_keep (B := B) (M := M) ob)
          rw [hw3] at hu d0' hM4 hK4
          clear hM3 hM3l hK3 hw3
          go_wp2
          go_region
          go_wp2
          exact ⟨⟨j + 1, by omega, by go_num, hM4, hK4⟩, by simp [RowKit.intOf]; omega⟩
        · obtain ⟨ob, hu, hM4⟩ := upd_any w3.drew M hM3 x hM3l
          have d0' : (setMap w3.drew M ob).cell? ⟨Q, 0, none⟩ = some (.int .u8 1) := by
            rw [setMap_cell _ _ _ _ hQM, hK3.cell (a := ⟨Q, 0, none⟩) hQB hQM]; exact q0
          have hK4 := hK3.trans (setMap_keep (B := B) (M := M) ob)
          rw [hw3] at hu d0' hM4 hK4
          clear hM3 hM3l hK3 hw3
          go_wp2
          go_region
          go_wp2
          exact ⟨⟨j + 1, by omega, by go_num, hM4, hK4⟩, by simp [RowKit.intOf]; omega⟩
    · obtain rfl : j = k := by omega
      go_wp2
      go_end0
      exact ⟨rfl, hK⟩
end Go.Proofs.Ybulkaygg.A
