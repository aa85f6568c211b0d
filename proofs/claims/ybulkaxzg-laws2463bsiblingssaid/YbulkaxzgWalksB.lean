/-
  THE WALKS of the two functions that copy a slice (zzs2463ccopy, zzs2463bclone): nil stays nil; else a new row that holds the same bytes.
-/
import Derived.Test.YbulkaxzgWalksA
import Derived.Laws.CopyOwn
namespace Go.Proofs.Ybulkaxzg.W
open Go.RowKit
set_option linter.unusedVariables false

theorem Yba.info5 : (Yba.prog.info? 5).map (fun i => (i.zero, i.size, i.bytes)) = some (some (.int .u8 0), 1, 1) := by kernel_rfl
theorem Yba.size5 : (Yba.prog.info? 5).map (·.size) = some 1 := by kernel_rfl

/-- The bytes as cells. -/
def cellsOf (zs : List Int) : List Value := zs.map (Value.int .u8)
theorem cellsOf_length (zs : List Int) : (cellsOf zs).length = zs.length := by simp [cellsOf]
theorem cellsOf_one (zs : List Int) : ∀ v ∈ cellsOf zs, v.oneCell' = true := by
  intro v hv; simp [cellsOf] at hv; obtain ⟨n, _, rfl⟩ := hv; rfl
theorem cellsOf_get {zs : List Int} {j : Nat} {v : Value} (h : (cellsOf zs)[j]? = some v) : j < zs.length ∧ v = .int .u8 (zs.getD j 0) := by
  simp [cellsOf] at h
  obtain ⟨n, hn, rfl⟩ := h
  have := List.getElem?_eq_some_iff.1 hn
  obtain ⟨h1, h2⟩ := this
  exact ⟨h1, by simp [hn]⟩

theorem ccopy_nil (w : World) : Calls Yba.prog 12 #[.slice none 0 0] w fun e w' => e = .returned (.slice none 0 0) ∧ w' = w := by
  have hq := fun (w : World) => Lib.run_eql_slice_nil (P := Yba.prog) w 22 5 none 0 0 0 0 Yba.underlying22
  go_enter Yba.func12, Yba.ntmps12
  go_wp2
  go_ret
  exact ⟨rfl, rfl⟩

theorem bclone_nil (w : World) : Calls Yba.prog 7 #[.slice none 0 0] w fun e w' => e = .returned (.slice none 0 0) ∧ w' = w := by
  have hq := fun (w : World) => Lib.run_eql_slice_nil (P := Yba.prog) w 22 5 none 0 0 0 0 Yba.underlying22
  go_enter Yba.func7, Yba.ntmps7
  go_wp2
  go_ret
  exact ⟨rfl, rfl⟩

/-- What a copy of bytes leaves: a new row of its own, all that was there as it was. -/
def Copied (zs : List Int) (w : World) (g : Nat) (w' : World) : Prop :=
  g = w.heap.size ∧ w'.heap[g]? = some (.cells (cellsOf zs).toArray 5 (0, 0)) ∧ Below w.heap.size w w' ∧ g < w'.heap.size

theorem made_block {w1 : World} {base g n : Nat} {xs : List Value} (h : w1.ownsRow base 5 1 (.slice (some ⟨g, 0, none⟩) n n) n xs) :
    ∃ cur : List Value, w1.heap[g]? = some (.cells cur.toArray 5 (0, 0)) ∧ cur.length = n := by
  obtain ⟨_, h | ⟨g', cap, cur, hv, _, hh, _, _, hs, _⟩⟩ := h
  · simp at h
  · simp at hv
    obtain ⟨rfl, rfl⟩ := hv
    exact ⟨cur.toList, by simpa using hh, by simpa using hs⟩

theorem copied_run (w w1 : World) (x : Addr) (n cap : Nat) (zs : List Int) (hz : zs.length = n)
    (hcell : ∀ i, i < n → w.cell? (x.add i) = some (.int .u8 (zs.getD i 0))) (hgrow : w.grownBy w1 Option.none) {xs : List Value}
    (hown : w1.ownsRow w.heap.size 5 1 (.slice (some ⟨w.heap.size, 0, none⟩) n n) n xs) :
    ∃ w2, (Builtin.copy_ #[22, 22] 3 #[.slice (some ⟨w.heap.size, 0, none⟩) n n, .slice (some x) n cap]).run Yba.prog w1 = .ok (.int .i64 n) w2 ∧ Copied zs w w.heap.size w2 := by
  obtain ⟨cur, hcur, hlen⟩ := made_block hown
  have hrun := run_copy_row (P := Yba.prog) w1 22 22 3 5 w.heap.size 0 n n x n cap cur.toArray 5 (cellsOf zs) Yba.underlying22 Yba.size5 hcur (by rw [cellsOf_length, hz]; simp)
    (fun j v hj => by obtain ⟨h1, rfl⟩ := cellsOf_get hj; exact hgrow.cell (hcell j (by omega)) (by simp)) (by rw [cellsOf_length]; simp; omega) (cellsOf_one zs)
  rw [cellsOf_length, hz] at hrun
  have e : (List.take 0 cur ++ cellsOf zs ++ List.drop (0 + n) cur) = cellsOf zs := by simp [← hlen]
  refine ⟨_, hrun, rfl, ?_, ?_, ?_⟩
  · rw [setRow_heap w1 w.heap.size cur.toArray _ 5 (0, 0) hcur]
    simp only [e]
  · exact below_setRow ((Below.refl _ _).grown hgrow (Nat.le_refl _) (by simp)) (Nat.le_refl _) _
  · rw [setRow_size]
    exact (Array.getElem?_eq_some_iff.1 hcur).1

theorem ccopy_some (x : Addr) (n cap : Nat) (zs : List Int) (w : World) (hz : zs.length = n) (hn : n ≤ 4096)
    (hcell : ∀ i, i < n → w.cell? (x.add i) = some (.int .u8 (zs.getD i 0))) :
    Calls Yba.prog 12 #[.slice (some x) n cap] w fun e w' => e = .returned (.slice (some ⟨w.heap.size, 0, none⟩) n n) ∧ Copied zs w w.heap.size w' := by
  have hq := fun (w : World) => Lib.run_eql_slice_nil (P := Yba.prog) w 22 5 (some x) n cap 0 0 Yba.underlying22
  obtain ⟨i0, hi, hz0, hz1, hz2⟩ := info_parts Yba.info5
  have HC : Hid (∀ i, i < n → w.cell? (x.add i) = some (.int .u8 (zs.getD i 0))) := hcell
  have HZ : Hid (zs.length = n) := hz
  clear hcell hz
  go_enter Yba.func12, Yba.ntmps12
  go_wp2_with (at_make; refine wpList_make_full _ rfl _ _ 22 rfl w.heap.size 5 i0 (.int .u8 0) 1 Yba.underlying22 hi hz0 hz1 .i64 .i64 _ _ n rfl rfl rfl rfl (by rw [hz2]; omega) (by unfold maxLen; omega) (Nat.le_refl _) ?_; intro w1 hown hgrow; obtain ⟨w2, hrun, hcp⟩ := copied_run w w1 x n cap zs HZ.out HC.out hgrow hown; clear hown hgrow)
  go_ret
  exact ⟨rfl, hcp⟩

theorem bclone_some (x : Addr) (n cap : Nat) (zs : List Int) (w : World) (hz : zs.length = n) (hn : n ≤ 4096)
    (hcell : ∀ i, i < n → w.cell? (x.add i) = some (.int .u8 (zs.getD i 0))) :
    Calls Yba.prog 7 #[.slice (some x) n cap] w fun e w' => e = .returned (.slice (some ⟨w.heap.size, 0, none⟩) n n) ∧ Copied zs w w.heap.size w' := by
  have hq := fun (w : World) => Lib.run_eql_slice_nil (P := Yba.prog) w 22 5 (some x) n cap 0 0 Yba.underlying22
  obtain ⟨i0, hi, hz0, hz1, hz2⟩ := info_parts Yba.info5
  have HC : Hid (∀ i, i < n → w.cell? (x.add i) = some (.int .u8 (zs.getD i 0))) := hcell
  have HZ : Hid (zs.length = n) := hz
  clear hcell hz
  go_enter Yba.func7, Yba.ntmps7
  go_wp2_with (at_make; refine wpList_make_full _ rfl _ _ 22 rfl w.heap.size 5 i0 (.int .u8 0) 1 Yba.underlying22 hi hz0 hz1 .i64 .i64 _ _ n rfl rfl rfl rfl (by rw [hz2]; omega) (by unfold maxLen; omega) (Nat.le_refl _) ?_; intro w1 hown hgrow; obtain ⟨w2, hrun, hcp⟩ := copied_run w w1 x n cap zs HZ.out HC.out hgrow hown; clear hown hgrow)
  go_ret
  exact ⟨rfl, hcp⟩

end Go.Proofs.Ybulkaxzg.W
