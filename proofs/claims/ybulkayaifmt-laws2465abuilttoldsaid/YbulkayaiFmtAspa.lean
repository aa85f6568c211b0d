/-
  THE WALK of parseASPAObject on well-formed input: taken, or refused with the zero value.
-/
import Derived.Test.YbulkayaiFmtErrorf
namespace Go.Proofs.YbulkayaiFmt.A
open Go.RowKit Go.Extern.Stop Go.Stop Go.Extern
set_option linter.unusedVariables false

theorem text_aspa : oidText [840, 113549, 1, 9, 16, 1, 49] = [49, 46, 50, 46, 56, 52, 48, 46, 49, 49, 51, 53, 52, 57, 46, 49, 46, 57, 46, 49, 54, 46, 49, 46, 52, 57] := by decide +kernel
theorem text_roa : oidText [840, 113549, 1, 9, 16, 1, 24] = [49, 46, 50, 46, 56, 52, 48, 46, 49, 49, 51, 53, 52, 57, 46, 49, 46, 57, 46, 49, 54, 46, 49, 46, 50, 52] := by decide +kernel
theorem text_mft : oidText [840, 113549, 1, 9, 16, 1, 26] = [49, 46, 50, 46, 56, 52, 48, 46, 49, 49, 51, 53, 52, 57, 46, 49, 46, 57, 46, 49, 54, 46, 49, 46, 50, 54] := by decide +kernel

set_option maxRecDepth 20000 in
set_option maxHeartbeats 2000000 in
theorem aspa_yes (B n c : Nat) (p : Option Addr) (zs : List Int) (w : World) (hB : B ≤ w.heap.size) (hB0 : 0 < B) (hzl : zs.length < 50000) (htab : Tab w) (hby : Bytes B w p n (dataB (oidB 49) zs)) (hnc : n ≤ c) (hc : c ≤ maxLen) :
    Calls Ybaf.prog 9 #[.slice p n c] w fun e w' => SoIs B (oidText [840, 113549, 1, 9, 16, 1, 49]) zs e w' ∧ Below w.heap.size w w' := by
  have hA := on_alloc w (Obj.cells #[.string ⟨#[]⟩, .slice none 0 0, .slice none 0 0, .int .u8 0, .slice none 0 0, .slice none 0 0, .slice none 0 0, .bool false, .slice none 0 0] 30)
  have S1 := heap_alloc_new w (Obj.cells #[.string ⟨#[]⟩, .slice none 0 0, .slice none 0 0, .int .u8 0, .slice none 0 0, .slice none 0 0, .slice none 0 0, .bool false, .slice none 0 0] 30)
  have hby1 := hby.below (hA.mono hB)
  have T1 := htab.below (B := w.heap.size) (by omega) hA
  go_enter Ybaf.func9, Ybaf.ntmps9
  go_wp2_with fail
  refine (sobjP B n c p _ _ zs _ (by simp; omega) hB0 (is_oid 49 (.inl rfl)) hzl T1 hby1 hnc hc).mono ?_
  rintro e wa ⟨⟨q1, pv, kv, pw, rfl, bq⟩, hba⟩
  have Sa := blk_on S1 hba
  have Fa := nxt hA hba
  have hsa : w.heap.size < wa.heap.size := blk_lt Sa
  have sc : ∀ j, wa.cell? ⟨w.heap.size, j, none⟩ = _ := fun j => Lib.cell_of_heap Sa j
  have sf : ∀ j, wa.frozen? ⟨w.heap.size, j, none⟩ = false := fun j => Lib.frozen_of_heap Sa j
  rw [text_aspa]
  clear hA S1 hby1 T1 hba
  go_wp2_with fail
  refine bodyPost_ret (v := .tuple #[.agg #[.string ⟨#[49, 46, 50, 46, 56, 52, 48, 46, 49, 49, 51, 53, 52, 57, 46, 49, 46, 57, 46, 49, 54, 46, 49, 46, 52, 57]⟩, .slice q1 zs.length zs.length, .slice none 0 0, .int .u8 2, .slice pv 1 1, .slice pw kv kv, .slice none 0 0, .bool false, .slice none 0 0], .nilIface]) (by simp [results, Ybaf.results9, go_sem, sc, hsa]) rfl ?_
  have hB2 := stores9 wa w.heap.size (.string ⟨#[49, 46, 50, 46, 56, 52, 48, 46, 49, 49, 51, 53, 52, 57, 46, 49, 46, 57, 46, 49, 54, 46, 49, 46, 52, 57]⟩) (.slice q1 zs.length zs.length) (.slice none 0 0) (.int .u8 2) (.slice pv 1 1) (.slice pw kv kv) (.slice none 0 0) (.bool false) (.slice none 0 0) (Obj.cells #[.string ⟨#[49, 46, 50, 46, 56, 52, 48, 46, 49, 49, 51, 53, 52, 57, 46, 49, 46, 57, 46, 49, 54, 46, 49, 46, 52, 57]⟩, .slice q1 zs.length zs.length, .slice none 0 0, .int .u8 2, .slice pv 1 1, .slice pw kv kv, .slice none 0 0, .bool false, .slice none 0 0] 30) (by omega)
  exact ⟨⟨q1, pv, kv, pw, by rw [text_aspa], bq.below (hB2.mono hB)⟩, Fa.trans hB2⟩

set_option maxRecDepth 20000 in
set_option maxHeartbeats 2000000 in
theorem aspa_no_24 (F : Interp) (B n c : Nat) (p : Option Addr) (zs : List Int) (w : World) (hF : F.answers w.tape) (hB : B ≤ w.heap.size) (hB0 : 0 < B) (hzl : zs.length < 50000) (htab : Tab w) (hby : Bytes B w p n (dataB (oidB 24) zs)) (hnc : n ≤ c) (hc : c ≤ maxLen) :
    Calls Ybaf.prog 9 #[.slice p n c] w fun e w' => ∃ a, e = .returned (.tuple #[.agg #[.string ⟨#[]⟩, .slice none 0 0, .slice none 0 0, .int .u8 0, .slice none 0 0, .slice none 0 0, .slice none 0 0, .bool false, .slice none 0 0], .iface 82 (.pointer (some a))]) ∧ Below w.heap.size w w' := by
  have hA := on_alloc w (Obj.cells #[.string ⟨#[]⟩, .slice none 0 0, .slice none 0 0, .int .u8 0, .slice none 0 0, .slice none 0 0, .slice none 0 0, .bool false, .slice none 0 0] 30)
  have S1 := heap_alloc_new w (Obj.cells #[.string ⟨#[]⟩, .slice none 0 0, .slice none 0 0, .int .u8 0, .slice none 0 0, .slice none 0 0, .slice none 0 0, .bool false, .slice none 0 0] 30)
  have hby1 := hby.below (hA.mono hB)
  have T1 := htab.below (B := w.heap.size) (by omega) hA
  go_enter Ybaf.func9, Ybaf.ntmps9
  go_wp2_with fail
  refine (sobjP B n c p _ _ zs _ (by simp; omega) hB0 (is_oid 24 (by simp)) hzl T1 hby1 hnc hc).mono ?_
  rintro e wa ⟨⟨q1, pv, kv, pw, rfl, bq⟩, hba⟩
  have Sa := blk_on S1 hba
  have Fa := nxt hA hba
  have hsa : w.heap.size < wa.heap.size := blk_lt Sa
  rw [text_roa]
  clear hA S1 hby1 T1 hba
  go_wp2_with fail
  have hX1 := on_alloc wa (Obj.cells #[.string ⟨#[49, 46, 50, 46, 56, 52, 48, 46, 49, 49, 51, 53, 52, 57, 46, 49, 46, 57, 46, 49, 54, 46, 49, 46, 50, 52]⟩, .slice q1 zs.length zs.length, .slice none 0 0, .int .u8 2, .slice pv 1 1, .slice pw kv kv, .slice none 0 0, .bool false, .slice none 0 0] 30)
  have hX2 := on_alloc (wa.alloc (Obj.cells #[.string ⟨#[49, 46, 50, 46, 56, 52, 48, 46, 49, 49, 51, 53, 52, 57, 46, 49, 46, 57, 46, 49, 54, 46, 49, 46, 50, 52]⟩, .slice q1 zs.length zs.length, .slice none 0 0, .int .u8 2, .slice pv 1 1, .slice pw kv kv, .slice none 0 0, .bool false, .slice none 0 0] 30)) (Obj.cells #[.iface 9 (.string ⟨#[49, 46, 50, 46, 56, 52, 48, 46, 49, 49, 51, 53, 52, 57, 46, 49, 46, 57, 46, 49, 54, 46, 49, 46, 50, 52]⟩)] 20)
  have F2 := nxt (nxt Fa hX1) hX2
  have S2 := blk_on (blk_on Sa hX1) hX2
  refine (errorf F ⟨#[49, 46, 50, 46, 56, 52, 48, 46, 49, 49, 51, 53, 52, 57, 46, 49, 46, 57, 46, 49, 54, 46, 49, 46, 50, 52]⟩ _ _ (by rw [F2.tape]; exact hF) (by simp)).mono ?_
  rintro e wb ⟨a, rfl, hbb⟩
  have Sb := blk_on S2 hbb
  have Fb := nxt F2 hbb
  have sc : ∀ j, wb.cell? ⟨w.heap.size, j, none⟩ = _ := fun j => Lib.cell_of_heap Sb j
  have sf : ∀ j, wb.frozen? ⟨w.heap.size, j, none⟩ = false := fun j => Lib.frozen_of_heap Sb j
  clear Fa hX1 hX2 F2 S2 hbb Sa
  go_wp2_with fail
  refine bodyPost_ret (v := .tuple #[.agg #[.string ⟨#[]⟩, .slice none 0 0, .slice none 0 0, .int .u8 0, .slice none 0 0, .slice none 0 0, .slice none 0 0, .bool false, .slice none 0 0], .iface 82 (.pointer (some a))]) (by simp [results, Ybaf.results9, go_sem, sc]) rfl ?_
  have hB2 := stores9' wb w.heap.size (.string ⟨#[]⟩) (.slice none 0 0) (.slice none 0 0) (.int .u8 0) (.slice none 0 0) (.slice none 0 0) (.slice none 0 0) (.bool false) (.slice none 0 0)
  exact ⟨a, rfl, Fb.trans hB2⟩

set_option maxRecDepth 20000 in
set_option maxHeartbeats 2000000 in
theorem aspa_no_26 (F : Interp) (B n c : Nat) (p : Option Addr) (zs : List Int) (w : World) (hF : F.answers w.tape) (hB : B ≤ w.heap.size) (hB0 : 0 < B) (hzl : zs.length < 50000) (htab : Tab w) (hby : Bytes B w p n (dataB (oidB 26) zs)) (hnc : n ≤ c) (hc : c ≤ maxLen) :
    Calls Ybaf.prog 9 #[.slice p n c] w fun e w' => ∃ a, e = .returned (.tuple #[.agg #[.string ⟨#[]⟩, .slice none 0 0, .slice none 0 0, .int .u8 0, .slice none 0 0, .slice none 0 0, .slice none 0 0, .bool false, .slice none 0 0], .iface 82 (.pointer (some a))]) ∧ Below w.heap.size w w' := by
  have hA := on_alloc w (Obj.cells #[.string ⟨#[]⟩, .slice none 0 0, .slice none 0 0, .int .u8 0, .slice none 0 0, .slice none 0 0, .slice none 0 0, .bool false, .slice none 0 0] 30)
  have S1 := heap_alloc_new w (Obj.cells #[.string ⟨#[]⟩, .slice none 0 0, .slice none 0 0, .int .u8 0, .slice none 0 0, .slice none 0 0, .slice none 0 0, .bool false, .slice none 0 0] 30)
  have hby1 := hby.below (hA.mono hB)
  have T1 := htab.below (B := w.heap.size) (by omega) hA
  go_enter Ybaf.func9, Ybaf.ntmps9
  go_wp2_with fail
  refine (sobjP B n c p _ _ zs _ (by simp; omega) hB0 (is_oid 26 (by simp)) hzl T1 hby1 hnc hc).mono ?_
  rintro e wa ⟨⟨q1, pv, kv, pw, rfl, bq⟩, hba⟩
  have Sa := blk_on S1 hba
  have Fa := nxt hA hba
  have hsa : w.heap.size < wa.heap.size := blk_lt Sa
  rw [text_mft]
  clear hA S1 hby1 T1 hba
  go_wp2_with fail
  have hX1 := on_alloc wa (Obj.cells #[.string ⟨#[49, 46, 50, 46, 56, 52, 48, 46, 49, 49, 51, 53, 52, 57, 46, 49, 46, 57, 46, 49, 54, 46, 49, 46, 50, 54]⟩, .slice q1 zs.length zs.length, .slice none 0 0, .int .u8 2, .slice pv 1 1, .slice pw kv kv, .slice none 0 0, .bool false, .slice none 0 0] 30)
  have hX2 := on_alloc (wa.alloc (Obj.cells #[.string ⟨#[49, 46, 50, 46, 56, 52, 48, 46, 49, 49, 51, 53, 52, 57, 46, 49, 46, 57, 46, 49, 54, 46, 49, 46, 50, 54]⟩, .slice q1 zs.length zs.length, .slice none 0 0, .int .u8 2, .slice pv 1 1, .slice pw kv kv, .slice none 0 0, .bool false, .slice none 0 0] 30)) (Obj.cells #[.iface 9 (.string ⟨#[49, 46, 50, 46, 56, 52, 48, 46, 49, 49, 51, 53, 52, 57, 46, 49, 46, 57, 46, 49, 54, 46, 49, 46, 50, 54]⟩)] 20)
  have F2 := nxt (nxt Fa hX1) hX2
  have S2 := blk_on (blk_on Sa hX1) hX2
  refine (errorf F ⟨#[49, 46, 50, 46, 56, 52, 48, 46, 49, 49, 51, 53, 52, 57, 46, 49, 46, 57, 46, 49, 54, 46, 49, 46, 50, 54]⟩ _ _ (by rw [F2.tape]; exact hF) (by simp)).mono ?_
  rintro e wb ⟨a, rfl, hbb⟩
  have Sb := blk_on S2 hbb
  have Fb := nxt F2 hbb
  have sc : ∀ j, wb.cell? ⟨w.heap.size, j, none⟩ = _ := fun j => Lib.cell_of_heap Sb j
  have sf : ∀ j, wb.frozen? ⟨w.heap.size, j, none⟩ = false := fun j => Lib.frozen_of_heap Sb j
  clear Fa hX1 hX2 F2 S2 hbb Sa
  go_wp2_with fail
  refine bodyPost_ret (v := .tuple #[.agg #[.string ⟨#[]⟩, .slice none 0 0, .slice none 0 0, .int .u8 0, .slice none 0 0, .slice none 0 0, .slice none 0 0, .bool false, .slice none 0 0], .iface 82 (.pointer (some a))]) (by simp [results, Ybaf.results9, go_sem, sc]) rfl ?_
  have hB2 := stores9' wb w.heap.size (.string ⟨#[]⟩) (.slice none 0 0) (.slice none 0 0) (.int .u8 0) (.slice none 0 0) (.slice none 0 0) (.slice none 0 0) (.bool false) (.slice none 0 0)
  exact ⟨a, rfl, Fb.trans hB2⟩

end Go.Proofs.YbulkayaiFmt.A
