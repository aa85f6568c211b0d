/-
  THE WALKS of parseSignedObject and ParseSignedObject on well-formed input.
-/
import Derived.Test.YbulkayaiFmtSigned
namespace Go.Proofs.YbulkayaiFmt.A
open Go.RowKit
set_option linter.unusedVariables false

theorem text_sd : oidText [840, 113549, 1, 7, 2] = [49, 46, 50, 46, 56, 52, 48, 46, 49, 49, 51, 53, 52, 57, 46, 49, 46, 55, 46, 50] := by decide +kernel

abbrev soZ : Obj := Obj.cells #[.string ⟨#[]⟩, .slice none 0 0, .slice none 0 0, .int .u8 0, .slice none 0 0, .slice none 0 0, .slice none 0 0, .bool false, .slice none 0 0] 30

set_option maxRecDepth 20000 in
set_option maxHeartbeats 4000000 in
theorem sobj (B n c : Nat) (p : Option Addr) (ozs tl zs : List Int) (w : World) (hB : B ≤ w.heap.size) (hB0 : 0 < B) (hz : OidIs ozs tl) (hzl : zs.length < 50000) (htab : Tab w) (hby : Bytes B w p n (dataB ozs zs)) (hnc : n ≤ c) (hc : c ≤ maxLen) :
    Calls Ybaf.prog 16 #[.slice p n c] w fun e w' => SoIs B (oidText tl) zs e w' ∧ Below w.heap.size w w' := by
  obtain ⟨S, hS⟩ : ∃ S, S = [2, 1, 3] ++ [49, 0] ++ eciB ozs zs ++ [49, 0] := ⟨_, rfl⟩
  obtain ⟨T, hT⟩ : ∃ T, T = tlv 48 S := ⟨_, rfl⟩
  obtain ⟨R, hR⟩ : ∃ R, R = tlv 160 T := ⟨_, rfl⟩
  obtain ⟨D, hD⟩ : ∃ D, D = tlv 6 sdOID ++ R := ⟨_, rfl⟩
  have hdata : dataB ozs zs = tlv 48 D := by rw [dataB, hD, hR, hT, hS]
  rw [hdata] at hby
  have hEl : (eciB ozs zs).length ≤ 50200 := by
    have h1 := tlv_le 6 ozs
    have h2 := tlv_le 4 zs
    have h3 := tlv_le 160 (tlv 4 zs)
    have h4 := tlv_le 48 (tlv 6 ozs ++ tlv 160 (tlv 4 zs))
    have := hz.short
    rw [List.length_append] at h4
    unfold eciB; omega
  have lS : S.length ≤ 50300 := by rw [hS]; simp only [List.length_append, List.length_cons, List.length_nil]; omega
  have lT := tlv_le 48 S
  rw [← hT] at lT
  have lR := tlv_le 160 T
  rw [← hR] at lR
  have lD : D.length ≤ 50500 := by
    have := tlv_le 6 sdOID
    rw [hD, List.length_append]
    simp [sdOID] at this ⊢
    omega
  have HS := hid hS
  have HT := hid hT
  have HR := hid hR
  have HD := hid hD
  clear hS hT hR hD hdata hEl
  have hA := on_alloc w (Obj.cells #[.string ⟨#[]⟩, .slice none 0 0, .slice none 0 0, .int .u8 0, .slice none 0 0, .slice none 0 0, .slice none 0 0, .bool false, .slice none 0 0] 30)
  have S1 := heap_alloc_new w (Obj.cells #[.string ⟨#[]⟩, .slice none 0 0, .slice none 0 0, .int .u8 0, .slice none 0 0, .slice none 0 0, .slice none 0 0, .bool false, .slice none 0 0] 30)
  have hby1 := hby.below (hA.mono hB)
  go_enter Ybaf.func16, Ybaf.ntmps16
  go_wp2_with fail
  refine (single B n c p 48 D _ (by simp; omega) (by decide) (by omega) hby1 hnc hc).mono ?_
  rintro e w1 ⟨⟨q, q', kq, rfl, bq⟩, hb1⟩
  have F1 := nxt hA hb1
  have S1' := blk_on S1 hb1
  have hA1 := on_alloc w1 (Obj.cells #[Value.int IntKind.u8 48, Value.slice q D.length D.length, Value.slice q' kq kq] 26)
  have F2 := nxt F1 hA1
  have S2 := blk_on S1' hA1
  have bq2 := bq.below (hA1.mono (by have := F1.size; omega))
  have s12 : (w1.alloc (Obj.cells #[Value.int IntKind.u8 48, Value.slice q D.length D.length, Value.slice q' kq kq] 26)).heap.size = w1.heap.size + 1 := by simp
  clear hby1 hA S1 hb1 S1' bq hA1
  go_wp2_with fail
  refine (newReader q D.length D.length _).mono ?_
  rintro e w2 ⟨rfl, rfl⟩
  have hrs := RS.new bq2 (Nat.le_refl _) (by unfold maxLen; omega) (by have := F2.size; omega)
  rw [s12] at hrs
  have hA2 := on_alloc (w1.alloc (Obj.cells #[Value.int IntKind.u8 48, Value.slice q D.length D.length, Value.slice q' kq kq] 26)) (Obj.cells #[Value.slice q D.length D.length] 64)
  have F3 := nxt F2 hA2
  have S3 := blk_on S2 hA2
  obtain ⟨W3, hW3⟩ : ∃ W3, W3 = (w1.alloc (Obj.cells #[Value.int IntKind.u8 48, Value.slice q D.length D.length, Value.slice q' kq kq] 26)).alloc (Obj.cells #[Value.slice q D.length D.length] 64) := ⟨_, rfl⟩
  rw [← hW3] at hrs F3 S3 ⊢
  have hne : w.heap.size ≠ w1.heap.size + 1 := by have := F1.size; omega
  have hwr : w.heap.size ≤ w1.heap.size + 1 := by have := F1.size; omega
  clear hA2 hW3 F2 S2 bq2 s12
  -- the content type
  go_wp2_with fail
  refine (readOID B (w1.heap.size + 1) _ _ q sdOID _ R _ hB0 is_sd (htab.below (B := w.heap.size) (by omega) F3) (by rw [← HD.out]; exact hrs)).mono ?_
  rintro e w4 ⟨rfl, ⟨p4, c4, hrs4⟩, hg4⟩
  rw [text_sd]
  have S4 := blk_grown S3 hg4 hne
  have F4 := F3.grown hg4 (by have := F3.size; omega) (by simp; omega)
  clear hrs S3 F3 hg4
  go_wp2_with fail
  refine (ctxc _).mono ?_
  rintro e w5 ⟨rfl, rfl⟩
  go_wp2_with fail
  refine (rRead B (w1.heap.size + 1) _ c4 p4 160 T [] _ (by decide) (by omega) (by rw [List.append_nil, ← HR.out]; exact hrs4)).mono ?_
  rintro e w6 ⟨⟨pt, pt', kt, rfl, bt⟩, ⟨p6, c6, hrs6⟩, hg6⟩
  have S6 := blk_grown S4 hg6 hne
  have F6 := F4.grown hg6 (by have := F4.size; omega) (by simp; omega)
  have hA6 := on_alloc w6 (Obj.cells #[Value.int IntKind.u8 160, Value.slice pt T.length T.length, Value.slice pt' kt kt] 26)
  have hrs7 := hrs6.on hA6
  have S7 := blk_on S6 hA6
  have F7 := nxt F6 hA6
  have bt7 := bt.below (hA6.mono (by have := F6.size; omega))
  clear hrs4 S4 F4 hg6 hrs6 S6 bt hA6
  go_wp2_with fail
  refine (rEnd B _ c6 p6 _ hrs7).mono ?_
  rintro e w7 ⟨rfl, rfl⟩
  go_wp2_with fail
  refine (single B _ _ pt 48 S _ (by have := F7.size; omega) (by decide) (by omega) (by rw [← HT.out]; exact bt7) (Nat.le_refl _) (by unfold maxLen; omega)).mono ?_
  rintro e w8 ⟨⟨ps, ps', ks, rfl, bs⟩, hb8⟩
  have S8 := blk_on S7 hb8
  have F8 := nxt F7 hb8
  have hA8 := on_alloc w8 (Obj.cells #[Value.int IntKind.u8 48, Value.slice ps S.length S.length, Value.slice ps' ks ks] 26)
  have S9 := blk_on S8 hA8
  have F9 := nxt F8 hA8
  have bs9 := bs.below (hA8.mono (by have := F8.size; omega))
  clear hrs7 S7 F7 bt7 hb8 S8 bs hA8
  go_wp2_with fail
  refine (signedData B _ _ ps ozs tl zs _ (by have := F9.size; omega) hB0 hz (by omega) (htab.below (B := w.heap.size) (by omega) F9) (by rw [← HS.out]; exact bs9) (Nat.le_refl _) (by unfold maxLen; omega)).mono ?_
  rintro e wa ⟨⟨q1, pv, kv, pw, rfl, bq⟩, hba⟩
  have Sa := blk_on S9 hba
  have Fa := nxt F9 hba
  have sc : ∀ j, wa.cell? ⟨w.heap.size, j, none⟩ = _ := fun j => Lib.cell_of_heap Sa j
  have sf : ∀ j, wa.frozen? ⟨w.heap.size, j, none⟩ = false := fun j => Lib.frozen_of_heap Sa j
  clear S9 F9 bs9 hba
  go_wp2_with fail
  refine bodyPost_ret (v := .tuple #[.agg #[.string ⟨(oidText tl).toArray⟩, .slice q1 zs.length zs.length, .slice none 0 0, .int .u8 2, .slice pv 1 1, .slice pw kv kv, .slice none 0 0, .bool false, .slice none 0 0], .nilIface]) (by simp [results, Ybaf.results16, go_sem, sc]) rfl ?_
  have hB2 := stores9' wa w.heap.size (.string ⟨(oidText tl).toArray⟩) (.slice q1 zs.length zs.length) (.slice none 0 0) (.int .u8 2) (.slice pv 1 1) (.slice pw kv kv) (.slice none 0 0) (.bool false) (.slice none 0 0)
  exact ⟨⟨q1, pv, kv, pw, rfl, bq.below (hB2.mono hB)⟩, Fa.trans hB2⟩

set_option maxRecDepth 20000 in
set_option maxHeartbeats 2000000 in
theorem sobjP (B n c : Nat) (p : Option Addr) (ozs tl zs : List Int) (w : World) (hB : B ≤ w.heap.size) (hB0 : 0 < B) (hz : OidIs ozs tl) (hzl : zs.length < 50000) (htab : Tab w) (hby : Bytes B w p n (dataB ozs zs)) (hnc : n ≤ c) (hc : c ≤ maxLen) :
    Calls Ybaf.prog 8 #[.slice p n c] w fun e w' => SoIs B (oidText tl) zs e w' ∧ Below w.heap.size w w' := by
  have hA := on_alloc w (Obj.cells #[.string ⟨#[]⟩, .slice none 0 0, .slice none 0 0, .int .u8 0, .slice none 0 0, .slice none 0 0, .slice none 0 0, .bool false, .slice none 0 0] 30)
  have S1 := heap_alloc_new w (Obj.cells #[.string ⟨#[]⟩, .slice none 0 0, .slice none 0 0, .int .u8 0, .slice none 0 0, .slice none 0 0, .slice none 0 0, .bool false, .slice none 0 0] 30)
  have hby1 := hby.below (hA.mono hB)
  have T1 := htab.below (B := w.heap.size) (by omega) hA
  go_enter Ybaf.func8, Ybaf.ntmps8
  go_wp2_with fail
  refine (sobj B n c p ozs tl zs _ (by simp; omega) hB0 hz hzl T1 hby1 hnc hc).mono ?_
  rintro e wa ⟨⟨q1, pv, kv, pw, rfl, bq⟩, hba⟩
  have Sa := blk_on S1 hba
  have Fa := nxt hA hba
  have hsa : w.heap.size < wa.heap.size := blk_lt Sa
  have sc : ∀ j, wa.cell? ⟨w.heap.size, j, none⟩ = _ := fun j => Lib.cell_of_heap Sa j
  have sf : ∀ j, wa.frozen? ⟨w.heap.size, j, none⟩ = false := fun j => Lib.frozen_of_heap Sa j
  clear hA S1 hby1 T1 hba
  go_wp2_with fail
  refine bodyPost_ret (v := .tuple #[.agg #[.string ⟨(oidText tl).toArray⟩, .slice q1 zs.length zs.length, .slice none 0 0, .int .u8 2, .slice pv 1 1, .slice pw kv kv, .slice none 0 0, .bool false, .slice none 0 0], .nilIface]) (by simp [results, Ybaf.results8, go_sem, sc, hsa]) rfl ?_
  have hB2 := stores9 wa w.heap.size (.string ⟨(oidText tl).toArray⟩) (.slice q1 zs.length zs.length) (.slice none 0 0) (.int .u8 2) (.slice pv 1 1) (.slice pw kv kv) (.slice none 0 0) (.bool false) (.slice none 0 0) (Obj.cells #[.string ⟨(oidText tl).toArray⟩, .slice q1 zs.length zs.length, .slice none 0 0, .int .u8 2, .slice pv 1 1, .slice pw kv kv, .slice none 0 0, .bool false, .slice none 0 0] 30) (by omega)
  exact ⟨⟨q1, pv, kv, pw, rfl, bq.below (hB2.mono hB)⟩, Fa.trans hB2⟩

end Go.Proofs.YbulkayaiFmt.A
