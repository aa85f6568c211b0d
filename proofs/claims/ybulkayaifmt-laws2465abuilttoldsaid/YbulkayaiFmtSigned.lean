/-
  THE WALK of parseSignedData on well-formed input.
-/
import Derived.Test.YbulkayaiFmtEncap
namespace Go.Proofs.YbulkayaiFmt.A
open Go.RowKit
set_option linter.unusedVariables false

theorem blk_lt {w : World} {k : Nat} {o : Obj} (h : w.heap[k]? = some o) : k < w.heap.size := (Array.getElem?_eq_some_iff.1 h).1
theorem blk_on {w w' : World} {k : Nat} {o : Obj} (h : w.heap[k]? = some o) (hb : Below w.heap.size w w') : w'.heap[k]? = some o := (hb.block k (blk_lt h)).trans h
theorem blk_grown {w w' : World} {k r : Nat} {o : Obj} (h : w.heap[k]? = some o) (hg : w.grownBy w' (some r)) (hne : k ≠ r) : w'.heap[k]? = some o := (hg.block k (blk_lt h) (by simpa using hne)).trans h
theorem on_alloc (w : World) (o : Obj) : Below w.heap.size w (w.alloc o) := (Below.refl _ _).alloc (Nat.le_refl _) o

theorem stores9' (w : World) (s : Nat) (a b c d e f g h i : Value) :
    Below s w (((((((((w.setCell ⟨s, 0, none⟩ a).setCell ⟨s, 1, none⟩ b).setCell ⟨s, 2, none⟩ c).setCell ⟨s, 3, none⟩ d).setCell ⟨s, 4, none⟩ e).setCell ⟨s, 5, none⟩ f).setCell ⟨s, 6, none⟩ g).setCell ⟨s, 7, none⟩ h).setCell ⟨s, 8, none⟩ i) :=
  ((((((((((Below.refl s w).setCell (p := ⟨s, 0, none⟩) (Nat.le_refl _) a).setCell (p := ⟨s, 1, none⟩) (Nat.le_refl _) b).setCell (p := ⟨s, 2, none⟩) (Nat.le_refl _) c).setCell (p := ⟨s, 3, none⟩) (Nat.le_refl _) d).setCell (p := ⟨s, 4, none⟩) (Nat.le_refl _) e).setCell (p := ⟨s, 5, none⟩) (Nat.le_refl _) f).setCell (p := ⟨s, 6, none⟩) (Nat.le_refl _) g).setCell (p := ⟨s, 7, none⟩) (Nat.le_refl _) h).setCell (p := ⟨s, 8, none⟩) (Nat.le_refl _) i)

/-- What a SignedObject reads as behind parseSignedData. -/
def SoIs (B : Nat) (ct : List UInt8) (zs : List Int) (e : Ending) (w' : World) : Prop :=
  ∃ p1 pv kv pw, e = .returned (.tuple #[.agg #[.string ⟨ct.toArray⟩, .slice p1 zs.length zs.length, .slice none 0 0, .int .u8 2, .slice pv 1 1, .slice pw kv kv, .slice none 0 0, .bool false, .slice none 0 0], .nilIface]) ∧ Bytes B w' p1 zs.length zs

set_option maxRecDepth 20000 in
set_option maxHeartbeats 4000000 in
theorem signedData (B n c : Nat) (p : Option Addr) (ozs tl zs : List Int) (w : World) (hB : B ≤ w.heap.size) (hB0 : 0 < B) (hz : OidIs ozs tl) (hzl : zs.length < 60000) (htab : Tab w) (hby : Bytes B w p n ([2, 1, 3] ++ [49, 0] ++ eciB ozs zs ++ [49, 0])) (hnc : n ≤ c) (hc : c ≤ maxLen) :
    Calls Ybaf.prog 27 #[.slice p n c] w fun e w' => SoIs B (oidText tl) zs e w' ∧ Below w.heap.size w w' := by
  obtain ⟨C, hC⟩ : ∃ C, C = tlv 6 ozs ++ tlv 160 (tlv 4 zs) := ⟨_, rfl⟩
  have hCl : C.length < 65536 := by
    have h1 := tlv_le 6 ozs
    have h2 := tlv_le 4 zs
    have h3 := tlv_le 160 (tlv 4 zs)
    have := hz.short
    rw [hC, List.length_append]; omega
  obtain ⟨R2, hR2⟩ : ∃ R, R = tlv 48 C ++ [49, 0] := ⟨_, rfl⟩
  obtain ⟨R1, hR1⟩ : ∃ R, R = tlv 49 [] ++ R2 := ⟨_, rfl⟩
  have hdata : [2, 1, 3] ++ [49, 0] ++ eciB ozs zs ++ [49, 0] = tlv 2 [3] ++ R1 := by
    rw [hR1, hR2, eciB, ← hC]; simp [tlv, lenB]
  rw [hdata] at hby
  have HC := hid hC
  have HR1 := hid hR1
  have HR2 := hid hR2
  clear hC hR1 hR2 hdata
  go_enter Ybaf.func27, Ybaf.ntmps27
  go_wp2_with fail
  refine (newReader p n c _).mono ?_
  rintro e w1 ⟨rfl, rfl⟩
  have hA := on_alloc w (Obj.cells #[.string ⟨#[]⟩, .slice none 0 0, .slice none 0 0, .int .u8 0, .slice none 0 0, .slice none 0 0, .slice none 0 0, .bool false, .slice none 0 0] 30)
  have hrs := RS.new (hby.below (hA.mono hB)) hnc hc (by simp; omega)
  rw [World.size_alloc] at hrs
  have hA2 := on_alloc (w.alloc (Obj.cells #[.string ⟨#[]⟩, .slice none 0 0, .slice none 0 0, .int .u8 0, .slice none 0 0, .slice none 0 0, .slice none 0 0, .bool false, .slice none 0 0] 30)) (Obj.cells #[Value.slice p n c] 64)
  have F1 := nxt hA hA2
  have S1 := blk_on (heap_alloc_new w (Obj.cells #[.string ⟨#[]⟩, .slice none 0 0, .slice none 0 0, .int .u8 0, .slice none 0 0, .slice none 0 0, .slice none 0 0, .bool false, .slice none 0 0] 30)) hA2
  obtain ⟨W1, hW1⟩ : ∃ W1, W1 = (w.alloc (Obj.cells #[.string ⟨#[]⟩, .slice none 0 0, .slice none 0 0, .int .u8 0, .slice none 0 0, .slice none 0 0, .slice none 0 0, .bool false, .slice none 0 0] 30)).alloc (Obj.cells #[Value.slice p n c] 64) := ⟨_, rfl⟩
  rw [← hW1] at hrs F1 S1 ⊢
  clear hA hA2 hW1
  -- version
  go_wp2_with fail
  refine (rRead B (w.heap.size + 1) n c p 2 [3] R1 _ (by decide) (by simp) hrs).mono ?_
  rintro e w2 ⟨⟨pv, pw, kv, rfl, _⟩, ⟨p2, c2, hrs2⟩, hg2⟩
  rw [show ([3] : List Int).length = 1 from rfl]
  have S2 := blk_grown S1 hg2 (by omega)
  have F2 := F1.grown hg2 (by have := hrs.lt; omega) (by simp)
  have hA := on_alloc w2 (Obj.cells #[Value.int IntKind.u8 2, Value.slice pv 1 1, Value.slice pw kv kv] 26)
  have hrs3 := hrs2.on hA
  have S3 := blk_on S2 hA
  have F3 := nxt F2 hA
  have V3 := heap_alloc_new w2 (Obj.cells #[Value.int IntKind.u8 2, Value.slice pv 1 1, Value.slice pw kv kv] 26)
  have hlt2 := hrs2.lt
  clear hrs S1 F1 hg2 hrs2 S2 F2
  -- digestAlgorithms
  go_wp2_with fail
  refine (setOf_alg B (w.heap.size + 1) R1.length c2 p2 _ R2 _ (by rw [← HR1.out]; exact hrs3)).mono ?_
  rintro e w4 ⟨rfl, ⟨p4, c4, hrs4⟩, hg4⟩
  have S4 := blk_grown S3 hg4 (by omega)
  have V4 := blk_grown V3 hg4 (by omega)
  have F4 := F3.grown hg4 (by have := hrs3.lt; omega) (by simp)
  clear hrs3 S3 F3 V3 hg4 hA
  -- encapContentInfo
  go_wp2_with fail
  refine (rRead B (w.heap.size + 1) R2.length c4 p4 48 C [49, 0] _ (by decide) hCl (by rw [← HR2.out]; exact hrs4)).mono ?_
  rintro e w5 ⟨⟨pe, pe', ke, rfl, be⟩, ⟨p5, c5, hrs5⟩, hg5⟩
  have S5 := blk_grown S4 hg5 (by omega)
  have V5 := blk_grown V4 hg5 (by omega)
  have F5 := F4.grown hg5 (by have := hrs4.lt; omega) (by simp)
  have hA := on_alloc w5 (Obj.cells #[Value.int IntKind.u8 48, Value.slice pe C.length C.length, Value.slice pe' ke ke] 26)
  have hrs6 := hrs5.on hA
  have S6 := blk_on S5 hA
  have V6 := blk_on V5 hA
  have F6 := nxt F5 hA
  have be6 := be.below (hA.mono (by have := F5.size; omega))
  clear hrs4 S4 F4 V4 hg5 hrs5 S5 V5 be
  go_wp2_with fail
  refine (encap B C.length C.length pe ozs tl zs _ (by have := F6.size; omega) hB0 hz (by omega) (htab.below (B := w.heap.size) (by omega) F6) (by rw [← HC.out]; exact be6) (Nat.le_refl _) (by unfold maxLen; omega)).mono ?_
  rintro e w7 ⟨q1, rfl, bq, hb7⟩
  have hrs7 := hrs6.on hb7
  have S7 := blk_on S6 hb7
  have V7 := blk_on V6 hb7
  have F7 := nxt F6 hb7
  have hw27 : w2.heap.size < w7.heap.size := blk_lt V7
  have v0 : w7.cell? ⟨w2.heap.size, 0, none⟩ = some (.int .u8 2) := by rw [Lib.cell_of_heap V7]; rfl
  have v1 : w7.cell? ⟨w2.heap.size, 1, none⟩ = some (.slice pv 1 1) := by rw [Lib.cell_of_heap V7]; rfl
  have v2 : w7.cell? ⟨w2.heap.size, 2, none⟩ = some (.slice pw kv kv) := by rw [Lib.cell_of_heap V7]; rfl
  clear hrs6 S6 V6 F5 F6 be6 hb7 hA
  have hA := on_alloc w7 (Obj.cells #[.string ⟨(oidText tl).toArray⟩, .slice q1 zs.length zs.length, .slice none 0 0, .int .u8 2, .slice pv 1 1, .slice pw kv kv, .slice none 0 0, .bool false, .slice none 0 0] 30)
  have hrs8 := hrs7.on hA
  have S8 := blk_on S7 hA
  have F8 := nxt F7 hA
  have O8 := heap_alloc_new w7 (Obj.cells #[.string ⟨(oidText tl).toArray⟩, .slice q1 zs.length zs.length, .slice none 0 0, .int .u8 2, .slice pv 1 1, .slice pw kv kv, .slice none 0 0, .bool false, .slice none 0 0] 30)
  have bq8 := bq.below (hA.mono (by have := F7.size; omega))
  have hlt7 := hrs7.lt
  clear hrs7 S7 V7 bq
  -- no certificates, no crls
  go_wp2_with fail
  refine (rPeek B (w.heap.size + 1) _ c5 p5 49 [0] _ hrs8).mono ?_
  rintro e w8 ⟨rfl, rfl⟩
  go_wp2_with fail
  refine (ctxc _).mono ?_
  rintro e w8 ⟨rfl, rfl⟩
  go_wp2_with fail
  refine (rPeek B (w.heap.size + 1) _ c5 p5 49 [0] _ hrs8).mono ?_
  rintro e w8 ⟨rfl, rfl⟩
  go_wp2_with fail
  refine (ctxc1 _).mono ?_
  rintro e w8 ⟨rfl, rfl⟩
  -- signerInfos
  go_wp2_with fail
  refine (setOf_sig B (w.heap.size + 1) _ c5 p5 _ [] _ hrs8).mono ?_
  rintro e w9 ⟨rfl, ⟨p9, c9, hrs9⟩, hg9⟩
  have S9 := blk_grown S8 hg9 (by omega)
  have O9 := blk_grown O8 hg9 (by omega)
  have F9 := F8.grown hg9 (by have := hrs8.lt; omega) (by simp)
  have bq9 := bq8.below ((Below.refl B _).grown hg9 (by have := F8.size; omega) (by simp; omega))
  have oc : ∀ j, w9.cell? ⟨w7.heap.size, j, none⟩ = _ := fun j => Lib.cell_of_heap O9 j
  have of : ∀ j, w9.frozen? ⟨w7.heap.size, j, none⟩ = false := fun j => Lib.frozen_of_heap O9 j
  have hs9 : w.heap.size < w9.heap.size := blk_lt S9
  have hs79 : w7.heap.size < w9.heap.size := blk_lt O9
  have hne97 : w.heap.size ≠ w7.heap.size := by omega
  clear hrs8 S8 O8 F8 hg9 bq8 hA F7
  go_wp2_with fail
  have hgX : w9.grownBy (w9.setCell ⟨w7.heap.size, 8, none⟩ (.slice none 0 0)) (some w7.heap.size) := grown_setCell w9 ⟨w7.heap.size, 8, none⟩ (.slice none 0 0)
  have hrsX := hrs9.other hgX (by omega) (by omega)
  have SX := blk_grown S9 hgX (by omega)
  have FX := F9.grown hgX (by omega) (by simp; omega)
  have bqX := bq9.below ((Below.refl B _).grown hgX (by omega) (by simp; omega))
  have OX : (w9.setCell ⟨w7.heap.size, 8, none⟩ (.slice none 0 0)).heap[w7.heap.size]? = some (Obj.cells #[.string ⟨(oidText tl).toArray⟩, .slice q1 zs.length zs.length, .slice none 0 0, .int .u8 2, .slice pv 1 1, .slice pw kv kv, .slice none 0 0, .bool false, .slice none 0 0] 30 (0, 0)) := by
    simp [World.setCell, Array.getElem?_modify, O9]
  obtain ⟨X, hX⟩ : ∃ X, X = w9.setCell ⟨w7.heap.size, 8, none⟩ (.slice none 0 0) := ⟨_, rfl⟩
  rw [← hX] at hrsX SX FX bqX OX ⊢
  clear hgX hX hrs9 S9 O9 F9 bq9 oc of
  refine (rEnd B _ c9 p9 _ hrsX).mono ?_
  rintro e w10 ⟨rfl, rfl⟩
  have oc : ∀ j, w10.cell? ⟨w7.heap.size, j, none⟩ = _ := fun j => Lib.cell_of_heap OX j
  have sc : ∀ j, w10.cell? ⟨w.heap.size, j, none⟩ = _ := fun j => Lib.cell_of_heap SX j
  have sf : ∀ j, w10.frozen? ⟨w.heap.size, j, none⟩ = false := fun j => Lib.frozen_of_heap SX j
  go_wp2_with fail
  refine bodyPost_ret (v := .tuple #[.agg #[.string ⟨(oidText tl).toArray⟩, .slice q1 zs.length zs.length, .slice none 0 0, .int .u8 2, .slice pv 1 1, .slice pw kv kv, .slice none 0 0, .bool false, .slice none 0 0], .nilIface]) (by simp [results, Ybaf.results27, go_sem, sc]) rfl ?_
  have hB2 := stores9' w10 w.heap.size (.string ⟨(oidText tl).toArray⟩) (.slice q1 zs.length zs.length) (.slice none 0 0) (.int .u8 2) (.slice pv 1 1) (.slice pw kv kv) (.slice none 0 0) (.bool false) (.slice none 0 0)
  exact ⟨⟨q1, pv, kv, pw, rfl, bqX.below (hB2.mono hB)⟩, FX.trans hB2⟩

end Go.Proofs.YbulkayaiFmt.A
