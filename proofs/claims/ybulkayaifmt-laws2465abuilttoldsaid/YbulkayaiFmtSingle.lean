/-
  THE WALK of der.Single on well-formed input.
-/
import Derived.Test.YbulkayaiFmtReader2
namespace Go.Proofs.YbulkayaiFmt.A
open Go.RowKit
set_option linter.unusedVariables false

abbrev elem0 : Obj := Obj.cells #[Value.int IntKind.u8 0, Value.slice none 0 0, Value.slice none 0 0] 26

set_option maxRecDepth 20000 in
set_option maxHeartbeats 1000000 in
theorem single (B n c : Nat) (p : Option Addr) (tag : Int) (zs : List Int) (w : World) (hB : B ≤ w.heap.size) (ht : (bits .and .u8 tag 31 != 31) = true) (hm : zs.length < 65536) (hz : Bytes B w p n (tlv tag zs)) (hnc : n ≤ c) (hc : c ≤ maxLen) :
    Calls Ybaf.prog 21 #[.slice p n c, .int .u8 tag] w fun e w' => ElemIs B tag zs e w' ∧ Below w.heap.size w w' := by
  have hE := (Below.refl _ w).alloc (Nat.le_refl _) (Obj.cells #[Value.int IntKind.u8 0, Value.slice none 0 0, Value.slice none 0 0] 26)
  have hz1 := hz.below (hE.mono hB)
  have HE := hid hE
  clear hE
  go_enter Ybaf.func21, Ybaf.ntmps21
  go_wp2_with fail
  refine (newReader p n c _).mono ?_
  rintro e w1 ⟨rfl, rfl⟩
  have hrs := RS.new hz1 hnc hc (by simp; omega)
  rw [World.size_alloc] at hrs
  have hR := (Below.refl _ (w.alloc (Obj.cells #[Value.int IntKind.u8 0, Value.slice none 0 0, Value.slice none 0 0] 26))).alloc (Nat.le_refl _) (Obj.cells #[Value.slice p n c] 64)
  have HF := hid (nxt HE.out hR)
  have hrc0 : ((w.alloc (Obj.cells #[Value.int IntKind.u8 0, Value.slice none 0 0, Value.slice none 0 0] 26)).alloc (Obj.cells #[Value.slice p n c] 64)).heap[w.heap.size]? = some (Obj.cells #[Value.int IntKind.u8 0, Value.slice none 0 0, Value.slice none 0 0] 26 (0, 0)) := by rw [hR.block w.heap.size (by simp)]; exact heap_alloc_new w _
  have HRC := hid hrc0
  clear hR hrc0
  go_wp2_with fail
  refine (rRead B _ n c p tag zs [] _ ht hm (by rw [List.append_nil]; exact hrs)).mono ?_
  rintro e w1 ⟨⟨p1, p2, k2, rfl, b1⟩, ⟨p', c', hrs1⟩, hgr⟩
  have hrc : w1.heap[w.heap.size]? = some (Obj.cells #[Value.int IntKind.u8 0, Value.slice none 0 0, Value.slice none 0 0] 26 (0, 0)) := by rw [hgr.block w.heap.size (by simp; omega) (by simp)]; exact HRC.out
  have hs1 : w.heap.size < w1.heap.size := (Array.getElem?_eq_some_iff.1 hrc).1
  have r0 : w1.cell? ⟨w.heap.size, 0, none⟩ = some (.int .u8 0) := by simp [World.cell?, hrc]
  have r1 : w1.cell? ⟨w.heap.size, 1, none⟩ = some (.slice none 0 0) := by simp [World.cell?, hrc]
  have r2 : w1.cell? ⟨w.heap.size, 2, none⟩ = some (.slice none 0 0) := by simp [World.cell?, hrc]
  have q0 : w1.frozen? ⟨w.heap.size, 0, none⟩ = false := by simp [World.frozen?, hrc]
  have q1 : w1.frozen? ⟨w.heap.size, 1, none⟩ = false := by simp [World.frozen?, hrc]
  have q2 : w1.frozen? ⟨w.heap.size, 2, none⟩ = false := by simp [World.frozen?, hrc]
  have HG := hid (HF.out.grown hgr (by simp; omega) (by simp))
  clear hgr hrs
  go_wp2_with fail
  refine (rEnd B _ c' p' _ (hrs1.on ((Below.refl _ w1).alloc (Nat.le_refl _) _))).mono ?_
  rintro e w2 ⟨rfl, rfl⟩
  go_wp2_with fail
  refine bodyPost_ret (v := .tuple #[.agg #[.int .u8 tag, .slice p1 zs.length zs.length, .slice p2 k2 k2], .nilIface]) (by simp [results, Ybaf.results21, go_sem, r0, r1, r2, hs1]) rfl ?_
  have hW := store3 (w := w) (w1 := w1) (.int .u8 tag) (.slice p1 zs.length zs.length) (.slice p2 k2 k2)
  have hB2 := (hW.1 w.heap.size (Nat.le_refl _)).alloc (by simp [World.setCell]; omega) (Obj.cells #[Value.int IntKind.u8 tag, Value.slice p1 zs.length zs.length, Value.slice p2 k2 k2] 26)
  exact ⟨⟨p1, p2, k2, rfl, b1.below (hB2.mono hB)⟩, HG.out.trans hB2⟩

end Go.Proofs.YbulkayaiFmt.A
