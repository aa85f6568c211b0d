/-
  THE WALKS of Read, End, Empty, PeekTag, Single on well-formed input.
-/
import Derived.Test.YbulkayaiFmtReader
namespace Go.Proofs.YbulkayaiFmt.A
open Go.RowKit
set_option linter.unusedVariables false

theorem rEnd (B b c : Nat) (p : Option Addr) (w : World) (h : RS B w b p 0 c []) :
    Calls Ybaf.prog 26 #[.pointer (some ⟨b, 0, none⟩)] w fun e w' => e = .returned .nilIface ∧ w' = w := by
  have h0 := h.c0
  go_enter Ybaf.func26, Ybaf.ntmps26
  go_wp2
  go_ret
  exact ⟨rfl, rfl⟩

theorem rEmpty (B b n c : Nat) (p : Option Addr) (zs : List Int) (w : World) (h : RS B w b p n c zs) :
    Calls Ybaf.prog 46 #[.pointer (some ⟨b, 0, none⟩)] w fun e w' => e = .returned (.bool ((n : Int) == 0)) ∧ w' = w := by
  have h0 := h.c0
  go_enter Ybaf.func46, Ybaf.ntmps46
  go_wp2
  go_ret
  exact ⟨rfl, rfl⟩

theorem RS.first {B b n c : Nat} {p : Option Addr} {tag : Int} {zs : List Int} {w : World} (h : RS B w b p n c (tag :: zs)) : ∃ g o, p = some ⟨g, o, none⟩ ∧ 0 < n ∧ g < B ∧ w.cell? ⟨g, o, none⟩ = some (.int .u8 tag) := by
  obtain ⟨hl, hx | ⟨g, o, rfl, hg, hc⟩⟩ := h.bytes
  · simp at hl; omega
  · have hn : 0 < n := by simp at hl; omega
    exact ⟨g, o, rfl, hn, hg, by simpa using hc 0 hn⟩

theorem rPeek (B b n c : Nat) (p : Option Addr) (tag : Int) (zs : List Int) (w : World) (h : RS B w b p n c (tag :: zs)) :
    Calls Ybaf.prog 36 #[.pointer (some ⟨b, 0, none⟩)] w fun e w' => e = .returned (.tuple #[.int .u8 tag, .bool true]) ∧ w' = w := by
  have h0 := h.c0
  obtain ⟨g, o, rfl, hn, hg, hc⟩ := h.first
  have hn' : (0 : Int) < (n : Int) := by omega
  have hn0 : ((n : Int) == 0) = false := by simp; omega
  go_enter Ybaf.func36, Ybaf.ntmps36
  go_wp2
  go_ret2
  exact ⟨rfl, rfl⟩

/-- A struct result stored into its slot: nothing that was there turns, beside row r. -/
theorem store3 {w w1 : World} (x y z : Value) :
    (∀ B, B ≤ w.heap.size → Below B w1 (((w1.setCell ⟨w.heap.size, 0, none⟩ x).setCell ⟨w.heap.size, 1, none⟩ y).setCell ⟨w.heap.size, 2, none⟩ z)) ∧
    (∀ k, k ≠ w.heap.size → (((w1.setCell ⟨w.heap.size, 0, none⟩ x).setCell ⟨w.heap.size, 1, none⟩ y).setCell ⟨w.heap.size, 2, none⟩ z).heap[k]? = w1.heap[k]?) ∧
    (∀ r, w.grownBy w1 r → w.grownBy (((w1.setCell ⟨w.heap.size, 0, none⟩ x).setCell ⟨w.heap.size, 1, none⟩ y).setCell ⟨w.heap.size, 2, none⟩ z) r) := by
  have hbel : ∀ B, B ≤ w.heap.size → Below B w1 (((w1.setCell ⟨w.heap.size, 0, none⟩ x).setCell ⟨w.heap.size, 1, none⟩ y).setCell ⟨w.heap.size, 2, none⟩ z) := fun B h1 =>
    (((Below.refl B w1).setCell (p := ⟨w.heap.size, 0, none⟩) h1 x).setCell (p := ⟨w.heap.size, 1, none⟩) h1 y).setCell (p := ⟨w.heap.size, 2, none⟩) h1 z
  have hk : ∀ k, k ≠ w.heap.size → (((w1.setCell ⟨w.heap.size, 0, none⟩ x).setCell ⟨w.heap.size, 1, none⟩ y).setCell ⟨w.heap.size, 2, none⟩ z).heap[k]? = w1.heap[k]? := fun k h2 => by
    rw [Below.heap_setCell _ _ _ _ h2, Below.heap_setCell _ _ _ _ h2, Below.heap_setCell _ _ _ _ h2]
  refine ⟨hbel, hk, fun r hg => ?_⟩
  have h0 := hbel 0 (by omega)
  exact ⟨h0.os.trans hg.os, h0.tape.trans hg.tape, h0.output.trans hg.output, Nat.le_trans hg.size h0.size, fun k hkw hkr => by rw [hk k (by omega), hg.block k hkw hkr]⟩

set_option maxRecDepth 20000 in
set_option maxHeartbeats 1000000 in
theorem rRead (B b n c : Nat) (p : Option Addr) (tag : Int) (zs rest : List Int) (w : World) (ht : (bits .and .u8 tag 31 != 31) = true) (hm : zs.length < 65536) (h : RS B w b p n c (tlv tag zs ++ rest)) :
    Calls Ybaf.prog 24 #[.pointer (some ⟨b, 0, none⟩), .int .u8 tag] w fun e w' => ElemIs B tag zs e w' ∧ (∃ p' c', RS B w' b p' rest.length c' rest) ∧ w.grownBy w' (some b) := by
  have hx := h
  obtain ⟨g, o, rfl, hn, hg, hc⟩ := RS.first (zs := lenB zs.length ++ zs ++ rest) (tag := tag) (by simpa [tlv] using hx)
  clear hx
  have hlt := h.lt
  have hab := h.above
  have hE := (Below.refl _ w).alloc (Nat.le_refl _) (Obj.cells #[Value.int IntKind.u8 0, Value.slice none 0 0, Value.slice none 0 0] 26)
  have hrs := h.on hE
  have h0 := hrs.c0
  have hc' : (w.alloc (Obj.cells #[Value.int IntKind.u8 0, Value.slice none 0 0, Value.slice none 0 0] 26)).cell? ⟨g, o, none⟩ = some (.int .u8 tag) := by rw [hE.cell (lt_of_cell hc)]; exact hc
  have hn' : (0 : Int) < (n : Int) := by omega
  have hn0 : ((n : Int) == 0) = false := by simp; omega
  have HE := hid hE
  clear hE
  go_enter Ybaf.func24, Ybaf.ntmps24
  go_wp2_with fail
  refine (rNext B b n c _ tag zs rest _ ht hm hrs).mono ?_
  rintro e w1 ⟨⟨p1, p2, k2, rfl, b1⟩, ⟨p', c', hrs1⟩, hgr⟩
  have hs1 : w.heap.size < w1.heap.size := by have := hgr.size; simp at this; omega
  have hrc : w1.heap[w.heap.size]? = some (Obj.cells #[Value.int IntKind.u8 0, Value.slice none 0 0, Value.slice none 0 0] 26 (0, 0)) := by rw [hgr.block w.heap.size (by simp) (by simp; omega)]; exact heap_alloc_new w _
  have r0 : w1.cell? ⟨w.heap.size, 0, none⟩ = some (.int .u8 0) := by simp [World.cell?, hrc]
  have r1 : w1.cell? ⟨w.heap.size, 1, none⟩ = some (.slice none 0 0) := by simp [World.cell?, hrc]
  have r2 : w1.cell? ⟨w.heap.size, 2, none⟩ = some (.slice none 0 0) := by simp [World.cell?, hrc]
  have q0 : w1.frozen? ⟨w.heap.size, 0, none⟩ = false := by simp [World.frozen?, hrc]
  have q1 : w1.frozen? ⟨w.heap.size, 1, none⟩ = false := by simp [World.frozen?, hrc]
  have q2 : w1.frozen? ⟨w.heap.size, 2, none⟩ = false := by simp [World.frozen?, hrc]
  have hg1 : w.grownBy w1 (some b) := grown_trans (grown_of _ HE.out) hgr
  clear hrs h hgr
  go_wp2_with fail
  refine bodyPost_ret (v := .tuple #[.agg #[.int .u8 tag, .slice p1 zs.length zs.length, .slice p2 k2 k2], .nilIface]) (by simp [results, Ybaf.results24, go_sem, r0, r1, r2]) rfl ?_
  have hW := store3 (w := w) (w1 := w1) (.int .u8 tag) (.slice p1 zs.length zs.length) (.slice p2 k2 k2)
  have hB1 := hW.1 B (by omega)
  exact ⟨⟨p1, p2, k2, rfl, b1.below hB1⟩, ⟨p', c', by rw [hW.2.1 b (by omega)]; exact hrs1.blk, hrs1.bytes.below hB1, hrs1.le, hrs1.cap, hab⟩, hW.2.2 _ hg1⟩

end Go.Proofs.YbulkayaiFmt.A
