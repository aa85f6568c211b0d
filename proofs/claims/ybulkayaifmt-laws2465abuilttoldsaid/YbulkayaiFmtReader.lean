/-
  THE WALKS of the Reader's methods on well-formed input.
-/
import Derived.Test.YbulkayaiFmtNextL
namespace Go.Proofs.YbulkayaiFmt.A
open Go.RowKit
set_option linter.unusedVariables false

theorem next_any (B g o n c : Nat) (tag : Int) (zs rest : List Int) (w : World) (hB : B ≤ w.heap.size) (ht : (bits .and .u8 tag 31 != 31) = true) (hm : zs.length < 65536)
    (hz : Bytes B w (some ⟨g, o, none⟩) n (tlv tag zs ++ rest)) (hnc : n ≤ c) (hc : c ≤ maxLen) :
    Calls Ybaf.prog 44 #[.slice (some ⟨g, o, none⟩) n c] w (NextIs B tag zs rest w) := by
  by_cases h1 : zs.length < 128
  · exact next_short B g o n c tag zs rest w hB ht h1 hz hnc hc
  · by_cases h2 : zs.length < 256
    · exact next_one B g o n c tag zs rest w hB ht (by omega) h2 hz hnc hc
    · exact next_two B g o n c tag zs rest w hB ht (by omega) hm hz hnc hc

/-- Block b is a Reader over the bytes zs. -/
structure RS (B : Nat) (w : World) (b : Nat) (p : Option Addr) (n c : Nat) (zs : List Int) : Prop where
  blk : w.heap[b]? = some (.cells #[.slice p n c] 64 (0, 0))
  bytes : Bytes B w p n zs
  le : n ≤ c
  cap : c ≤ maxLen
  above : B ≤ b

theorem RS.c0 {B : Nat} {w : World} {b : Nat} {p : Option Addr} {n c : Nat} {zs : List Int} (h : RS B w b p n c zs) : w.cell? ⟨b, 0, none⟩ = some (.slice p n c) := by simp [World.cell?, h.blk]
theorem RS.f0 {B : Nat} {w : World} {b : Nat} {p : Option Addr} {n c : Nat} {zs : List Int} (h : RS B w b p n c zs) : w.frozen? ⟨b, 0, none⟩ = false := by simp [World.frozen?, h.blk]
theorem RS.lt {B : Nat} {w : World} {b : Nat} {p : Option Addr} {n c : Nat} {zs : List Int} (h : RS B w b p n c zs) : b < w.heap.size := (Array.getElem?_eq_some_iff.1 h.blk).1

/-- Nothing that is there turns. -/
theorem RS.on {B : Nat} {w w' : World} {b : Nat} {p : Option Addr} {n c : Nat} {zs : List Int} (h : RS B w b p n c zs) (hb : Below w.heap.size w w') : RS B w' b p n c zs :=
  ⟨by rw [hb.block b h.lt]; exact h.blk, h.bytes.below (hb.mono (by have := h.lt; have := h.above; omega)), h.le, h.cap, h.above⟩

/-- Another Reader's block turns. -/
theorem RS.other {B : Nat} {w w' : World} {b r : Nat} {p : Option Addr} {n c : Nat} {zs : List Int} (h : RS B w b p n c zs) (hg : w.grownBy w' (some r)) (hr : B ≤ r) (hne : b ≠ r) : RS B w' b p n c zs :=
  ⟨by rw [hg.block b h.lt (by simpa using hne)]; exact h.blk, h.bytes.below ((Below.refl _ _).grown hg (by have := h.lt; have := h.above; omega) (by simp; omega)), h.le, h.cap, h.above⟩

/-- A struct result with an error beside it. -/
def ElemIs (B : Nat) (tag : Int) (zs : List Int) (e : Ending) (w' : World) : Prop :=
  ∃ p1 p2 k2, e = .returned (.tuple #[.agg #[.int .u8 tag, .slice p1 zs.length zs.length, .slice p2 k2 k2], .nilIface]) ∧ Bytes B w' p1 zs.length zs

theorem newReader (p : Option Addr) (n c : Nat) (w : World) :
    Calls Ybaf.prog 22 #[.slice p n c] w fun e w' => e = .returned (.pointer (some ⟨w.heap.size, 0, none⟩)) ∧ w' = w.alloc (.cells #[.slice p n c] 64) := by
  go_enter Ybaf.func22, Ybaf.ntmps22
  go_wp2
  go_ret
  exact ⟨rfl, rfl⟩

theorem RS.new {B : Nat} {w : World} {p : Option Addr} {n c : Nat} {zs : List Int} (h : Bytes B w p n zs) (hn : n ≤ c) (hc : c ≤ maxLen) (hB : B ≤ w.heap.size) : RS B (w.alloc (.cells #[.slice p n c] 64)) w.heap.size p n c zs :=
  ⟨heap_alloc_new w _, h.below ((Below.refl _ _).alloc hB _), hn, hc, hB⟩

theorem heap_set0 {w : World} {b : Nat} {v u : Value} (h : w.heap[b]? = some (.cells #[v] 64 (0, 0))) : (w.setCell ⟨b, 0, none⟩ u).heap[b]? = some (.cells #[u] 64 (0, 0)) := by
  simp [World.setCell, Array.getElem?_modify, h]

theorem grown_setCell (w : World) (a : Addr) (u : Value) : w.grownBy (w.setCell a u) (some a.block) :=
  ⟨rfl, rfl, rfl, by simp [World.setCell], fun k hk hne => Below.heap_setCell w a u k (fun e => hne (by rw [e]))⟩
theorem grown_trans {a b c : World} {r : Option Nat} (h : a.grownBy b r) (k : b.grownBy c r) : a.grownBy c r :=
  ⟨k.os.trans h.os, k.tape.trans h.tape, k.output.trans h.output, Nat.le_trans h.size k.size, fun i hi hne => (k.block i (Nat.lt_of_lt_of_le hi h.size) hne).trans (h.block i hi hne)⟩
theorem grown_of {w w' : World} (r : Option Nat) (h : Below w.heap.size w w') : w.grownBy w' r := ⟨h.os, h.tape, h.output, h.size, fun k hk _ => h.block k hk⟩

/-- What a struct result's store leaves: the Reader's block turned, all else that was there as it was. -/
theorem after_store {w w1 : World} {b : Nat} {old : Value} (hb : w1.heap[b]? = some (.cells #[old] 64 (0, 0))) (hne : b ≠ w.heap.size) (v x y z : Value) (hs : w.heap.size < w1.heap.size) (o : Obj) :
    (((((w1.setCell ⟨b, 0, none⟩ v).setCell ⟨w.heap.size, 0, none⟩ x).setCell ⟨w.heap.size, 1, none⟩ y).setCell ⟨w.heap.size, 2, none⟩ z).alloc o).heap[b]? = some (.cells #[v] 64 (0, 0)) ∧
    (∀ (B : Nat), B ≤ w.heap.size → B ≤ b → Below B w1 (((((w1.setCell ⟨b, 0, none⟩ v).setCell ⟨w.heap.size, 0, none⟩ x).setCell ⟨w.heap.size, 1, none⟩ y).setCell ⟨w.heap.size, 2, none⟩ z).alloc o)) ∧
    (Below w.heap.size w w1 → w.grownBy (((((w1.setCell ⟨b, 0, none⟩ v).setCell ⟨w.heap.size, 0, none⟩ x).setCell ⟨w.heap.size, 1, none⟩ y).setCell ⟨w.heap.size, 2, none⟩ z).alloc o) (some b)) := by
  have hlt : b < w1.heap.size := (Array.getElem?_eq_some_iff.1 hb).1
  have hsz : ((((w1.setCell ⟨b, 0, none⟩ v).setCell ⟨w.heap.size, 0, none⟩ x).setCell ⟨w.heap.size, 1, none⟩ y).setCell ⟨w.heap.size, 2, none⟩ z).heap.size = w1.heap.size := by simp [World.setCell]
  have hk : ∀ k, k < w1.heap.size → k ≠ w.heap.size → (((((w1.setCell ⟨b, 0, none⟩ v).setCell ⟨w.heap.size, 0, none⟩ x).setCell ⟨w.heap.size, 1, none⟩ y).setCell ⟨w.heap.size, 2, none⟩ z).alloc o).heap[k]? = (w1.setCell ⟨b, 0, none⟩ v).heap[k]? := by
    intro k h1 h2
    rw [Below.heap_alloc _ _ _ (by rw [hsz]; exact h1), Below.heap_setCell _ _ _ _ h2, Below.heap_setCell _ _ _ _ h2, Below.heap_setCell _ _ _ _ h2]
  have hbel : ∀ B, B ≤ w.heap.size → B ≤ b → Below B w1 (((((w1.setCell ⟨b, 0, none⟩ v).setCell ⟨w.heap.size, 0, none⟩ x).setCell ⟨w.heap.size, 1, none⟩ y).setCell ⟨w.heap.size, 2, none⟩ z).alloc o) := fun B h1 h2 =>
    (((((Below.refl B w1).setCell (p := ⟨b, 0, none⟩) h2 v).setCell (p := ⟨w.heap.size, 0, none⟩) h1 x).setCell (p := ⟨w.heap.size, 1, none⟩) h1 y).setCell (p := ⟨w.heap.size, 2, none⟩) h1 z).alloc (by rw [hsz]; omega) o
  refine ⟨?_, ?_, ?_⟩
  · rw [hk b hlt hne]
    exact heap_set0 hb
  · intro B h1 h2
    exact hbel B h1 h2
  · intro hbl
    have h0 := hbel 0 (by omega) (by omega)
    refine ⟨h0.os.trans hbl.os, h0.tape.trans hbl.tape, h0.output.trans hbl.output, Nat.le_trans hbl.size h0.size, fun k hkw hkb => ?_⟩
    rw [hk k (by omega) (by omega), Below.heap_setCell _ _ _ _ (fun e => hkb (by rw [e])), hbl.block k hkw]

set_option maxRecDepth 20000 in
set_option maxHeartbeats 1000000 in
theorem rNext (B b n c : Nat) (p : Option Addr) (tag : Int) (zs rest : List Int) (w : World) (ht : (bits .and .u8 tag 31 != 31) = true) (hm : zs.length < 65536) (h : RS B w b p n c (tlv tag zs ++ rest)) :
    Calls Ybaf.prog 32 #[.pointer (some ⟨b, 0, none⟩)] w fun e w' => ElemIs B tag zs e w' ∧ (∃ p' c', RS B w' b p' rest.length c' rest) ∧ w.grownBy w' (some b) := by
  obtain ⟨hl, hx | ⟨g, o, rfl, hg, hc⟩⟩ := h.bytes
  · have := tlv_le tag zs; simp at hl; omega
  have h0 := h.c0
  have f0 := h.f0
  have hlt := h.lt
  have hab := h.above
  have hE := fun x => ((Below.refl _ w).alloc (Nat.le_refl _) x)
  have h0' : ∀ x, (w.alloc x).cell? ⟨b, 0, none⟩ = some (.slice (some ⟨g, o, none⟩) n c) := fun x => by rw [(hE x).cell hlt]; exact h0
  have HC := hid hc
  have HE := hid hE
  clear hc hE
  go_enter Ybaf.func32, Ybaf.ntmps32
  go_wp2_with fail
  have hrs := h.on (HE.out (Obj.cells #[Value.int IntKind.u8 0, Value.slice none 0 0, Value.slice none 0 0] 26))
  refine (next_any B g o n c tag zs rest _ (by simp; omega) ht hm hrs.bytes h.le h.cap).mono ?_
  rintro e w1 ⟨p1, p2, k2, p3, c3, rfl, b1, b3, hle3, hcap3, hb1⟩
  have hrs1 := hrs.on hb1
  have h1 := hrs1.c0
  have f1 := hrs1.f0
  have hs1 : w.heap.size < w1.heap.size := by have := hb1.size; simp at this; omega
  have hrc : w1.heap[w.heap.size]? = some (Obj.cells #[Value.int IntKind.u8 0, Value.slice none 0 0, Value.slice none 0 0] 26 (0, 0)) := by rw [hb1.block w.heap.size (by simp)]; exact heap_alloc_new w _
  have hbw1 : b < w1.heap.size := by omega
  have hbne : b ≠ w.heap.size := by omega
  have hbne' : w.heap.size ≠ b := by omega
  have r0 : w1.cell? ⟨w.heap.size, 0, none⟩ = some (.int .u8 0) := by simp [World.cell?, hrc]
  have r1 : w1.cell? ⟨w.heap.size, 1, none⟩ = some (.slice none 0 0) := by simp [World.cell?, hrc]
  have r2 : w1.cell? ⟨w.heap.size, 2, none⟩ = some (.slice none 0 0) := by simp [World.cell?, hrc]
  have q0 : w1.frozen? ⟨w.heap.size, 0, none⟩ = false := by simp [World.frozen?, hrc]
  have q1 : w1.frozen? ⟨w.heap.size, 1, none⟩ = false := by simp [World.frozen?, hrc]
  have q2 : w1.frozen? ⟨w.heap.size, 2, none⟩ = false := by simp [World.frozen?, hrc]
  go_wp2_with fail
  refine bodyPost_ret (v := .tuple #[.agg #[.int .u8 tag, .slice p1 zs.length zs.length, .slice p2 k2 k2], .nilIface]) (by simp [results, Ybaf.results32, go_sem, r0, r1, r2, hs1]) rfl ?_
  have hW := after_store (w := w) hrs1.blk hbne (.slice p3 rest.length c3) (.int .u8 tag) (.slice p1 zs.length zs.length) (.slice p2 k2 k2) hs1 (Obj.cells #[Value.int IntKind.u8 tag, Value.slice p1 zs.length zs.length, Value.slice p2 k2 k2] 26)
  have hB1 := hW.2.1 B (by omega) hab
  refine ⟨⟨p1, p2, k2, rfl, b1.below hB1⟩, ⟨p3, c3, hW.1, b3.below hB1, hle3, hcap3, hab⟩, ?_⟩
  exact hW.2.2 (nxt (HE.out _) hb1)

end Go.Proofs.YbulkayaiFmt.A
