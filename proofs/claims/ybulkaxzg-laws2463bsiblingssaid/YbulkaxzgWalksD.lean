/-
  WHAT THE LAWS' WALKS SHARE: the argument's bytes, the copy of a slice that came in.
-/
import Derived.Test.YbulkaxzgWalksC
namespace Go.Proofs.Ybulkaxzg.W
open Go.RowKit
set_option linter.unusedVariables false

/-- (The shells' 'IsRow' at bytes.) -/
def Row (w : World) (a : Option Addr) (len cap : Nat) (zs : List Int) : Prop :=
  (a = none ∧ len = 0 ∧ cap = 0 ∧ zs = []) ∨
  ∃ x, a = some x ∧ len ≤ cap ∧ cap ≤ maxLen ∧ zs.length = cap ∧ (∀ i, i < zs.length → w.cell? (x.add i) = some (.int .u8 (zs.getD i 0))) ∧ ∀ n ∈ zs, (Lit.int .u8 n).wf = true

theorem lt_of_cell {w : World} {a : Addr} {v : Value} (h : w.cell? a = some v) : a.block < w.heap.size := by
  by_cases hlt : a.block < w.heap.size
  · exact hlt
  · simp [World.cell?, Array.getElem?_eq_none (by omega : w.heap.size ≤ a.block)] at h

theorem Bytes.below {w w' : World} {p : Option Addr} {n : Nat} {zs : List Int} (h : Bytes w p n zs) (hb : Below w.heap.size w w') : Bytes w' p n zs := by
  obtain ⟨h1, h2⟩ := h
  refine ⟨h1, ?_⟩
  obtain h2 | ⟨g, o, rfl, h2⟩ := h2
  · exact .inl h2
  · exact .inr ⟨g, o, rfl, fun i hi => by rw [hb.cell (lt_of_cell (h2 i hi))]; exact h2 i hi⟩

theorem Bytes.alloc {w : World} {p : Option Addr} {n : Nat} {zs : List Int} (h : Bytes w p n zs) (o : Obj) : Bytes (w.alloc o) p n zs := h.below ((Below.refl _ _).alloc (Nat.le_refl _) o)

theorem Bytes.drewN {w : World} {p : Option Addr} {n : Nat} {zs : List Int} (h : Bytes w p n zs) (m : Nat) : Bytes (w.drewN m) p n zs := h

/-- What is left behind the first k bytes. -/
theorem Bytes.past {w : World} {g o n c k : Nat} {zs : List Int} (h : Bytes w (some ⟨g, o, none⟩) n zs) (hk : k ≤ n) (hc : n ≤ c) : Bytes w (some (past g o c k)) (n - k) (zs.drop k) := by
  obtain ⟨h1, h2⟩ := h
  refine ⟨by simp [h1], ?_⟩
  by_cases h0 : n - k = 0
  · exact .inl h0
  · obtain h2 | ⟨g', o', he, h2⟩ := h2
    · omega
    · simp at he
      obtain ⟨rfl, rfl⟩ := he
      refine .inr ⟨g, o + k, by unfold W.past; rw [if_neg (by omega)], fun i hi => ?_⟩
      have := h2 (k + i) (by omega)
      rw [Nat.add_assoc, this]
      simp

/-- A store into a block that the bytes do not lie in. -/
theorem Bytes.setCell {w : World} {p : Option Addr} {n : Nat} {zs : List Int} (h : Bytes w p n zs) (a : Addr) (v : Value) (hne : ∀ x, p = some x → 0 < n → x.block ≠ a.block) : Bytes (w.setCell a v) p n zs := by
  obtain ⟨h1, h2⟩ := h
  refine ⟨h1, ?_⟩
  obtain h2 | ⟨g, o, rfl, h2⟩ := h2
  · exact .inl h2
  · by_cases h0 : n = 0
    · exact .inl h0
    refine .inr ⟨g, o, rfl, fun i hi => ?_⟩
    rw [World.cell?_of_block (w := w) (Below.heap_setCell w a v g (hne _ rfl (by omega)))]
    exact h2 i hi

theorem add_plain0 (b o i : Nat) : (⟨b, o, none⟩ : Addr).add i = ⟨b, o + i, none⟩ := by unfold Addr.add; split <;> simp_all

theorem take_getD (zs : List Int) (n i : Nat) (h : i < n) : (zs.take n).getD i 0 = zs.getD i 0 := by
  simp [h]

theorem Row.bytes {w : World} {a : Option Addr} {len cap : Nat} {zs : List Int} (h : Row w a len cap zs) : Bytes w a len (zs.take len) := by
  obtain ⟨rfl, rfl, rfl, rfl⟩ | ⟨x, rfl, h1, h2, h3, h4, h5⟩ := h
  · exact ⟨rfl, .inl rfl⟩
  · refine ⟨by simp; omega, ?_⟩
    by_cases h0 : len = 0
    · exact .inl h0
    · obtain ⟨b, off, spot⟩ := x
      have hs : spot = none := by simpa [Addr.add] using World.cell?_spot (h4 0 (by omega))
      subst hs
      exact .inr ⟨b, off, rfl, fun i hi => by rw [take_getD _ _ _ hi]; rw [← add_plain0]; exact h4 i (by omega)⟩

theorem copied_bytes {w w' : World} {n : Nat} {zs : List Int} (hz : zs.length = n) (h : Copied zs w w.heap.size w') : Bytes w' (some ⟨w.heap.size, 0, none⟩) n zs := by
  obtain ⟨_, h1, _, _⟩ := h
  refine ⟨hz, .inr ⟨_, _, rfl, fun i hi => ?_⟩⟩
  simp [World.cell?, h1, cellsOf, hz, hi]

theorem ccopy_any (a : Option Addr) (len cap : Nat) (zs : List Int) (w : World) (h : Row w a len cap zs) (hn : len ≤ 4096) :
    Calls Yba.prog 12 #[.slice a len cap] w fun e w' => ∃ p c, e = .returned (.slice p len c) ∧ len ≤ c ∧ c ≤ 4096 ∧ Bytes w' p len (zs.take len) ∧ Below w.heap.size w w' := by
  have hb := h.bytes
  obtain ⟨rfl, rfl, rfl, rfl⟩ | ⟨x, rfl, h1, h2, h3, h4, h5⟩ := h
  · refine (ccopy_nil w).mono ?_
    rintro e w' ⟨rfl, rfl⟩
    exact ⟨none, 0, rfl, Nat.le_refl _, by omega, hb, Below.refl _ _⟩
  · refine (ccopy_some x len cap (zs.take len) w hb.1 hn (fun i hi => by rw [take_getD _ _ _ hi]; exact h4 i (by omega))).mono ?_
    rintro e w' ⟨rfl, hc⟩
    exact ⟨_, len, rfl, Nat.le_refl _, hn, copied_bytes hb.1 hc, hc.2.2.1⟩

theorem bclone_any (a : Option Addr) (len cap : Nat) (zs : List Int) (w : World) (h : Row w a len cap zs) (hn : len ≤ 4096) :
    Calls Yba.prog 7 #[.slice a len cap] w fun e w' => ∃ p c, e = .returned (.slice p len c) ∧ len ≤ c ∧ c ≤ 4096 ∧ Bytes w' p len (zs.take len) ∧ Below w.heap.size w w' := by
  have hb := h.bytes
  obtain ⟨rfl, rfl, rfl, rfl⟩ | ⟨x, rfl, h1, h2, h3, h4, h5⟩ := h
  · refine (bclone_nil w).mono ?_
    rintro e w' ⟨rfl, rfl⟩
    exact ⟨none, 0, rfl, Nat.le_refl _, by omega, hb, Below.refl _ _⟩
  · refine (bclone_some x len cap (zs.take len) w hb.1 hn (fun i hi => by rw [take_getD _ _ _ hi]; exact h4 i (by omega))).mono ?_
    rintro e w' ⟨rfl, hc⟩
    exact ⟨_, len, rfl, Nat.le_refl _, hn, copied_bytes hb.1 hc, hc.2.2.1⟩

end Go.Proofs.Ybulkaxzg.W
