/-
  BYTES IN MEMORY, AND THE PLAIN FUNCTIONS: the length octets, the encoding of one value. No Go in sight.
-/
import Derived.Test.YbulkayaiFmtRows
import Derived.WalkKit
import Derived.WalkSpells
import Derived.WalkLawsBesides
import Derived.Deep.AppendLies
import Derived.Laws.AppendOwnNone
namespace Go.Proofs.YbulkayaiFmt.A
open Go.RowKit
set_option linter.unusedVariables false

theorem hid {p : Prop} (h : p) : Hid p := h

/-- The bytes as cells. -/
def cellsOf (zs : List Int) : List Value := zs.map (Value.int .u8)
theorem cellsOf_length (zs : List Int) : (cellsOf zs).length = zs.length := by simp [cellsOf]
theorem cellsOf_append (xs ys : List Int) : cellsOf (xs ++ ys) = cellsOf xs ++ cellsOf ys := by simp [cellsOf]
theorem cellsOf_one (zs : List Int) : ∀ v ∈ cellsOf zs, v.oneCell' = true := by
  intro v hv; simp [cellsOf] at hv; obtain ⟨n, _, rfl⟩ := hv; rfl
theorem cellsOf_get {zs : List Int} {j : Nat} {v : Value} (h : (cellsOf zs)[j]? = some v) : j < zs.length ∧ v = .int .u8 (zs.getD j 0) := by
  simp [cellsOf] at h
  obtain ⟨n, hn, rfl⟩ := h
  have := List.getElem?_eq_some_iff.1 hn
  obtain ⟨h1, h2⟩ := this
  exact ⟨h1, by simp [hn]⟩

/-- The n bytes from p on are zs; they lie below block B. -/
def Bytes (B : Nat) (w : World) (p : Option Addr) (n : Nat) (zs : List Int) : Prop :=
  zs.length = n ∧ (n = 0 ∨ ∃ g o, p = some ⟨g, o, none⟩ ∧ g < B ∧ ∀ i, i < n → w.cell? ⟨g, o + i, none⟩ = some (.int .u8 (zs.getD i 0)))

theorem lt_of_cell {w : World} {a : Addr} {v : Value} (h : w.cell? a = some v) : a.block < w.heap.size := by
  by_cases hlt : a.block < w.heap.size
  · exact hlt
  · simp [World.cell?, Array.getElem?_eq_none (by omega : w.heap.size ≤ a.block)] at h

theorem Bytes.below {B : Nat} {w w' : World} {p : Option Addr} {n : Nat} {zs : List Int} (h : Bytes B w p n zs) (hb : Below B w w') : Bytes B w' p n zs := by
  obtain ⟨h1, h2⟩ := h
  refine ⟨h1, ?_⟩
  obtain h2 | ⟨g, o, rfl, hg, h2⟩ := h2
  · exact .inl h2
  · exact .inr ⟨g, o, rfl, hg, fun i hi => by rw [hb.cell hg]; exact h2 i hi⟩

theorem Bytes.mono {B B' : Nat} {w : World} {p : Option Addr} {n : Nat} {zs : List Int} (h : Bytes B w p n zs) (hB : B ≤ B') : Bytes B' w p n zs := by
  obtain ⟨h1, h2⟩ := h
  refine ⟨h1, ?_⟩
  obtain h2 | ⟨g, o, rfl, hg, h2⟩ := h2
  · exact .inl h2
  · exact .inr ⟨g, o, rfl, Nat.lt_of_lt_of_le hg hB, h2⟩

/-- Bytes that lie anywhere in the heap. -/
theorem Bytes.whole {B : Nat} {w : World} {p : Option Addr} {n : Nat} {zs : List Int} (h : Bytes B w p n zs) : Bytes w.heap.size w p n zs := by
  obtain ⟨h1, h2⟩ := h
  refine ⟨h1, ?_⟩
  obtain h2 | ⟨g, o, rfl, hg, h2⟩ := h2
  · exact .inl h2
  · by_cases h0 : n = 0
    · exact .inl h0
    · exact .inr ⟨g, o, rfl, lt_of_cell (h2 0 (by omega)), h2⟩

theorem Bytes.drewN {B : Nat} {w : World} {p : Option Addr} {n : Nat} {zs : List Int} (h : Bytes B w p n zs) (m : Nat) : Bytes B (w.drewN m) p n zs := h

theorem add_plain0 (b o i : Nat) : (⟨b, o, none⟩ : Addr).add i = ⟨b, o + i, none⟩ := by unfold Addr.add; split <;> simp_all

/-- 'xs[l:h]' of bytes: wherever the model lays its address. -/
theorem Bytes.sub {B : Nat} {w : World} {p : Option Addr} {n : Nat} {zs : List Int} (h : Bytes B w p n zs) (l k : Nat) (hk : l + k ≤ n) (p' : Option Addr) (hp : 0 < k → ∀ g o, p = some ⟨g, o, none⟩ → p' = some ⟨g, o + l, none⟩) :
    Bytes B w p' k ((zs.drop l).take k) := by
  obtain ⟨h1, h2⟩ := h
  refine ⟨by simp; omega, ?_⟩
  by_cases h0 : k = 0
  · exact .inl h0
  · obtain h2 | ⟨g, o, rfl, hg, h2⟩ := h2
    · omega
    · refine .inr ⟨g, o + l, hp (by omega) g o rfl, hg, fun i hi => ?_⟩
      have := h2 (l + i) (by omega)
      rw [Nat.add_assoc, this]
      simp [hi]

/-- What an owned row of bytes holds, read as bytes. -/
theorem own_bytes {w : World} {base g n cap : Nat} {zs : List Int} (h : w.ownsRow base 5 1 (.slice (some ⟨g, 0, none⟩) n cap) n (cellsOf zs)) : Bytes w.heap.size w (some ⟨g, 0, none⟩) n zs := by
  have hl : zs.length = n := by have := h.1; rw [cellsOf_length] at this; omega
  obtain ⟨_, h | ⟨g', cap', cur, hv, hb, hh, hn, hm, hs, ht⟩⟩ := h
  · simp at h
  · simp at hv
    obtain ⟨rfl, rfl⟩ := hv
    refine ⟨hl, .inr ⟨g, 0, rfl, (Array.getElem?_eq_some_iff.1 hh).1, fun i hi => ?_⟩⟩
    have e : cur.toList[i]? = some (.int .u8 (zs.getD i 0)) := by
      have : (cellsOf zs)[i]? = some (.int .u8 (zs.getD i 0)) := by
        simp [cellsOf, List.getElem?_eq_getElem (by omega : i < zs.length)]
      rw [← ht, List.getElem?_take, if_pos (by omega)] at this
      exact this
    simpa [World.cell?, hh] using e

theorem own_le {w : World} {base g n cap : Nat} {xs : List Value} (h : w.ownsRow base 5 1 (.slice (some ⟨g, 0, none⟩) n cap) n xs) : n ≤ cap ∧ cap ≤ maxLen ∧ base ≤ g ∧ g < w.heap.size := by
  obtain ⟨_, h | ⟨g', cap', cur, hv, hb, hh, hn, hm, hs, ht⟩⟩ := h
  · simp at h
  · simp at hv
    obtain ⟨rfl, rfl⟩ := hv
    exact ⟨hn, hm, hb, (Array.getElem?_eq_some_iff.1 hh).1⟩

theorem own_form {w : World} {base n : Nat} {v : Value} {xs : List Value} (h : w.ownsRow base 5 1 v n xs) (hv : v ≠ .slice none 0 0) : ∃ g cap, v = .slice (some ⟨g, 0, none⟩) n cap := by
  obtain ⟨_, h | ⟨g', cap', cur, hv', _⟩⟩ := h
  · exact absurd h.1 hv
  · exact ⟨g', cap', hv'⟩

/-- What the call owns stays owned while nothing that is there turns. -/
theorem own_below {w w' : World} {base n : Nat} {v : Value} {xs : List Value} (h : w.ownsRow base 5 1 v n xs) (hb : Below w.heap.size w w') : w'.ownsRow base 5 1 v n xs := by
  obtain ⟨h1, h | ⟨g', cap', cur, hv, hbb, hh, r⟩⟩ := h
  · exact ⟨h1, .inl h⟩
  · exact ⟨h1, .inr ⟨g', cap', cur, hv, hbb, by rw [hb.block g' (Array.getElem?_eq_some_iff.1 hh).1]; exact hh, r⟩⟩

/-- A new block of bytes, as an owned row. -/
theorem own_alloc (w : World) (base : Nat) (zs : List Int) (hb : base ≤ w.heap.size) (hl : zs.length ≤ maxLen) : (w.alloc (.cells (cellsOf zs).toArray 5)).ownsRow base 5 1 (.slice (some ⟨w.heap.size, 0, none⟩) zs.length zs.length) zs.length (cellsOf zs) := by
  refine ⟨by simp [cellsOf_length], .inr ⟨w.heap.size, zs.length, (cellsOf zs).toArray, rfl, hb, heap_alloc_new w _, Nat.le_refl _, hl, by simp [cellsOf_length], ?_⟩⟩
  simp [List.take_of_length_le, cellsOf_length]

/-- The length octets (zzs2465alen). -/
def lenB (n : Int) : List Int := if n < 128 then [n] else if n < 256 then [129, n] else [130, n / 256, n % 256]
/-- One value: its identifier, length and content octets (zzs2465atlv). -/
def tlv (tag : Int) (c : List Int) : List Int := tag :: (lenB c.length ++ c)

theorem lenB_length (n : Int) : 1 ≤ (lenB n).length ∧ (lenB n).length ≤ 3 := by
  unfold lenB; split
  · simp
  · split <;> simp

end Go.Proofs.YbulkayaiFmt.A
