/-
  TWO PARSERS SIDE BY SIDE.
-/
import Derived.Test.YbulkaxzgWalksG
namespace Go.Proofs.Ybulkaxzg.W
open Go.RowKit
set_option linter.unusedVariables false

theorem Row.below {w w' : World} {a : Option Addr} {len cap : Nat} {zs : List Int} (h : Row w a len cap zs) (hb : Below w.heap.size w w') : Row w' a len cap zs := by
  obtain h | ⟨x, rfl, h1, h2, h3, h4, h5⟩ := h
  · exact .inl h
  · refine .inr ⟨x, rfl, h1, h2, h3, fun i hi => ?_, h5⟩
    rw [hb.cell (lt_of_cell (h4 i hi))]
    exact h4 i hi

theorem Bytes.block_lt {w : World} {p : Option Addr} {n : Nat} {zs : List Int} (h : Bytes w p n zs) : ∀ x, p = some x → 0 < n → x.block < w.heap.size := by
  rintro x rfl hpos
  obtain ⟨_, h | ⟨g, o, he, h⟩⟩ := h
  · omega
  · simp at he
    subst he
    exact lt_of_cell (h 0 hpos)

theorem Row.allBytes {w : World} {a : Option Addr} {len cap : Nat} {zs : List Int} (h : Row w a len cap zs) : AllBytes (zs.take len) := by
  have hb : ∀ x ∈ zs, 0 ≤ x ∧ x ≤ 255 := by
    obtain ⟨_, _, _, rfl⟩ | ⟨x, _, _, _, _, _, h5⟩ := h
    · simp
    · intro x hx
      have := h5 x hx
      simp [Lit.wf, IntKind.min, IntKind.max, IntKind.bits, IntKind.signed] at this
      omega
  intro i
  by_cases hi : i < (zs.take len).length
  · have hm : (zs.take len)[i] ∈ zs := List.mem_of_mem_take (List.getElem_mem hi)
    have := hb _ hm
    simpa [List.getD, List.getElem?_eq_getElem hi] using this
  · simp [List.getD, List.getElem?_eq_none (by omega : (zs.take len).length ≤ i)]

theorem bclone_new (a : Option Addr) (len cap : Nat) (zs : List Int) (w : World) (h : Row w a len cap zs) (hn : len ≤ 4096) :
    Calls Yba.prog 7 #[.slice a len cap] w fun e w' => ∃ p c, e = .returned (.slice p len c) ∧ len ≤ c ∧ c ≤ 4096 ∧ Bytes w' p len (zs.take len) ∧ (∀ x, p = some x → 0 < len → w.heap.size ≤ x.block) ∧ Below w.heap.size w w' := by
  have hb := h.bytes
  obtain ⟨rfl, rfl, rfl, rfl⟩ | ⟨x, rfl, h1, h2, h3, h4, h5⟩ := h
  · refine (bclone_nil w).mono ?_
    rintro e w' ⟨rfl, rfl⟩
    exact ⟨none, 0, rfl, Nat.le_refl _, by omega, hb, by simp, Below.refl _ _⟩
  · refine (bclone_some x len cap (zs.take len) w hb.1 hn (fun i hi => by rw [take_getD _ _ _ hi]; exact h4 i (by omega))).mono ?_
    rintro e w' ⟨rfl, hc⟩
    exact ⟨_, len, rfl, Nat.le_refl _, hn, copied_bytes hb.1 hc, by simp, hc.2.2.1⟩

theorem grown_of_below {w w' : World} (h : Below w.heap.size w w') : w.grownBy w' Option.none := ⟨h.os, h.tape, h.output, h.size, fun k hk _ => h.block k hk⟩

/-- A call that turns another parser's block. -/
theorem PS.other {w w' : World} {b r : Nat} {p : Option Addr} {n c : Nat} {f : Bool} {zs : List Int} (h : PS w b p n c f zs) (hg : w.grownBy w' (some r)) (hbr : b ≠ r) (hne : ∀ x, p = some x → 0 < n → x.block ≠ r) : PS w' b p n c f zs := by
  refine ⟨by rw [hg.block b h.lt (by simpa using hbr)]; exact h.blk, ?_, h.le, h.cap, h.ne⟩
  obtain ⟨h1, h2⟩ := h.bytes
  refine ⟨h1, ?_⟩
  obtain h2 | ⟨g, o, rfl, h2⟩ := h2
  · exact .inl h2
  · by_cases h0 : n = 0
    · exact .inl h0
    · exact .inr ⟨g, o, rfl, fun i hi => hg.cell (h2 i hi) (by simpa using hne ⟨g, o, none⟩ rfl (by omega))⟩

theorem u24_ps2 {w : World} {b : Nat} {p : Option Addr} {n c : Nat} {zs : List Int} (r : Nat) (hr : ∀ x, p = some x → 0 < n → x.block ≠ r) (h : PS w b p n c false zs) (hn : 3 ≤ n) (hz : AllBytes zs) :
    Calls Yba.prog 8 #[.pointer (some ⟨b, 0, none⟩)] w fun e w' => ∃ p', e = .returned (.int .i64 (zs.getD 0 0 * 65536 + zs.getD 1 0 * 256 + zs.getD 2 0)) ∧ PS w' b p' (n - 3) (c - 3) false (zs.drop 3) ∧ (∀ x, p' = some x → x.block ≠ r) ∧ w.grownBy w' (some b) := by
  obtain ⟨_, hx | ⟨g, o, rfl, hc⟩⟩ := h.bytes
  · omega
  have h0 := h.c0
  have h1 := h.c1
  have f0 := h.f0
  have hne := h.ne ⟨g, o, none⟩ rfl (by omega)
  have hle := h.le
  have hcap : c ≤ maxLen := by have := h.cap; unfold maxLen; omega
  have x0 := hc 0 (by omega)
  have x1 := hc 1 (by omega)
  have x2 := hc 2 (by omega)
  have b0 := hz 0
  have b1 := hz 1
  have b2 := hz 2
  have hP := h.past hn (by omega)
  have hG := grown_setCell w ⟨b, 0, none⟩ (.slice (some (past g o c 3)) (n - 3) (c - 3))
  have hrr : ∀ x, some (past g o c 3) = some x → x.block ≠ r := by
    intro x hx
    simp at hx
    subst hx
    have hb : (past g o c 3).block = g := by unfold past; split <;> rfl
    rw [hb]
    exact hr ⟨g, o, none⟩ rfl (by omega)
  have HR := hid hrr
  clear hrr hr
  generalize zs.getD 0 0 = x at x0 b0 ⊢
  generalize zs.getD 1 0 = y at x1 b1 ⊢
  generalize zs.getD 2 0 = z at x2 b2 ⊢
  have hu := fun w' (h1 : w'.cell? ⟨g, o, none⟩ = _) h2 h3 => u24fn g o 3 3 x y z w' (by omega) b0.1 b0.2 b1.1 b1.2 b2.1 b2.2 h1 h2 h3
  have hu' := hu _ (cell_setCell_ne (a := ⟨b, 0, none⟩) (u := .slice (some (past g o c 3)) (n - 3) (c - 3)) x0 hne) (cell_setCell_ne x1 hne) (cell_setCell_ne x2 hne)
  have HU := hid (hu')
  clear hu hu' x0 x1 x2 b0 b1 b2 hc
  go_enter Yba.func8, Yba.ntmps8
  go_wp2_with fail
  refine (take_ok b n c g o _ _ (by omega) (by omega) hle hcap h0 h1 f0).mono ?_
  rintro e w' ⟨rfl, rfl⟩
  go_wp2_with fail
  refine HU.out.mono ?_
  rintro e w' ⟨rfl, m, rfl⟩
  go_wp2
  go_ret
  exact ⟨_, rfl, hP.drewN m, HR.out, grown_drewN hG m⟩

/-- uint8, then uint16, on a parser with fewer than three bytes: it ends failed. -/
theorem pair_end8 {w : World} {b : Nat} {p : Option Addr} {n c : Nat} {zs : List Int} (h : PS w b p n c false zs) (hn : n < 3) :
    Calls Yba.prog 10 #[.pointer (some ⟨b, 0, none⟩)] w fun e w' => ∃ (x : Int) (p' : Option Addr) (n' c' : Nat) (f' : Bool) (zs' : List Int), e = .returned (.int .u8 x) ∧ PS w' b p' n' c' f' zs' ∧ (f' = true ∨ n' < 2) ∧ w.grownBy w' (some b) := by
  by_cases h0 : n = 0
  · subst h0
    refine (u8_ps_end h).mono ?_
    rintro e w' ⟨rfl, hp, hg⟩
    exact ⟨_, _, _, _, _, _, rfl, hp, .inl rfl, hg⟩
  · refine (u8_ps h (by omega)).mono ?_
    rintro e w' ⟨p', rfl, hp, hg⟩
    exact ⟨_, _, _, _, _, _, rfl, hp, .inr (by omega), hg⟩

end Go.Proofs.Ybulkaxzg.W
