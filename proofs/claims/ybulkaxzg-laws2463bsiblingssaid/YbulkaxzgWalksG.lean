/-
  uint24 and uint16 on a parser as a state.
-/
import Derived.Test.YbulkaxzgWalksF
namespace Go.Proofs.Ybulkaxzg.W
open Go.RowKit
set_option linter.unusedVariables false

theorem hid {p : Prop} (h : p) : Hid p := h

/-- A callee's contract met behind an earlier draw. -/
theorem quiet_of2 {P : Program} {f : FuncId} {args : Array Value} {w : World} {k n : Nat} {v : Value}
    (h : Calls P f args (w.drewN (k + n)) fun e w' => e = .returned v ∧ ∃ m, w' = (w.drewN (k + n)).drewN m) : Calls P f args (w.drewN (k + n)) fun e w'' => e = .returned v ∧ ∃ m, w'' = w.drewN (k + m) :=
  h.mono fun _ _ ⟨he, m, hm⟩ => ⟨he, n + m, by rw [hm, World.drewN_drewN, Nat.add_assoc]⟩

theorem grown_drewN {w w' : World} {r : Option Nat} (h : w.grownBy w' r) (m : Nat) : w.grownBy (w'.drewN m) r := ⟨h.os, h.tape, h.output, h.size, h.block⟩
theorem grown_trans {a b c : World} {r : Option Nat} (h : a.grownBy b r) (k : b.grownBy c r) : a.grownBy c r :=
  ⟨k.os.trans h.os, k.tape.trans h.tape, k.output.trans h.output, Nat.le_trans h.size k.size, fun i hi hne => (k.block i (Nat.lt_of_lt_of_le hi h.size) hne).trans (h.block i hi hne)⟩
theorem grown_none {a b : World} (r : Option Nat) (h : a.grownBy b Option.none) : a.grownBy b r := ⟨h.os, h.tape, h.output, h.size, fun i hi _ => h.block i hi (by simp)⟩

theorem cell_setCell_ne {w : World} {a p : Addr} {v u : Value} (h : w.cell? p = some v) (hne : p.block ≠ a.block) : (w.setCell a u).cell? p = some v := by
  rw [World.cell?_of_block (w := w) (Below.heap_setCell w a u p.block hne)]; exact h

theorem PS.grown {w w' : World} {b : Nat} {p : Option Addr} {n c : Nat} {f : Bool} {zs : List Int} (h : PS w b p n c f zs) (hg : w.grownBy w' Option.none) : PS w' b p n c f zs :=
  ⟨by rw [hg.block b h.lt (by simp)]; exact h.blk, h.bytes.below ⟨hg.os, hg.tape, hg.output, hg.size, fun k hk => hg.block k hk (by simp)⟩, h.le, h.cap, h.ne⟩

/-- A failed read, of whatever width. -/
theorem u24_end {w : World} {b : Nat} {p : Option Addr} {n c : Nat} {f : Bool} {zs : List Int} (h : PS w b p n c f zs) (hf : f = true ∨ n < 3) :
    Calls Yba.prog 8 #[.pointer (some ⟨b, 0, none⟩)] w fun e w' => e = .returned (.int .i64 0) ∧ PS w' b p n c true zs ∧ w.grownBy w' (some b) := by
  have h0 := h.c0
  have h1 := h.c1
  have f1 := h.f1
  have HP := hid (h.failed)
  have HG := hid (grown_setCell w ⟨b, 1, none⟩ (.bool true))
  cases f with
  | true =>
    go_enter Yba.func8, Yba.ntmps8
    go_wp2_with (go_at_call 15; refine (take_failed b _ _ h1 f1).mono ?_; rintro e w' ⟨rfl, rfl⟩)
    go_ret
    exact ⟨rfl, HP.out, HG.out⟩
  | false =>
    have hn : n < 3 := by simpa using hf
    go_enter Yba.func8, Yba.ntmps8
    go_wp2_with (go_at_call 15; refine (take_short b n c p _ _ (by omega) h0 h1 f1).mono ?_; rintro e w' ⟨rfl, rfl⟩)
    go_ret
    exact ⟨rfl, HP.out, HG.out⟩

theorem u16_end {w : World} {b : Nat} {p : Option Addr} {n c : Nat} {f : Bool} {zs : List Int} (h : PS w b p n c f zs) (hf : f = true ∨ n < 2) :
    Calls Yba.prog 11 #[.pointer (some ⟨b, 0, none⟩)] w fun e w' => e = .returned (.int .u16 0) ∧ PS w' b p n c true zs ∧ w.grownBy w' (some b) := by
  have h0 := h.c0
  have h1 := h.c1
  have f1 := h.f1
  have HP := hid (h.failed)
  have HG := hid (grown_setCell w ⟨b, 1, none⟩ (.bool true))
  cases f with
  | true =>
    go_enter Yba.func11, Yba.ntmps11
    go_wp2_with (go_at_call 15; refine (take_failed b _ _ h1 f1).mono ?_; rintro e w' ⟨rfl, rfl⟩)
    go_ret
    exact ⟨rfl, HP.out, HG.out⟩
  | false =>
    have hn : n < 2 := by simpa using hf
    go_enter Yba.func11, Yba.ntmps11
    go_wp2_with (go_at_call 15; refine (take_short b n c p _ _ (by omega) h0 h1 f1).mono ?_; rintro e w' ⟨rfl, rfl⟩)
    go_ret
    exact ⟨rfl, HP.out, HG.out⟩

/-- The bytes of a list are bytes. -/
def AllBytes (zs : List Int) : Prop := ∀ i, 0 ≤ zs.getD i 0 ∧ zs.getD i 0 ≤ 255

theorem u24_ps {w : World} {b : Nat} {p : Option Addr} {n c : Nat} {zs : List Int} (h : PS w b p n c false zs) (hn : 3 ≤ n) (hz : AllBytes zs) :
    Calls Yba.prog 8 #[.pointer (some ⟨b, 0, none⟩)] w fun e w' => ∃ p', e = .returned (.int .i64 (zs.getD 0 0 * 65536 + zs.getD 1 0 * 256 + zs.getD 2 0)) ∧ PS w' b p' (n - 3) (c - 3) false (zs.drop 3) ∧ w.grownBy w' (some b) := by
  obtain ⟨_, hx | ⟨g, o, rfl, hc⟩⟩ := h.bytes
  · omega
  have h0 := h.c0
  have h1 := h.c1
  have f0 := h.f0
  have hne := h.ne ⟨g, o, none⟩ rfl (by omega)
  have hle := h.le
  have hcap : c ≤ maxLen := by have := h.cap; unfold maxLen; omega
  have x0 := hc 0 (by omega)
  have x1 := hc 1 (by omega)
  have x2 := hc 2 (by omega)
  have b0 := hz 0
  have b1 := hz 1
  have b2 := hz 2
  have hP := h.past hn (by omega)
  have hG := grown_setCell w ⟨b, 0, none⟩ (.slice (some (past g o c 3)) (n - 3) (c - 3))
  generalize zs.getD 0 0 = x at x0 b0 ⊢
  generalize zs.getD 1 0 = y at x1 b1 ⊢
  generalize zs.getD 2 0 = z at x2 b2 ⊢
  have hu := fun w' (h1 : w'.cell? ⟨g, o, none⟩ = _) h2 h3 => u24fn g o 3 3 x y z w' (by omega) b0.1 b0.2 b1.1 b1.2 b2.1 b2.2 h1 h2 h3
  have hu' := hu _ (cell_setCell_ne (a := ⟨b, 0, none⟩) (u := .slice (some (past g o c 3)) (n - 3) (c - 3)) x0 hne) (cell_setCell_ne x1 hne) (cell_setCell_ne x2 hne)
  have HU := hid (hu')
  clear hu hu' x0 x1 x2 b0 b1 b2 hc
  go_enter Yba.func8, Yba.ntmps8
  go_wp2_with fail
  refine (take_ok b n c g o _ _ (by omega) (by omega) hle hcap h0 h1 f0).mono ?_
  rintro e w' ⟨rfl, rfl⟩
  go_wp2_with fail
  refine HU.out.mono ?_
  rintro e w' ⟨rfl, m, rfl⟩
  go_wp2
  go_ret
  exact ⟨_, rfl, hP.drewN m, grown_drewN hG m⟩

theorem u16_ps {w : World} {b : Nat} {p : Option Addr} {n c : Nat} {zs : List Int} (h : PS w b p n c false zs) (hn : 2 ≤ n) (hz : AllBytes zs) :
    Calls Yba.prog 11 #[.pointer (some ⟨b, 0, none⟩)] w fun e w' => ∃ p', e = .returned (.int .u16 (zs.getD 0 0 * 256 + zs.getD 1 0)) ∧ PS w' b p' (n - 2) (c - 2) false (zs.drop 2) ∧ w.grownBy w' (some b) := by
  obtain ⟨_, hx | ⟨g, o, rfl, hc⟩⟩ := h.bytes
  · omega
  have h0 := h.c0
  have h1 := h.c1
  have f0 := h.f0
  have hne := h.ne ⟨g, o, none⟩ rfl (by omega)
  have hle := h.le
  have hcap : c ≤ maxLen := by have := h.cap; unfold maxLen; omega
  have x0 := hc 0 (by omega)
  have x1 := hc 1 (by omega)
  have b0 := hz 0
  have b1 := hz 1
  have hP := h.past hn (by omega)
  have hG := grown_setCell w ⟨b, 0, none⟩ (.slice (some (past g o c 2)) (n - 2) (c - 2))
  generalize zs.getD 0 0 = x at x0 b0 ⊢
  generalize zs.getD 1 0 = y at x1 b1 ⊢
  have hu := fun w' (h1 : w'.cell? ⟨g, o, none⟩ = _) h2 => be16 g o 2 2 x y w' (by omega) b0.1 b0.2 b1.1 b1.2 h1 h2
  have hu' := hu _ (cell_setCell_ne (a := ⟨b, 0, none⟩) (u := .slice (some (past g o c 2)) (n - 2) (c - 2)) x0 hne) (cell_setCell_ne x1 hne)
  have HU := hid hu'
  clear hu hu' x0 x1 b0 b1 hc
  go_enter Yba.func11, Yba.ntmps11
  go_wp2_with fail
  refine (take_ok b n c g o _ _ (by omega) (by omega) hle hcap h0 h1 f0).mono ?_
  rintro e w' ⟨rfl, rfl⟩
  go_wp2_with fail
  refine HU.out.mono ?_
  rintro e w' ⟨rfl, hg⟩
  go_wp2
  go_ret
  exact ⟨_, rfl, hP.grown hg, grown_trans hG (grown_none _ hg)⟩

end Go.Proofs.Ybulkaxzg.W
