/-
  THE WALKS of readAll and readSetOf on an empty SET.
-/
import Derived.Test.YbulkayaiFmtSingle
namespace Go.Proofs.YbulkayaiFmt.A
open Go.RowKit
set_option linter.unusedVariables false

theorem readAll_alg (p : Option Addr) (c : Nat) (f : Value) (w : World) (hc : c ≤ maxLen) :
    Calls Ybaf.prog 45 #[.slice p 0 c, f] w fun e w' => e = .returned (.tuple #[.slice none 0 0, .nilIface]) ∧ Below w.heap.size w w' := by
  have hrs := RS.new (B := w.heap.size) (w := w) (p := p) (n := 0) (c := c) (zs := []) ⟨rfl, .inl rfl⟩ (by omega) hc (Nat.le_refl _)
  go_enter Ybaf.func45, Ybaf.ntmps45
  go_wp2_with (go_at_call 22; refine (newReader p 0 c _).mono ?_; rintro e w1 ⟨rfl, rfl⟩)
  refine wp_loop_rounds 1 ?_; rw [rounds_succ]
  go_wp2_with (go_at_call 46; refine (rEmpty _ _ 0 c p [] _ hrs).mono ?_; rintro e w1 ⟨rfl, rfl⟩)
  go_ret2
  exact ⟨rfl, (Below.refl _ _).alloc (Nat.le_refl _) _⟩

theorem readAll_sig (p : Option Addr) (c : Nat) (f : Value) (w : World) (hc : c ≤ maxLen) :
    Calls Ybaf.prog 49 #[.slice p 0 c, f] w fun e w' => e = .returned (.tuple #[.slice none 0 0, .nilIface]) ∧ Below w.heap.size w w' := by
  have hrs := RS.new (B := w.heap.size) (w := w) (p := p) (n := 0) (c := c) (zs := []) ⟨rfl, .inl rfl⟩ (by omega) hc (Nat.le_refl _)
  go_enter Ybaf.func49, Ybaf.ntmps49
  go_wp2_with (go_at_call 22; refine (newReader p 0 c _).mono ?_; rintro e w1 ⟨rfl, rfl⟩)
  refine wp_loop_rounds 1 ?_; rw [rounds_succ]
  go_wp2_with (go_at_call 46; refine (rEmpty _ _ 0 c p [] _ hrs).mono ?_; rintro e w1 ⟨rfl, rfl⟩)
  go_ret2
  exact ⟨rfl, (Below.refl _ _).alloc (Nat.le_refl _) _⟩

set_option maxRecDepth 20000 in
set_option maxHeartbeats 1000000 in
theorem setOf_alg (B b n c : Nat) (p : Option Addr) (f : Value) (rest : List Int) (w : World) (h : RS B w b p n c (tlv 49 [] ++ rest)) :
    Calls Ybaf.prog 33 #[.pointer (some ⟨b, 0, none⟩), f] w fun e w' => e = .returned (.tuple #[.slice none 0 0, .nilIface]) ∧ (∃ p' c', RS B w' b p' rest.length c' rest) ∧ w.grownBy w' (some b) := by
  go_enter Ybaf.func33, Ybaf.ntmps33
  go_wp2_with fail
  refine (rRead B b n c p 49 [] rest _ (by decide) (by simp) h).mono ?_
  rintro e w1 ⟨⟨p1, p2, k2, rfl, b1⟩, ⟨p', c', hrs1⟩, hgr⟩
  rw [show ([] : List Int).length = 0 from rfl]
  go_wp2_with fail
  refine (readAll_alg p1 0 f _ (by simp [maxLen])).mono ?_
  rintro e w2 ⟨rfl, hb2⟩
  have hrs2 := (hrs1.on ((Below.refl _ w1).alloc (Nat.le_refl _) (Obj.cells #[Value.int IntKind.u8 49, Value.slice p1 0 0, Value.slice p2 k2 k2] 26))).on hb2
  have hg2 := grown_trans (grown_trans hgr (grown_of (some b) ((Below.refl _ w1).alloc (Nat.le_refl _) (Obj.cells #[Value.int IntKind.u8 49, Value.slice p1 0 0, Value.slice p2 k2 k2] 26)))) (grown_of (some b) hb2)
  go_wp2
  go_ret2
  exact ⟨rfl, ⟨p', c', hrs2⟩, hg2⟩

set_option maxRecDepth 20000 in
set_option maxHeartbeats 1000000 in
theorem setOf_sig (B b n c : Nat) (p : Option Addr) (f : Value) (rest : List Int) (w : World) (h : RS B w b p n c (tlv 49 [] ++ rest)) :
    Calls Ybaf.prog 38 #[.pointer (some ⟨b, 0, none⟩), f] w fun e w' => e = .returned (.tuple #[.slice none 0 0, .nilIface]) ∧ (∃ p' c', RS B w' b p' rest.length c' rest) ∧ w.grownBy w' (some b) := by
  go_enter Ybaf.func38, Ybaf.ntmps38
  go_wp2_with fail
  refine (rRead B b n c p 49 [] rest _ (by decide) (by simp) h).mono ?_
  rintro e w1 ⟨⟨p1, p2, k2, rfl, b1⟩, ⟨p', c', hrs1⟩, hgr⟩
  rw [show ([] : List Int).length = 0 from rfl]
  go_wp2_with fail
  refine (readAll_sig p1 0 f _ (by simp [maxLen])).mono ?_
  rintro e w2 ⟨rfl, hb2⟩
  have hrs2 := (hrs1.on ((Below.refl _ w1).alloc (Nat.le_refl _) (Obj.cells #[Value.int IntKind.u8 49, Value.slice p1 0 0, Value.slice p2 k2 k2] 26))).on hb2
  have hg2 := grown_trans (grown_trans hgr (grown_of (some b) ((Below.refl _ w1).alloc (Nat.le_refl _) (Obj.cells #[Value.int IntKind.u8 49, Value.slice p1 0 0, Value.slice p2 k2 k2] 26)))) (grown_of (some b) hb2)
  go_wp2
  go_ret2
  exact ⟨rfl, ⟨p', c', hrs2⟩, hg2⟩

end Go.Proofs.YbulkayaiFmt.A
