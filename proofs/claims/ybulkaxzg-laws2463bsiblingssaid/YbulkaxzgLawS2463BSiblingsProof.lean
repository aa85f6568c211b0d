/-
  A PROOF OF 'Rows.LawS2463BSiblingsSaid'. The frame is the given shell's; the walk is ours.
-/
import Derived.Test.YbulkaxzgRows
import Derived.WalkKit
import Derived.ProofKit
import Derived.OpenShut
import Derived.ShutString
import Derived.ChangeOld
import Derived.Below
import Derived.Test.YbulkaxzgWalksH
namespace Go.Proofs.Ybulkaxzg.lawS2463BSiblings
open Go.ChangeShapes Go.WideShapes Go.ChangeAt Go.RowKit
open Go.ChangeMaps (open_string shut_string)
set_option linter.unusedVariables false

theorem own : ownKnob Yba.prog.godebug = none := by kernel_rfl
theorem laidOut : laidOutB Yba.prog = true := by kernel_rfl

/-- WHAT THE WALK IS TOLD OF A SLICE OF INTEGERS THAT CAME IN: it is nil; or it leads to a row of 'cap' cells, the numbers 'zs' (the first 'len' are its elements, the rest its spare room), each fitting its kind. -/
def IsRow (k : IntKind) (w : World) (a : Option Addr) (len cap : Nat) (zs : List Int) : Prop :=
  (a = none ∧ len = 0 ∧ cap = 0 ∧ zs = []) ∨
  ∃ x, a = some x ∧ len ≤ cap ∧ cap ≤ maxLen ∧ zs.length = cap ∧ (∀ i, i < zs.length → w.cell? (x.add i) = some (.int k (zs.getD i 0))) ∧ ∀ n ∈ zs, (Lit.int k n).wf = true

open W in
set_option maxHeartbeats 1000000 in
theorem walk_short (a0 : Option Addr) (n cap0 : Nat) (z0 : List Int) (w : World) (w0 : Row w a0 n cap0 z0) (hn : n < 3) :
    Calls Yba.prog 4 #[.slice a0 n cap0] w fun e w' => e = .returned (.bool true) ∧ Below w.heap.size w w' := by
  go_enter Yba.func4, Yba.ntmps4
  go_wp2_with fail
  refine (bclone_any a0 n cap0 z0 _ w0 (by omega)).mono ?_
  rintro e w1 ⟨p, c, rfl, hlc, hc, hB, hb⟩
  have hps := PS.new false hB hlc hc
  have hb1 : Below w.heap.size w (w1.alloc (Obj.cells #[Value.slice p n c, Value.bool false] 26)) := hb.alloc hb.size _
  have hs1 : w1.heap.size < (w1.alloc (Obj.cells #[Value.slice p n c, Value.bool false] 26)).heap.size := by simp
  go_wp2_with fail
  refine (bclone_new a0 n cap0 z0 _ (w0.below hb1) (by omega)).mono ?_
  rintro e w2 ⟨q, d, rfl, hld, hd, hD, hnew, hb2⟩
  have hqs := PS.new false hD hld hd
  have hp2 := (hps.grown (grown_of_below hb2)).grown (grown_of_below ((Below.refl _ w2).alloc (Nat.le_refl _) (Obj.cells #[Value.slice q n d, Value.bool false] 26)))
  have hne : w2.heap.size ≠ w1.heap.size := by have := hb2.size; omega
  have hb3 : Below w.heap.size w (w2.alloc (Obj.cells #[Value.slice q n d, Value.bool false] 26)) := (hb1.trans (hb2.mono hb1.size)).alloc (by have := hb2.size; have := hb1.size; omega) _
  have hwz : w.heap.size ≤ w1.heap.size := hb.size
  clear hps
  go_wp2_with fail
  refine (u24_end hp2 (.inr hn)).mono ?_
  rintro e w3 ⟨rfl, hp3, hg3⟩
  have hq3 := hqs.other hg3 hne (fun x hx hpos => by have := hnew x hx hpos; omega)
  have hb4 := hb3.grown hg3 (by have := hb3.size; omega) (by simp; omega)
  clear hqs hp2 hg3
  go_wp2_with fail
  refine (pair_end8 hq3 hn).mono ?_
  rintro e w4 ⟨x, q', n', d', f', zs', rfl, hq4, hf', hg4⟩
  have hp4 := hp3.other hg4 (Ne.symm hne) (fun y hy hpos => by have := hB.block_lt y hy hpos; have := hb2.size; omega)
  have hb5 := hb4.grown hg4 (by have := hb4.size; omega) (by simp; have := hb2.size; omega)
  clear hq3 hp3 hg4
  go_wp2_with fail
  refine (u16_end hq4 hf').mono ?_
  rintro e w5 ⟨rfl, hq5, hg5⟩
  have hp5 := hp4.other hg5 (Ne.symm hne) (fun y hy hpos => by have := hB.block_lt y hy hpos; have := hb2.size; omega)
  have hb6 := hb5.grown hg5 (by have := hb5.size; omega) (by simp; have := hb2.size; omega)
  have c1 := hp5.c1
  have d1 := hq5.c1
  clear hq4 hp4 hg5 hf'
  go_wp2_with fail
  go_quiet (fail)
  go_wp2
  go_ret
  exact ⟨rfl, below_drewN hb6 _⟩

open W in
set_option maxHeartbeats 1000000 in
theorem walk_some (a0 : Option Addr) (n cap0 : Nat) (z0 : List Int) (w : World) (w0 : Row w a0 n cap0 z0) (h3 : 3 ≤ n) (hn : n ≤ 1024) :
    Calls Yba.prog 4 #[.slice a0 n cap0] w fun e w' => e = .returned (.bool true) ∧ Below w.heap.size w w' := by
  have hA := w0.allBytes
  have hA1 : AllBytes ((z0.take n).drop 1) := fun i => by have := hA (i + 1); simpa using this
  have hn' : (n : Int) ≤ 1024 := by omega
  obtain ⟨b00, b01⟩ := hA 0
  obtain ⟨b10, b11⟩ := hA 1
  obtain ⟨b20, b21⟩ := hA 2
  have e1 : ((z0.take n).drop 1).getD 0 0 = (z0.take n).getD 1 0 := by simp
  have e2 : ((z0.take n).drop 1).getD 1 0 = (z0.take n).getD 2 0 := by simp
  obtain ⟨x, hx⟩ : ∃ x, (z0.take n).getD 0 0 = x := ⟨_, rfl⟩
  obtain ⟨y, hy⟩ : ∃ y, (z0.take n).getD 1 0 = y := ⟨_, rfl⟩
  obtain ⟨z, hz⟩ : ∃ z, (z0.take n).getD 2 0 = z := ⟨_, rfl⟩
  rw [hx] at b00 b01
  rw [hy] at b10 b11 e1
  rw [hz] at b20 b21 e2
  have HX := hid hx
  have HY := hid hy
  have HZ := hid hz
  have HE1 := hid e1
  have HE2 := hid e2
  clear hx hy hz e1 e2
  go_enter Yba.func4, Yba.ntmps4
  go_wp2_with fail
  refine (bclone_any a0 n cap0 z0 _ w0 (by omega)).mono ?_
  rintro e w1 ⟨p, c, rfl, hlc, hc, hB, hb⟩
  have hps := PS.new false hB hlc hc
  have hb1 : Below w.heap.size w (w1.alloc (Obj.cells #[Value.slice p n c, Value.bool false] 26)) := hb.alloc hb.size _
  have hs1 : w1.heap.size < (w1.alloc (Obj.cells #[Value.slice p n c, Value.bool false] 26)).heap.size := by simp
  go_wp2_with fail
  refine (bclone_new a0 n cap0 z0 _ (w0.below hb1) (by omega)).mono ?_
  rintro e w2 ⟨q, d, rfl, hld, hd, hD, hnew, hb2⟩
  have hqs := PS.new false hD hld hd
  have hp2 := (hps.grown (grown_of_below hb2)).grown (grown_of_below ((Below.refl _ w2).alloc (Nat.le_refl _) (Obj.cells #[Value.slice q n d, Value.bool false] 26)))
  have hne : w2.heap.size ≠ w1.heap.size := by have := hb2.size; omega
  have hb3 : Below w.heap.size w (w2.alloc (Obj.cells #[Value.slice q n d, Value.bool false] 26)) := (hb1.trans (hb2.mono hb1.size)).alloc (by have := hb2.size; have := hb1.size; omega) _
  have hwz : w.heap.size ≤ w1.heap.size := hb.size
  clear hps
  go_wp2_with fail
  refine (u24_ps2 w2.heap.size (fun y hy hpos => by have := hB.block_lt y hy hpos; have := hb2.size; omega) hp2 h3 hA).mono ?_
  rintro e w3 ⟨p3, rfl, hp3, hr3, hg3⟩
  rw [HX.out, HY.out, HZ.out]
  have hq3 := hqs.other hg3 hne (fun x hx hpos => by have := hnew x hx hpos; omega)
  have hb4 := hb3.grown hg3 (by have := hb3.size; omega) (by simp; omega)
  clear hqs hp2 hg3
  go_wp2_with fail
  refine (u8_ps hq3 (by omega)).mono ?_
  rintro e w4 ⟨q4, rfl, hq4, hg4⟩
  rw [HX.out]
  have hp4 := hp3.other hg4 (Ne.symm hne) (fun y hy hpos => hr3 y hy)
  have hb5 := hb4.grown hg4 (by have := hb4.size; omega) (by simp; have := hb2.size; omega)
  clear hq3 hp3 hg4
  go_wp2_with fail
  refine (u16_ps hq4 (by omega) hA1).mono ?_
  rintro e w5 ⟨q5, rfl, hq5, hg5⟩
  rw [HE1.out, HE2.out]
  have hp5 := hp4.other hg5 (Ne.symm hne) (fun y hy hpos => hr3 y hy)
  have hb6 := hb5.grown hg5 (by have := hb5.size; omega) (by simp; have := hb2.size; omega)
  rw [show n - 1 - 2 = n - 3 by omega, List.drop_drop, show 1 + 2 = 3 from rfl] at hq5
  have c0 := hp5.c0
  have c1 := hp5.c1
  have d0 := hq5.c0
  have d1 := hq5.c1
  have hB5 := hp5.bytes
  have hD5 := hq5.bytes
  clear hq4 hp4 hg5 hr3
  have hj : (x * 65536 + y * 256 + z == bits .or .i64 (x * 65536) (y * 256 + z)) = true := by
    rw [beq_iff_eq, u24_join x y z b00 b01 b10 b11 b20 b21]
  go_wp2_with fail
  go_quiet (fail)
  go_wp2_with fail
  go_quiet ((go_at_call 9; refine quiet_of2 (beq_any _ _ (n - 3) _ _ ((z0.take n).drop 3) _ (by omega) ?_ ?_); exact hB5.drewN _; exact hD5.drewN _))
  go_wp2
  go_ret
  exact ⟨rfl, below_drewN (below_drewN hb6 _) _⟩

theorem walk_long (a0 : Option Addr) (len0 cap0 : Nat) (w : World) (hn : 1024 < len0) :
    Calls Yba.prog 4 #[.slice a0 len0 cap0] w fun e w' => e = .returned (.bool true) ∧ Below w.heap.size w w' := by
  have h : (1024 : Int) < (len0 : Int) := by omega
  go_enter Yba.func4, Yba.ntmps4
  go_wp2
  go_ret
  exact ⟨rfl, Below.refl _ _⟩

theorem walk (a0 : Option Addr) (len0 cap0 : Nat) (z0 : List Int) (w : World) (w0 : IsRow .u8 w a0 len0 cap0 z0) :
    Calls Yba.prog 4 #[.slice a0 len0 cap0] w fun e w' => e = .returned (.bool true) ∧ Below w.heap.size w w' := by
  have w0 : W.Row w a0 len0 cap0 z0 := w0
  by_cases hn : 1024 < len0
  · exact walk_long a0 len0 cap0 w hn
  · by_cases h0 : len0 < 3
    · exact walk_short a0 len0 cap0 z0 w w0 h0
    · exact walk_some a0 len0 cap0 z0 w w0 (by omega) (by omega)

/-! ### THE ROW's STEP: WRITTEN OUT: LEAVE IT -/
set_option maxRecDepth 100000 in
theorem lifted (os : Os) (started : os.Started) (H : Type) (enc : TypeId × Value → H) :
    ReturnsInHanded {} Yba.checked os 4 .any (Rows.lawS2463BSiblingsSpec.pre6 enc Yba.prog Yba.f4 Rows.lawS2463BSiblingsRow.domain false) (Rows.lawS2463BSiblingsSpec.post enc Yba.prog Yba.f4 false true false false) := by
  refine returnsInHanded_of_change (C := Yba.checked) own started (by kernel_rfl) Yba.func4
    (ChangeSpec.witness6 (enc := enc) (C := Yba.checked) false ⟨#[], #[.slice none 0 0], []⟩ 8 (by kernel_rfl) (by kernel_rfl) (by kernel_rfl) (by kernel_rfl)) ?_
  intro W base args ds gs before hval0 hW hcnd _
  have hval : ∀ (j : Nat) t v, Yba.f4.params[j]? = some t → args[j]? = some v → Value.okWide Yba.prog W .any base t v := hval0
  have hW' := hW
  obtain ⟨p, q, hA0, hV, rfl, hfz, hnd⟩ := hW
  have hA : DataW.TrodAll enc Yba.prog W 0 (fun _ => true) true Yba.f4.params.toList args.toList ds p := hA0
  rw [Yba.params4] at hA hval
  obtain ⟨v0, vs0, d0, ds0, p0, q0, hargs, rfl, rfl, h0, r0⟩ := trodAll_cons hA
  obtain ⟨rfl, rfl, rfl⟩ := trodAll_nil r0
  obtain rfl : args = #[v0] := by cases args; simp_all
  obtain ⟨rfl, rfl⟩ := trodVars_none hV
  obtain ⟨a0, len0, cap0, rfl⟩ := okWide_slice Yba.underlying22 (hval 0 22 v0 rfl rfl)
  have k0 := h0
  have lt0 : ∀ x ∈ p0, x.block < W.heap.size := by obtain ⟨m, hm⟩ := k0; exact DataW.trod_lt m _ _ _ hm
  obtain ⟨z0, w0⟩ : ∃ zs, IsRow .u8 W a0 len0 cap0 zs := by
    obtain ⟨fuel, hf⟩ := h0
    rcases open_ints Yba.underlying22 Yba.underlying5 (by kernel_rfl) hf with ⟨hcs, _⟩ | ⟨x, l, c, zs, hcs, _, hl, hm, hz, _, hcell, hwz⟩
    · simp [Value.cells] at hcs
      obtain ⟨rfl, rfl, rfl⟩ := hcs
      exact ⟨[], .inl ⟨rfl, rfl, rfl, rfl⟩⟩
    · simp [Value.cells] at hcs
      obtain ⟨rfl, rfl, rfl⟩ := hcs
      exact ⟨zs, .inr ⟨_, rfl, hl, hm, by simpa using hz, hcell, hwz⟩⟩
  clear hA0 hval0
  refine (walk a0 len0 cap0 z0 W w0).mono fun e W' ⟨he, bel⟩ => ?_
  subst he
  exact ⟨_, rfl, _, _, _, [], _, [], hW', trodAll_mk1 (shut_bool Yba.underlying4 _), (trodAll_cons_mk (Below.trod laidOut (by kernel_rfl) (of_decide_eq_true (by kernel_rfl)) k0 bel lt0) trodAll_mk0), rfl, bel.frame _, fun h => by cases h⟩

theorem over : Rows.lawS2463BSiblingsRow.holds Yba.pinned (OpenSpec.ofChange Rows.lawS2463BSiblingsSpec) :=
  OpenClaim.holds_of_wide 4 Yba.f4 rfl rfl rfl rfl rfl rfl rfl ⟨rfl, rfl, rfl, rfl, rfl⟩ rfl rfl rfl rfl rfl (by kernel_rfl) Yba.func4 (by kernel_rfl)
    (of_decide_eq_true (by kernel_rfl)) (by unfold Func.isWrapper; first | (rw [if_pos (by decide +kernel)]; kernel_rfl) | (rw [if_neg (by decide +kernel)]; exact ⟨rfl, rfl⟩))
    (fun os started H enc _ => lifted os started H enc)

/-- ████ THE STATEMENT ████ -/
theorem proved : Rows.LawS2463BSiblingsSaid := over
#print axioms proved
end Go.Proofs.Ybulkaxzg.lawS2463BSiblings
