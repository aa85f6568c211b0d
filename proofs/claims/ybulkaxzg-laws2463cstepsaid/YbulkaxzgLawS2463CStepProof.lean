/-
  A PROOF OF 'Rows.LawS2463CStepSaid'. The frame is the given shell's; the walk is ours.
-/
import Derived.Test.YbulkaxzgRows
import Derived.WalkKit
import Derived.ProofKit
import Derived.OpenShut
import Derived.ShutString
import Derived.ChangeOld
import Derived.Below
import Derived.Test.YbulkaxzgWalksD
namespace Go.Proofs.Ybulkaxzg.lawS2463CStep
open Go.ChangeShapes Go.WideShapes Go.ChangeAt Go.RowKit
open Go.ChangeMaps (open_string shut_string)
set_option linter.unusedVariables false

theorem own : ownKnob Yba.prog.godebug = none := by kernel_rfl
theorem laidOut : laidOutB Yba.prog = true := by kernel_rfl

/-- WHAT THE WALK IS TOLD OF A SLICE OF INTEGERS THAT CAME IN: it is nil; or it leads to a row of 'cap' cells, the numbers 'zs' (the first 'len' are its elements, the rest its spare room), each fitting its kind. -/
def IsRow (k : IntKind) (w : World) (a : Option Addr) (len cap : Nat) (zs : List Int) : Prop :=
  (a = none ∧ len = 0 ∧ cap = 0 ∧ zs = []) ∨
  ∃ x, a = some x ∧ len ≤ cap ∧ cap ≤ maxLen ∧ zs.length = cap ∧ (∀ i, i < zs.length → w.cell? (x.add i) = some (.int k (zs.getD i 0))) ∧ ∀ n ∈ zs, (Lit.int k n).wf = true

/-! ### STEP 1: THE WALK -/
open W in
set_option maxHeartbeats 400000 in
theorem walk_failed (a0 : Option Addr) (len0 cap0 : Nat) (z0 : List Int) (w : World) (w0 : Row w a0 len0 cap0 z0) (hn : len0 ≤ 4096) :
    Calls Yba.prog 5 #[.slice a0 len0 cap0, .bool true] w fun e w' => e = .returned (.bool true) ∧ Below w.heap.size w w' := by
  have hd := w0.bytes
  go_enter Yba.func5, Yba.ntmps5
  go_wp2_with fail
  refine (ccopy_any a0 len0 cap0 z0 _ w0 hn).mono ?_
  rintro e w1 ⟨p, c, rfl, hlc, hc, hB, hb⟩
  go_wp2_with fail
  refine (u8_failed w1.heap.size _ (by simp) (by simp)).mono ?_
  rintro e w2 ⟨rfl, rfl⟩
  go_wp2_with fail
  refine (equal_any p a0 len0 c cap0 (z0.take len0) _ hn (hB.alloc _) ((hd.below hb).alloc _)).mono ?_
  rintro e w3 ⟨rfl, m, rfl⟩
  go_wp2
  go_ret
  exact ⟨rfl, below_drewN (hb.alloc hb.size _) _⟩

open W in
set_option maxHeartbeats 400000 in
theorem walk_none (a0 : Option Addr) (cap0 : Nat) (z0 : List Int) (w : World) (w0 : Row w a0 0 cap0 z0) :
    Calls Yba.prog 5 #[.slice a0 0 cap0, .bool false] w fun e w' => e = .returned (.bool true) ∧ Below w.heap.size w w' := by
  have hd := w0.bytes
  go_enter Yba.func5, Yba.ntmps5
  go_wp2_with fail
  refine (ccopy_any a0 0 cap0 z0 _ w0 (by omega)).mono ?_
  rintro e w1 ⟨p, c, rfl, hlc, hc, hB, hb⟩
  go_wp2_with fail
  refine (u8_short w1.heap.size c p _ (by simp) (by simp) (by simp)).mono ?_
  rintro e w2 ⟨rfl, rfl⟩
  go_wp2_with fail
  refine (equal_any p a0 0 c cap0 (z0.take 0) _ (by omega) (hB.alloc _) ((hd.below hb).alloc _)).mono ?_
  rintro e w3 ⟨rfl, m, rfl⟩
  go_wp2
  go_ret
  exact ⟨rfl, below_drewN (hb.alloc hb.size _) _⟩

open W in
set_option maxHeartbeats 400000 in
theorem walk_some (g0 o0 n cap0 : Nat) (z0 : List Int) (w : World) (w0 : Row w (some ⟨g0, o0, none⟩) n cap0 z0) (h1 : 1 ≤ n) (hn : n ≤ 4096) (hcap : n ≤ cap0) :
    Calls Yba.prog 5 #[.slice (some ⟨g0, o0, none⟩) n cap0, .bool false] w fun e w' => e = .returned (.bool true) ∧ Below w.heap.size w w' := by
  have hd := w0.bytes
  go_enter Yba.func5, Yba.ntmps5
  go_wp2_with fail
  refine (ccopy_any (some ⟨g0, o0, none⟩) n cap0 z0 w w0 hn).mono ?_
  rintro e w1 ⟨p, c, rfl, hlc, hc, hB, hb⟩
  obtain ⟨g, o, rfl, hcell⟩ : ∃ g o, p = some ⟨g, o, none⟩ ∧ ∀ i, i < n → w1.cell? ⟨g, o + i, none⟩ = some (.int .u8 ((z0.take n).getD i 0)) := by
    obtain ⟨_, h | h⟩ := hB
    · omega
    · exact h
  have hg : g < w1.heap.size := lt_of_cell (hcell 0 (by omega))
  have hc0 := hcell 0 (by omega)
  have hd0 : (w1.cell? ⟨g0, o0, none⟩) = some (.int .u8 ((z0.take n).getD 0 0)) := by
    obtain ⟨_, h | ⟨g', o', he, h⟩⟩ := hd.below hb
    · omega
    · simp at he
      obtain ⟨rfl, rfl⟩ := he
      exact h 0 (by omega)
  have hg0 : g0 < w1.heap.size := lt_of_cell hd0
  clear hcell
  rw [Nat.add_zero] at hc0
  generalize hx : (z0.take n).getD 0 0 = x at hc0 hd0
  clear hx
  have hd1 : ∀ o, (w1.alloc o).cell? ⟨g0, o0, none⟩ = some (.int .u8 x) := fun o => by rw [((Below.refl _ w1).alloc (Nat.le_refl _) o).cell hg0]; exact hd0
  have hc1 : ∀ o', (w1.alloc o').cell? ⟨g, o, none⟩ = some (.int .u8 x) := fun o' => by rw [((Below.refl _ w1).alloc (Nat.le_refl _) o').cell hg]; exact hc0
  have hq : (((n - 1 : Nat) : Int) == (n : Int) - 1) = true := by rw [beq_iff_eq]; omega
  have hm : (0 : Int) < (n : Int) := by omega
  have hm1 : (1 : Int) ≤ (n : Int) := by omega
  go_wp2_with fail
  refine (u8_ok w1.heap.size n c g o x _ (by omega) hlc (by unfold maxLen; omega) (by omega) (by simp) (by simp) (by simp) (hc1 _)).mono ?_
  rintro e w2 ⟨rfl, rfl⟩
  go_wp2_with fail
  have hP := (hB.past (k := 1) h1 hlc)
  have hQ := ((hd.below hb).past (k := 1) h1 hcap)
  by_cases hcp : cap0 = 1
  · obtain rfl : n = 1 := by omega
    subst hcp
    clear hP hQ
    go_quiet ((go_at_call 13; refine Calls.quiet_of (equal_any _ _ 0 _ _ [] _ (by omega) ⟨rfl, .inl rfl⟩ ⟨rfl, .inl rfl⟩)))
    go_wp2
    go_ret
    exact ⟨rfl, below_drewN (hb.alloc hb.size _) _⟩
  · rw [show past g0 o0 cap0 1 = ⟨g0, o0 + 1, none⟩ from by unfold past; rw [if_neg hcp]] at hQ
    go_quiet ((go_at_call 13; refine Calls.quiet_of (equal_any _ _ (n - 1) _ _ ((z0.take n).drop 1) _ (by omega) ?_ ?_); exact (hP.alloc _).drewN _; exact (hQ.alloc _).drewN _))
    go_wp2
    go_ret
    exact ⟨rfl, below_drewN (hb.alloc hb.size _) _⟩

open W in
theorem walk_long (a0 : Option Addr) (len0 cap0 : Nat) (a1 : Bool) (w : World) (hn : 4096 < len0) :
    Calls Yba.prog 5 #[.slice a0 len0 cap0, .bool a1] w fun e w' => e = .returned (.bool true) ∧ Below w.heap.size w w' := by
  have h : (4096 : Int) < (len0 : Int) := by omega
  go_enter Yba.func5, Yba.ntmps5
  go_wp2
  go_ret
  exact ⟨rfl, Below.refl _ _⟩

theorem walk (a0 : Option Addr) (len0 cap0 : Nat) (z0 : List Int) (a1 : Bool) (w : World) (w0 : IsRow .u8 w a0 len0 cap0 z0) :
    Calls Yba.prog 5 #[.slice a0 len0 cap0, .bool a1] w fun e w' => e = .returned (.bool true) ∧ Below w.heap.size w w' := by
  have w0 : W.Row w a0 len0 cap0 z0 := w0
  by_cases hn : 4096 < len0
  · exact walk_long a0 len0 cap0 a1 w hn
  · cases a1 with
    | true => exact walk_failed a0 len0 cap0 z0 w w0 (by omega)
    | false =>
      by_cases h0 : len0 = 0
      · subst h0
        exact walk_none a0 cap0 z0 w w0
      · have hb := w0.bytes
        have hcap : len0 ≤ cap0 := by
          obtain ⟨_, rfl, rfl, _⟩ | ⟨x, _, h1, _⟩ := w0
          · exact Nat.le_refl _
          · exact h1
        obtain ⟨_, h | ⟨g, o, rfl, _⟩⟩ := hb
        · exact absurd h h0
        · exact walk_some g o len0 cap0 z0 w w0 (by omega) (by omega) hcap

/-! ### THE ROW's STEP: WRITTEN OUT: LEAVE IT -/
set_option maxRecDepth 100000 in
theorem lifted (os : Os) (started : os.Started) (H : Type) (enc : TypeId × Value → H) :
    ReturnsInHanded {} Yba.checked os 5 .any (Rows.lawS2463CStepSpec.pre6 enc Yba.prog Yba.f5 Rows.lawS2463CStepRow.domain false) (Rows.lawS2463CStepSpec.post enc Yba.prog Yba.f5 false true false false) := by
  refine returnsInHanded_of_change (C := Yba.checked) own started (by kernel_rfl) Yba.func5
    (ChangeSpec.witness6 (enc := enc) (C := Yba.checked) false ⟨#[], #[.slice none 0 0, .bool false], []⟩ 8 (by kernel_rfl) (by kernel_rfl) (by kernel_rfl) (by kernel_rfl)) ?_
  intro W base args ds gs before hval0 hW hcnd _
  have hval : ∀ (j : Nat) t v, Yba.f5.params[j]? = some t → args[j]? = some v → Value.okWide Yba.prog W .any base t v := hval0
  have hW' := hW
  obtain ⟨p, q, hA0, hV, rfl, hfz, hnd⟩ := hW
  have hA : DataW.TrodAll enc Yba.prog W 0 (fun _ => true) true Yba.f5.params.toList args.toList ds p := hA0
  rw [Yba.params5] at hA hval
  obtain ⟨v0, vs0, d0, ds0, p0, q0, hargs, rfl, rfl, h0, r0⟩ := trodAll_cons hA
  obtain ⟨v1, vs1, d1, ds1, p1, q1, rfl, rfl, rfl, h1, r1⟩ := trodAll_cons r0
  obtain ⟨rfl, rfl, rfl⟩ := trodAll_nil r1
  obtain rfl : args = #[v0, v1] := by cases args; simp_all
  obtain ⟨rfl, rfl⟩ := trodVars_none hV
  obtain ⟨a0, len0, cap0, rfl⟩ := okWide_slice Yba.underlying22 (hval 0 22 v0 rfl rfl)
  have k0 := h0
  have lt0 : ∀ x ∈ p0, x.block < W.heap.size := by obtain ⟨m, hm⟩ := k0; exact DataW.trod_lt m _ _ _ hm
  obtain ⟨z0, w0⟩ : ∃ zs, IsRow .u8 W a0 len0 cap0 zs := by
    obtain ⟨fuel, hf⟩ := h0
    rcases open_ints Yba.underlying22 Yba.underlying5 (by kernel_rfl) hf with ⟨hcs, _⟩ | ⟨x, l, c, zs, hcs, _, hl, hm, hz, _, hcell, hwz⟩
    · simp [Value.cells] at hcs
      obtain ⟨rfl, rfl, rfl⟩ := hcs
      exact ⟨[], .inl ⟨rfl, rfl, rfl, rfl⟩⟩
    · simp [Value.cells] at hcs
      obtain ⟨rfl, rfl, rfl⟩ := hcs
      exact ⟨zs, .inr ⟨_, rfl, hl, hm, by simpa using hz, hcell, hwz⟩⟩
  obtain ⟨a1, rfl, rfl, rfl⟩ := open_bool Yba.underlying4 (hval 1 4 v1 rfl rfl) h1
  clear hA0 hval0
  refine (walk a0 len0 cap0 z0 a1 W w0).mono fun e W' ⟨he, bel⟩ => ?_
  subst he
  exact ⟨_, rfl, _, _, _, [], _, [], hW', trodAll_mk1 (shut_bool Yba.underlying4 _), (trodAll_cons_mk (Below.trod laidOut (by kernel_rfl) (of_decide_eq_true (by kernel_rfl)) k0 bel lt0) (trodAll_cons_mk (shut_bool Yba.underlying4 _) trodAll_mk0)), rfl, bel.frame _, fun h => by cases h⟩

theorem over : Rows.lawS2463CStepRow.holds Yba.pinned (OpenSpec.ofChange Rows.lawS2463CStepSpec) :=
  OpenClaim.holds_of_wide 5 Yba.f5 rfl rfl rfl rfl rfl rfl rfl ⟨rfl, rfl, rfl, rfl, rfl⟩ rfl rfl rfl rfl rfl (by kernel_rfl) Yba.func5 (by kernel_rfl)
    (of_decide_eq_true (by kernel_rfl)) (by unfold Func.isWrapper; first | (rw [if_pos (by decide +kernel)]; kernel_rfl) | (rw [if_neg (by decide +kernel)]; exact ⟨rfl, rfl⟩))
    (fun os started H enc _ => lifted os started H enc)

/-- ████ THE STATEMENT ████ -/
theorem proved : Rows.LawS2463CStepSaid := over
#print axioms proved
end Go.Proofs.Ybulkaxzg.lawS2463CStep
