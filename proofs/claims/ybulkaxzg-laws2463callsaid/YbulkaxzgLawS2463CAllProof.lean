/-
  A PROOF OF 'Rows.LawS2463CAllSaid'. The frame is the given shell's; the walk is ours.
-/
import Derived.Test.YbulkaxzgRows
import Derived.WalkKit
import Derived.ProofKit
import Derived.OpenShut
import Derived.ShutString
import Derived.ChangeOld
import Derived.Below
import Derived.Test.YbulkaxzgWalksE
import Derived.Deep.RegionHeld3
namespace Go.Proofs.Ybulkaxzg.lawS2463CAll
open Go.ChangeShapes Go.WideShapes Go.ChangeAt Go.RowKit
open Go.ChangeMaps (open_string shut_string)
set_option linter.unusedVariables false

theorem own : ownKnob Yba.prog.godebug = none := by kernel_rfl
theorem laidOut : laidOutB Yba.prog = true := by kernel_rfl

/-- WHAT THE WALK IS TOLD OF A SLICE OF INTEGERS THAT CAME IN: it is nil; or it leads to a row of 'cap' cells, the numbers 'zs' (the first 'len' are its elements, the rest its spare room), each fitting its kind. -/
def IsRow (k : IntKind) (w : World) (a : Option Addr) (len cap : Nat) (zs : List Int) : Prop :=
  (a = none ∧ len = 0 ∧ cap = 0 ∧ zs = []) ∨
  ∃ x, a = some x ∧ len ≤ cap ∧ cap ≤ maxLen ∧ zs.length = cap ∧ (∀ i, i < zs.length → w.cell? (x.add i) = some (.int k (zs.getD i 0))) ∧ ∀ n ∈ zs, (Lit.int k n).wf = true

open W in
set_option maxHeartbeats 1000000 in
theorem walk_some (g0 o0 n cap0 : Nat) (z0 : List Int) (w : World) (w0 : Row w (some ⟨g0, o0, none⟩) n cap0 z0) (h1 : 1 ≤ n) (hn : n ≤ 1024) :
    Calls Yba.prog 6 #[.slice (some ⟨g0, o0, none⟩) n cap0] w fun e w' => e = .returned (.bool true) ∧ Below w.heap.size w w' := by
  have hd := w0.bytes
  have hlt : (n : Int) ≤ 1024 := by omega
  go_enter Yba.func6, Yba.ntmps6
  go_wp2_with fail
  refine (ccopy_any (some ⟨g0, o0, none⟩) n cap0 z0 _ w0 (by omega)).mono ?_
  rintro e w1 ⟨p, c, rfl, hlc, hc, hB, hb⟩
  go_wp2_with fail
  go_loopw [4] (fun i wr => ∃ (k : Nat) (q : Option Addr) (cq : Nat), k ≤ n ∧ i = .int .i64 k ∧ PS wr w1.heap.size q (n - k) cq false ((z0.take n).drop k) ∧ Below w1.heap.size w1 wr) (fun i _ => n - (intOf i).toNat)
  case atStart => exact ⟨0, p, c, Nat.zero_le _, rfl, PS.new false hB hlc hc, (Below.refl _ _).alloc (Nat.le_refl _) _⟩
  case round =>
    obtain ⟨k, q, cq, hk, rfl, hps, hbr⟩ := hrel
    by_cases hkn : k < n
    · have hx : wr.cell? ⟨g0, o0 + k, none⟩ = some (.int .u8 ((z0.take n).getD k 0)) := by
        obtain ⟨_, h | ⟨g', o', he, h⟩⟩ := (hd.below hb).below hbr
        · omega
        · simp at he
          obtain ⟨rfl, rfl⟩ := he
          exact h k hkn
      have hne : g0 ≠ w1.heap.size := by
        obtain ⟨_, h | ⟨g', o', he, h⟩⟩ := hd.below hb
        · omega
        · simp at he
          obtain ⟨rfl, rfl⟩ := he
          have := lt_of_cell (h k hkn)
          simp at this
          omega
      have e1 : ((z0.take n).drop k).getD 0 0 = (z0.take n).getD k 0 := by simp
      have hlen : (n - k) - 1 = n - (k + 1) := by omega
      generalize hX : (z0.take n).getD k 0 = x at hx e1
      have HX : Hid (_ = x) := e1
      clear e1 hX
      have hi0 : (0 : Int) ≤ (k : Int) := by omega
      have hi1 : (k : Int) < (n : Int) := by omega
      go_wp2_with fail
      go_region_held3 (fun w' => w'.cell? ⟨g0, o0 + k, none⟩ = some (.int .u8 x)) (go_keep) ((go_at_call 10; refine (u8_ps_x x HX.out hps.drew (by omega)).mono ?_; rintro e w' ⟨p', rfl, hps', hgr⟩; have hx' : w'.cell? ⟨g0, o0 + k, none⟩ = some (.int .u8 x) := hgr.cell hx (fun h => hne (by simpa using h))))
      go_wp2
      go_roundw
      case rel => exact ⟨k + 1, p', cq - 1, by omega, by go_num, by rw [← hlen, ← List.drop_drop]; exact hps', hbr.drew.grown hgr hbr.size (by simp)⟩
      case measure => simp [intOf]; omega
    · obtain rfl : k = n := by omega
      rw [Nat.sub_self] at hps
      go_wp2_with fail
      refine (done_yes hps).mono ?_
      rintro e w2 ⟨rfl, rfl⟩
      go_wp2_with fail
      refine (u8_ps_end hps).mono ?_
      rintro e w3 ⟨rfl, hps3, hgr⟩
      have c1 := hps3.c1
      go_wp2_with fail
      refine (done_failed hps3).mono ?_
      rintro e w4 ⟨rfl, rfl⟩
      go_wp2
      go_ret
      exact ⟨rfl, hb.trans ((hbr.trans ((Below.refl _ _).grown hgr hbr.size (by simp))).mono hb.size)⟩

open W in
set_option maxHeartbeats 1000000 in
theorem walk_none (a0 : Option Addr) (cap0 : Nat) (z0 : List Int) (w : World) (w0 : Row w a0 0 cap0 z0) :
    Calls Yba.prog 6 #[.slice a0 0 cap0] w fun e w' => e = .returned (.bool true) ∧ Below w.heap.size w w' := by
  go_enter Yba.func6, Yba.ntmps6
  go_wp2_with fail
  refine (ccopy_any a0 0 cap0 z0 _ w0 (by omega)).mono ?_
  rintro e w1 ⟨p, c, rfl, hlc, hc, hB, hb⟩
  go_wp2_with fail
  refine wp_loop_rounds 1 ?_; rw [rounds_succ]
  have hps := PS.new false hB hlc hc
  go_wp2_with fail
  refine (done_yes hps).mono ?_
  rintro e w2 ⟨rfl, rfl⟩
  go_wp2_with fail
  refine (u8_ps_end hps).mono ?_
  rintro e w3 ⟨rfl, hps3, hgr⟩
  have c1 := hps3.c1
  go_wp2_with fail
  refine (done_failed hps3).mono ?_
  rintro e w4 ⟨rfl, rfl⟩
  go_wp2
  go_ret
  have hbr : Below w1.heap.size w1 (w1.alloc (Obj.cells #[Value.slice p 0 c, Value.bool false] 26)) := (Below.refl _ _).alloc (Nat.le_refl _) _
  exact ⟨rfl, hb.trans ((hbr.trans ((Below.refl _ _).grown hgr hbr.size (by simp))).mono hb.size)⟩

theorem walk_long (a0 : Option Addr) (len0 cap0 : Nat) (w : World) (hn : 1024 < len0) :
    Calls Yba.prog 6 #[.slice a0 len0 cap0] w fun e w' => e = .returned (.bool true) ∧ Below w.heap.size w w' := by
  have h : (1024 : Int) < (len0 : Int) := by omega
  go_enter Yba.func6, Yba.ntmps6
  go_wp2
  go_ret
  exact ⟨rfl, Below.refl _ _⟩

theorem walk (a0 : Option Addr) (len0 cap0 : Nat) (z0 : List Int) (w : World) (w0 : IsRow .u8 w a0 len0 cap0 z0) :
    Calls Yba.prog 6 #[.slice a0 len0 cap0] w fun e w' => e = .returned (.bool true) ∧ Below w.heap.size w w' := by
  have w0 : W.Row w a0 len0 cap0 z0 := w0
  by_cases hn : 1024 < len0
  · exact walk_long a0 len0 cap0 w hn
  · by_cases h0 : len0 = 0
    · subst h0
      exact walk_none a0 cap0 z0 w w0
    · obtain ⟨_, h | ⟨g, o, rfl, _⟩⟩ := w0.bytes
      · exact absurd h h0
      · exact walk_some g o len0 cap0 z0 w w0 (by omega) (by omega)

/-! ### THE ROW's STEP: WRITTEN OUT: LEAVE IT -/
set_option maxRecDepth 100000 in
theorem lifted (os : Os) (started : os.Started) (H : Type) (enc : TypeId × Value → H) :
    ReturnsInHanded {} Yba.checked os 6 .any (Rows.lawS2463CAllSpec.pre6 enc Yba.prog Yba.f6 Rows.lawS2463CAllRow.domain false) (Rows.lawS2463CAllSpec.post enc Yba.prog Yba.f6 false true false false) := by
  refine returnsInHanded_of_change (C := Yba.checked) own started (by kernel_rfl) Yba.func6
    (ChangeSpec.witness6 (enc := enc) (C := Yba.checked) false ⟨#[], #[.slice none 0 0], []⟩ 8 (by kernel_rfl) (by kernel_rfl) (by kernel_rfl) (by kernel_rfl)) ?_
  intro W base args ds gs before hval0 hW hcnd _
  have hval : ∀ (j : Nat) t v, Yba.f6.params[j]? = some t → args[j]? = some v → Value.okWide Yba.prog W .any base t v := hval0
  have hW' := hW
  obtain ⟨p, q, hA0, hV, rfl, hfz, hnd⟩ := hW
  have hA : DataW.TrodAll enc Yba.prog W 0 (fun _ => true) true Yba.f6.params.toList args.toList ds p := hA0
  rw [Yba.params6] at hA hval
  obtain ⟨v0, vs0, d0, ds0, p0, q0, hargs, rfl, rfl, h0, r0⟩ := trodAll_cons hA
  obtain ⟨rfl, rfl, rfl⟩ := trodAll_nil r0
  obtain rfl : args = #[v0] := by cases args; simp_all
  obtain ⟨rfl, rfl⟩ := trodVars_none hV
  obtain ⟨a0, len0, cap0, rfl⟩ := okWide_slice Yba.underlying22 (hval 0 22 v0 rfl rfl)
  have k0 := h0
  have lt0 : ∀ x ∈ p0, x.block < W.heap.size := by obtain ⟨m, hm⟩ := k0; exact DataW.trod_lt m _ _ _ hm
  obtain ⟨z0, w0⟩ : ∃ zs, IsRow .u8 W a0 len0 cap0 zs := by
    obtain ⟨fuel, hf⟩ := h0
    rcases open_ints Yba.underlying22 Yba.underlying5 (by kernel_rfl) hf with ⟨hcs, _⟩ | ⟨x, l, c, zs, hcs, _, hl, hm, hz, _, hcell, hwz⟩
    · simp [Value.cells] at hcs
      obtain ⟨rfl, rfl, rfl⟩ := hcs
      exact ⟨[], .inl ⟨rfl, rfl, rfl, rfl⟩⟩
    · simp [Value.cells] at hcs
      obtain ⟨rfl, rfl, rfl⟩ := hcs
      exact ⟨zs, .inr ⟨_, rfl, hl, hm, by simpa using hz, hcell, hwz⟩⟩
  clear hA0 hval0
  refine (walk a0 len0 cap0 z0 W w0).mono fun e W' ⟨he, bel⟩ => ?_
  subst he
  exact ⟨_, rfl, _, _, _, [], _, [], hW', trodAll_mk1 (shut_bool Yba.underlying4 _), (trodAll_cons_mk (Below.trod laidOut (by kernel_rfl) (of_decide_eq_true (by kernel_rfl)) k0 bel lt0) trodAll_mk0), rfl, bel.frame _, fun h => by cases h⟩

theorem over : Rows.lawS2463CAllRow.holds Yba.pinned (OpenSpec.ofChange Rows.lawS2463CAllSpec) :=
  OpenClaim.holds_of_wide 6 Yba.f6 rfl rfl rfl rfl rfl rfl rfl ⟨rfl, rfl, rfl, rfl, rfl⟩ rfl rfl rfl rfl rfl (by kernel_rfl) Yba.func6 (by kernel_rfl)
    (of_decide_eq_true (by kernel_rfl)) (by unfold Func.isWrapper; first | (rw [if_pos (by decide +kernel)]; kernel_rfl) | (rw [if_neg (by decide +kernel)]; exact ⟨rfl, rfl⟩))
    (fun os started H enc _ => lifted os started H enc)

/-- ████ THE STATEMENT ████ -/
theorem proved : Rows.LawS2463CAllSaid := over
#print axioms proved
end Go.Proofs.Ybulkaxzg.lawS2463CAll
