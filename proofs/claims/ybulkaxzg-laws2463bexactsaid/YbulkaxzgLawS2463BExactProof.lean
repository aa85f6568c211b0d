/-
  A PROOF OF 'Rows.LawS2463BExactSaid'. The frame is the given shell's; the walk is ours.
-/
import Derived.Test.YbulkaxzgRows
import Derived.WalkKit
import Derived.ProofKit
import Derived.OpenShut
import Derived.ShutString
import Derived.ChangeOld
import Derived.Below
import Derived.Test.YbulkaxzgWalksG
namespace Go.Proofs.Ybulkaxzg.lawS2463BExact
open Go.ChangeShapes Go.WideShapes Go.ChangeAt Go.RowKit
open Go.ChangeMaps (open_string shut_string)
set_option linter.unusedVariables false

theorem own : ownKnob Yba.prog.godebug = none := by kernel_rfl
theorem laidOut : laidOutB Yba.prog = true := by kernel_rfl

/-- WHAT THE WALK IS TOLD OF A SLICE OF INTEGERS THAT CAME IN: it is nil; or it leads to a row of 'cap' cells, the numbers 'zs' (the first 'len' are its elements, the rest its spare room), each fitting its kind. -/
def IsRow (k : IntKind) (w : World) (a : Option Addr) (len cap : Nat) (zs : List Int) : Prop :=
  (a = none ∧ len = 0 ∧ cap = 0 ∧ zs = []) ∨
  ∃ x, a = some x ∧ len ≤ cap ∧ cap ≤ maxLen ∧ zs.length = cap ∧ (∀ i, i < zs.length → w.cell? (x.add i) = some (.int k (zs.getD i 0))) ∧ ∀ n ∈ zs, (Lit.int k n).wf = true

open W in
theorem allBytes {w : World} {a : Option Addr} {len cap : Nat} {zs : List Int} (h : Row w a len cap zs) : AllBytes (zs.take len) := by
  have hb : ∀ x ∈ zs, 0 ≤ x ∧ x ≤ 255 := by
    obtain ⟨_, _, _, rfl⟩ | ⟨x, _, _, _, _, _, h5⟩ := h
    · simp
    · intro x hx
      have := h5 x hx
      simp [Lit.wf, IntKind.min, IntKind.max, IntKind.bits, IntKind.signed] at this
      omega
  intro i
  by_cases hi : i < (zs.take len).length
  · have hm : (zs.take len)[i] ∈ zs := List.mem_of_mem_take (List.getElem_mem hi)
    have := hb _ hm
    simpa [List.getD, List.getElem?_eq_getElem hi] using this
  · simp [List.getD, List.getElem?_eq_none (by omega : (zs.take len).length ≤ i)]

open W in
set_option maxHeartbeats 1000000 in
theorem walk_bad (a0 : Option Addr) (n cap0 : Nat) (f : Bool) (z0 : List Int) (w : World) (w0 : Row w a0 n cap0 z0) (hn : n ≤ 1024) (hf : f = true ∨ n < 3) :
    Calls Yba.prog 3 #[.slice a0 n cap0, .bool f] w fun e w' => e = .returned (.bool true) ∧ Below w.heap.size w w' := by
  have hd := w0.bytes
  have HF := hid hf
  have hf' : f = false → (n : Int) < 3 := by intro h; rw [h] at hf; simp at hf; omega
  have HF' := hid hf'
  clear hf hf'
  cases f
  · have hn3 := HF'.out rfl
    clear HF'
    go_enter Yba.func3, Yba.ntmps3
    go_wp2_with fail
    refine (bclone_any a0 n cap0 z0 _ w0 (by omega)).mono ?_
    rintro e w1 ⟨p, c, rfl, hlc, hc, hB, hb⟩
    have hps := PS.new false hB hlc hc
    go_wp2_with fail
    refine (u24_end hps (by simpa using HF.out)).mono ?_
    rintro e w2 ⟨rfl, hps2, hgr⟩
    have c0 := hps2.c0
    have c1 := hps2.c1
    have hbr : Below w1.heap.size w1 w2 := ((Below.refl _ w1).alloc (Nat.le_refl _) _).grown hgr (by simp) (by simp)
    go_wp2_with fail
    refine (beq_any p a0 n c cap0 (z0.take n) _ (by omega) hps2.bytes ((hd.below hb).below hbr)).mono ?_
    rintro e w3 ⟨rfl, m, rfl⟩
    go_wp2
    go_ret
    exact ⟨rfl, below_drewN (hb.trans (hbr.mono hb.size)) _⟩
  · clear HF'
    go_enter Yba.func3, Yba.ntmps3
    go_wp2_with fail
    refine (bclone_any a0 n cap0 z0 _ w0 (by omega)).mono ?_
    rintro e w1 ⟨p, c, rfl, hlc, hc, hB, hb⟩
    have hps := PS.new true hB hlc hc
    go_wp2_with fail
    refine (u24_end hps (by simp)).mono ?_
    rintro e w2 ⟨rfl, hps2, hgr⟩
    have c0 := hps2.c0
    have c1 := hps2.c1
    have hbr : Below w1.heap.size w1 w2 := ((Below.refl _ w1).alloc (Nat.le_refl _) _).grown hgr (by simp) (by simp)
    go_wp2_with fail
    refine (beq_any p a0 n c cap0 (z0.take n) _ (by omega) hps2.bytes ((hd.below hb).below hbr)).mono ?_
    rintro e w3 ⟨rfl, m, rfl⟩
    go_wp2
    go_ret
    exact ⟨rfl, below_drewN (hb.trans (hbr.mono hb.size)) _⟩

open W in
set_option maxHeartbeats 1000000 in
theorem walk_some (g0 o0 n cap0 : Nat) (z0 : List Int) (w : World) (w0 : Row w (some ⟨g0, o0, none⟩) n cap0 z0) (h3 : 3 ≤ n) (hn : n ≤ 1024) (hcap : n ≤ cap0) :
    Calls Yba.prog 3 #[.slice (some ⟨g0, o0, none⟩) n cap0, .bool false] w fun e w' => e = .returned (.bool true) ∧ Below w.heap.size w w' := by
  have hd := w0.bytes
  have hA := allBytes w0
  have h3' : (3 : Int) ≤ (n : Int) := by omega
  go_enter Yba.func3, Yba.ntmps3
  go_wp2_with fail
  refine (bclone_any _ n cap0 z0 _ w0 (by omega)).mono ?_
  rintro e w1 ⟨p, c, rfl, hlc, hc, hB, hb⟩
  have hps := PS.new false hB hlc hc
  go_wp2_with fail
  refine (u24_ps hps h3 hA).mono ?_
  rintro e w2 ⟨p2, rfl, hps2, hgr⟩
  have c0 := hps2.c0
  have c1 := hps2.c1
  have hbr : Below w1.heap.size w1 w2 := ((Below.refl _ w1).alloc (Nat.le_refl _) _).grown hgr (by simp) (by simp)
  have hd2 := (hd.below hb).below hbr
  obtain ⟨x0, x1, x2⟩ : w2.cell? ⟨g0, o0, none⟩ = some (.int .u8 ((z0.take n).getD 0 0)) ∧ w2.cell? ⟨g0, o0 + 1, none⟩ = some (.int .u8 ((z0.take n).getD 1 0)) ∧ w2.cell? ⟨g0, o0 + 2, none⟩ = some (.int .u8 ((z0.take n).getD 2 0)) := by
    obtain ⟨_, h | ⟨g', o', he, h⟩⟩ := hd2
    · omega
    · simp at he
      obtain ⟨rfl, rfl⟩ := he
      exact ⟨h 0 (by omega), h 1 (by omega), h 2 (by omega)⟩
  obtain ⟨b00, b01⟩ := hA 0
  obtain ⟨b10, b11⟩ := hA 1
  obtain ⟨b20, b21⟩ := hA 2
  generalize (z0.take n).getD 0 0 = x at x0 b00 b01 ⊢
  generalize (z0.take n).getD 1 0 = y at x1 b10 b11 ⊢
  generalize (z0.take n).getD 2 0 = z at x2 b20 b21 ⊢
  have i0 : (0 : Int) < (n : Int) := by omega
  have i1 : (1 : Int) < (n : Int) := by omega
  have i2 : (2 : Int) < (n : Int) := by omega
  go_wp2_with fail
  go_quiet (fail)
  go_wp2_with fail
  have hQ := hd2.past (k := 3) h3 hcap
  have hBy := hps2.bytes
  by_cases hcp : cap0 = 3
  · obtain rfl : n = 3 := by omega
    subst hcp
    clear hQ hBy
    go_quiet ((go_at_call 9; refine quiet_of2 (beq_any _ _ 0 _ _ [] _ (by omega) ⟨rfl, .inl rfl⟩ ⟨rfl, .inl rfl⟩)))
    go_wp2
    go_ret
    exact ⟨rfl, below_drewN (below_drewN (hb.trans (hbr.mono hb.size)) _) _⟩
  · rw [show past g0 o0 cap0 3 = ⟨g0, o0 + 3, none⟩ from by unfold past; rw [if_neg hcp]] at hQ
    go_quiet ((go_at_call 9; refine quiet_of2 (beq_any _ _ (n - 3) _ _ ((z0.take n).drop 3) _ (by omega) ?_ ?_); exact hBy.drewN _; exact hQ.drewN _))
    go_wp2
    go_ret
    exact ⟨rfl, below_drewN (below_drewN (hb.trans (hbr.mono hb.size)) _) _⟩

theorem walk_long (a0 : Option Addr) (len0 cap0 : Nat) (a1 : Bool) (w : World) (hn : 1024 < len0) :
    Calls Yba.prog 3 #[.slice a0 len0 cap0, .bool a1] w fun e w' => e = .returned (.bool true) ∧ Below w.heap.size w w' := by
  have h : (1024 : Int) < (len0 : Int) := by omega
  go_enter Yba.func3, Yba.ntmps3
  go_wp2
  go_ret
  exact ⟨rfl, Below.refl _ _⟩

theorem walk (a0 : Option Addr) (len0 cap0 : Nat) (z0 : List Int) (a1 : Bool) (w : World) (w0 : IsRow .u8 w a0 len0 cap0 z0) :
    Calls Yba.prog 3 #[.slice a0 len0 cap0, .bool a1] w fun e w' => e = .returned (.bool true) ∧ Below w.heap.size w w' := by
  have w0 : W.Row w a0 len0 cap0 z0 := w0
  by_cases hn : 1024 < len0
  · exact walk_long a0 len0 cap0 a1 w hn
  · by_cases hf : a1 = true ∨ len0 < 3
    · exact walk_bad a0 len0 cap0 a1 z0 w w0 (by omega) hf
    · have ha : a1 = false := by
        cases a1
        · rfl
        · exact absurd (Or.inl rfl) hf
      have h3 : 3 ≤ len0 := by
        have : ¬ len0 < 3 := fun h => hf (Or.inr h)
        omega
      subst ha
      have hb := w0.bytes
      have hcap : len0 ≤ cap0 := by
        obtain ⟨_, rfl, rfl, _⟩ | ⟨x, _, h1, _⟩ := w0
        · exact Nat.le_refl _
        · exact h1
      obtain ⟨_, h | ⟨g, o, rfl, _⟩⟩ := hb
      · omega
      · exact walk_some g o len0 cap0 z0 w w0 h3 (by omega) hcap

/-! ### THE ROW's STEP: WRITTEN OUT: LEAVE IT -/
set_option maxRecDepth 100000 in
theorem lifted (os : Os) (started : os.Started) (H : Type) (enc : TypeId × Value → H) :
    ReturnsInHanded {} Yba.checked os 3 .any (Rows.lawS2463BExactSpec.pre6 enc Yba.prog Yba.f3 Rows.lawS2463BExactRow.domain false) (Rows.lawS2463BExactSpec.post enc Yba.prog Yba.f3 false true false false) := by
  refine returnsInHanded_of_change (C := Yba.checked) own started (by kernel_rfl) Yba.func3
    (ChangeSpec.witness6 (enc := enc) (C := Yba.checked) false ⟨#[], #[.slice none 0 0, .bool false], []⟩ 8 (by kernel_rfl) (by kernel_rfl) (by kernel_rfl) (by kernel_rfl)) ?_
  intro W base args ds gs before hval0 hW hcnd _
  have hval : ∀ (j : Nat) t v, Yba.f3.params[j]? = some t → args[j]? = some v → Value.okWide Yba.prog W .any base t v := hval0
  have hW' := hW
  obtain ⟨p, q, hA0, hV, rfl, hfz, hnd⟩ := hW
  have hA : DataW.TrodAll enc Yba.prog W 0 (fun _ => true) true Yba.f3.params.toList args.toList ds p := hA0
  rw [Yba.params3] at hA hval
  obtain ⟨v0, vs0, d0, ds0, p0, q0, hargs, rfl, rfl, h0, r0⟩ := trodAll_cons hA
  obtain ⟨v1, vs1, d1, ds1, p1, q1, rfl, rfl, rfl, h1, r1⟩ := trodAll_cons r0
  obtain ⟨rfl, rfl, rfl⟩ := trodAll_nil r1
  obtain rfl : args = #[v0, v1] := by cases args; simp_all
  obtain ⟨rfl, rfl⟩ := trodVars_none hV
  obtain ⟨a0, len0, cap0, rfl⟩ := okWide_slice Yba.underlying22 (hval 0 22 v0 rfl rfl)
  have k0 := h0
  have lt0 : ∀ x ∈ p0, x.block < W.heap.size := by obtain ⟨m, hm⟩ := k0; exact DataW.trod_lt m _ _ _ hm
  obtain ⟨z0, w0⟩ : ∃ zs, IsRow .u8 W a0 len0 cap0 zs := by
    obtain ⟨fuel, hf⟩ := h0
    rcases open_ints Yba.underlying22 Yba.underlying5 (by kernel_rfl) hf with ⟨hcs, _⟩ | ⟨x, l, c, zs, hcs, _, hl, hm, hz, _, hcell, hwz⟩
    · simp [Value.cells] at hcs
      obtain ⟨rfl, rfl, rfl⟩ := hcs
      exact ⟨[], .inl ⟨rfl, rfl, rfl, rfl⟩⟩
    · simp [Value.cells] at hcs
      obtain ⟨rfl, rfl, rfl⟩ := hcs
      exact ⟨zs, .inr ⟨_, rfl, hl, hm, by simpa using hz, hcell, hwz⟩⟩
  obtain ⟨a1, rfl, rfl, rfl⟩ := open_bool Yba.underlying4 (hval 1 4 v1 rfl rfl) h1
  clear hA0 hval0
  refine (walk a0 len0 cap0 z0 a1 W w0).mono fun e W' ⟨he, bel⟩ => ?_
  subst he
  exact ⟨_, rfl, _, _, _, [], _, [], hW', trodAll_mk1 (shut_bool Yba.underlying4 _), (trodAll_cons_mk (Below.trod laidOut (by kernel_rfl) (of_decide_eq_true (by kernel_rfl)) k0 bel lt0) (trodAll_cons_mk (shut_bool Yba.underlying4 _) trodAll_mk0)), rfl, bel.frame _, fun h => by cases h⟩

theorem over : Rows.lawS2463BExactRow.holds Yba.pinned (OpenSpec.ofChange Rows.lawS2463BExactSpec) :=
  OpenClaim.holds_of_wide 3 Yba.f3 rfl rfl rfl rfl rfl rfl rfl ⟨rfl, rfl, rfl, rfl, rfl⟩ rfl rfl rfl rfl rfl (by kernel_rfl) Yba.func3 (by kernel_rfl)
    (of_decide_eq_true (by kernel_rfl)) (by unfold Func.isWrapper; first | (rw [if_pos (by decide +kernel)]; kernel_rfl) | (rw [if_neg (by decide +kernel)]; exact ⟨rfl, rfl⟩))
    (fun os started H enc _ => lifted os started H enc)

/-- ████ THE STATEMENT ████ -/
theorem proved : Rows.LawS2463BExactSaid := over
#print axioms proved
end Go.Proofs.Ybulkaxzg.lawS2463BExact
