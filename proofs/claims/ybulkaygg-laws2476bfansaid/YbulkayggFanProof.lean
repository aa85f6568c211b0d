/-
  A PROOF OF 'Rows.LawS2476BFanSaid'. The frame after the guide's shells; the walk in YbulkayggLaw.lean.
-/
import Derived.Test.YbulkayggRows
import Derived.Test.YbulkayggLaw
import Derived.WalkKit
import Derived.ProofKit
import Derived.OpenShut
import Derived.ChangeOld
import Derived.Below
import Derived.Deep.Grids
namespace Go.Proofs.Ybulkaygg.lawS2476BFan
open Go.ChangeShapes Go.WideShapes Go.ChangeAt Go.RowKit
open A
set_option linter.unusedVariables false

theorem own : ownKnob Yba.prog.godebug = none := by kernel_rfl
theorem laidOut : laidOutB Yba.prog = true := by kernel_rfl

theorem add_plain (g o i : Nat) : (⟨g, o, none⟩ : Addr).add i = ⟨g, o + i, none⟩ := by
  unfold Addr.add
  split
  · rename_i h
    subst h
    rfl
  · rfl

theorem bools_of {w : World} {x : Addr} {len cap : Nat} {B : Nat → Bool} (hl : len ≤ cap) (hc : ∀ i, i < cap → w.cell? (x.add i) = some (.bool (B i))) : Bools w (some x) len ((List.range len).map B) := by
  refine ⟨by simp, ?_⟩
  by_cases h0 : len = 0
  · exact .inl h0
  · obtain ⟨b, off, spot⟩ := x
    have hs : spot = none := by simpa [Addr.add] using World.cell?_spot (hc 0 (by omega))
    subst hs
    refine .inr ⟨b, off, rfl, fun i hi => ?_⟩
    have := hc i (by omega)
    rw [add_plain] at this
    rw [this]
    simp [List.getD, hi]

theorem ints_of {w : World} {x : Addr} {len cap : Nat} {zs : List Int} (hl : len ≤ cap) (hz : zs.length = cap) (hc : ∀ i, i < zs.length → w.cell? (x.add i) = some (.int .i64 (zs.getD i 0))) : Ints w (some x) len (zs.take len) := by
  refine ⟨by simp; omega, ?_⟩
  by_cases h0 : len = 0
  · exact .inl h0
  · obtain ⟨b, off, spot⟩ := x
    have hs : spot = none := by simpa [Addr.add] using World.cell?_spot (hc 0 (by omega))
    subst hs
    refine .inr ⟨b, off, rfl, fun i hi => ?_⟩
    have := hc i (by omega)
    rw [add_plain] at this
    rw [this]
    simp [List.getD, hi]

theorem bools_lt {w : World} {p : Option Addr} {n : Nat} {bs : List Bool} (h : Bools w p n bs) : ∀ a, p = some a → 0 < n → a.block < w.heap.size := by
  intro a ha hn
  obtain ⟨_, h | ⟨g, o, rfl, hc⟩⟩ := h
  · omega
  · obtain rfl := Option.some.inj ha
    exact lt_of_cell (hc 0 hn)
theorem ints_lt {w : World} {p : Option Addr} {n : Nat} {zs : List Int} (h : Ints w p n zs) : ∀ a, p = some a → 0 < n → a.block < w.heap.size := by
  intro a ha hn
  obtain ⟨_, h | ⟨g, o, rfl, hc⟩⟩ := h
  · omega
  · obtain rfl := Option.some.inj ha
    exact lt_of_cell (hc 0 hn)

theorem walk (n fr mask r : Int) (p0 p1 q : Option Addr) (m0 c0 m1 c1 k kc : Nat) (bs sb : List Bool) (ms : List Int) (lies : Bool) (w : World) (wn : (Lit.int .u8 n).wf = true) (wf : (Lit.int .u8 fr).wf = true) (wm : (Lit.int .u8 mask).wf = true)
    (hb : Bools w p0 m0 bs) (hs : Bools w p1 m1 sb) (hms : Ints w q k ms) (hq0 : q = none → k = 0 ∧ kc = 0) :
    Calls Yba.prog 3 #[.int .u8 n, .int .u8 fr, .slice p0 m0 c0, .slice p1 m1 c1, .bool lies, .int .u8 mask, .int .i64 r, .slice q k kc] w fun e w' => e = .returned (.bool true) ∧ Below w.heap.size w w' := by
  simp [Lit.wf, IntKind.min, IntKind.max, IntKind.bits, IntKind.signed] at wn wf wm
  by_cases hk : 256 < k
  · exact law_long n fr mask r p0 p1 q m0 c0 m1 c1 k kc lies w hk
  · exact law_walk n fr mask r p0 p1 q m0 c0 m1 c1 k kc bs sb ms lies w (by omega) (by omega) (by omega) (by omega) (by omega) (by omega) (by omega) hb hs hms hq0 (bools_lt hb) (bools_lt hs) (ints_lt hms)

/-! ### THE ROW's STEP -/
set_option maxRecDepth 100000 in
theorem lifted (os : Os) (started : os.Started) (H : Type) (enc : TypeId × Value → H) :
    ReturnsInHanded {} Yba.checked os 3 .any (Rows.lawS2476BFanSpec.pre6 enc Yba.prog Yba.f3 Rows.lawS2476BFanRow.domain false) (Rows.lawS2476BFanSpec.post enc Yba.prog Yba.f3 false true false false) := by
  refine returnsInHanded_of_change (C := Yba.checked) own started (by kernel_rfl) Yba.func3
    (ChangeSpec.witness6 (enc := enc) (C := Yba.checked) false ⟨#[], #[.int .u8 0, .int .u8 0, .slice none 0 0, .slice none 0 0, .bool false, .int .u8 0, .int .i64 0, .slice none 0 0], []⟩ 8 (by kernel_rfl) (by kernel_rfl) (by kernel_rfl) (by kernel_rfl)) ?_
  intro W base args ds gs before hval0 hW hcnd _
  have hval : ∀ (j : Nat) t v, Yba.f3.params[j]? = some t → args[j]? = some v → Value.okWide Yba.prog W .any base t v := hval0
  have hW' := hW
  obtain ⟨p, q, hA0, hV, rfl, hfz, hnd⟩ := hW
  have hA : DataW.TrodAll enc Yba.prog W 0 (fun _ => true) true Yba.f3.params.toList args.toList ds p := hA0
  rw [Yba.params3] at hA hval
  obtain ⟨v0, vs0, d0, ds0, p0, q0, hargs, rfl, rfl, h0, r0⟩ := trodAll_cons hA
  obtain ⟨v1, vs1, d1, ds1, p1, q1, rfl, rfl, rfl, h1, r1⟩ := trodAll_cons r0
  obtain ⟨v2, vs2, d2, ds2, p2, q2, rfl, rfl, rfl, h2, r2⟩ := trodAll_cons r1
  obtain ⟨v3, vs3, d3, ds3, p3, q3, rfl, rfl, rfl, h3, r3⟩ := trodAll_cons r2
  obtain ⟨v4, vs4, d4, ds4, p4, q4, rfl, rfl, rfl, h4, r4⟩ := trodAll_cons r3
  obtain ⟨v5, vs5, d5, ds5, p5, q5, rfl, rfl, rfl, h5, r5⟩ := trodAll_cons r4
  obtain ⟨v6, vs6, d6, ds6, p6, q6, rfl, rfl, rfl, h6, r6⟩ := trodAll_cons r5
  obtain ⟨v7, vs7, d7, ds7, p7, q7, rfl, rfl, rfl, h7, r7⟩ := trodAll_cons r6
  obtain ⟨rfl, rfl, rfl⟩ := trodAll_nil r7
  obtain rfl : args = #[v0, v1, v2, v3, v4, v5, v6, v7] := by cases args; simp_all
  obtain ⟨rfl, rfl⟩ := trodVars_none hV
  obtain ⟨n, rfl, rfl, rfl, wn⟩ := open_int Yba.underlying5 (hval 0 5 v0 rfl rfl) h0
  obtain ⟨fr, rfl, rfl, rfl, wf⟩ := open_int Yba.underlying5 (hval 1 5 v1 rfl rfl) h1
  obtain ⟨a2, len2, cap2, rfl⟩ := okWide_slice Yba.underlying22 (hval 2 22 v2 rfl rfl)
  have k2 := h2
  have lt2 : ∀ x ∈ p2, x.block < W.heap.size := by obtain ⟨m, hm⟩ := k2; exact DataW.trod_lt m _ _ _ hm
  obtain ⟨z2, w2⟩ : ∃ bs, Bools W a2 len2 bs := by
    obtain ⟨fuel, hf⟩ := h2
    rcases Deep.open_bools Yba.underlying22 Yba.underlying4 (by kernel_rfl) hf with ⟨hcs, _⟩ | ⟨x, l, c, B, hcs, _, hl, _, _, hcell⟩
    · simp [Value.cells] at hcs
      obtain ⟨rfl, rfl, rfl⟩ := hcs
      exact ⟨[], rfl, .inl rfl⟩
    · simp [Value.cells] at hcs
      obtain ⟨rfl, rfl, rfl⟩ := hcs
      exact ⟨_, bools_of hl hcell⟩
  obtain ⟨a3, len3, cap3, rfl⟩ := okWide_slice Yba.underlying22 (hval 3 22 v3 rfl rfl)
  have k3 := h3
  have lt3 : ∀ x ∈ p3, x.block < W.heap.size := by obtain ⟨m, hm⟩ := k3; exact DataW.trod_lt m _ _ _ hm
  obtain ⟨z3, w3⟩ : ∃ bs, Bools W a3 len3 bs := by
    obtain ⟨fuel, hf⟩ := h3
    rcases Deep.open_bools Yba.underlying22 Yba.underlying4 (by kernel_rfl) hf with ⟨hcs, _⟩ | ⟨x, l, c, B, hcs, _, hl, _, _, hcell⟩
    · simp [Value.cells] at hcs
      obtain ⟨rfl, rfl, rfl⟩ := hcs
      exact ⟨[], rfl, .inl rfl⟩
    · simp [Value.cells] at hcs
      obtain ⟨rfl, rfl, rfl⟩ := hcs
      exact ⟨_, bools_of hl hcell⟩
  obtain ⟨lies, rfl, rfl, rfl⟩ := open_bool Yba.underlying4 (hval 4 4 v4 rfl rfl) h4
  obtain ⟨mask, rfl, rfl, rfl, wm⟩ := open_int Yba.underlying5 (hval 5 5 v5 rfl rfl) h5
  obtain ⟨rd, rfl, rfl, rfl, wr⟩ := open_int Yba.underlying3 (hval 6 3 v6 rfl rfl) h6
  obtain ⟨a7, len7, cap7, rfl⟩ := okWide_slice Yba.underlying23 (hval 7 23 v7 rfl rfl)
  have k7 := h7
  have lt7 : ∀ x ∈ p7, x.block < W.heap.size := by obtain ⟨m, hm⟩ := k7; exact DataW.trod_lt m _ _ _ hm
  obtain ⟨z7, w7, e7⟩ : ∃ zs, Ints W a7 len7 zs ∧ (a7 = none → len7 = 0 ∧ cap7 = 0) := by
    obtain ⟨fuel, hf⟩ := h7
    rcases open_ints Yba.underlying23 Yba.underlying3 (by kernel_rfl) hf with ⟨hcs, _⟩ | ⟨x, l, c, zs, hcs, _, hl, hm, hz, _, hcell, hwz⟩
    · simp [Value.cells] at hcs
      obtain ⟨rfl, rfl, rfl⟩ := hcs
      exact ⟨[], ⟨rfl, .inl rfl⟩, fun _ => ⟨rfl, rfl⟩⟩
    · simp [Value.cells] at hcs
      obtain ⟨rfl, rfl, rfl⟩ := hcs
      exact ⟨_, ints_of hl (by simpa using hz) hcell, fun h => by cases h⟩
  clear hA0 hval0
  refine (walk n fr mask rd a2 a3 a7 len2 cap2 len3 cap3 len7 cap7 z2 z3 z7 lies W wn wf wm w2 w3 w7 e7).mono fun e W' ⟨he, bel⟩ => ?_
  subst he
  exact ⟨_, rfl, _, _, _, [], _, [], hW', trodAll_mk1 (shut_bool Yba.underlying4 _),
    (trodAll_cons_mk (shut_int Yba.underlying5 wn) (trodAll_cons_mk (shut_int Yba.underlying5 wf)
      (trodAll_cons_mk (Below.trod laidOut (by kernel_rfl) (of_decide_eq_true (by kernel_rfl)) k2 bel lt2) (trodAll_cons_mk (Below.trod laidOut (by kernel_rfl) (of_decide_eq_true (by kernel_rfl)) k3 bel lt3)
      (trodAll_cons_mk (shut_bool Yba.underlying4 _) (trodAll_cons_mk (shut_int Yba.underlying5 wm) (trodAll_cons_mk (shut_int Yba.underlying3 wr)
      (trodAll_cons_mk (Below.trod laidOut (by kernel_rfl) (of_decide_eq_true (by kernel_rfl)) k7 bel lt7) trodAll_mk0)))))))), rfl, bel.frame _, fun h => by cases h⟩

theorem over : Rows.lawS2476BFanRow.holds Yba.pinned (OpenSpec.ofChange Rows.lawS2476BFanSpec) :=
  OpenClaim.holds_of_wide 3 Yba.f3 rfl rfl rfl rfl rfl rfl rfl ⟨rfl, rfl, rfl, rfl, rfl⟩ rfl rfl rfl rfl rfl (by kernel_rfl) Yba.func3 (by kernel_rfl)
    (of_decide_eq_true (by kernel_rfl)) (by unfold Func.isWrapper; first | (rw [if_pos (by decide +kernel)]; kernel_rfl) | (rw [if_neg (by decide +kernel)]; exact ⟨rfl, rfl⟩))
    (fun os started H enc _ => lifted os started H enc)

/-- ████ THE STATEMENT ████ -/
theorem proved : Rows.LawS2476BFanSaid := over
#print axioms proved
end Go.Proofs.Ybulkaygg.lawS2476BFan
