/-
  A PROOF OF 'Rows.LawS2465ABuiltToldSaid'. The frame after the guide's Port texts; the walks in YbulkayaiFmtLaw.lean.
-/
import Derived.Test.YbulkayaiFmtCards
import Derived.Test.YbulkayaiFmtTie
import Derived.Test.YbulkayaiFmtLaw
import Derived.ProofKit
import Derived.Stop.JoinedAt
import Derived.Stop.Texts
import Derived.Stop.ErrReads
import Derived.Stop.JoinedTold
import Derived.SevenTiedAt
import Derived.OpenShut
import Derived.LaidLaws
import Derived.Lib.LaidTab
import Derived.Stop.LaidErr
namespace Go.Proofs.YbulkayaiFmt.Built
open Go.ChangeShapes Go.WideShapes Go.ChangeAt Go.RowKit Go.Kit
open Go.Extern.Stop Go.Stop Go.Extern
set_option linter.unusedVariables false

theorem own : ownKnob Ybaf.prog.godebug = none := by kernel_rfl
theorem laidOut : laidOutB Ybaf.pinned.checked.prog = true := by kernel_rfl
theorem stops : Ybaf.pinned.checked.prog.stops = ["fmt.Sprintf", "fmt.errorf"] := by kernel_rfl
theorem stopKnobs : Ybaf.pinned.checked.prog.stopKnobs = [] := by kernel_rfl
theorem quiet (os : Os) : Stop.quiet Ybaf.pinned.checked.prog os := by
  intro k hk
  rw [stopKnobs] at hk
  cases hk

/-- The integers of a listed table, as cells. -/
def cellsOfD : DataW Unit → Array Value
  | .agg l => (l.filterMap fun d => match d with | .lit (.int k z) => some (Value.int k z) | _ => none).toArray
  | _ => #[]
def put (h : Array Obj) (g : Nat) (cs : Array Value) : Array Obj := h.modify g fun
  | .cells _ t frozen => .cells cs t frozen
  | o => o
def laidWorld (P : Program) (os : Os) : World :=
  let w0 := World.holding P os ⟨#[], #[], []⟩
  { w0 with heap := put (put (put w0.heap 1 (cellsOfD Rows.laid_math_bits_deBruijn32tab)) 2 (cellsOfD Rows.laid_math_bits_deBruijn64tab)) 0 (cellsOfD Rows.laid_internal_strconv_uint64pow10) }
set_option maxRecDepth 1000000 in
theorem laid_met (os : Os) (args : Array Value) : laidMet Ybaf.prog Rows.lawS2465ABuiltRow.laid ((laidWorld Ybaf.prog os).forCall (fun _ _ => 0) ⟨#[], args, []⟩).memory :=
  laidMet_of_run' 8 (by kernel_rfl) (by kernel_rfl)

set_option maxRecDepth 100000 in
theorem tab_of {W : World} (hL : laidMet Ybaf.prog Rows.lawS2465ABuiltRow.laid W) : A.Tab W := by
  have h : laidMet Ybaf.prog [(Ybaf.tabN, Lib.tabData .u64 Lib.pow10Tab)] W := laidMet.tail (laidMet.tail hL)
  exact Lib.tabIs_of_head (g := 0) (t := 128) A.tabG (by kernel_rfl) Ybaf.underlying128 Ybaf.underlying86 (by kernel_rfl) (by kernel_rfl) h

theorem walk (F : Interp) (pick : Int) (p : Option Addr) (n c : Nat) (zs : List Int) (w : World) (hF : F.answers w.tape) (h0 : 0 ≤ pick) (h1 : pick ≤ 255) (hp : p = none → n = 0 ∧ c = 0) (hz : A.Bytes w.heap.size w p n zs) (htab : A.Tab w) (hw0 : 0 < w.heap.size) :
    Calls Ybaf.prog 4 #[.int .u8 pick, .slice p n c] w fun e w' => e = .returned (.bool true) ∧ Below w.heap.size w w' := by
  by_cases hn : n ≤ 1024
  · obtain hr | hr | hr : pick % 3 = 0 ∨ pick % 3 = 1 ∨ pick % 3 = 2 := by omega
    · exact A.law_yes pick p n c zs w h0 h1 hr hn hp hz htab hw0
    · exact A.law_no_1 F pick p n c zs w hF h0 h1 hr hn hp hz htab hw0
    · exact A.law_no_2 F pick p n c zs w hF h0 h1 hr hn hp hz htab hw0
  · exact A.law_long pick p n c w (by omega)

set_option maxRecDepth 100000 in
theorem t_lifted (os : Os) (started : os.Started) (H : Type) (enc : TypeId × Value → H) :
    ReturnsInTold none {} Ybaf.checked os 4 .any Input.okWide ((OpenSpec.ofChange Rows.lawS2465ABuiltSpec).preRow enc Ybaf.prog Ybaf.f4 [] false Rows.lawS2465ABuiltRow.laid) (fun F => ((OpenSpec.ofChange Rows.lawS2465ABuiltSpec).at F).post enc Ybaf.prog Ybaf.f4 false true false false) (aloneAtReturn Ybaf.prog) nothingAlways := by
  refine returnsInTold_of_row (C := Ybaf.checked) (s := OpenSpec.ofChange Rows.lawS2465ABuiltSpec) (by kernel_rfl) own started (by kernel_rfl) Ybaf.func4
    (OpenSpec.witness_stopped_at (enc := enc) (C := Ybaf.checked) false (laidWorld Ybaf.prog os) #[.int .u8 1, .slice none 0 0] rfl (by kernel_rfl) (by kernel_rfl) (by kernel_rfl)
      (OpenSpec.preRow_of_B rfl 8 (by kernel_rfl) (by kernel_rfl) (laid_met os _))) ?_
  intro F W base args ds gs before _ hF hval0 hW _ _ _ hL _
  have hval : ∀ (j : Nat) t v, Ybaf.f4.params[j]? = some t → args[j]? = some v → Value.okWide Ybaf.prog W .any base t v := hval0
  have hW' := hW
  obtain ⟨p, q, hA0, hV, rfl, hfz, hnd⟩ := hW
  have hA : DataW.TrodAll enc Ybaf.prog W 0 (fun _ => true) true Ybaf.f4.params.toList args.toList ds p := hA0
  rw [Ybaf.params4] at hA hval
  obtain ⟨v0, vs0, d0, ds0, p0, q0, hargs, rfl, rfl, h0, r0⟩ := trodAll_cons hA
  obtain ⟨v1, vs1, d1, ds1, p1, q1, rfl, rfl, rfl, h1, r1⟩ := trodAll_cons r0
  obtain ⟨rfl, rfl, rfl⟩ := trodAll_nil r1
  obtain rfl : args = #[v0, v1] := by cases args; simp_all
  obtain ⟨rfl, rfl⟩ := trodVars_none hV
  obtain ⟨c, rfl, rfl, rfl, wc⟩ := open_int Ybaf.underlying5 (hval 0 5 v0 rfl rfl) h0
  obtain ⟨a0, len0, cap0, rfl⟩ := okWide_slice Ybaf.underlying22 (hval 1 22 v1 rfl rfl)
  have k0 := h1
  have lt0 : ∀ x ∈ p1, x.block < W.heap.size := by obtain ⟨m, hm⟩ := k0; exact DataW.trod_lt m _ _ _ hm
  obtain ⟨zs, hp, hz⟩ : ∃ zs, (a0 = none → len0 = 0 ∧ cap0 = 0) ∧ A.Bytes W.heap.size W a0 len0 zs := by
    obtain ⟨fuel, hf⟩ := h1
    rcases open_ints Ybaf.underlying22 Ybaf.underlying5 (by kernel_rfl) hf with ⟨hcs, _⟩ | ⟨x, l, c, zs, hcs, _, hl, hm, hz, _, hcell, hwz⟩
    · simp [Value.cells] at hcs
      obtain ⟨rfl, rfl, rfl⟩ := hcs
      exact ⟨[], fun _ => ⟨rfl, rfl⟩, rfl, .inl rfl⟩
    · simp [Value.cells] at hcs
      obtain ⟨rfl, rfl, rfl⟩ := hcs
      have hz' : zs.length = cap0 := by simpa using hz
      refine ⟨zs.take len0, (fun h => by cases h), by simp; omega, ?_⟩
      by_cases hl0 : len0 = 0
      · exact .inl hl0
      · right
        obtain ⟨b, o, sp⟩ := x
        have hc0 := hcell 0 (by omega)
        have hsp : sp = none := by
          simp only [Addr.add, if_true, World.cell?] at hc0
          cases sp with
          | none => rfl
          | some k => split at hc0 <;> simp at hc0
        subst hsp
        refine ⟨b, o, rfl, A.lt_of_cell hc0, fun i hi => ?_⟩
        have h := hcell i (by omega)
        have e : (Addr.add ⟨b, o, none⟩ i) = ⟨b, o + i, none⟩ := by
          unfold Addr.add
          split
          · subst i; rfl
          · rfl
        rw [e] at h
        rw [h]
        simp [hi]
  clear hA0 hval0
  obtain ⟨c0, c1⟩ : 0 ≤ c ∧ c ≤ 255 := by
    have := wc
    simp [Lit.wf, IntKind.min, IntKind.max, IntKind.signed, IntKind.bits] at this
    omega
  have htab := tab_of hL
  have hw0 : 0 < W.heap.size := A.lt_of_cell (htab.cell A.tabG 0 (by decide))
  refine (walk F.told c a0 len0 cap0 zs W hF c0 c1 hp hz htab hw0).mono fun e W' ⟨he, bel⟩ => ?_
  subst he
  exact ⟨_, rfl, _, _, _, [], _, [], hW', trodAll_mk1 (shut_bool Ybaf.underlying4 _), (trodAll_cons_mk (shut_int Ybaf.underlying5 wc) (trodAll_cons_mk (Below.trod laidOut (by kernel_rfl) (of_decide_eq_true (by kernel_rfl)) k0 bel lt0) trodAll_mk0)), rfl, bel.frame _, fun h => by cases h⟩

/-- THE STATEMENT -/
theorem proved : Rows.LawS2465ABuiltToldSaid :=
  Claim7.holds_of_told_tied_any_at .later 4 Ybaf.f4 "fmt.Sprintf" ["fmt.errorf"] [] _ _ _ _ _ (by kernel_rfl) rfl rfl rfl laidOut (by kernel_rfl) rfl ⟨rfl, rfl, rfl, rfl, rfl, rfl, rfl⟩ rfl rfl (by kernel_rfl) (by kernel_rfl) Ybaf.func4 (by kernel_rfl)
    (of_decide_eq_true (by kernel_rfl)) (of_decide_eq_true (by kernel_rfl)) stops.symm rfl stopKnobs.symm (by kernel_rfl)
    (by kernel_rfl) (by kernel_rfl) (by kernel_rfl) (by kernel_rfl) (by kernel_rfl) (by kernel_rfl) (by kernel_rfl) (by kernel_rfl) (by kernel_rfl) rfl (by kernel_rfl) rfl rfl
    rfl rfl
    rfl (by kernel_rfl) (by kernel_rfl) (by kernel_rfl) (by decide) (by kernel_rfl) lawS2465ABuilt_row_tie
    (OpenClaim.moreEntering_of (by kernel_rfl) (by kernel_rfl) (by kernel_rfl) (by kernel_rfl) (by kernel_rfl) (by kernel_rfl) (by kernel_rfl) (by kernel_rfl) (by kernel_rfl) (by kernel_rfl))
    ⟨_, WideRow.started_initial, quiet _⟩
    (fun os started _ H enc _ => t_lifted os started H enc)
#print axioms proved
end Go.Proofs.YbulkayaiFmt.Built
