/-
  A PROOF OF 'Rows.LawS2468BBuiltCardSaid'. The frame after the guide's Mapy texts; the walks in YbulkaybyDoorJoin.lean.
-/
import Derived.Test.YbulkaybyDoorCards
import Derived.Test.YbulkaybyDoorTie
import Derived.Test.YbulkaybyDoorJoin
import Derived.ProofKit
import Derived.LaidMore
import Derived.LaidLaws
import Derived.Lib.LaidTab
import Derived.OpenShut
import Derived.OpenVars
import Derived.Stop.Joined
import Derived.Stop.LaidErr
import Derived.SevenTiedAt
import Derived.Laws.IdiomMaps
namespace Go.Proofs.YbulkaybyDoor.Built
open Go.ChangeShapes Go.WideShapes Go.ChangeAt Go.WideMaps Go.WideElems Go.RowKit
open Go.ChangeMaps (open_string shut_string)
open Go.Extern.Stop
set_option linter.unusedVariables false

theorem own : ownKnob Ybad.prog.godebug = none := by kernel_rfl
theorem laidOut : laidOutB Ybad.prog = true := by kernel_rfl
abbrev laid6 : List (String × DataW Unit) := Rows.lawS2468BBuiltRow.laid
def sevN : String := Rows.lawS2468BBuiltSpec.vars.headD Rows.lawS2468BBuiltRow.func
def nameAt (k : Nat) : String := (laid6.map (·.1)).getD k sevN
theorem gSev : Ybad.prog.globalNamed sevN = some 0 := by kernel_rfl
theorem gSyn : Ybad.prog.globalNamed (nameAt 4) = some 3 := by kernel_rfl
theorem gRng : Ybad.prog.globalNamed (nameAt 3) = some 4 := by kernel_rfl
theorem tSev : (Ybad.prog.globals[0]?).map (·.type) = some 29 := by kernel_rfl
theorem tSyn : (Ybad.prog.globals[3]?).map (·.type) = some 32 := by kernel_rfl
theorem tRng : (Ybad.prog.globals[4]?).map (·.type) = some 32 := by kernel_rfl
theorem tTab : (Ybad.prog.globals[2]?).map (·.type) = some 52 := by kernel_rfl

theorem door_met (os : Os) (args : Array Value) : laidMetH Ybad.prog laid6 ((World.doorLaid Ybad.prog 400 os).forCall (fun _ _ => 0) ⟨#[], args, []⟩).memory :=
  laidMetH_of_parts3 (fuel := 8) (laidMet_of_run' 8 (by kernel_rfl) (by kernel_rfl)) (by kernel_rfl) (by kernel_rfl)

theorem elemAt_string {H : Type} {enc : TypeId × Value → H} {P : Program} {base : Nat} {held : Bool} {e : TypeId} (he : P.underlying e = some .string) {W : World} {sp : Nat → Bool} {n : Nat} {v : Value} {z : DataW H × List MemPlace} (h : elemAt enc P W base sp held n e v = some z) :
    ∃ s, v = .string s ∧ z = (.lit (.string s.data.toList), []) := by
  unfold elemAt at h
  split at h
  · rename_i hf
    obtain ⟨s, hc, hz, hw⟩ := DataW.trod_string he h
    cases v <;> simp [Value.formed, he, Value.cells] at hf hc
    subst hc
    exact ⟨_, rfl, hz⟩
  · cases h

abbrev sevD : DataW Unit := Rows.laid_example_com_shiftboss_shiftboss_fleet_alertSeverity
theorem at_no {k : ByteArray} (h : A.isTyp k = false) : sevD.atKey (.string k.data.toList) .nil = .nil := by
  unfold A.isTyp at h
  rw [Lib.toList_data] at h
  simp only [Bool.or_eq_false_iff, decide_eq_false_iff_not] at h
  obtain ⟨h1, h2, h3, h4⟩ := h
  have e1 := beq_eq_false_iff_ne.2 (Ne.symm h1)
  have e2 := beq_eq_false_iff_ne.2 (Ne.symm h2)
  have e3 := beq_eq_false_iff_ne.2 (Ne.symm h3)
  have e4 := beq_eq_false_iff_ne.2 (Ne.symm h4)
  simp only [sevD, Rows.laid_example_com_shiftboss_shiftboss_fleet_alertSeverity, DataW.atKey, Lit.sameKey, List.find?_cons, e1, e2, e3, e4, List.find?_nil]
theorem at_yes {k : ByteArray} (h : A.isTyp k = true) : sevD.atKey (.string k.data.toList) .nil ≠ .nil := by
  unfold A.isTyp at h
  rw [Lib.toList_data] at h
  simp only [Bool.or_eq_true, decide_eq_true_eq] at h
  rcases h with h | h | h | h
  all_goals rw [h]
  all_goals intro e
  all_goals cases e

theorem zero9 (w : World) : (zeroValue 9).run Ybad.prog w = .ok (.string ByteArray.empty) w := by kernel_rfl

set_option maxRecDepth 100000 in
theorem sev_of {W : World} (h : laidMetH Ybad.prog laid6 W) : ∀ w', Below W.heap.size W w' → A.Sev w' := by
  rw [MakeChecks.laidMetH_plain _ _ _ (by kernel_rfl)] at h
  have h6 : laidMet Ybad.prog [(sevN, sevD)] W := laidMet.tail (laidMet.tail (laidMet.tail (laidMet.tail (laidMet.tail h))))
  obtain ⟨ps, ⟨g0, t0, cs0, f0, p0, q0, hg0, ht0, hv0, hd0, _, _⟩, _, _⟩ := h6
  obtain rfl := Option.some.inj (gSev.symm.trans hg0)
  obtain rfl := Option.some.inj (tSev.symm.trans ht0)
  rcases open_map Ybad.underlying29 hd0 with ⟨_, hx⟩ | ⟨bm, es, clock, m, rfl, hcs, hb, _, F, hx⟩
  · exfalso
    simp only [Prod.mk.injEq] at hx
    cases hx.1
  simp only [Prod.mk.injEq] at hx
  have hcell : W.cell? ⟨0, 0, none⟩ = some (.map (some bm)) := by
    have := World.var?_cell hg0 hv0 0
    rw [Array.eq_one_of_toList hcs] at this
    simpa using this
  intro w' hbl
  have hbm : bm < W.heap.size := by
    rcases Nat.lt_or_ge bm W.heap.size with h | h
    · exact h
    · rw [Array.getElem?_eq_none h] at hb; cases hb
  refine ⟨bm, by rw [hbl.cell (A.lt_of_cell hcell)]; exact hcell, fun k hk => ?_⟩
  have key := keyOf_string_mk (P := Ybad.prog) (k := 9) (s := k) Ybad.underlying9 (by unfold maxLen; omega)
  have hb' : ∀ n, (w'.drewN n).heap[bm]? = some (.map es clock) := fun n => by
    show w'.heap[bm]? = _
    rw [hbl.block bm hbm]
    exact hb
  cases hT : A.isTyp k
  · refine ⟨ByteArray.empty, fun n => ?_⟩
    rcases fit_lookup_ok (w := w'.drewN n) (string_law Ybad.underlying9) Ybad.underlying29 (zero9 _) (hb' n) F key with ⟨hrun, _⟩ | ⟨v, y, _, hRv, hat, _⟩
    · exact hrun
    · exfalso
      obtain ⟨r, rfl, rfl⟩ := elemAt_string Ybad.underlying9 hRv
      have := hat .nil
      rw [← hx.1, at_no hT] at this
      cases this
  · have hsome : ∃ v, ∀ n, (Instr.lookup 29 (.map (some bm)) (.string k) true).run Ybad.prog (w'.drewN n) = .ok (.tuple #[.string v, .bool true]) (w'.drewN n) := by
      have hone : ∀ n, ∃ v, (Instr.lookup 29 (.map (some bm)) (.string k) true).run Ybad.prog (w'.drewN n) = .ok (.tuple #[.string v, .bool true]) (w'.drewN n) ∧ sevD.atKey (.string k.data.toList) .nil = .lit (.string v.data.toList) := by
        intro n
        rcases fit_lookup_ok (w := w'.drewN n) (string_law Ybad.underlying9) Ybad.underlying29 (zero9 _) (hb' n) F key with ⟨_, hat⟩ | ⟨v, y, hrun, hRv, hat, _⟩
        · exfalso
          have := hat .nil
          rw [← hx.1] at this
          exact at_yes hT this
        · obtain ⟨r, rfl, rfl⟩ := elemAt_string Ybad.underlying9 hRv
          have := hat .nil
          rw [← hx.1] at this
          exact ⟨r, hrun, this⟩
      obtain ⟨v, _, hv⟩ := hone 0
      refine ⟨v, fun n => ?_⟩
      obtain ⟨v2, hr2, hv2⟩ := hone n
      have e : v2 = v := by
        rw [hv] at hv2
        simp only [DataW.lit.injEq, Lit.string.injEq] at hv2
        rw [← Lib.mk_data v2, ← hv2, Lib.mk_data]
      rw [← e]
      exact hr2
    exact hsome

theorem env_of {W : World} (h : laidMetH Ybad.prog laid6 W) : A.Env W := by
  rw [MakeChecks.laidMetH_plain _ _ _ (by kernel_rfl)] at h
  have h3 : laidMet Ybad.prog ((Ybad.tabN, Lib.tabData .u64 Lib.pow10Tab) :: laid6.drop 3) W := laidMet.tail (laidMet.tail h)
  have h4 : laidMet Ybad.prog ((nameAt 3, Rows.laid_strconv_ErrRange) :: laid6.drop 4) W := laidMet.tail h3
  have h5 : laidMet Ybad.prog ((nameAt 4, Rows.laid_strconv_ErrSyntax) :: laid6.drop 5) W := laidMet.tail h4
  have htab : Lib.TabIs Ybad.prog W Ybad.tabN .u64 Lib.pow10Tab := Lib.tabIs_of_head (g := 2) (t := 52) A.tabG tTab Ybad.underlying52 Ybad.underlying39 (by kernel_rfl) (by kernel_rfl) h3
  obtain ⟨ps, ⟨g0, t0, cs0, f0, p0, q0, hg0, ht0, hv0, hd0, _, _⟩, _, _⟩ := h4
  obtain ⟨ps, ⟨g1, t1, cs1, f1, p1, q1, hg1, ht1, hv1, hd1, _, _⟩, _, _⟩ := h5
  obtain rfl := Option.some.inj (gRng.symm.trans hg0)
  obtain rfl := Option.some.inj (tRng.symm.trans ht0)
  obtain rfl := Option.some.inj (gSyn.symm.trans hg1)
  obtain rfl := Option.some.inj (tSyn.symm.trans ht1)
  obtain ⟨_, u0, v0, hc0, _, _⟩ := iface_of_trod Ybad.underlying32 hd0
  obtain ⟨_, u1, v1, hc1, _, _⟩ := iface_of_trod Ybad.underlying32 hd1
  have c4 : W.cell? ⟨4, 0, none⟩ = some (.iface u0 v0) := by
    have := World.var?_cell hg0 hv0 0
    rw [Array.eq_one_of_toList hc0] at this
    simpa using this
  have c3 : W.cell? ⟨3, 0, none⟩ = some (.iface u1 v1) := by
    have := World.var?_cell hg1 hv1 0
    rw [Array.eq_one_of_toList hc1] at this
    simpa using this
  exact ⟨⟨_, _, c3⟩, ⟨_, _, c4⟩, htab, A.lt_of_cell c4⟩

set_option maxRecDepth 100000 in
theorem lifted (os : Os) (started : os.Started) (H : Type) (enc : TypeId × Value → H) :
    ReturnsInHanded {} Ybad.checked os 4 .any (fun w args => (Rows.lawS2468BBuiltSpec.pre enc Ybad.prog Ybad.f4 [] false w args ∧ laidMetH Ybad.prog laid6 w) ∧ sizedMet enc Ybad.prog Ybad.f4 (OpenSpec.ofChange Rows.lawS2468BBuiltSpec) false w args)
      (Rows.lawS2468BBuiltSpec.post enc Ybad.prog Ybad.f4 false true false false) := by
  refine returnsInHanded_of_change_and (C := Ybad.checked) (X := fun w _ => laidMetH Ybad.prog laid6 w) (fun _ _ _ hh h => h.of_heap hh) own started (by kernel_rfl) Ybad.func4
    (ChangeSpec.witness_shaped (enc := enc) (C := Ybad.checked) (os := os) (X := fun w _ => laidMetH Ybad.prog laid6 w) false (World.doorLaid Ybad.prog 400 os) #[.slice none 0 0, .int .i32 0, .int .u8 0, .int .u8 0, .string ⟨#[]⟩] 8 rfl (World.shaped_of_RefB (by kernel_rfl) (by kernel_rfl)) (by kernel_rfl) (by kernel_rfl) (by kernel_rfl) (door_met os _)) ?_
  intro W base args ds gs before hval0 hW _ _ hL _
  have hval : ∀ (j : Nat) t v, Ybad.f4.params[j]? = some t → args[j]? = some v → Value.okWide Ybad.prog W .any base t v := hval0
  have hW' := hW
  obtain ⟨p, q, hA0, hV, rfl, hfz, hnd⟩ := hW
  have hA : DataW.TrodAll enc Ybad.prog W 0 (fun _ => true) true Ybad.f4.params.toList args.toList ds p := hA0
  rw [Ybad.params4] at hA hval
  obtain ⟨v0, vs0, d0, ds0, p0, q0, hargs, rfl, rfl, h0, r0⟩ := trodAll_cons hA
  obtain ⟨v1, vs1, d1, ds1, p1, q1, rfl, rfl, rfl, h1, r1⟩ := trodAll_cons r0
  obtain ⟨v2, vs2, d2, ds2, p2, q2, rfl, rfl, rfl, h2, r2⟩ := trodAll_cons r1
  obtain ⟨v3, vs3, d3, ds3, p3, q3, rfl, rfl, rfl, h3, r3⟩ := trodAll_cons r2
  obtain ⟨v4, vs4, d4, ds4, p4, q4, rfl, rfl, rfl, h4, r4⟩ := trodAll_cons r3
  obtain ⟨rfl, rfl, rfl⟩ := trodAll_nil r4
  obtain rfl : args = #[v0, v1, v2, v3, v4] := by cases args; simp_all
  have hV' : DataW.TrodVars enc Ybad.prog W (fun _ => true) [sevN] gs q := hV
  obtain ⟨_, _, _, _, g1, _, rfl, _⟩ := trodVars_one hV'
  obtain ⟨a0, len0, cap0, rfl⟩ := okWide_slice Ybad.underlying23 (hval 0 23 v0 rfl rfl)
  have k0 := h0
  have lt0 : ∀ x ∈ p0, x.block < W.heap.size := by obtain ⟨m, hm⟩ := k0; exact DataW.trod_lt m _ _ _ hm
  obtain ⟨a, rfl, rfl, rfl, wa⟩ := open_int Ybad.underlying21 (hval 1 21 v1 rfl rfl) h1
  obtain ⟨x, rfl, rfl, rfl, wx⟩ := open_int Ybad.underlying5 (hval 2 5 v2 rfl rfl) h2
  obtain ⟨y, rfl, rfl, rfl, wy⟩ := open_int Ybad.underlying5 (hval 3 5 v3 rfl rfl) h3
  obtain ⟨j, rfl, rfl, rfl, ws⟩ := open_string Ybad.underlying9 (hval 4 9 v4 rfl rfl) h4
  obtain ⟨zs, hz⟩ : ∃ zs, A.Task W a0 len0 zs := by
    obtain ⟨fuel, hf⟩ := h0
    rcases open_ints Ybad.underlying23 Ybad.underlying5 (by kernel_rfl) hf with ⟨hcs, _⟩ | ⟨xa, l, c, zs, hcs, _, hl, hm, hz, _, hcell, hwz⟩
    · simp [Value.cells] at hcs
      obtain ⟨rfl, rfl, rfl⟩ := hcs
      exact ⟨[], rfl, .inl rfl, by simp⟩
    · simp [Value.cells] at hcs
      obtain ⟨rfl, rfl, rfl⟩ := hcs
      have hz' : zs.length = cap0 := by simpa using hz
      refine ⟨zs.take len0, by simp; omega, ?_, fun z hz => ?_⟩
      · by_cases hl0 : len0 = 0
        · exact .inl hl0
        · right
          obtain ⟨b, o, sp⟩ := xa
          have hc0 := hcell 0 (by omega)
          have hsp : sp = none := by
            simp only [Addr.add, if_true, World.cell?] at hc0
            cases sp with
            | none => rfl
            | some k => split at hc0 <;> simp at hc0
          subst hsp
          refine ⟨b, o, rfl, fun i hi => ?_⟩
          have h := hcell i (by omega)
          have e : (Addr.add ⟨b, o, none⟩ i) = ⟨b, o + i, none⟩ := by
            unfold Addr.add
            split
            · subst i; rfl
            · rfl
          rw [e] at h
          rw [h]
          simp [hi]
      · have := hwz z (List.mem_of_mem_take hz)
        simp [Lit.wf, IntKind.min, IntKind.max, IntKind.signed, IntKind.bits] at this
        omega
  clear hA0 hval0
  obtain ⟨x0, x1⟩ : 0 ≤ x ∧ x ≤ 255 := by
    have := wx
    simp [Lit.wf, IntKind.min, IntKind.max, IntKind.signed, IntKind.bits] at this
    omega
  obtain ⟨y0, y1⟩ : 0 ≤ y ∧ y ≤ 255 := by
    have := wy
    simp [Lit.wf, IntKind.min, IntKind.max, IntKind.signed, IntKind.bits] at this
    omega
  obtain ⟨b0, b1⟩ : -2147483648 ≤ a ∧ a ≤ 2147483647 := by
    have := wa
    simp [Lit.wf, IntKind.min, IntKind.max, IntKind.signed, IntKind.bits] at this
    omega
  refine (A.law a0 len0 cap0 a x y j zs W hz x0 x1 y0 y1 b0 b1 (env_of hL) (sev_of hL)).mono fun e W' ⟨he, bel⟩ => ?_
  subst he
  exact ⟨_, rfl, _, _, _, [], _, _, hW', trodAll_mk1 (shut_bool Ybad.underlying4 _), (trodAll_cons_mk (Below.trod laidOut (by kernel_rfl) (of_decide_eq_true (by kernel_rfl)) k0 bel lt0) (trodAll_cons_mk (shut_int Ybad.underlying21 wa) (trodAll_cons_mk (shut_int Ybad.underlying5 wx) (trodAll_cons_mk (shut_int Ybad.underlying5 wy) (trodAll_cons_mk (shut_string Ybad.underlying9 ws) trodAll_mk0))))), Below.trodVars laidOut bel (by kernel_rfl) hV, bel.frame _, fun h => by cases h⟩

theorem over : Rows.LawS2468BBuiltSaid :=
  OpenClaim.holds_of_wide 4 Ybad.f4 rfl rfl rfl rfl rfl rfl rfl ⟨rfl, rfl, rfl, rfl, rfl⟩ rfl rfl rfl rfl rfl (by kernel_rfl) Ybad.func4 (by kernel_rfl)
    (of_decide_eq_true (by kernel_rfl)) (by unfold Func.isWrapper; first | (rw [if_pos (by decide +kernel)]; kernel_rfl) | (rw [if_neg (by decide +kernel)]; exact ⟨rfl, rfl⟩))
    (fun os started H enc _ => lifted os started H enc)

/-- THE STATEMENT -/
theorem proved : Rows.LawS2468BBuiltCardSaid :=
  Claim7.holds_tied_plain_at .later [] [.data, .data, .data, .sentinel, .sentinel, .mapped] true _ true
    over (fun _ h => by cases h) (by kernel_rfl) (fun _ h => by cases h) lawS2468BBuilt_row_tie rfl ⟨rfl, rfl⟩ (by kernel_rfl) rfl
    (fun f fn hf hfn => by
      obtain rfl : f = 4 := Option.some.inj ((show Ybad.prog.funcNamed Rows.lawS2468BBuiltRow.func = some 4 by kernel_rfl).symm.trans hf) |>.symm
      obtain rfl : fn = Ybad.f4 := (Option.some.inj (Ybad.func4.symm.trans hfn)).symm
      exact ⟨by kernel_rfl, fun j t ht => by
        rw [Ybad.params4] at ht
        have hm : t ∈ [23, 21, 5, 5, 9] := by simpa using Array.mem_of_getElem? ht
        have hall : ([23, 21, 5, 5, 9].all fun u => !Ybad.prog.wantsStandIn u) = true := by kernel_rfl
        exact (show Ybad.prog.wantsStandIn t = false by simpa using List.all_eq_true.1 hall t hm)⟩)
    (by kernel_rfl)
#print axioms proved
end Go.Proofs.YbulkaybyDoor.Built
