/-
  THE TWO TESTS OF A WORKER's ID.
-/
import Derived.Test.YbulkaybyDoorNum
import Derived.WalkSmall
import Derived.BigQuiet
namespace Go.Proofs.YbulkaybyDoor.A
open Go.RowKit Go.Lib
set_option linter.unusedVariables false

def front (s : ByteArray) : ByteArray := s.extract 0 (Lib.lastIndexByte s 45).toNat
def rear (s : ByteArray) : ByteArray := s.extract ((Lib.lastIndexByte s 45).toNat + 1) s.size
def wrk (s : ByteArray) : Bool := !decide (Lib.lastIndexByte s 45 < 0) && (att (rear s) && vid (front s))

set_option maxHeartbeats 1000000 in
theorem worker (s : ByteArray) (hs : s.size < 4611686018427387904) (w : World) :
    Calls Ybad.prog 12 #[.string s] w fun e w' => e = .returned (.bool (wrk s)) ∧ w' = w := by
  rcases Lib.lastIdx_spec s 45 s.size with ⟨h, _⟩ | ⟨i, hi, h, _, _⟩
  · have h' : Lib.lastIndexByte s 45 = -1 := h
    have hw : wrk s = false := by unfold wrk; rw [h']; rfl
    have Hw := hid hw
    have Hh := hid h'
    clear h h' hw
    go_enter Ybad.func12, Ybad.ntmps12
    go_wp2_with fail
    refine (last s hs _).mono ?_
    rintro e w' ⟨rfl, rfl⟩
    rw [Hh.out]
    go_wp2
    go_ret
    exact ⟨by rw [Hw.out]; rfl, rfl⟩
  · have h' : Lib.lastIndexByte s 45 = (i : Int) := h
    have hf : front s = s.extract 0 i := by unfold front; rw [h']; rfl
    have hr : rear s = s.extract (i + 1) s.size := by unfold rear; rw [h']; rfl
    have hw : wrk s = (att (s.extract (i + 1) s.size) && vid (s.extract 0 i)) := by
      unfold wrk; rw [hf, hr, h']
      have : ¬ ((i : Int) < 0) := by omega
      simp [this]
    have Hw := hid hw
    have Hh := hid h'
    clear h h' hw hf hr
    have hi' : (i : Int) < (s.size : Int) := by omega
    go_enter Ybad.func12, Ybad.ntmps12
    go_wp2_with fail
    refine (last s hs _).mono ?_
    rintro e w' ⟨rfl, rfl⟩
    rw [Hh.out]
    go_wp2_with fail
    refine (attempt _ _).mono ?_
    rintro e w' ⟨rfl, rfl⟩
    cases hA : att (s.extract (i + 1) s.size)
    · replace hA := hid hA
      go_wp2
      go_ret
      exact ⟨by rw [Hw.out, hA.out]; rfl, rfl⟩
    · replace hA := hid hA
      go_wp2_with fail
      refine (validid _ _).mono ?_
      rintro e w' ⟨rfl, rfl⟩
      go_wp2
      go_ret
      exact ⟨by rw [Hw.out, hA.out]; rfl, rfl⟩

/-- What the walks ask of the package-level variables. -/
structure Env (w : World) : Prop where
  syn : ∃ t p, w.cell? ⟨3, 0, none⟩ = some (.iface t p)
  rng : ∃ t p, w.cell? ⟨4, 0, none⟩ = some (.iface t p)
  tab : Lib.TabIs Ybad.prog w Ybad.tabN .u64 Lib.pow10Tab
  low : 4 < w.heap.size

theorem tabG : Ybad.prog.globalNamed Ybad.tabN = some 2 := by kernel_rfl
theorem grow_below {w : World} (k : Nat) (os : Array Obj) : Below w.heap.size w (Go.Sort.grow (w.drewN k) os) :=
  ⟨rfl, rfl, rfl, by simp [Go.Sort.grow], fun i hi => by simp [Go.Sort.grow, Array.getElem?_append, hi]⟩

theorem belN (w : World) (n : Nat) : Below w.heap.size w (w.drewN n) := ⟨rfl, rfl, rfl, Nat.le_refl _, fun i hi => rfl⟩
theorem Env.below {w w' : World} (h : Env w) (hb : Below w.heap.size w w') : Env w' := by
  have hl := h.low
  refine ⟨?_, ?_, ?_, Nat.lt_of_lt_of_le hl hb.size⟩
  · obtain ⟨t, p, e⟩ := h.syn
    exact ⟨t, p, by rw [hb.cell (show (⟨3, 0, none⟩ : Addr).block < w.heap.size by show 3 < w.heap.size; omega)]; exact e⟩
  · obtain ⟨t, p, e⟩ := h.rng
    exact ⟨t, p, by rw [hb.cell (show (⟨4, 0, none⟩ : Addr).block < w.heap.size by show 4 < w.heap.size; omega)]; exact e⟩
  · exact var?_below hb tabG (by omega) h.tab

/-- strconv.Atoi at an attempt. -/
theorem atoiOk (s : ByteArray) (hs : s.size ≤ 1000000) (v : Int) (h : Lib.atoiAll s.data.toList = .ok v) (w : World) :
    Calls Ybad.prog 16 #[.string s] w fun e w' => e = .returned (.tuple #[.int .i64 v, .nilIface]) ∧ Below w.heap.size w w' := by
  refine (Ybad.strconv_Atoi_ok s (by omega) v h w).mono ?_
  rintro e w' ⟨rfl, hw⟩
  refine ⟨rfl, ?_⟩
  rcases hw with rfl | ⟨t, rfl⟩
  · exact Below.refl _ _
  · exact Lib.bytesWorld_below _ _ _
theorem atoiErr (s : ByteArray) (hs : s.size ≤ 1000000) (h : ∀ v, Lib.atoiAll s.data.toList ≠ .ok v) (w : World) (E : Env w) :
    Calls Ybad.prog 16 #[.string s] w fun e w' => ∃ x N, e = .returned (.tuple #[.int .i64 x, .iface 47 (.pointer (some ⟨N, 0, none⟩))]) ∧ Below w.heap.size w w' := by
  obtain ⟨t3, p3, h3⟩ := E.syn
  obtain ⟨t4, p4, h4⟩ := E.rng
  cases hA : Lib.atoiAll s.data.toList
  · exact absurd hA (h _)
  · refine (Any.strconv_Atoi_syntax Ybad.laysC172 s (by omega) hA _ w h3 (.inr ⟨_, _, rfl⟩)).mono ?_
    rintro e w' ⟨N, rfl, _, _, hb⟩
    exact ⟨_, N, rfl, hb⟩
  · refine (Ybad.strconv_Atoi_range s (by omega) hA _ w h4 (.inr ⟨_, _, rfl⟩)).mono ?_
    rintro e w' ⟨N, rfl, _, _, hb⟩
    exact ⟨_, N, rfl, hb⟩
theorem itoa (v : Int) (h0 : -9223372036854775808 ≤ v) (h1 : v ≤ 9223372036854775807) (w : World) (E : Env w) :
    Calls Ybad.prog 7 #[.int .i64 v] w fun e w' => e = .returned (.string ⟨(Lib.itoa v).toArray⟩) ∧ Below w.heap.size w w' := by
  refine (Ybad.strconv_Itoa v h0 h1 w E.tab).mono ?_
  rintro e w' ⟨rfl, k, os, rfl⟩
  exact ⟨rfl, grow_below k os⟩

set_option maxHeartbeats 1000000 in
theorem validWorker (s : ByteArray) (hs : s.size ≤ 1000000) (w : World) (E : Env w) :
    Calls Ybad.prog 10 #[.string s] w fun e w' => e = .returned (.bool (wrk s)) ∧ Below w.heap.size w w' := by
  rcases Lib.lastIdx_spec s 45 s.size with ⟨h, _⟩ | ⟨i, hi, h, _, _⟩
  · have h' : Lib.lastIndexByte s 45 = -1 := h
    have hw : wrk s = false := by unfold wrk; rw [h']; rfl
    have Hw := hid hw
    have Hh := hid h'
    clear h h' hw
    go_enter Ybad.func10, Ybad.ntmps10
    go_wp2_with fail
    refine (Ybad.strings_LastIndexByte s 45 (by omega) _).mono ?_
    rintro e w' ⟨rfl, rfl⟩
    rw [Hh.out]
    go_wp2
    go_ret
    exact ⟨by rw [Hw.out]; rfl, Below.refl _ _⟩
  · have h' : Lib.lastIndexByte s 45 = (i : Int) := h
    have hf : front s = s.extract 0 i := by unfold front; rw [h']; rfl
    have hr : rear s = s.extract (i + 1) s.size := by unfold rear; rw [h']; rfl
    have hw : wrk s = (wAtt (s.extract (i + 1) s.size) && vid (s.extract 0 i)) := by
      rw [wAtt_eq]
      unfold wrk; rw [hf, hr, h']
      have : ¬ ((i : Int) < 0) := by omega
      simp [this]
    have Hw := hid hw
    have Hh := hid h'
    clear h h' hw hf hr
    have hi' : (i : Int) < (s.size : Int) := by omega
    have hrs : (s.extract (i + 1) s.size).size ≤ 1000000 := by simp; omega
    have HRS := hid hrs
    clear hrs
    go_enter Ybad.func10, Ybad.ntmps10
    go_wp2_with fail
    refine (Ybad.strings_LastIndexByte s 45 (by omega) _).mono ?_
    rintro e w' ⟨rfl, rfl⟩
    rw [Hh.out]
    go_wp2_with fail
    go_quiet (fail)
    go_wp2_with fail
    obtain ⟨R, hR⟩ : ∃ R, R = s.extract (i + 1) s.size := ⟨_, rfl⟩
    rw [← hR] at Hw HRS ⊢
    have HR := hid hR
    clear hR
    have E1 : Env (w'.drewN nq) := E.below (belN _ _)
    by_cases hok : ∃ v, Lib.atoiAll R.data.toList = .ok v
    · obtain ⟨v, hv⟩ := hok
      obtain ⟨b0, b1⟩ := Lib.atoiAll_bounds hv
      refine (atoiOk R HRS.out v hv _).mono ?_
      rintro e w1 ⟨rfl, hb1⟩
      have hwa : wAtt R = (decide (1 ≤ v) && decide (R = ⟨(Lib.itoa v).toArray⟩)) := by unfold wAtt; rw [hv]
      have Hwa := hid hwa
      clear hwa hv
      by_cases h1 : 1 ≤ v
      · go_wp2_with fail
        refine (itoa v b0 b1 _ (E1.below hb1)).mono ?_
        rintro e w2 ⟨rfl, hb2⟩
        have hb3 : Below w'.heap.size w' w2 := ((belN w' nq).trans hb1).trans (hb2.mono hb1.size)
        by_cases hq : R.toList = Lib.itoa v
        · go_wp2_with fail
          have he : R = ⟨(Lib.itoa v).toArray⟩ := by
            rw [Lib.toList_data] at hq
            rw [← Lib.mk_data R, hq]
          have He := hid he
          clear he
          refine (validId _ _).mono ?_
          rintro e w3 ⟨rfl, rfl⟩
          go_wp2
          go_ret
          refine ⟨?_, hb3⟩
          have hd : (decide (1 ≤ v) && decide (R = { data := (Lib.itoa v).toArray })) = true := by
            rw [Bool.and_eq_true, decide_eq_true_eq, decide_eq_true_eq]
            exact ⟨h1, He.out⟩
          rw [Hw.out, Hwa.out, hd]
          rfl
        · go_wp2
          go_ret
          refine ⟨?_, hb3⟩
          have hd : (decide (1 ≤ v) && decide (R = { data := (Lib.itoa v).toArray })) = false := by
            rw [Bool.and_eq_false_iff, decide_eq_false_iff_not, decide_eq_false_iff_not]
            right
            intro h
            apply hq
            rw [Lib.toList_data, h]
          rw [Hw.out, Hwa.out, hd]
          rfl
      · have h1' : ¬ 1 ≤ v := h1
        go_wp2
        go_ret
        refine ⟨?_, (belN w' nq).trans hb1⟩
        have hd : decide (1 ≤ v) = false := by rw [decide_eq_false_iff_not]; omega
        rw [Hw.out, Hwa.out, hd]
        rfl
    · refine (atoiErr R HRS.out (fun v hv => hok ⟨v, hv⟩) _ E1).mono ?_
      rintro e w1 ⟨x, N, rfl, hb1⟩
      have hwa : wAtt R = false := by
        unfold wAtt
        split
        · rename_i v hv
          exact absurd ⟨v, hv⟩ hok
        · rfl
      have Hwa := hid hwa
      clear hwa hok
      go_wp2
      go_ret
      refine ⟨?_, (belN w' nq).trans hb1⟩
      rw [Hw.out, Hwa.out]
      rfl
end Go.Proofs.YbulkaybyDoor.A
