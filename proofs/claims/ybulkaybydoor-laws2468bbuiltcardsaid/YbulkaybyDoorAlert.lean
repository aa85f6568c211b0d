/-
  THE TWO TESTS OF AN ALERT's ID.
-/
import Derived.Test.YbulkaybyDoorWorker
namespace Go.Proofs.YbulkaybyDoor.A
open Go.RowKit Go.Lib
set_option linter.unusedVariables false

def preS : ByteArray := ⟨#[97, 108, 101, 114, 116, 45]⟩
def isTyp (k : ByteArray) : Bool :=
  decide (k.toList = [115, 116, 97, 108, 108, 101, 100]) || (decide (k.toList = [110, 111, 95, 99, 104, 101, 99, 107, 105, 110]) ||
  (decide (k.toList = [110, 111, 95, 112, 114, 111, 103, 114, 101, 115, 115]) || decide (k.toList = [116, 97, 115, 107, 95, 102, 97, 105, 108, 101, 100])))
def restS (s : ByteArray) : ByteArray := s.extract 6 s.size
def alert (s : ByteArray) : Bool := Lib.hasPrefix s.data.toList preS.data.toList && (!decide (Lib.lastIndexByte (restS s) 45 < 0) && (isTyp (rear (restS s)) && wrk (front (restS s))))

theorem pre_yes {s : ByteArray} (h : Lib.hasPrefix s.data.toList preS.data.toList = true) : 6 ≤ s.size ∧ (s.extract 0 6).toList = preS.data.toList ∧ (⟨(Lib.trimPrefix s.data.toList preS.data.toList).toArray⟩ : ByteArray) = restS s := by
  have h0 := h
  unfold Lib.hasPrefix at h
  rw [List.isPrefixOf_iff_prefix] at h
  have hl := h.length_le
  have h6 : preS.data.toList.length = 6 := rfl
  have hsz := Lib.size_eq s
  refine ⟨by omega, ?_, ?_⟩
  · rw [Lib.extract_toList]
    have := List.prefix_iff_eq_take.1 h
    rw [h6] at this
    simpa using this.symm
  · have e : (restS s).data.toList = Lib.trimPrefix s.data.toList preS.data.toList := by
      have := Lib.extract_toList s 6 s.size
      rw [Lib.toList_data] at this
      unfold restS
      rw [this, Lib.trimPrefix, if_pos h0, h6, List.take_of_length_le (by simp)]
    rw [← e, Lib.mk_data]

theorem pre_no {s : ByteArray} (h : Lib.hasPrefix s.data.toList preS.data.toList = false) : s.size < 6 ∨ (s.extract 0 6).toList ≠ preS.data.toList := by
  by_cases h6 : s.size < 6
  · exact .inl h6
  · right
    intro he
    rw [Lib.extract_toList] at he
    have hp : preS.data.toList <+: s.data.toList := by
      rw [← he]
      exact List.take_prefix _ _
    have : Lib.hasPrefix s.data.toList preS.data.toList = true := by
      unfold Lib.hasPrefix
      rw [List.isPrefixOf_iff_prefix]
      exact hp
    rw [this] at h
    cases h

theorem rest_size (s : ByteArray) : (restS s).size ≤ s.size := by unfold restS; simp
theorem front_size (s : ByteArray) : (front s).size ≤ s.size := by unfold front; simp; exact Nat.min_le_right _ _

/-- The map of the severities, as the walks ask it. -/
def Sev (w : World) : Prop := ∃ bm, w.cell? ⟨0, 0, none⟩ = some (.map (some bm)) ∧ ∀ k : ByteArray, k.size ≤ 1000000 → ∃ v, ∀ n, (Instr.lookup 29 (.map (some bm)) (.string k) true).run Ybad.prog (w.drewN n) = .ok (.tuple #[.string v, .bool (isTyp k)]) (w.drewN n)

set_option maxHeartbeats 1000000 in
theorem validAlert (s : ByteArray) (hs : s.size ≤ 1000000) (w : World) (E : Env w) (S : Sev w) :
    Calls Ybad.prog 5 #[.string s] w fun e w' => e = .returned (.bool (alert s)) ∧ Below w.heap.size w w' := by
  cases hp : Lib.hasPrefix s.data.toList preS.data.toList
  · have ha : alert s = false := by unfold alert; rw [hp]; rfl
    have Ha := hid ha
    have Hp := hid hp
    clear ha hp
    have hts : (⟨(Lib.trimPrefix s.data.toList preS.data.toList).toArray⟩ : ByteArray) = s := by
      rw [Lib.trimPrefix, if_neg (by rw [Hp.out]; simp), Lib.mk_data]
    have Ht := hid hts
    clear hts
    go_enter Ybad.func5, Ybad.ntmps5
    go_wp2_with fail
    refine (Ybad.strings_CutPrefix s preS _).mono ?_
    rintro e w' ⟨rfl, rfl⟩
    rw [Hp.out, Ht.out]
    go_wp2_with fail
    refine (Ybad.strings_LastIndexByte s 45 (by omega) _).mono ?_
    rintro e w' ⟨rfl, rfl⟩
    go_wp2
    go_ret
    exact ⟨by rw [Ha.out]; rfl, Below.refl _ _⟩
  · obtain ⟨h6, _, hts⟩ := pre_yes hp
    have hrs := rest_size s
    obtain ⟨R, hR⟩ : ∃ R, R = restS s := ⟨_, rfl⟩
    rw [← hR] at hts hrs
    have ha : alert s = (!decide (Lib.lastIndexByte R 45 < 0) && (isTyp (rear R) && wrk (front R))) := by unfold alert; rw [hp, hR]; rfl
    have Ha := hid ha
    have Hp := hid hp
    have Ht := hid hts
    clear ha hp hts hR
    rcases Lib.lastIdx_spec R 45 R.size with ⟨h, _⟩ | ⟨i, hi, h, _, _⟩
    · have h' : Lib.lastIndexByte R 45 = -1 := h
      have hw : alert s = false := by rw [Ha.out, h']; rfl
      have Hw := hid hw
      have Hh := hid h'
      clear h h' hw
      go_enter Ybad.func5, Ybad.ntmps5
      go_wp2_with fail
      refine (Ybad.strings_CutPrefix s preS _).mono ?_
      rintro e w' ⟨rfl, rfl⟩
      rw [Hp.out, Ht.out]
      go_wp2_with fail
      refine (Ybad.strings_LastIndexByte R 45 (by omega) _).mono ?_
      rintro e w' ⟨rfl, rfl⟩
      rw [Hh.out]
      go_wp2
      go_ret
      exact ⟨by rw [Hw.out]; rfl, Below.refl _ _⟩
    · have h' : Lib.lastIndexByte R 45 = (i : Int) := h
      have hf : front R = R.extract 0 i := by unfold front; rw [h']; rfl
      have hr : rear R = R.extract (i + 1) R.size := by unfold rear; rw [h']; rfl
      have hfs : (R.extract 0 i).size ≤ 1000000 := by simp; omega
      have hqs : (R.extract (i + 1) R.size).size ≤ 1000000 := by simp; omega
      have hw : alert s = (isTyp (R.extract (i + 1) R.size) && wrk (R.extract 0 i)) := by
        rw [Ha.out, hf, hr, h']
        have : ¬ ((i : Int) < 0) := by omega
        simp [this]
      have Hw := hid hw
      have Hh := hid h'
      have Hfs := hid hfs
      obtain ⟨bm, hcell, hlook⟩ := S
      obtain ⟨v, hrun⟩ := hlook _ hqs
      clear h h' hw hf hr hfs hqs
      have hi' : (i : Int) < (R.size : Int) := by omega
      go_enter Ybad.func5, Ybad.ntmps5
      go_wp2_with fail
      refine (Ybad.strings_CutPrefix s preS _).mono ?_
      rintro e w' ⟨rfl, rfl⟩
      rw [Hp.out, Ht.out]
      go_wp2_with fail
      refine (Ybad.strings_LastIndexByte R 45 (by omega) _).mono ?_
      rintro e w' ⟨rfl, rfl⟩
      rw [Hh.out]
      go_wp2_with fail
      go_quiet (fail)
      cases hT : isTyp (R.extract (i + 1) R.size)
      · replace hT := hid hT
        go_wp2
        go_ret
        exact ⟨by rw [Hw.out, hT.out]; rfl, belN _ _⟩
      · replace hT := hid hT
        go_wp2_with fail
        refine (validWorker _ Hfs.out _ (E.below (belN _ _))).mono ?_
        rintro e w1 ⟨rfl, hb⟩
        go_wp2
        go_ret
        exact ⟨by rw [Hw.out, hT.out]; rfl, (belN _ _).trans hb⟩

theorem typ_cases (k : ByteArray) :
    (k.toList = [115, 116, 97, 108, 108, 101, 100] ∧ isTyp k = true) ∨
    ((k.toList == [115, 116, 97, 108, 108, 101, 100]) = false ∧ k.toList = [110, 111, 95, 99, 104, 101, 99, 107, 105, 110] ∧ isTyp k = true) ∨
    ((k.toList == [115, 116, 97, 108, 108, 101, 100]) = false ∧ (k.toList == [110, 111, 95, 99, 104, 101, 99, 107, 105, 110]) = false ∧ k.toList = [110, 111, 95, 112, 114, 111, 103, 114, 101, 115, 115] ∧ isTyp k = true) ∨
    ((k.toList == [115, 116, 97, 108, 108, 101, 100]) = false ∧ (k.toList == [110, 111, 95, 99, 104, 101, 99, 107, 105, 110]) = false ∧ (k.toList == [110, 111, 95, 112, 114, 111, 103, 114, 101, 115, 115]) = false ∧ k.toList = [116, 97, 115, 107, 95, 102, 97, 105, 108, 101, 100] ∧ isTyp k = true) ∨
    ((k.toList == [115, 116, 97, 108, 108, 101, 100]) = false ∧ (k.toList == [110, 111, 95, 99, 104, 101, 99, 107, 105, 110]) = false ∧ (k.toList == [110, 111, 95, 112, 114, 111, 103, 114, 101, 115, 115]) = false ∧ (k.toList == [116, 97, 115, 107, 95, 102, 97, 105, 108, 101, 100]) = false ∧ isTyp k = false) := by
  unfold isTyp
  by_cases h1 : k.toList = [115, 116, 97, 108, 108, 101, 100]
  · left; exact ⟨h1, by simp [h1]⟩
  · right
    by_cases h2 : k.toList = [110, 111, 95, 99, 104, 101, 99, 107, 105, 110]
    · left; exact ⟨beq_eq_false_iff_ne.2 h1, h2, by simp [h2]⟩
    · right
      by_cases h3 : k.toList = [110, 111, 95, 112, 114, 111, 103, 114, 101, 115, 115]
      · left; exact ⟨beq_eq_false_iff_ne.2 h1, beq_eq_false_iff_ne.2 h2, h3, by simp [h3]⟩
      · right
        by_cases h4 : k.toList = [116, 97, 115, 107, 95, 102, 97, 105, 108, 101, 100]
        · left; exact ⟨beq_eq_false_iff_ne.2 h1, beq_eq_false_iff_ne.2 h2, beq_eq_false_iff_ne.2 h3, h4, by simp [h4]⟩
        · right; exact ⟨beq_eq_false_iff_ne.2 h1, beq_eq_false_iff_ne.2 h2, beq_eq_false_iff_ne.2 h3, beq_eq_false_iff_ne.2 h4, by simp [h1, h2, h3, h4]⟩

set_option maxHeartbeats 1000000 in
theorem model (s : ByteArray) (hs : s.size ≤ 1000000) (w : World) :
    Calls Ybad.prog 6 #[.string s] w fun e w' => e = .returned (.bool (alert s)) ∧ w' = w := by
  cases hp : Lib.hasPrefix s.data.toList preS.data.toList
  · have ha : alert s = false := by unfold alert; rw [hp]; rfl
    have Ha := hid ha
    have hn := pre_no hp
    clear ha hp
    by_cases h6 : s.size < 6
    · have h6' : (s.size : Int) < 6 := by omega
      clear hn
      go_enter Ybad.func6, Ybad.ntmps6
      go_wp2
      go_ret
      exact ⟨by rw [Ha.out]; rfl, rfl⟩
    · have h6' : ¬ (s.size : Int) < 6 := by omega
      have hne : ((s.extract 0 6).toList == [97, 108, 101, 114, 116, 45]) = false := by
        rcases hn with h | h
        · omega
        · exact beq_eq_false_iff_ne.2 h
      clear hn
      go_enter Ybad.func6, Ybad.ntmps6
      go_wp2
      go_ret
      exact ⟨by rw [Ha.out]; rfl, rfl⟩
  · obtain ⟨h6, heq, _⟩ := pre_yes hp
    have h6' : ¬ (s.size : Int) < 6 := by omega
    have heq' : (s.extract 0 6).toList = [97, 108, 101, 114, 116, 45] := heq
    clear heq
    have hrs := rest_size s
    obtain ⟨R, hR⟩ : ∃ R, R = s.extract 6 s.size := ⟨_, rfl⟩
    have hR' : restS s = R := hR.symm
    rw [hR'] at hrs
    have ha : alert s = (!decide (Lib.lastIndexByte R 45 < 0) && (isTyp (rear R) && wrk (front R))) := by unfold alert; rw [hp, hR']; rfl
    have Ha := hid ha
    have HR := hid hR
    clear ha hp hR hR'
    rcases Lib.lastIdx_spec R 45 R.size with ⟨h, _⟩ | ⟨i, hi, h, _, _⟩
    · have h' : Lib.lastIndexByte R 45 = -1 := h
      have hw : alert s = false := by rw [Ha.out, h']; rfl
      have Hw := hid hw
      have Hh := hid h'
      clear h h' hw
      go_enter Ybad.func6, Ybad.ntmps6
      go_wp2_with fail
      rw [← HR.out]
      refine (last R (by omega) _).mono ?_
      rintro e w' ⟨rfl, rfl⟩
      rw [Hh.out]
      go_wp2
      go_ret
      exact ⟨by rw [Hw.out]; rfl, rfl⟩
    · have h' : Lib.lastIndexByte R 45 = (i : Int) := h
      have hf : front R = R.extract 0 i := by unfold front; rw [h']; rfl
      have hr : rear R = R.extract (i + 1) R.size := by unfold rear; rw [h']; rfl
      have hfs : (R.extract 0 i).size < 4611686018427387904 := by simp; omega
      have hw : alert s = (isTyp (R.extract (i + 1) R.size) && wrk (R.extract 0 i)) := by
        rw [Ha.out, hf, hr, h']
        have : ¬ ((i : Int) < 0) := by omega
        simp [this]
      have Hw := hid hw
      have Hh := hid h'
      have Hfs := hid hfs
      clear h h' hw hf hr hfs
      have hi' : (i : Int) < (R.size : Int) := by omega
      go_enter Ybad.func6, Ybad.ntmps6
      go_wp2_with fail
      rw [← HR.out]
      refine (last R (by omega) _).mono ?_
      rintro e w' ⟨rfl, rfl⟩
      rw [Hh.out]
      rcases typ_cases (R.extract (i + 1) R.size) with ⟨c1, ht⟩ | ⟨c1, c2, ht⟩ | ⟨c1, c2, c3, ht⟩ | ⟨c1, c2, c3, c4, ht⟩ | ⟨c1, c2, c3, c4, ht⟩
      all_goals have Ht := hid ht
      all_goals clear ht
      all_goals go_wp2_with fail
      · refine (worker _ Hfs.out _).mono ?_
        rintro e w' ⟨rfl, rfl⟩
        go_wp2
        go_ret
        exact ⟨by rw [Hw.out, Ht.out]; rfl, rfl⟩
      · refine (worker _ Hfs.out _).mono ?_
        rintro e w' ⟨rfl, rfl⟩
        go_wp2
        go_ret
        exact ⟨by rw [Hw.out, Ht.out]; rfl, rfl⟩
      · refine (worker _ Hfs.out _).mono ?_
        rintro e w' ⟨rfl, rfl⟩
        go_wp2
        go_ret
        exact ⟨by rw [Hw.out, Ht.out]; rfl, rfl⟩
      · refine (worker _ Hfs.out _).mono ?_
        rintro e w' ⟨rfl, rfl⟩
        go_wp2
        go_ret
        exact ⟨by rw [Hw.out, Ht.out]; rfl, rfl⟩
      · go_ret
        exact ⟨by rw [Hw.out, Ht.out]; rfl, rfl⟩
end Go.Proofs.YbulkaybyDoor.A
