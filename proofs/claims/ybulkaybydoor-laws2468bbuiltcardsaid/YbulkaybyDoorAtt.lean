/-
  THE MODEL's TEST OF AN ATTEMPT.
-/
import Derived.Test.YbulkaybyDoorIds
import Derived.Laws.Cover1
namespace Go.Proofs.YbulkaybyDoor.A
open Go.RowKit Go.Lib
set_option linter.unusedVariables false

/-- The greatest int64, as bytes. -/
def maxS : ByteArray := ⟨#[57, 50, 50, 51, 51, 55, 50, 48, 51, 54, 56, 53, 52, 55, 55, 53, 56, 48, 55]⟩
def digC (c : UInt8) : Bool := decide (48 ≤ c.toNat) && decide (c.toNat ≤ 57)
def over (s : ByteArray) : Bool := !(Op.bytesLess s.toList maxS.toList || s.toList == maxS.toList)
def att (s : ByteArray) : Bool := decide (s.size ≠ 0) && decide (s.size ≤ 19) && decide ((s.data[0]!).toNat ≠ 48) && decide (∀ j, j < s.size → digC (s.data[j]!) = true) && !(decide (s.size = 19) && over s)

theorem att_zero {s : ByteArray} (h : s.size = 0) : att s = false := by simp [att, h]
theorem att_long {s : ByteArray} (h : 19 < s.size) : att s = false := by
  have : ¬ s.size ≤ 19 := by omega
  simp [att, this]
theorem att_head {s : ByteArray} (h0 : 0 < s.size) (h : (s[0]).toNat = 48) : att s = false := by
  unfold att
  rw [byteBang s 0 h0]
  simp [h]
theorem att_bad {s : ByteArray} {k : Nat} (hk : k < s.size) (h : digC s[k] = false) : att s = false := by
  unfold att
  have : ¬ ∀ j, j < s.size → digC (s.data[j]!) = true := fun hh => by
    have := hh k hk
    rw [byteBang s k hk, h] at this
    cases this
  simp [this]
theorem att_good {s : ByteArray} (h0 : 0 < s.size) (h1 : s.size ≤ 19) (h2 : (s[0]).toNat ≠ 48) (h : ∀ j, j < s.size → digC (s.data[j]!) = true) : att s = !(decide (s.size = 19) && over s) := by
  unfold att
  rw [byteBang s 0 h0]
  have e : (decide (s.size ≠ 0) && decide (s.size ≤ 19) && decide (s[0].toNat ≠ 48) && decide (∀ j, j < s.size → digC (s.data[j]!) = true)) = true := by
    simp only [Bool.and_eq_true, decide_eq_true_eq]
    exact ⟨⟨⟨by omega, h1⟩, h2⟩, h⟩
  rw [e]
  rfl
theorem digC_true {c : UInt8} (h : 48 ≤ (c.toNat : Int) ∧ (c.toNat : Int) ≤ 57) : digC c = true := by
  unfold digC
  simp only [Bool.and_eq_true, decide_eq_true_eq]
  omega
theorem digC_false {c : UInt8} (h : ¬ (48 ≤ (c.toNat : Int) ∧ (c.toNat : Int) ≤ 57)) : digC c = false := by
  unfold digC
  simp only [Bool.and_eq_false_iff, decide_eq_false_iff_not]
  omega
theorem ranges2 (x : Int) : (x < 48 ∧ x ≤ 57 ∧ ¬ (48 ≤ x ∧ x ≤ 57)) ∨ (48 ≤ x ∧ x ≤ 57 ∧ (48 ≤ x ∧ x ≤ 57)) ∨ (48 ≤ x ∧ 57 < x ∧ ¬ (48 ≤ x ∧ x ≤ 57)) := by omega
theorem digC_step {s : ByteArray} {k : Nat} (hk : k < s.size) (h : ∀ j, j < k → digC (s.data[j]!) = true) (hc : digC s[k] = true) : ∀ j, j < k + 1 → digC (s.data[j]!) = true := by
  intro j hj
  by_cases e : j = k
  · subst e; rw [byteBang s j hk]; exact hc
  · exact h j (by omega)

set_option maxHeartbeats 1000000 in
theorem attempt (s : ByteArray) (w : World) :
    Calls Ybad.prog 18 #[.string s] w fun e w' => e = .returned (.bool (att s)) ∧ w' = w := by
  by_cases h0 : s.size = 0
  · have h0' : (s.size : Int) = 0 := by omega
    go_enter Ybad.func18, Ybad.ntmps18
    go_wp2
    go_ret
    exact ⟨by rw [att_zero h0]; rfl, rfl⟩
  by_cases h1 : 19 < s.size
  · have h1' : (19 : Int) < (s.size : Int) := by omega
    have h0' : (s.size : Int) ≠ 0 := by omega
    go_enter Ybad.func18, Ybad.ntmps18
    go_wp2
    go_ret
    exact ⟨by rw [att_long h1]; rfl, rfl⟩
  have h0' : (s.size : Int) ≠ 0 := by omega
  have h1' : ¬ (19 : Int) < (s.size : Int) := by omega
  have hp : 0 < s.size := by omega
  by_cases h2 : (s[0]).toNat = 48
  · have h2' : ((s[0]).toNat : Int) = 48 := by omega
    go_enter Ybad.func18, Ybad.ntmps18
    go_wp2
    go_ret
    exact ⟨by rw [att_head hp h2]; rfl, rfl⟩
  have h2' : (((s[0]).toNat : Int) == 48) = false := by rw [beq_eq_false_iff_ne]; omega
  have h0b : ((s.size : Int) == 0) = false := by rw [beq_eq_false_iff_ne]; omega
  go_enter Ybad.func18, Ybad.ntmps18
  go_wp2
  go_loop [4] (fun vi => ∃ k : Nat, k ≤ s.size ∧ vi = .int .i64 (k : Int) ∧ Hid (∀ j, j < k → digC (s.data[j]!) = true)) (fun vi => s.size - (RowKit.intOf vi).toNat)
  case atStart => exact ⟨0, Nat.zero_le _, rfl, hid (fun j hj => absurd hj (Nat.not_lt_zero _))⟩
  case round =>
    obtain ⟨k, hk, rfl, hh⟩ := hrel
    by_cases hks : k < s.size
    · have hki : (k : Int) < (s.size : Int) := by omega
      rcases ranges2 ((s[k]).toNat : Int) with ⟨a1, a2, a6⟩ | ⟨a1, a2, a6⟩ | ⟨a1, a2, a6⟩
      all_goals replace a6 := hid a6
      all_goals go_wp2
      all_goals first
        | exact ⟨⟨k + 1, by omega, by congr 1, hid (digC_step hks hh.out (digC_true a6.out))⟩, by simp [RowKit.intOf]; omega⟩
        | (go_ret; refine ⟨?_, rfl⟩; rw [att_bad hks (digC_false a6.out)]; rfl)
        | (exfalso; rename_i hx; simp at hx; omega)
    · have hki : ¬ (k : Int) < (s.size : Int) := by omega
      have he : k = s.size := by omega
      subst he
      have e := hid (att_good hp (by omega) h2 hh.out)
      by_cases h19 : s.size = 19
      · have h19b : ((s.size : Int) == 19) = true := by rw [beq_iff_eq]; omega
        have e2 := hid (show att s = !over s by rw [e.out, h19]; simp)
        go_wp2
        · rename_i hx _
          go_ret
          have ho : over s = true := by unfold over maxS; simpa using hx
          exact ⟨by rw [e2.out, ho]; rfl, rfl⟩
        · rename_i hx _
          go_ret
          have ho : over s = false := by unfold over maxS; simp only [Bool.not_eq_false', Bool.or_eq_true]; simpa using hx
          exact ⟨by rw [e2.out, ho]; rfl, rfl⟩
      · have h19b : ((s.size : Int) == 19) = false := by rw [beq_eq_false_iff_ne]; omega
        have e2 := hid (show att s = true by rw [e.out]; simp [h19])
        go_wp2
        go_ret
        exact ⟨by rw [e2.out]; rfl, rfl⟩
end Go.Proofs.YbulkaybyDoor.A
