/-
  THE SMALL FUNCTIONS OVER ONE STRING: the last hyphen, the two tests of an id, the model's test of an attempt.
-/
import Derived.Test.YbulkaybyDoorShelf
import Derived.WalkKit
import Derived.Lib.Walk
import Derived.Lib.Strings
import Derived.BigCall
import Derived.BigGuard
import Derived.Lib.LastIndexByte
namespace Go.Proofs.YbulkaybyDoor.A
open Go.RowKit Go.Lib
set_option linter.unusedVariables false

theorem hid {p : Prop} (h : p) : Hid p := h
theorem byteBang (s : ByteArray) (j : Nat) (hj : j < s.size) : s.data[j]! = s[j] := by
  rw [getElem!_pos s.data j (by simpa using hj)]; rfl

set_option maxHeartbeats 1000000 in
theorem last (s : ByteArray) (hs : s.size < 4611686018427387904) (w : World) :
    Calls Ybad.prog 11 #[.string s] w fun e w' => e = .returned (.int .i64 (Lib.lastIndexByte s 45)) ∧ w' = w := by
  go_enter Ybad.func11, Ybad.ntmps11
  go_wp2
  go_loop [3] (fun vi => ∃ k : Nat, k ≤ s.size ∧ vi = .int .i64 ((k : Int) - 1) ∧ Hid (Lib.lastIndexByte s 45 = Lib.lastIdx s 45 k)) (fun vi => ((RowKit.intOf vi) + 1).toNat)
  case atStart => exact ⟨s.size, Nat.le_refl _, by first | rfl | go_num | (congr 1; omega), rfl⟩
  case round =>
    obtain ⟨k, hk, rfl, hh⟩ := hrel
    go_wp2
    · have hc : (((s[k - 1]).toNat : Int) == 45) = true := by assumption
      have k1 : 1 ≤ k := by omega
      have e1 : Lib.lastIdx s 45 k = ((k - 1 : Nat) : Int) := by
        have := Lib.lastIdx_hit s 45 (k - 1) (by rw [byteBang s (k - 1) (by omega)]; simpa using hc)
        rwa [show k - 1 + 1 = k by omega] at this
      have e2 : ((k - 1 : Nat) : Int) = (k : Int) - 1 := by omega
      go_ret
      rw [hh.out, e1, e2]
      exact ⟨rfl, rfl⟩
    · have hc : (((s[k - 1]).toNat : Int) == 45) = false := by assumption
      have k1 : 1 ≤ k := by omega
      have e1 : Lib.lastIdx s 45 k = Lib.lastIdx s 45 (k - 1) := by
        have := Lib.lastIdx_miss s 45 (k - 1) (by rw [byteBang s (k - 1) (by omega)]; simpa using hc)
        rwa [show k - 1 + 1 = k by omega] at this
      refine ⟨⟨k - 1, by omega, by congr 1; omega, hh.out.trans e1⟩, ?_⟩
      simp [RowKit.intOf]; omega
    · have k0 : k = 0 := by omega
      subst k0
      go_ret
      rw [hh.out]
      exact ⟨rfl, rfl⟩

def okC (c : UInt8) : Bool := (decide (97 ≤ c.toNat) && decide (c.toNat ≤ 122)) || (decide (48 ≤ c.toNat) && decide (c.toNat ≤ 57)) || decide (c.toNat = 45)
def vid (s : ByteArray) : Bool := decide (s.size ≠ 0) && decide (s.size ≤ 64) && decide ((s.data[0]!).toNat ≠ 45) && decide (∀ j, j < s.size → okC (s.data[j]!) = true)

theorem vid_zero {s : ByteArray} (h : s.size = 0) : vid s = false := by simp [vid, h]
theorem vid_long {s : ByteArray} (h : 64 < s.size) : vid s = false := by simp [vid]; omega
theorem vid_head {s : ByteArray} (h0 : 0 < s.size) (h : (s[0]).toNat = 45) : vid s = false := by
  unfold vid
  rw [byteBang s 0 h0]
  simp [h]
theorem vid_bad {s : ByteArray} {k : Nat} (hk : k < s.size) (h : okC s[k] = false) : vid s = false := by
  unfold vid
  have : ¬ ∀ j, j < s.size → okC (s.data[j]!) = true := fun hh => by
    have := hh k hk
    rw [byteBang s k hk, h] at this
    cases this
  simp [this]
theorem vid_good {s : ByteArray} (h0 : 0 < s.size) (h1 : s.size ≤ 64) (h2 : (s[0]).toNat ≠ 45) (h : ∀ j, j < s.size → okC (s.data[j]!) = true) : vid s = true := by
  unfold vid
  rw [byteBang s 0 h0]
  simp only [Bool.and_eq_true, decide_eq_true_eq]
  exact ⟨⟨⟨by omega, h1⟩, h2⟩, h⟩

theorem okC_true {c : UInt8} (h : (97 ≤ (c.toNat : Int) ∧ (c.toNat : Int) ≤ 122) ∨ (48 ≤ (c.toNat : Int) ∧ (c.toNat : Int) ≤ 57) ∨ (c.toNat : Int) = 45) : okC c = true := by
  unfold okC
  simp only [Bool.or_eq_true, Bool.and_eq_true, decide_eq_true_eq]
  omega
theorem okC_false {c : UInt8} (h : ¬ ((97 ≤ (c.toNat : Int) ∧ (c.toNat : Int) ≤ 122) ∨ (48 ≤ (c.toNat : Int) ∧ (c.toNat : Int) ≤ 57) ∨ (c.toNat : Int) = 45)) : okC c = false := by
  unfold okC
  simp only [Bool.or_eq_false_iff, Bool.and_eq_false_iff, decide_eq_false_iff_not]
  omega
abbrev okI (x : Int) : Prop := (97 ≤ x ∧ x ≤ 122) ∨ (48 ≤ x ∧ x ≤ 57) ∨ x = 45
theorem ranges (x : Int) :
    (x < 97 ∧ x ≤ 122 ∧ x < 48 ∧ x ≤ 57 ∧ (x == 45) = false ∧ ¬ okI x) ∨ (x < 97 ∧ x ≤ 122 ∧ x < 48 ∧ x ≤ 57 ∧ (x == 45) = true ∧ okI x) ∨
    (x < 97 ∧ x ≤ 122 ∧ 48 ≤ x ∧ x ≤ 57 ∧ (x == 45) = false ∧ okI x) ∨ (x < 97 ∧ x ≤ 122 ∧ 48 ≤ x ∧ 57 < x ∧ (x == 45) = false ∧ ¬ okI x) ∨
    (97 ≤ x ∧ x ≤ 122 ∧ 48 ≤ x ∧ 57 < x ∧ (x == 45) = false ∧ okI x) ∨ (97 ≤ x ∧ 122 < x ∧ 48 ≤ x ∧ 57 < x ∧ (x == 45) = false ∧ ¬ okI x) := by
  simp only [okI, beq_iff_eq, beq_eq_false_iff_ne, ne_eq]
  omega
theorem okC_step {s : ByteArray} {k : Nat} (hk : k < s.size) (h : ∀ j, j < k → okC (s.data[j]!) = true) (hc : okC s[k] = true) : ∀ j, j < k + 1 → okC (s.data[j]!) = true := by
  intro j hj
  by_cases e : j = k
  · subst e; rw [byteBang s j hk]; exact hc
  · exact h j (by omega)

set_option maxHeartbeats 1000000 in
theorem validId (s : ByteArray) (w : World) :
    Calls Ybad.prog 17 #[.string s] w fun e w' => e = .returned (.bool (vid s)) ∧ w' = w := by
  by_cases h0 : s.size = 0
  · have h0' : (s.size : Int) = 0 := by omega
    go_enter Ybad.func17, Ybad.ntmps17
    go_wp2
    go_ret
    exact ⟨by rw [vid_zero h0]; rfl, rfl⟩
  by_cases h1 : 64 < s.size
  · have h1' : (64 : Int) < (s.size : Int) := by omega
    have h0' : (s.size : Int) ≠ 0 := by omega
    go_enter Ybad.func17, Ybad.ntmps17
    go_wp2
    go_ret
    exact ⟨by rw [vid_long h1]; rfl, rfl⟩
  have h0' : (s.size : Int) ≠ 0 := by omega
  have h1' : ¬ (64 : Int) < (s.size : Int) := by omega
  have hp : 0 < s.size := by omega
  by_cases h2 : (s[0]).toNat = 45
  · have h2' : ((s[0]).toNat : Int) = 45 := by omega
    go_enter Ybad.func17, Ybad.ntmps17
    go_wp2
    go_ret
    exact ⟨by rw [vid_head hp h2]; rfl, rfl⟩
  have h2' : (((s[0]).toNat : Int) == 45) = false := by rw [beq_eq_false_iff_ne]; omega
  have h0b : ((s.size : Int) == 0) = false := by rw [beq_eq_false_iff_ne]; omega
  go_enter Ybad.func17, Ybad.ntmps17
  go_wp2
  go_loop [3] (fun vi => ∃ k : Nat, k ≤ s.size ∧ vi = .int .i64 (k : Int) ∧ Hid (∀ j, j < k → okC (s.data[j]!) = true)) (fun vi => s.size - (RowKit.intOf vi).toNat)
  case atStart => exact ⟨0, Nat.zero_le _, rfl, hid (fun j hj => absurd hj (Nat.not_lt_zero _))⟩
  case round =>
    obtain ⟨k, hk, rfl, hh⟩ := hrel
    by_cases hks : k < s.size
    · have hki : (k : Int) < (s.size : Int) := by omega
      rcases ranges ((s[k]).toNat : Int) with ⟨a1, a2, a3, a4, a5, a6⟩ | ⟨a1, a2, a3, a4, a5, a6⟩ | ⟨a1, a2, a3, a4, a5, a6⟩ | ⟨a1, a2, a3, a4, a5, a6⟩ | ⟨a1, a2, a3, a4, a5, a6⟩ | ⟨a1, a2, a3, a4, a5, a6⟩
      all_goals replace a6 := hid a6
      all_goals go_wp2
      all_goals first
        | exact ⟨⟨k + 1, by omega, by congr 1, hid (okC_step hks hh.out (okC_true a6.out))⟩, by simp [RowKit.intOf]; omega⟩
        | (go_ret; refine ⟨?_, rfl⟩; rw [vid_bad hks (okC_false a6.out)]; rfl)
        | (exfalso; rename_i hx; simp at hx; omega)
    · have hki : ¬ (k : Int) < (s.size : Int) := by omega
      have he : k = s.size := by omega
      subst he
      go_wp2
      go_ret
      exact ⟨by rw [vid_good hp (by omega) h2 hh.out]; rfl, rfl⟩

set_option maxHeartbeats 1000000 in
theorem validid (s : ByteArray) (w : World) :
    Calls Ybad.prog 19 #[.string s] w fun e w' => e = .returned (.bool (vid s)) ∧ w' = w := by
  by_cases h0 : s.size = 0
  · have h0' : (s.size : Int) = 0 := by omega
    go_enter Ybad.func19, Ybad.ntmps19
    go_wp2
    go_ret
    exact ⟨by rw [vid_zero h0]; rfl, rfl⟩
  by_cases h1 : 64 < s.size
  · have h1' : (64 : Int) < (s.size : Int) := by omega
    have h0' : (s.size : Int) ≠ 0 := by omega
    go_enter Ybad.func19, Ybad.ntmps19
    go_wp2
    go_ret
    exact ⟨by rw [vid_long h1]; rfl, rfl⟩
  have h0' : (s.size : Int) ≠ 0 := by omega
  have h1' : ¬ (64 : Int) < (s.size : Int) := by omega
  have hp : 0 < s.size := by omega
  by_cases h2 : (s[0]).toNat = 45
  · have h2' : ((s[0]).toNat : Int) = 45 := by omega
    go_enter Ybad.func19, Ybad.ntmps19
    go_wp2
    go_ret
    exact ⟨by rw [vid_head hp h2]; rfl, rfl⟩
  have h2' : (((s[0]).toNat : Int) == 45) = false := by rw [beq_eq_false_iff_ne]; omega
  have h0b : ((s.size : Int) == 0) = false := by rw [beq_eq_false_iff_ne]; omega
  go_enter Ybad.func19, Ybad.ntmps19
  go_wp2
  go_loop [3] (fun vi => ∃ k : Nat, k ≤ s.size ∧ vi = .int .i64 (k : Int) ∧ Hid (∀ j, j < k → okC (s.data[j]!) = true)) (fun vi => s.size - (RowKit.intOf vi).toNat)
  case atStart => exact ⟨0, Nat.zero_le _, rfl, hid (fun j hj => absurd hj (Nat.not_lt_zero _))⟩
  case round =>
    obtain ⟨k, hk, rfl, hh⟩ := hrel
    by_cases hks : k < s.size
    · have hki : (k : Int) < (s.size : Int) := by omega
      rcases ranges ((s[k]).toNat : Int) with ⟨a1, a2, a3, a4, a5, a6⟩ | ⟨a1, a2, a3, a4, a5, a6⟩ | ⟨a1, a2, a3, a4, a5, a6⟩ | ⟨a1, a2, a3, a4, a5, a6⟩ | ⟨a1, a2, a3, a4, a5, a6⟩ | ⟨a1, a2, a3, a4, a5, a6⟩
      all_goals replace a6 := hid a6
      all_goals go_wp2
      all_goals first
        | exact ⟨⟨k + 1, by omega, by congr 1, hid (okC_step hks hh.out (okC_true a6.out))⟩, by simp [RowKit.intOf]; omega⟩
        | (go_ret; refine ⟨?_, rfl⟩; rw [vid_bad hks (okC_false a6.out)]; rfl)
        | (exfalso; rename_i hx; simp at hx; omega)
    · have hki : ¬ (k : Int) < (s.size : Int) := by omega
      have he : k = s.size := by omega
      subst he
      go_wp2
      go_ret
      exact ⟨by rw [vid_good hp (by omega) h2 hh.out]; rfl, rfl⟩
end Go.Proofs.YbulkaybyDoor.A
