/-
  THE WALK of der.next on a well-formed value whose length is in long form.
-/
import Derived.Test.YbulkayaiFmtNext
namespace Go.Proofs.YbulkayaiFmt.A
open Go.RowKit
set_option linter.unusedVariables false

theorem and129 : bits .and .u8 129 127 = 1 := by decide
theorem and130 : bits .and .u8 130 127 = 2 := by decide
theorem or_zero (m : Nat) (h : m < 65536) : bits .or .u64 0 (m : Int) = (m : Int) := by
  have := u64_or_nat 0 m (by omega) (by omega)
  simpa using this

theorem or_zero_div (m : Nat) (h : m < 65536) : bits .or .u64 0 ((m : Int) / 256) = (m : Int) / 256 := by
  have := u64_or_nat 0 (m / 256) (by omega) (by omega)
  simpa using this
theorem or_two (m : Nat) (h : m < 65536) : bits .or .u64 ((m : Int) / 256 * 256) ((m : Int) % 256) = (m : Int) := by
  have h1 := u64_or_nat (m / 256 * 256) (m % 256) (by omega) (by omega)
  have h2 : (m / 256 * 256) ||| (m % 256) = m := by
    have : (m / 256) * 2 ^ 8 ||| (m % 256) = (m / 256) * 2 ^ 8 + m % 256 := by rw [← Nat.shiftLeft_eq, Nat.shiftLeft_add_eq_or_of_lt (by omega)]
    rw [show (256 : Nat) = 2 ^ 8 from rfl] at *
    rw [this]; omega
  rw [h2] at h1
  simpa using h1

set_option maxRecDepth 20000 in
set_option maxHeartbeats 1000000 in
theorem next_one (B g o n c : Nat) (tag : Int) (zs rest : List Int) (w : World) (hB : B ≤ w.heap.size) (ht : (bits .and .u8 tag 31 != 31) = true) (hm1 : 128 ≤ zs.length) (hm2 : zs.length < 256)
    (hz : Bytes B w (some ⟨g, o, none⟩) n (tlv tag zs ++ rest)) (hnc : n ≤ c) (hc : c ≤ maxLen) :
    Calls Ybaf.prog 44 #[.slice (some ⟨g, o, none⟩) n c] w (NextIs B tag zs rest w) := by
  obtain ⟨m, hmm⟩ : ∃ m, m = zs.length := ⟨_, rfl⟩
  have e : tlv tag zs = tag :: 129 :: (m : Int) :: zs := by rw [hmm, tlv, lenB, if_neg (by omega), if_pos (by omega)]; rfl
  rw [e] at hz
  have hl := hz.1
  simp at hl
  have c0 := cell_of hz 0 (by omega) tag rfl
  have c1 := cell_of hz 1 (by omega) 129 rfl
  have c2 := cell_of hz 2 (by omega) m rfl
  rw [Nat.add_zero] at c0
  have hbl : g < w.heap.size := lt_of_cell c0
  have c0' : ∀ x, (w.alloc x).cell? ⟨g, o, none⟩ = some (.int .u8 tag) := fun x => by rw [((Below.refl _ w).alloc (Nat.le_refl _) x).cell hbl]; exact c0
  have c1' : ∀ x, (w.alloc x).cell? ⟨g, o + 1, none⟩ = some (.int .u8 129) := fun x => by rw [((Below.refl _ w).alloc (Nat.le_refl _) x).cell hbl]; exact c1
  have c2' : ∀ x, (w.alloc x).cell? ⟨g, o + 2, none⟩ = some (.int .u8 m) := fun x => by rw [((Below.refl _ w).alloc (Nat.le_refl _) x).cell hbl]; exact c2
  have hm128 : 128 ≤ (m : Int) := by omega
  have hm256 : (m : Int) < 256 := by omega
  have hmz : ((m : Int) == 0) = false := by simp; omega
  have hn2 : (2 : Int) ≤ (n : Int) := by omega
  have hn1 : (1 : Int) < (n : Int) := by omega
  have hn0 : (0 : Int) < (n : Int) := by omega
  have hn3 : (2 : Int) < (n : Int) := by omega
  have hnm : 3 + (m : Int) ≤ (n : Int) := by omega
  have hcc : (n : Int) ≤ (c : Int) := by omega
  have hc3 : (3 : Int) ≤ (c : Int) := by omega
  have hc2 : ¬ (c = 2) := by omega
  have hcx : (c : Int) ≤ 9223372036854775807 := by unfold maxLen at hc; omega
  have ha := and129
  have ho := or_zero m (by omega)
  have HL := hid hl
  have HM := hid hmm
  have HZ := hid hz
  clear hl hmm hz e hm1 hm2
  go_enter Ybaf.func44, Ybaf.ntmps44
  go_wp2_with (go_at_call 54; refine (idlen g o n c tag _ (by omega) ht (by simp [c0'])).mono ?_; rintro e w' ⟨rfl, rfl⟩)
  refine wp_loop_rounds 2 ?_; rw [rounds_succ]
  go_wp2
  rw [rounds_succ]
  go_wp2
  have t1 : (3 + (m : Int)).toNat = 3 + m := by omega
  have t2 : (3 : Int) ≤ 3 + (m : Int) := by omega
  have t3 : 3 + (m : Int) ≤ (c : Int) := by omega
  have t4 : (0 : Int) ≤ 3 + (m : Int) := by omega
  go_region_held3 (fun w' => True) (trivial) (fail)
  all_goals go_wp2
  all_goals (refine bodyPost_ret (by simp [results, Ybaf.results44, go_sem]; rfl) rfl ?_)
  all_goals
    have hM := HM.out
    have hL := HL.out
    refine nextIs_of (h := 3) (pre := [tag, 129, (m : Int)]) (by exact HZ.out) hB rfl (((Below.refl _ w).alloc (Nat.le_refl _) _).drew) (by omega) (by omega) (by omega) (by omega) ?_ ?_ (by omega) (by omega)
    · intro hpos; first | rfl | (exfalso; omega)
    · intro hpos; first | (rw [← hM]; done) | (rw [← hM]; simp only [*]; done) | (exfalso; omega)

set_option maxRecDepth 20000 in
set_option maxHeartbeats 1000000 in
theorem next_two (B g o n c : Nat) (tag : Int) (zs rest : List Int) (w : World) (hB : B ≤ w.heap.size) (ht : (bits .and .u8 tag 31 != 31) = true) (hm1 : 256 ≤ zs.length) (hm2 : zs.length < 65536)
    (hz : Bytes B w (some ⟨g, o, none⟩) n (tlv tag zs ++ rest)) (hnc : n ≤ c) (hc : c ≤ maxLen) :
    Calls Ybaf.prog 44 #[.slice (some ⟨g, o, none⟩) n c] w (NextIs B tag zs rest w) := by
  obtain ⟨m, hmm⟩ : ∃ m, m = zs.length := ⟨_, rfl⟩
  have e : tlv tag zs = tag :: 130 :: ((m : Int) / 256) :: ((m : Int) % 256) :: zs := by rw [hmm, tlv, lenB, if_neg (by omega), if_neg (by omega)]; rfl
  rw [e] at hz
  obtain ⟨d, hd⟩ : ∃ d : Nat, (d : Int) = (m : Int) / 256 := ⟨m / 256, by omega⟩
  obtain ⟨r, hr⟩ : ∃ r : Nat, (r : Int) = (m : Int) % 256 := ⟨m % 256, by omega⟩
  have ho2 := or_two m (by omega)
  have hdm : 1 ≤ d ∧ d ≤ 255 ∧ r ≤ 255 ∧ 256 ≤ m := by omega
  rw [← hd, ← hr] at hz ho2
  clear hd hr
  have hl := hz.1
  simp at hl
  have c0 := cell_of hz 0 (by omega) tag rfl
  have c1 := cell_of hz 1 (by omega) 130 rfl
  have c2 := cell_of hz 2 (by omega) d rfl
  have c3 := cell_of hz 3 (by omega) r rfl
  rw [Nat.add_zero] at c0
  have hbl : g < w.heap.size := lt_of_cell c0
  have c0' : ∀ x, (w.alloc x).cell? ⟨g, o, none⟩ = some (.int .u8 tag) := fun x => by rw [((Below.refl _ w).alloc (Nat.le_refl _) x).cell hbl]; exact c0
  have c1' : ∀ x, (w.alloc x).cell? ⟨g, o + 1, none⟩ = some (.int .u8 130) := fun x => by rw [((Below.refl _ w).alloc (Nat.le_refl _) x).cell hbl]; exact c1
  have c2' : ∀ x, (w.alloc x).cell? ⟨g, o + 2, none⟩ = some (.int .u8 d) := fun x => by rw [((Below.refl _ w).alloc (Nat.le_refl _) x).cell hbl]; exact c2
  have c3' : ∀ x, (w.alloc x).cell? ⟨g, o + 3, none⟩ = some (.int .u8 r) := fun x => by rw [((Below.refl _ w).alloc (Nat.le_refl _) x).cell hbl]; exact c3
  have c4' : ∀ x, (w.alloc x).cell? ⟨g, o + 2 + 1, none⟩ = some (.int .u8 r) := c3'
  have hm128 : 256 ≤ (m : Int) := by omega
  have hmz : ((d : Int) == 0) = false := by rw [beq_eq_false_iff_ne]; omega
  have hd1 : (d : Int) ≤ 255 := by omega
  have hr1 : (r : Int) ≤ 255 := by omega
  have hn2 : (2 : Int) ≤ (n : Int) := by omega
  have hn1 : (1 : Int) < (n : Int) := by omega
  have hn0 : (0 : Int) < (n : Int) := by omega
  have hn3 : (3 : Int) < (n : Int) := by omega
  have hnm : 4 + (m : Int) ≤ (n : Int) := by omega
  have hcc : (n : Int) ≤ (c : Int) := by omega
  have hc3 : (4 : Int) ≤ (c : Int) := by omega
  have hc2 : ¬ (c = 2) := by omega
  have hcx : (c : Int) ≤ 9223372036854775807 := by unfold maxLen at hc; omega
  have ha := and130
  have ho := or_zero d (by omega)
  have HL := hid hl
  have HM := hid hmm
  have HZ := hid hz
  clear hl hmm hz e hm1 hm2 hdm
  go_enter Ybaf.func44, Ybaf.ntmps44
  go_wp2_with (go_at_call 54; refine (idlen g o n c tag _ (by omega) ht (by simp [c0'])).mono ?_; rintro e w' ⟨rfl, rfl⟩)
  refine wp_loop_rounds 3 ?_; rw [rounds_succ]
  go_wp2
  rw [rounds_succ]
  go_wp2
  rw [rounds_succ]
  go_wp2
  have t1 : (4 + (m : Int)).toNat = 4 + m := by omega
  have t2 : (4 : Int) ≤ 4 + (m : Int) := by omega
  have t3 : 4 + (m : Int) ≤ (c : Int) := by omega
  have t4 : (0 : Int) ≤ 4 + (m : Int) := by omega
  go_region_held3 (fun w' => True) (trivial) (fail)
  all_goals go_wp2
  all_goals (refine bodyPost_ret (by simp [results, Ybaf.results44, go_sem]; rfl) rfl ?_)
  all_goals
    have hM := HM.out
    have hL := HL.out
    refine nextIs_of (h := 4) (pre := [tag, 130, (d : Int), (r : Int)]) (by exact HZ.out) hB rfl (((Below.refl _ w).alloc (Nat.le_refl _) _).drew) (by omega) (by omega) (by omega) (by omega) ?_ ?_ (by omega) (by omega)
    · intro hpos; first | rfl | (exfalso; omega)
    · intro hpos; first | (rw [← hM]; done) | (rw [← hM]; simp only [*]; done) | (exfalso; omega)

end Go.Proofs.YbulkayaiFmt.A
