/-
  THE WALK of der.next on a well-formed value.
-/
import Derived.Test.YbulkayaiFmtBuildC
import Derived.Deep.RegionHeld3
import Derived.Laws.BitsAllLaws
namespace Go.Proofs.YbulkayaiFmt.A
open Go.RowKit
set_option linter.unusedVariables false

/-- The identifier is one octet. -/
theorem idlen (g o n c : Nat) (tag : Int) (w : World) (hn : 0 < n) (ht : (bits .and .u8 tag 31 != 31) = true) (h0 : w.cell? ⟨g, o, none⟩ = some (.int .u8 tag)) :
    Calls Ybaf.prog 54 #[.slice (some ⟨g, o, none⟩) n c] w fun e w' => e = .returned (.tuple #[.int .i64 1, .nilIface]) ∧ w' = w := by
  have hn' : (0 : Int) < (n : Int) := by omega
  have hn0 : ((n : Int) == 0) = false := by simp; omega
  go_enter Ybaf.func54, Ybaf.ntmps54
  go_wp2
  go_ret2
  exact ⟨rfl, rfl⟩

/-- What 'next' hands back on a value of tag 'tag' and content zs with 'rest' behind it. -/
def NextIs (B : Nat) (tag : Int) (zs rest : List Int) (w : World) (e : Ending) (w' : World) : Prop :=
  ∃ p1 p2 k2 p3 c3, e = .returned (.tuple #[.agg #[.int .u8 tag, .slice p1 zs.length zs.length, .slice p2 k2 k2], .slice p3 rest.length c3, .nilIface]) ∧
    Bytes B w' p1 zs.length zs ∧ Bytes B w' p3 rest.length rest ∧ rest.length ≤ c3 ∧ c3 ≤ maxLen ∧ Below w.heap.size w w'

theorem cell_of {B : Nat} {w : World} {g o n : Nat} {zs : List Int} (h : Bytes B w (some ⟨g, o, none⟩) n zs) (i : Nat) (hi : i < n) (v : Int) (hv : zs[i]? = some v) : w.cell? ⟨g, o + i, none⟩ = some (.int .u8 v) := by
  obtain ⟨_, h | ⟨g', o', he, _, h⟩⟩ := h
  · omega
  · simp at he
    obtain ⟨rfl, rfl⟩ := he
    have := h i hi
    simpa [hv] using this

theorem nextIs_of {B g o n h : Nat} {tag : Int} {pre zs rest : List Int} {w w' : World} (hz : Bytes B w (some ⟨g, o, none⟩) n (pre ++ (zs ++ rest))) (hB : B ≤ w.heap.size) (hh : pre.length = h) (hb : Below w.heap.size w w')
    {p1 p2 p3 : Option Addr} {k1 k1' k2 k2' k3 c3 : Nat} (e1 : k1 = zs.length) (e1' : k1' = zs.length) (e2 : k2' = k2) (e3 : k3 = rest.length) (hp1 : 0 < zs.length → p1 = some ⟨g, o + h, none⟩) (hp3 : 0 < rest.length → p3 = some ⟨g, o + (h + zs.length), none⟩) (hc3 : rest.length ≤ c3) (hc3' : c3 ≤ maxLen) :
    NextIs B tag zs rest w (.returned (.tuple #[.agg #[.int .u8 tag, .slice p1 k1 k1', .slice p2 k2 k2'], .slice p3 k3 c3, .nilIface])) w' := by
  subst e1 e1' e2 e3
  have hl := hz.1
  simp at hl
  have hz' := hz.below (hb.mono hB)
  refine ⟨p1, p2, k2', p3, c3, rfl, ?_, ?_, hc3, hc3', hb⟩
  · have := hz'.sub h zs.length (by omega) p1 (fun hpos g' o' he => by simp at he; obtain ⟨rfl, rfl⟩ := he; exact hp1 hpos)
    rwa [List.drop_left' hh, List.take_left' rfl] at this
  · have := hz'.sub (h + zs.length) rest.length (by omega) p3 (fun hpos g' o' he => by simp at he; obtain ⟨rfl, rfl⟩ := he; exact hp3 hpos)
    rw [← List.append_assoc, List.drop_left' (by simp [hh])] at this
    rwa [List.take_of_length_le (Nat.le_refl _)] at this

set_option maxRecDepth 20000 in
set_option maxHeartbeats 1000000 in
theorem next_short (B g o n c : Nat) (tag : Int) (zs rest : List Int) (w : World) (hB : B ≤ w.heap.size) (ht : (bits .and .u8 tag 31 != 31) = true) (hm : zs.length < 128)
    (hz : Bytes B w (some ⟨g, o, none⟩) n (tlv tag zs ++ rest)) (hnc : n ≤ c) (hc : c ≤ maxLen) :
    Calls Ybaf.prog 44 #[.slice (some ⟨g, o, none⟩) n c] w (NextIs B tag zs rest w) := by
  obtain ⟨m, hmm⟩ : ∃ m, m = zs.length := ⟨_, rfl⟩
  have e : tlv tag zs = tag :: (m : Int) :: zs := by rw [hmm, tlv, lenB, if_pos (by omega)]; rfl
  rw [e] at hz
  have hl := hz.1
  simp at hl
  have c0 := cell_of hz 0 (by omega) tag rfl
  have c1 := cell_of hz 1 (by omega) m rfl
  rw [Nat.add_zero] at c0
  have hbl : g < w.heap.size := lt_of_cell c0
  have c0' : ∀ x, (w.alloc x).cell? ⟨g, o, none⟩ = some (.int .u8 tag) := fun x => by rw [((Below.refl _ w).alloc (Nat.le_refl _) x).cell hbl]; exact c0
  have c1' : ∀ x, (w.alloc x).cell? ⟨g, o + 1, none⟩ = some (.int .u8 m) := fun x => by rw [((Below.refl _ w).alloc (Nat.le_refl _) x).cell hbl]; exact c1
  have hm128 : (m : Int) < 128 := by omega
  have hn2 : (2 : Int) ≤ (n : Int) := by omega
  have hn1 : (1 : Int) < (n : Int) := by omega
  have hn0 : (0 : Int) < (n : Int) := by omega
  have hnm : 2 + (m : Int) ≤ (n : Int) := by omega
  have hcc : (n : Int) ≤ (c : Int) := by omega
  have hcx : (c : Int) ≤ 9223372036854775807 := by unfold maxLen at hc; omega
  have HL := hid hl
  have HM := hid hmm
  have HZ := hid hz
  clear hl hmm hz e hm
  go_enter Ybaf.func44, Ybaf.ntmps44
  go_wp2_with (go_at_call 54; refine (idlen g o n c tag _ (by omega) ht (by simp [c0'])).mono ?_; rintro e w' ⟨rfl, rfl⟩)
  have t1 : (2 + (m : Int)).toNat = 2 + m := by omega
  have t2 : (2 : Int) ≤ 2 + (m : Int) := by omega
  have t3 : 2 + (m : Int) ≤ (c : Int) := by omega
  have t4 : (0 : Int) ≤ 2 + (m : Int) := by omega
  go_region_held3 (fun w' => True) (trivial) (fail)
  all_goals go_wp2
  all_goals (refine bodyPost_ret (by simp [results, Ybaf.results44, go_sem]; rfl) rfl ?_)
  all_goals
    have hM := HM.out
    have hL := HL.out
    refine nextIs_of (h := 2) (pre := [tag, (m : Int)]) (by exact HZ.out) hB rfl (((Below.refl _ w).alloc (Nat.le_refl _) _).drew) (by omega) (by omega) (by omega) (by omega) ?_ ?_ (by omega) (by omega)
    · intro hpos; first | rfl | (exfalso; omega)
    · intro hpos; first | (rw [← hM]; done) | (rw [← hM]; simp only [*]; done) | (exfalso; omega)

end Go.Proofs.YbulkayaiFmt.A
