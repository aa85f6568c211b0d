/-
  THE WALK of zzs2465acat: the parts, one behind the other.
-/
import Derived.Test.YbulkayaiFmtBuildA
namespace Go.Proofs.YbulkayaiFmt.A
open Go.RowKit
set_option linter.unusedVariables false

/-- A part: its block, its capacity, its bytes. -/
abbrev Part := Nat × Nat × List Int
def cat (ps : List Part) : List Int := (ps.map (·.2.2)).flatten
theorem cat_snoc (ps : List Part) (k : Nat) (h : k < ps.length) : cat (ps.take (k + 1)) = cat (ps.take k) ++ ps[k].2.2 := by
  unfold cat
  rw [List.take_succ_eq_append_getElem h, List.map_append, List.flatten_append]
  simp only [List.map_cons, List.map_nil, List.flatten_cons, List.flatten_nil, List.append_nil]
theorem cat_le (ps : List Part) (k : Nat) : (cat (ps.take k)).length ≤ (cat ps).length := by
  have e : cat ps = cat (ps.take k) ++ cat (ps.drop k) := by
    unfold cat
    rw [← List.flatten_append, ← List.map_append, List.take_append_drop]
  rw [e, List.length_append]
  omega

theorem own_blocks {w : World} {base n : Nat} {v : Value} {xs : List Value} (h : w.ownsRow base 5 1 v n xs) : ∀ k, v.ownBlock = some k → base ≤ k := by
  intro k hk
  obtain ⟨_, h | ⟨g', cap', cur, hv, hb, _⟩⟩ := h
  · rw [h.1] at hk; simp [Value.ownBlock] at hk
  · rw [hv] at hk; simp [Value.ownBlock] at hk; omega

set_option maxHeartbeats 800000 in
theorem acat (gp cp : Nat) (ps : List Part) (w : World) (hps : 0 < ps.length) (hps4 : ps.length ≤ 4)
    (hcells : ∀ i (h : i < ps.length), w.cell? ⟨gp, i, none⟩ = some (.slice (some ⟨ps[i].1, 0, none⟩) ps[i].2.2.length ps[i].2.1))
    (hby : ∀ i (h : i < ps.length), Bytes w.heap.size w (some ⟨ps[i].1, 0, none⟩) ps[i].2.2.length ps[i].2.2 ∧ 0 < ps[i].2.2.length)
    (htot : (cat ps).length ≤ 4000) :
    Calls Ybaf.prog 19 #[.slice (some ⟨gp, 0, none⟩) ps.length cp] w (NewRow w (cat ps)) := by
  obtain ⟨i0, hi, hz0, hz1, hz2⟩ := info_parts Ybaf.info5
  obtain ⟨m, hm⟩ : ∃ m, m = ps.length := ⟨_, rfl⟩
  rw [← hm]
  have HC := hid hcells
  have HB := hid hby
  have HM := hid hm
  have hm4 : m ≤ 4 := by omega
  have hm0 : 0 < m := by omega
  clear hcells hby hm hps hps4
  go_enter Ybaf.func19, Ybaf.ntmps19
  go_wp2
  go_loopw [3, 8] (fun v i wr => ∃ k : Nat, k ≤ m ∧ i = .int .i64 k ∧ wr.ownsRow w.heap.size 5 1 v (cat (ps.take k)).length (cellsOf (cat (ps.take k))) ∧ Below w.heap.size w wr ∧ (0 < k → v ≠ .slice none 0 0)) (fun _ i _ => m - (intOf i).toNat)
  case atStart => exact ⟨0, Nat.zero_le _, rfl, World.ownsRow_nil _ _ _ _, Below.refl _ _, by simp⟩
  case round =>
    obtain ⟨k, hk, rfl, hown, hb, hnil⟩ := hrel
    by_cases hkm : k < m
    · have hkl : k < ps.length := by have := HM.out; omega
      obtain ⟨gk, ck, zk, hq⟩ : ∃ gk ck zk, ps[k] = (gk, ck, zk) := ⟨_, _, _, rfl⟩
      have hc : wr.cell? ⟨gp, k, none⟩ = some (.slice (some ⟨gk, 0, none⟩) zk.length ck) := by
        have := HC.out k hkl
        rw [hq] at this
        rw [hb.cell (lt_of_cell this)]
        exact this
      have hz := HB.out k hkl
      rw [hq] at hz
      have hz1' := hz.1.below hb
      have hpos := hz.2
      have hcat : cat (ps.take (k + 1)) = cat (ps.take k) ++ zk := by rw [cat_snoc ps k hkl, hq]
      have hle : (cat (ps.take k)).length + zk.length ≤ 4000 := by
        have := cat_le ps (k + 1)
        rw [hcat] at this
        simp at this
        omega
      have HCat := hid hcat
      have HQ := hid hq
      clear hq hcat hz
      obtain ⟨C, hC⟩ : ∃ C, C = cat (ps.take k) := ⟨_, rfl⟩
      rw [← hC] at hown hle
      have HCC := hid hC
      clear hC
      have hi1 : (k : Int) < (m : Int) := by omega
      have hsz := hb.size
      go_wp2_with (at_builtin; refine wpList_append_lies _ rfl (.tmp 12) (.tmp 13) 22 rfl w.heap.size 5 i0 (.int .u8 0) 1 1 Ybaf.underlying22 hi hz0 hz1 hz2 rfl (by decide) _ C.length (cellsOf C) rfl hown ⟨gk, 0, none⟩ zk.length ck (cellsOf zk) rfl (by rw [cellsOf_length, Nat.mul_one]) (news_of hz1') (cellsOf_one zk) hpos (by unfold maxLen; omega) (by omega) hsz wr.heap.size rfl ?_; intro g3 cap3 w3 hown3 hgrow3 hat3 hlt3)
      go_wp2
      go_roundw
      case rel =>
        have hL : (cat (ps.take (k + 1))).length = C.length + zk.length := by rw [HCat.out, ← HCC.out, List.length_append]
        have hcc : cellsOf (cat (ps.take (k + 1))) = cellsOf C ++ cellsOf zk := by rw [HCat.out, ← HCC.out, cellsOf_append]
        exact ⟨k + 1, by omega, by go_num, by rw [hL, hcc]; exact hown3, hb.grown hgrow3 hsz (own_blocks hown), by simp⟩
      case measure => simp [intOf]; omega
    · go_wp2
      go_ret
      have hkk : k = ps.length := by have := HM.out; omega
      have hkt : ps.take k = ps := by rw [hkk, List.take_length]
      rw [hkt] at hown
      obtain ⟨g, cap, hv⟩ := own_form hown (hnil (by omega))
      subst hv
      exact ⟨g, cap, rfl, hown, hb⟩

end Go.Proofs.YbulkayaiFmt.A
