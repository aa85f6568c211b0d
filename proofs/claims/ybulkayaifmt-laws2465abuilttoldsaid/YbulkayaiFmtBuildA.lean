/-
  THE WALKS of the builder's small functions: zzs2465alen, zzs2465atlv, zzs2465acat.
-/
import Derived.Test.YbulkayaiFmtBase
namespace Go.Proofs.YbulkayaiFmt.A
open Go.RowKit
set_option linter.unusedVariables false

theorem Ybaf.info5 : (Ybaf.prog.info? 5).map (fun i => (i.zero, i.size, i.bytes)) = some (some (.int .u8 0), 1, 1) := by kernel_rfl

/-- A result that is a new row of bytes. -/
def NewRow (w : World) (zs : List Int) (e : Ending) (w' : World) : Prop :=
  ∃ g cap, e = .returned (.slice (some ⟨g, 0, none⟩) zs.length cap) ∧ w'.ownsRow w.heap.size 5 1 (.slice (some ⟨g, 0, none⟩) zs.length cap) zs.length (cellsOf zs) ∧ Below w.heap.size w w'

theorem alen (n : Int) (w : World) (h0 : 0 ≤ n) (h1 : n ≤ 65535) :
    Calls Ybaf.prog 30 #[.int .i64 n] w (NewRow w (lenB n)) := by
  by_cases ha : n < 128
  · have e : lenB n = [n] := by simp [lenB, ha]
    rw [e]
    go_enter Ybaf.func30, Ybaf.ntmps30
    go_wp2
    go_ret
    exact ⟨_, _, rfl, own_alloc w w.heap.size [n] (Nat.le_refl _) (by simp [maxLen]), (Below.refl _ _).alloc (Nat.le_refl _) _⟩
  · by_cases hb : n < 256
    · have e : lenB n = [129, n] := by simp [lenB, ha, hb]
      rw [e]
      go_enter Ybaf.func30, Ybaf.ntmps30
      go_wp2
      go_ret
      exact ⟨_, _, rfl, own_alloc w w.heap.size [129, n] (Nat.le_refl _) (by simp [maxLen]), (Below.refl _ _).alloc (Nat.le_refl _) _⟩
    · have e : lenB n = [130, n / 256, n % 256] := by simp [lenB, ha, hb]
      rw [e]
      go_enter Ybaf.func30, Ybaf.ntmps30
      go_wp2
      go_ret
      exact ⟨_, _, rfl, own_alloc w w.heap.size [130, n / 256, n % 256] (Nat.le_refl _) (by simp [maxLen]), (Below.refl _ _).alloc (Nat.le_refl _) _⟩

theorem news_of {B : Nat} {w : World} {g o n : Nat} {zs : List Int} (h : Bytes B w (some ⟨g, o, none⟩) n zs) : ∀ j u, (cellsOf zs)[j]? = some u → w.cell? ((⟨g, o, none⟩ : Addr).add j) = some u := by
  intro j u hj
  obtain ⟨h1, rfl⟩ := cellsOf_get hj
  obtain ⟨hl, h | ⟨g', o', he, _, h⟩⟩ := h
  · omega
  · simp at he
    obtain ⟨rfl, rfl⟩ := he
    rw [add_plain0]
    exact h j (by omega)

set_option maxHeartbeats 400000 in
theorem atlv_some (B : Nat) (tag : Int) (g o n c : Nat) (zs : List Int) (w : World) (hB : B ≤ w.heap.size) (hz : Bytes B w (some ⟨g, o, none⟩) n zs) (hn : n ≤ 4000) (hpos : 0 < n) :
    Calls Ybaf.prog 18 #[.int .u8 tag, .slice (some ⟨g, o, none⟩) n c] w (NewRow w (tlv tag zs)) := by
  have hzl := hz.1
  obtain ⟨i0, hi, hz0, hz1, hz2⟩ := info_parts Ybaf.info5
  have hl := lenB_length n
  obtain ⟨T, hT⟩ : ∃ T, T = tlv tag zs := ⟨_, rfl⟩
  rw [← hT]
  have HT := hid hT
  clear hT
  have HZ := hid hzl
  clear hzl
  go_enter Ybaf.func18, Ybaf.ntmps18
  go_wp2_with fail
  refine (alen (n : Int) _ (by omega) (by omega)).mono ?_
  rintro e w2 ⟨g2, cap2, rfl, hown2, hb2⟩
  have hown : w2.ownsRow w.heap.size 5 1 (.slice (some ⟨w.heap.size, 0, none⟩) 1 1) 1 (cellsOf [tag]) := own_below (own_alloc w w.heap.size [tag] (Nat.le_refl _) (by simp [maxLen])) hb2
  have hbw : Below w.heap.size w w2 := ((Below.refl _ w).alloc (Nat.le_refl _) (Obj.cells #[Value.int IntKind.u8 tag] 5)).trans (hb2.mono (by simp))
  have hnew := own_bytes hown2
  have hsz := hbw.size
  have hzw := hz.below (hbw.mono hB)
  obtain ⟨L, hL⟩ : ∃ L, L = lenB (n : Int) := ⟨_, rfl⟩
  rw [← hL] at hl hnew ⊢
  have HL := hid hL
  clear hL hown2 hb2
  go_wp2_with (first
    | (at_builtin; refine wpList_append_lies _ rfl (.tmp 8) (.tmp 11) 22 rfl w.heap.size 5 i0 (.int .u8 0) 1 1 Ybaf.underlying22 hi hz0 hz1 hz2 rfl (by decide) (.slice (some ⟨w.heap.size, 0, none⟩) 1 1) 1 (cellsOf [tag]) rfl hown ⟨g2, 0, none⟩ L.length cap2 (cellsOf L) rfl (by rw [cellsOf_length, Nat.mul_one]) (news_of hnew) (cellsOf_one L) (by omega) (by unfold maxLen; omega) (by omega) hsz w2.heap.size rfl ?_; intro g3 cap3 w3 hown3 hgrow3 hat3 hlt3; have hb3 := hbw.grown hgrow3 hsz (by simp [Value.ownBlock]); have hz3 := hz.below (hb3.mono hB); have hsz3 := hb3.size)
    | (at_builtin; go_loud (refine wpList_append_lies _ rfl (.tmp 13) (.tmp 14) 22 rfl w.heap.size 5 i0 (.int .u8 0) 1 1 Ybaf.underlying22 hi hz0 hz1 hz2 rfl (by decide) (.slice (some ⟨g3, 0, none⟩) (1 + L.length) cap3) (1 + L.length) (cellsOf [tag] ++ cellsOf L) rfl hown3 ⟨g, o, none⟩ n c (cellsOf zs) rfl (by rw [cellsOf_length, Nat.mul_one]; exact HZ.out) (news_of hz3) (cellsOf_one zs) hpos (by unfold maxLen; omega) (by omega) hsz3 w3.heap.size rfl ?_); intro g4 cap4 w4 hown4 hgrow4 hat4 hlt4))
  go_ret
  have hT : T = [tag] ++ L ++ zs := by rw [HT.out, tlv, HZ.out, HL.out]; simp
  have hTl : T.length = 1 + L.length + n := by rw [hT, ← HZ.out]; simp; omega
  have hTc : cellsOf T = cellsOf [tag] ++ cellsOf L ++ cellsOf zs := by rw [hT, cellsOf_append, cellsOf_append]
  refine ⟨g4, cap4, ?_, ?_, ?_⟩
  · rw [hTl]; rfl
  · rw [hTl, hTc]; exact hown4
  · exact hb3.grown hgrow4 hsz3 (by have := own_le hown3; simp [Value.ownBlock]; omega)

set_option maxHeartbeats 400000 in
theorem atlv_nil (tag : Int) (w : World) :
    Calls Ybaf.prog 18 #[.int .u8 tag, .slice none 0 0] w (NewRow w (tlv tag [])) := by
  obtain ⟨i0, hi, hz0, hz1, hz2⟩ := info_parts Ybaf.info5
  have e0 : lenB ((0 : Nat) : Int) = [0] := rfl
  go_enter Ybaf.func18, Ybaf.ntmps18
  go_wp2_with fail
  refine (alen 0 _ (by omega) (by omega)).mono ?_
  rintro e w2 ⟨g2, cap2, rfl, hown2, hb2⟩
  have hown : w2.ownsRow w.heap.size 5 1 (.slice (some ⟨w.heap.size, 0, none⟩) 1 1) 1 (cellsOf [tag]) := own_below (own_alloc w w.heap.size [tag] (Nat.le_refl _) (by simp [maxLen])) hb2
  have hbw : Below w.heap.size w w2 := ((Below.refl _ w).alloc (Nat.le_refl _) (Obj.cells #[Value.int IntKind.u8 tag] 5)).trans (hb2.mono (by simp))
  have hnew := own_bytes hown2
  have hsz := hbw.size
  rw [show lenB 0 = [0] from rfl] at hnew ⊢
  clear hown2 hb2 e0
  go_wp2_with (first
    | (at_builtin; refine wpList_append_lies _ rfl (.tmp 8) (.tmp 11) 22 rfl w.heap.size 5 i0 (.int .u8 0) 1 1 Ybaf.underlying22 hi hz0 hz1 hz2 rfl (by decide) (.slice (some ⟨w.heap.size, 0, none⟩) 1 1) 1 (cellsOf [tag]) rfl hown ⟨g2, 0, none⟩ 1 cap2 (cellsOf [0]) rfl rfl (news_of hnew) (cellsOf_one [0]) (by omega) (by unfold maxLen; omega) (by omega) hsz w2.heap.size rfl ?_; intro g3 cap3 w3 hown3 hgrow3 hat3 hlt3; have hb3 := hbw.grown hgrow3 hsz (by simp [Value.ownBlock]); have hsz3 := hb3.size)
    | (at_builtin; refine wpList_append_own_none rfl (.tmp 13) (.tmp 14) 22 rfl w.heap.size 5 i0 1 Ybaf.underlying22 hi (.slice (some ⟨g3, 0, none⟩) 2 cap3) 2 (cellsOf [tag] ++ cellsOf [0]) rfl hown3 rfl ?_))
  go_ret
  exact ⟨g3, cap3, rfl, hown3, hb3⟩

set_option maxHeartbeats 400000 in
theorem atlv_empty (tag : Int) (x : Addr) (c : Nat) (w : World) :
    Calls Ybaf.prog 18 #[.int .u8 tag, .slice (some x) 0 c] w (NewRow w (tlv tag [])) := by
  obtain ⟨i0, hi, hz0, hz1, hz2⟩ := info_parts Ybaf.info5
  have e0 : lenB ((0 : Nat) : Int) = [0] := rfl
  go_enter Ybaf.func18, Ybaf.ntmps18
  go_wp2_with fail
  refine (alen 0 _ (by omega) (by omega)).mono ?_
  rintro e w2 ⟨g2, cap2, rfl, hown2, hb2⟩
  have hown : w2.ownsRow w.heap.size 5 1 (.slice (some ⟨w.heap.size, 0, none⟩) 1 1) 1 (cellsOf [tag]) := own_below (own_alloc w w.heap.size [tag] (Nat.le_refl _) (by simp [maxLen])) hb2
  have hbw : Below w.heap.size w w2 := ((Below.refl _ w).alloc (Nat.le_refl _) (Obj.cells #[Value.int IntKind.u8 tag] 5)).trans (hb2.mono (by simp))
  have hnew := own_bytes hown2
  have hsz := hbw.size
  rw [show lenB 0 = [0] from rfl] at hnew ⊢
  clear hown2 hb2 e0
  go_wp2_with (first
    | (at_builtin; refine wpList_append_lies _ rfl (.tmp 8) (.tmp 11) 22 rfl w.heap.size 5 i0 (.int .u8 0) 1 1 Ybaf.underlying22 hi hz0 hz1 hz2 rfl (by decide) (.slice (some ⟨w.heap.size, 0, none⟩) 1 1) 1 (cellsOf [tag]) rfl hown ⟨g2, 0, none⟩ 1 cap2 (cellsOf [0]) rfl rfl (news_of hnew) (cellsOf_one [0]) (by omega) (by unfold maxLen; omega) (by omega) hsz w2.heap.size rfl ?_; intro g3 cap3 w3 hown3 hgrow3 hat3 hlt3; have hb3 := hbw.grown hgrow3 hsz (by simp [Value.ownBlock]); have hsz3 := hb3.size)
    | (at_builtin; refine wpList_append_own _ rfl (.tmp 13) (.tmp 14) 22 rfl w.heap.size 5 i0 (.int .u8 0) 1 1 Ybaf.underlying22 hi hz0 hz1 hz2 rfl (by decide) (.slice (some ⟨g3, 0, none⟩) 2 cap3) 2 (cellsOf [tag] ++ cellsOf [0]) rfl hown3 x 0 c [] rfl rfl (by simp) (by simp) (by unfold maxLen; omega) (by omega) hsz3 ?_; intro v4 w4 hown4 hgrow4 hnil4))
  go_ret
  obtain ⟨g4, cap4, hv4⟩ := own_form hown4 (fun h => by simpa using hnil4.1 h)
  subst hv4
  refine ⟨g4, cap4, rfl, ?_, hb3.grown hgrow4 hsz3 (by have := own_le hown3; simp [Value.ownBlock]; omega)⟩
  rw [List.append_nil] at hown4
  exact hown4

end Go.Proofs.YbulkayaiFmt.A
