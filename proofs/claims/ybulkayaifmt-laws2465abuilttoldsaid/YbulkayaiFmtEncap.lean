/-
  THE WALKS of readOID and parseEncapContentInfo on well-formed input.
-/
import Derived.Test.YbulkayaiFmtOid
namespace Go.Proofs.YbulkayaiFmt.A
open Go.RowKit
set_option linter.unusedVariables false

/-- Octets of an object identifier that the reader takes, and the arcs behind 1.2. -/
structure OidIs (zs tl : List Int) : Prop where
  ok : OidOk zs
  st : oidSt zs zs.length = (42 :: tl, 0)
  pos : 0 < zs.length
  short : zs.length ≤ 100
  tpos : 0 < tl.length
  tb : ∀ x ∈ tl, 0 ≤ x ∧ x < 1000000000

theorem is_oid (x : Int) (h : x = 49 ∨ x = 24 ∨ x = 26) : OidIs (oidB x) [840, 113549, 1, 9, 16, 1, x] := by
  rcases h with rfl | rfl | rfl
  · exact ⟨ok_aspa, st_aspa, by decide, by decide, by decide, by decide⟩
  · exact ⟨ok_roa, st_roa, by decide, by decide, by decide, by decide⟩
  · exact ⟨ok_mft, st_mft, by decide, by decide, by decide, by decide⟩
theorem is_sd : OidIs sdOID [840, 113549, 1, 7, 2] := ⟨ok_sd, st_sd, by decide, by decide, by decide, by decide⟩

set_option maxRecDepth 20000 in
set_option maxHeartbeats 1000000 in
theorem readOID (B b n c : Nat) (p : Option Addr) (zs tl rest : List Int) (w : World) (hB0 : 0 < B) (hz : OidIs zs tl) (htab : Tab w) (h : RS B w b p n c (tlv 6 zs ++ rest)) :
    Calls Ybaf.prog 23 #[.pointer (some ⟨b, 0, none⟩)] w fun e w' => e = .returned (.tuple #[.string ⟨(oidText tl).toArray⟩, .nilIface]) ∧ (∃ p' c', RS B w' b p' rest.length c' rest) ∧ w.grownBy w' (some b) := by
  have hlt := h.lt
  have hab := h.above
  go_enter Ybaf.func23, Ybaf.ntmps23
  go_wp2_with fail
  refine (rRead B b n c p 6 zs rest _ (by decide) (by have := hz.short; omega) h).mono ?_
  rintro e w1 ⟨⟨p1, p2, k2, rfl, b1⟩, ⟨p', c', hrs1⟩, hgr⟩
  have hba := (Below.refl _ w1).alloc (Nat.le_refl _) (Obj.cells #[Value.int IntKind.u8 6, Value.slice p1 zs.length zs.length, Value.slice p2 k2 k2] 26)
  have t1 : Tab w1 := htab.below hB0 ((Below.refl B w).grown hgr (by omega) (by simp; omega))
  have hlt1 := hrs1.lt
  have t2 := t1.below (B := w1.heap.size) (by omega) hba
  have hrs2 := hrs1.on hba
  have hB1 : B ≤ w1.heap.size := by omega
  go_wp2_with fail
  refine (oid B zs.length zs.length k2 6 p1 p2 zs tl _ (by simp; omega) (b1.below (hba.mono hB1)) hz.pos hz.short hz.ok hz.st hz.tpos hz.tb t2 (by simp)).mono ?_
  rintro e w2 ⟨rfl, hb2⟩
  have hrs3 := hrs2.on hb2
  have hg := grown_trans (grown_trans hgr (grown_of (some b) hba)) (grown_of (some b) hb2)
  go_wp2
  go_ret2
  exact ⟨rfl, ⟨p', c', hrs3⟩, hg⟩

/-- The zero SignedObject, as the cells of its block. -/
abbrev so0 : Array Value := #[.string ⟨#[]⟩, .slice none 0 0, .slice none 0 0, .int .u8 0, .slice none 0 0, .slice none 0 0, .slice none 0 0, .bool false, .slice none 0 0]

theorem ctxc (w : World) : Calls Ybaf.prog 25 #[.int .i64 0] w fun e w' => e = .returned (.int .u8 160) ∧ w' = w := by
  have h : bits .or .u8 160 0 = 160 := by decide
  go_enter Ybaf.func25, Ybaf.ntmps25
  go_wp2
  go_ret
  exact ⟨rfl, rfl⟩
theorem ctxc1 (w : World) : Calls Ybaf.prog 25 #[.int .i64 1] w fun e w' => e = .returned (.int .u8 161) ∧ w' = w := by
  have h : bits .or .u8 160 1 = 161 := by decide
  go_enter Ybaf.func25, Ybaf.ntmps25
  go_wp2
  go_ret
  exact ⟨rfl, rfl⟩

theorem stores9 (w : World) (s : Nat) (a b c d e f g h i : Value) (o : Obj) (hs : s ≤ w.heap.size) :
    Below s w ((((((((((w.setCell ⟨s, 0, none⟩ a).setCell ⟨s, 1, none⟩ b).setCell ⟨s, 2, none⟩ c).setCell ⟨s, 3, none⟩ d).setCell ⟨s, 4, none⟩ e).setCell ⟨s, 5, none⟩ f).setCell ⟨s, 6, none⟩ g).setCell ⟨s, 7, none⟩ h).setCell ⟨s, 8, none⟩ i).alloc o) := by
  have h9 := ((((((((((Below.refl s w).setCell (p := ⟨s, 0, none⟩) (Nat.le_refl _) a).setCell (p := ⟨s, 1, none⟩) (Nat.le_refl _) b).setCell (p := ⟨s, 2, none⟩) (Nat.le_refl _) c).setCell (p := ⟨s, 3, none⟩) (Nat.le_refl _) d).setCell (p := ⟨s, 4, none⟩) (Nat.le_refl _) e).setCell (p := ⟨s, 5, none⟩) (Nat.le_refl _) f).setCell (p := ⟨s, 6, none⟩) (Nat.le_refl _) g).setCell (p := ⟨s, 7, none⟩) (Nat.le_refl _) h).setCell (p := ⟨s, 8, none⟩) (Nat.le_refl _) i)
  exact h9.alloc (Nat.le_trans hs h9.size) o

set_option maxRecDepth 20000 in
set_option maxHeartbeats 2000000 in
theorem encap (B n c : Nat) (p : Option Addr) (ozs tl zs : List Int) (w : World) (hB : B ≤ w.heap.size) (hB0 : 0 < B) (hz : OidIs ozs tl) (hzl : zs.length < 65000) (htab : Tab w) (hby : Bytes B w p n (tlv 6 ozs ++ tlv 160 (tlv 4 zs))) (hnc : n ≤ c) (hc : c ≤ maxLen) :
    Calls Ybaf.prog 35 #[.slice p n c] w fun e w' => ∃ p1, e = .returned (.tuple #[.agg #[.string ⟨(oidText tl).toArray⟩, .slice p1 zs.length zs.length, .slice none 0 0, .int .u8 0, .slice none 0 0, .slice none 0 0, .slice none 0 0, .bool false, .slice none 0 0], .nilIface]) ∧ Bytes B w' p1 zs.length zs ∧ Below w.heap.size w w' := by
  have hE := (Below.refl _ w).alloc (Nat.le_refl _) (Obj.cells #[.string ⟨#[]⟩, .slice none 0 0, .slice none 0 0, .int .u8 0, .slice none 0 0, .slice none 0 0, .slice none 0 0, .bool false, .slice none 0 0] 30)
  have hz1 := hby.below (hE.mono hB)
  have HE := hid hE
  clear hE
  obtain ⟨U, hU⟩ : ∃ U, U = tlv 4 zs := ⟨_, rfl⟩
  have lU := tlv_le 4 zs
  rw [← hU] at lU hz1
  have lT := tlv_le 160 U
  obtain ⟨T, hT⟩ : ∃ T, T = tlv 160 U := ⟨_, rfl⟩
  rw [← hT] at hz1 lT
  have HU := hid hU
  have HT := hid hT
  clear hU hT hby
  go_enter Ybaf.func35, Ybaf.ntmps35
  go_wp2_with fail
  refine (newReader p n c _).mono ?_
  rintro e w1 ⟨rfl, rfl⟩
  have hrs := RS.new hz1 hnc hc (by simp; omega)
  rw [World.size_alloc] at hrs
  have hR := (Below.refl _ (w.alloc (Obj.cells #[.string ⟨#[]⟩, .slice none 0 0, .slice none 0 0, .int .u8 0, .slice none 0 0, .slice none 0 0, .slice none 0 0, .bool false, .slice none 0 0] 30))).alloc (Nat.le_refl _) (Obj.cells #[Value.slice p n c] 64)
  have HF := nxt HE.out hR
  have hrc0 : ((w.alloc (Obj.cells #[.string ⟨#[]⟩, .slice none 0 0, .slice none 0 0, .int .u8 0, .slice none 0 0, .slice none 0 0, .slice none 0 0, .bool false, .slice none 0 0] 30)).alloc (Obj.cells #[Value.slice p n c] 64)).heap[w.heap.size]? = some (Obj.cells #[.string ⟨#[]⟩, .slice none 0 0, .slice none 0 0, .int .u8 0, .slice none 0 0, .slice none 0 0, .slice none 0 0, .bool false, .slice none 0 0] 30 (0, 0)) := by rw [hR.block w.heap.size (by simp)]; exact heap_alloc_new w _
  obtain ⟨W1, hW1⟩ : ∃ W1, W1 = (w.alloc (Obj.cells #[.string ⟨#[]⟩, .slice none 0 0, .slice none 0 0, .int .u8 0, .slice none 0 0, .slice none 0 0, .slice none 0 0, .bool false, .slice none 0 0] 30)).alloc (Obj.cells #[Value.slice p n c] 64) := ⟨_, rfl⟩
  rw [← hW1] at hrs HF hrc0 ⊢
  have T1 := htab.below (B := w.heap.size) (by omega) HF
  clear hR hW1
  go_wp2_with fail
  refine (readOID B (w.heap.size + 1) n c p ozs tl T _ hB0 hz T1 hrs).mono ?_
  rintro e w2 ⟨rfl, ⟨p2, c2, hrs2⟩, hg2⟩
  have hrc2 := (hg2.block w.heap.size (by have := HF.size; have := hrs.lt; omega) (by simp)).trans hrc0
  have HF2 := HF.grown hg2 (by have := hrs.lt; omega) (by simp)
  clear hrs hrc0 HF hg2
  go_wp2_with fail
  refine (rEmpty B _ _ c2 p2 _ _ hrs2).mono ?_
  rintro e w3 ⟨rfl, rfl⟩
  rw [show ((T.length : Int) == 0) = false from by simp; intro h; rw [h] at lT; simp at lT]
  go_wp2_with fail
  refine (ctxc _).mono ?_
  rintro e w3 ⟨rfl, rfl⟩
  go_wp2_with fail
  refine (rRead B (w.heap.size + 1) _ c2 p2 160 U [] _ (by decide) (by omega) (by rw [List.append_nil, ← HT.out]; exact hrs2)).mono ?_
  rintro e w4 ⟨⟨p1, p1', k2, rfl, b1⟩, ⟨p4, c4, hrs4⟩, hg4⟩
  have hrc4 := (hg4.block w.heap.size (by have := hrs2.lt; omega) (by simp)).trans hrc2
  have HF4 := HF2.grown hg4 (by have := hrs2.lt; omega) (by simp)
  have hA4 := (Below.refl _ w4).alloc (Nat.le_refl _) (Obj.cells #[Value.int IntKind.u8 160, Value.slice p1 U.length U.length, Value.slice p1' k2 k2] 26)
  have hrs5 := hrs4.on hA4
  have hrc5 := (hA4.block w.heap.size (Array.getElem?_eq_some_iff.1 hrc4).1).trans hrc4
  have HF5 := nxt HF4 hA4
  have b5 := b1.below (hA4.mono (by have := HF4.size; omega))
  clear hrs2 hrc2 HF2 hg4 hrs4 b1
  go_wp2_with fail
  refine (rEnd B _ c4 p4 _ hrs5).mono ?_
  rintro e w5 ⟨rfl, rfl⟩
  go_wp2_with fail
  refine (single B _ _ p1 4 zs _ (by have := HF5.size; omega) (by decide) (by omega) (by rw [← HU.out]; exact b5) (Nat.le_refl _) (by unfold maxLen; omega)).mono ?_
  rintro e w6 ⟨⟨q1, q2, k6, rfl, b6⟩, hb6⟩
  have hrc6 := (hb6.block w.heap.size (Array.getElem?_eq_some_iff.1 hrc5).1).trans hrc5
  have HF6 := nxt HF5 hb6
  have hs6 : w.heap.size < w6.heap.size := (Array.getElem?_eq_some_iff.1 hrc6).1
  have cc : ∀ j, w6.cell? ⟨w.heap.size, j, none⟩ = _ := fun j => Lib.cell_of_heap hrc6 j
  have ff : ∀ j, w6.frozen? ⟨w.heap.size, j, none⟩ = false := fun j => Lib.frozen_of_heap hrc6 j
  clear hrs5 hrc5 HF5 hb6 b5 HF4 hA4 hrc4
  go_wp2_with fail
  refine bodyPost_ret (v := .tuple #[.agg #[.string ⟨(oidText tl).toArray⟩, .slice q1 zs.length zs.length, .slice none 0 0, .int .u8 0, .slice none 0 0, .slice none 0 0, .slice none 0 0, .bool false, .slice none 0 0], .nilIface]) (by simp [results, Ybaf.results35, go_sem, cc, hs6]) rfl ?_
  have hB2 := stores9 w6 w.heap.size (.string ⟨(oidText tl).toArray⟩) (.slice q1 zs.length zs.length) (.slice none 0 0) (.int .u8 0) (.slice none 0 0) (.slice none 0 0) (.slice none 0 0) (.bool false) (.slice none 0 0) (Obj.cells #[Value.int IntKind.u8 4, Value.slice q1 zs.length zs.length, Value.slice q2 k6 k6] 26) (by omega)
  exact ⟨q1, rfl, b6.below (hB2.mono hB), HF6.trans hB2⟩

end Go.Proofs.YbulkayaiFmt.A
