/-
  THE WALK of Element.OID on well-formed octets.
-/
import Derived.Test.YbulkayaiFmtUint
namespace Go.Proofs.YbulkayaiFmt.A
open Go.RowKit
set_option linter.unusedVariables false

theorem Ybaf.info86 : (Ybaf.prog.info? 86).map (fun i => (i.zero, i.size, i.bytes)) = some (some (.int .u64 0), 1, 8) := by kernel_rfl

theorem own_blocks' {w : World} {base n : Nat} {t : TypeId} {v : Value} {xs : List Value} (h : w.ownsRow base t 1 v n xs) : ∀ k, v.ownBlock = some k → base ≤ k := by
  intro k hk
  obtain ⟨_, h | ⟨g', cap', cur, hv, hb, _⟩⟩ := h
  · rw [h.1] at hk; simp [Value.ownBlock] at hk
  · rw [hv] at hk; simp [Value.ownBlock] at hk; omega

theorem tabG : Ybaf.prog.globalNamed Ybaf.tabN = some 0 := by kernel_rfl
abbrev Tab (w : World) : Prop := Lib.TabIs Ybaf.prog w Ybaf.tabN .u64 Lib.pow10Tab
theorem Tab.below {B : Nat} {w w' : World} (h : Tab w) (h0 : 0 < B) (hb : Below B w w') : Tab w' := var?_below hb tabG h0 h

theorem formatUintI (x : Int) (h0 : 0 ≤ x) (h1 : x < 1000000000) (w : World) (htab : Tab w) :
    Calls Ybaf.prog 41 #[.int .u64 x, .int .i64 10] w fun e w' => e = .returned (.string ⟨(Lib.decDigits x.toNat).toArray⟩) ∧ Below w.heap.size w w' := by
  obtain ⟨u, rfl⟩ := Int.eq_ofNat_of_zero_le h0
  exact formatUint u (by omega) w htab

theorem builder_below {B b : Nat} {p : Value} {bs : List Value} {w w' : World} (h : Lib.BuilderAt 89 5 B b p bs w) (hb : Below w.heap.size w w') : Lib.BuilderAt 89 5 B b p bs w' := by
  obtain ⟨h1, v, hk, hown, hne⟩ := h
  exact ⟨h1, v, by rw [hb.block b (Array.getElem?_eq_some_iff.1 hk).1]; exact hk, own_below hown hb, hne⟩

theorem builder_new (w : World) : Lib.BuilderAt 89 5 w.heap.size w.heap.size (.pointer none) [] (w.alloc (.cells #[.pointer none, .slice none 0 0] 89)) :=
  ⟨Nat.le_refl _, .slice none 0 0, heap_alloc_new w _, World.ownsRow_nil _ _ _ _, by simp [Value.ownBlock]⟩

theorem strCells_list (l : List UInt8) : Lib.strCells ⟨l.toArray⟩ = Lib.byteCells l := by simp [Lib.strCells, Lib.byteCells]

/-- The arcs behind the first two, each with its dot. -/
def arcsText (l : List Int) : List UInt8 := (l.map fun a => (46 : UInt8) :: Lib.decDigits a.toNat).flatten
def oidText (tl : List Int) : List UInt8 := [49, 46, 50] ++ arcsText tl

theorem digits_short (x : Nat) (h : x < 1000000000) : (Lib.decDigits x).length ≤ 20 := by
  rw [Lib.decDigits_length]
  by_cases h0 : 1 ≤ x
  · have := Lib.numDigits_eq x h0 (by omega); split at this <;> omega
  · obtain rfl : x = 0 := by omega
    decide +kernel

theorem arcsText_snoc (l : List Int) (k : Nat) (h : k < l.length) : arcsText (l.take (k + 1)) = arcsText (l.take k) ++ ((46 : UInt8) :: Lib.decDigits (l.getD k 0).toNat) := by
  unfold arcsText
  rw [List.take_succ_eq_append_getElem h, List.map_append, List.flatten_append]
  simp [h]

abbrev arcCells (l : List Int) : List Value := l.map (Value.int .u64)

theorem nxt' {B : Nat} {w b c : World} (h : Below B w b) (k : Below B b c) : Below B w c := h.trans k

theorem own_le' {w : World} {base g n cap : Nat} {t : TypeId} {xs : List Value} (h : w.ownsRow base t 1 (.slice (some ⟨g, 0, none⟩) n cap) n xs) : n ≤ cap ∧ cap ≤ maxLen := by
  obtain ⟨_, h | ⟨g', cap', cur, hv, hb, hh, hn, hm, hs, ht⟩⟩ := h
  · simp at h
  · simp at hv
    obtain ⟨rfl, rfl⟩ := hv
    exact ⟨hn, hm⟩

theorem text1 : [] ++ Lib.strCells ⟨(Lib.decDigits 1).toArray⟩ = Lib.byteCells [49] := by
  rw [List.nil_append, strCells_list, show Lib.decDigits 1 = [49] from by decide +kernel]
theorem text2 : Lib.byteCells [49] ++ [.int .u8 46] = Lib.byteCells [49, 46] := rfl
theorem text3 : Lib.byteCells [49, 46] ++ Lib.strCells ⟨(Lib.decDigits 2).toArray⟩ = Lib.byteCells [49, 46, 50] := by
  rw [strCells_list, show Lib.decDigits 2 = [50] from by decide +kernel]; rfl
theorem bytes_dot (l : List UInt8) : Lib.byteCells l ++ [.int .u8 46] = Lib.byteCells (l ++ [46]) := by simp [Lib.byteCells]
theorem bytes_str (l r : List UInt8) : Lib.byteCells l ++ Lib.strCells ⟨r.toArray⟩ = Lib.byteCells (l ++ r) := by rw [strCells_list]; simp [Lib.byteCells]
theorem byteCells_length (l : List UInt8) : (Lib.byteCells l).length = l.length := by simp [Lib.byteCells]

theorem arc_cells {w : World} {base ga m cap : Nat} {A : List Int} (h : w.ownsRow base 86 1 (.slice (some ⟨ga, 0, none⟩) m cap) m (arcCells A)) : ∀ i, i < m → w.cell? ⟨ga, i, none⟩ = some (.int .u64 (A.getD i 0)) := by
  intro i hi
  have hl : A.length = m := by have := h.1; simp [arcCells] at this; exact this
  rw [h.cellAt i (by omega)]
  simp [arcCells, List.getElem?_eq_getElem (show i < A.length by omega)]

set_option maxRecDepth 20000 in
set_option maxHeartbeats 2000000 in
theorem oid (B n c k2 : Nat) (tag : Int) (p p2 : Option Addr) (zs : List Int) (tl : List Int) (w : World) (hB : B ≤ w.heap.size) (hz : Bytes B w p n zs) (hn : 0 < n) (hn' : n ≤ 100) (hok : OidOk zs) (hst : oidSt zs n = (42 :: tl, 0)) (htl : 0 < tl.length) (htlB : ∀ x ∈ tl, 0 ≤ x ∧ x < 1000000000) (htab : Tab w) (hw0 : 0 < w.heap.size) :
    Calls Ybaf.prog 31 #[.agg #[.int .u8 tag, .slice p n c, .slice p2 k2 k2]] w fun e w' => e = .returned (.tuple #[.string ⟨(oidText tl).toArray⟩, .nilIface]) ∧ Below w.heap.size w w' := by
  obtain ⟨i0, hi, hz0, hz1, hz2⟩ := info_parts Ybaf.info86
  have hl := hz.1
  obtain ⟨g, o, rfl, hg, hcell⟩ : ∃ g o, p = some ⟨g, o, none⟩ ∧ g < B ∧ ∀ i, i < n → w.cell? ⟨g, o + i, none⟩ = some (.int .u8 (zs.getD i 0)) := by
    obtain ⟨_, h | h⟩ := hz
    · omega
    · exact h
  have HC := hid hcell
  have HL := hid hl
  have HOK := hid hok
  have HST := hid hst
  have HTB := hid htlB
  have HTab := hid htab
  have hn0 : ((n : Int) == 0) = false := by simp; omega
  clear hcell hl hok hst htlB htab
  go_enter Ybaf.func31, Ybaf.ntmps31
  go_wp2
  go_loopw [5, 6, 21] (fun arcs vv i wr => ∃ (k : Nat) (A : List Int) (v : Int), k ≤ n ∧ i = .int .i64 k ∧ vv = .int .u64 v ∧ Hid (oidSt zs k = (A, v)) ∧ wr.ownsRow (w.heap.size + 1) 86 1 arcs A.length (arcCells A) ∧ Below (w.heap.size + 1) (w.alloc (.cells #[.int .u8 tag, .slice (some ⟨g, o, none⟩) n c, .slice p2 k2 k2] 26)) wr ∧ A.length ≤ k) (fun _ _ i _ => n - (intOf i).toNat)
  case atStart => exact ⟨0, [], 0, Nat.zero_le _, rfl, rfl, rfl, World.ownsRow_nil _ _ _ _, Below.refl _ _, by simp⟩
  case round =>
    obtain ⟨k, A, v, hk, rfl, rfl, HS, hown, hb, hlen⟩ := hrel
    by_cases hkn : k < n
    · obtain ⟨x, hx⟩ : ∃ x, x = zs.getD k 0 := ⟨_, rfl⟩
      have hok := HOK.out k (by rw [HL.out]; exact hkn)
      rw [HS.out, ← hx, HL.out] at hok
      obtain ⟨o0, o1, v0, v1, htest, hlast⟩ := hok
      have hsucc := oidSt_succ zs k (by rw [HL.out]; exact hkn)
      rw [HS.out, ← hx] at hsucc
      have hcx : wr.cell? ⟨g, o + k, none⟩ = some (.int .u8 x) := by
        rw [hb.cell (by have := lt_of_cell (HC.out k hkn); simp at this ⊢; omega), ((Below.refl _ w).alloc (Nat.le_refl _) _).cell (lt_of_cell (HC.out k hkn)), hx]
        exact HC.out k hkn
      have HS1 := hid hsucc
      have ha := and127 x o0 o1
      have hor := or7 v (x % 128) v0 v1 (by omega) (by omega)
      have hi1 : (k : Int) < (n : Int) := by omega
      have hsz := hb.size
      clear hsucc hx
      simp only at v0 v1 htest
      by_cases hv0 : v = 0
      · subst hv0
        have hxne : (x == 128) = false := by simpa using htest
        have hor0 : bits .or .u64 0 (x % 128) = x % 128 := by simpa using hor
        clear hor htest
        by_cases hge : 128 ≤ x
        · have hb8 := and128_ge x hge o1
          have hkl : ((k : Int) == (n : Int) - 1) = false := by rw [beq_eq_false_iff_ne]; have := hlast hge; omega
          go_wp2
          go_roundw
          case rel => exact ⟨k + 1, A, x % 128, by omega, by go_num, rfl, by show _ = _; rw [HS1.out, oidStep, if_pos hge]; simp, hown, hb, by omega⟩
          case measure => simp [intOf]; omega
        · have hb8 := and128_lt x o0 (by omega)
          go_wp2_with (at_builtin; refine wpList_append_lies _ rfl (.tmp 51) (.tmp 53) 85 rfl (w.heap.size + 1) 86 i0 (.int .u64 0) 1 8 Ybaf.underlying85 hi hz0 hz1 hz2 rfl (by decide) _ A.length (arcCells A) rfl (hown.alloc _) ⟨wr.heap.size, 0, none⟩ 1 1 [.int .u64 (x % 128)] rfl rfl (cell_one_new _ _ _) (by simp [Value.oneCell']) (by omega) (by unfold maxLen; omega) (by omega) (by simp at hsz ⊢; omega) _ rfl ?_; intro g3 cap3 w3 hown3 hgrow3 hat3 hlt3)
          go_wp2
          go_roundw
          case rel => exact ⟨k + 1, A ++ [x % 128], 0, by omega, by go_num, rfl, by show _ = _; rw [HS1.out, oidStep, if_neg hge]; simp, by simpa [arcCells] using hown3, (hb.alloc (by simpa using hsz) _).grown hgrow3 (by simp at hsz ⊢; omega) (own_blocks' hown), by simp; omega⟩
          case measure => simp [intOf]; omega
      · have hvb : (v == 0) = false := by simpa using hv0
        clear htest
        by_cases hge : 128 ≤ x
        · have hb8 := and128_ge x hge o1
          have hkl : ((k : Int) == (n : Int) - 1) = false := by rw [beq_eq_false_iff_ne]; have := hlast hge; omega
          go_wp2
          go_roundw
          case rel => exact ⟨k + 1, A, v * 128 + x % 128, by omega, by go_num, rfl, by show _ = _; rw [HS1.out, oidStep, if_pos hge], hown, hb, by omega⟩
          case measure => simp [intOf]; omega
        · have hb8 := and128_lt x o0 (by omega)
          go_wp2_with (at_builtin; refine wpList_append_lies _ rfl (.tmp 51) (.tmp 53) 85 rfl (w.heap.size + 1) 86 i0 (.int .u64 0) 1 8 Ybaf.underlying85 hi hz0 hz1 hz2 rfl (by decide) _ A.length (arcCells A) rfl (hown.alloc _) ⟨wr.heap.size, 0, none⟩ 1 1 [.int .u64 (v * 128 + x % 128)] rfl rfl (cell_one_new _ _ _) (by simp [Value.oneCell']) (by omega) (by unfold maxLen; omega) (by omega) (by simp at hsz ⊢; omega) _ rfl ?_; intro g3 cap3 w3 hown3 hgrow3 hat3 hlt3)
          go_wp2
          go_roundw
          case rel => exact ⟨k + 1, A ++ [v * 128 + x % 128], 0, by omega, by go_num, rfl, by show _ = _; rw [HS1.out, oidStep, if_neg hge], by simpa [arcCells] using hown3, (hb.alloc (by simpa using hsz) _).grown hgrow3 (by simp at hsz ⊢; omega) (own_blocks' hown), by simp; omega⟩
          case measure => simp [intOf]; omega
    · obtain rfl : k = n := by omega
      have hAv := HST.out
      rw [HS.out] at hAv
      simp only [Prod.mk.injEq] at hAv
      obtain ⟨rfl, rfl⟩ := hAv
      obtain ⟨ga, capa, hv⟩ : ∃ ga capa, u5 = .slice (some ⟨ga, 0, none⟩) (tl.length + 1) capa := by
        obtain ⟨_, h | ⟨g', cap', cur, hv', _⟩⟩ := hown
        · simp at h
        · exact ⟨g', cap', by simpa using hv'⟩
      subst hv
      obtain ⟨wo, rfl⟩ : ∃ wo : World, wo = wr := ⟨_, rfl⟩
      have hcells : ∀ i, i < tl.length + 1 → wo.cell? ⟨ga, i, none⟩ = some (.int .u64 ((42 :: tl).getD i 0)) := arc_cells hown
      have hga : ga < wo.heap.size := by have := lt_of_cell (hcells 0 (by omega)); simpa using this
      have ha0 : wo.cell? ⟨ga, 0, none⟩ = some (.int .u64 42) := hcells 0 (by omega)
      have HCL := hid hcells
      have htl1 : (0 : Int) < (tl.length : Int) + 1 := by omega
      have hbw : Below w.heap.size w wo := nxt' ((Below.refl _ w).alloc (Nat.le_refl _) _) (hb.mono (by omega))
      have hcap1 : ¬ capa = 1 := by have := own_le' hown; omega
      have hcapn : tl.length + 1 ≤ capa ∧ capa ≤ maxLen := own_le' hown
      have hwz := hbw.size
      clear hcells hown
      go_wp2_with fail
      rw [show (min 1 2 : Int) = 1 from by decide]
      -- '1'
      have T0 := HTab.out.below hw0 hbw
      have Ba := (Below.refl _ wo).alloc (Nat.le_refl _) (.cells #[.pointer none, .slice none 0 0] 89)
      have N0 := builder_new wo
      refine (formatUintI 1 (by omega) (by omega) _ (T0.below (by omega) Ba)).mono ?_
      rintro e w1 ⟨rfl, hb1⟩
      have N1 := builder_below N0 hb1
      have G1 : Below wo.heap.size wo w1 := nxt Ba hb1
      clear N0 hb1 Ba
      go_wp2_with fail
      refine (bWriteString wo.heap.size wo.heap.size [] _ _ (.inl N1) (by decide +kernel) G1.size).mono ?_
      rintro e w2 ⟨rfl, N2, hb2⟩
      rw [text1] at N2
      have G2 := G1.trans hb2
      clear N1 hb2 G1
      go_wp2_with fail
      refine (bWriteByte wo.heap.size wo.heap.size _ 46 _ (.inr N2) (by simp [Lib.byteCells]) G2.size).mono ?_
      rintro e w3 ⟨rfl, N3, hb3⟩
      rw [text2] at N3
      have G3 := G2.trans hb3
      have a03 : w3.cell? ⟨ga, 0, none⟩ = some (.int .u64 42) := by rw [G3.cell (p := ⟨ga, 0, none⟩) hga]; exact ha0
      clear N2 hb3 G2
      -- '2'
      go_wp2_with fail
      refine (formatUintI 2 (by omega) (by omega) _ (T0.below (by omega) G3)).mono ?_
      rintro e w4 ⟨rfl, hb4⟩
      have N4 := builder_below N3 hb4
      have G4 := G3.trans (hb4.mono G3.size)
      clear N3 hb4 G3
      go_wp2_with fail
      refine (bWriteString wo.heap.size wo.heap.size _ _ _ (.inr N4) (by rw [byteCells_length]; decide +kernel) G4.size).mono ?_
      rintro e w5 ⟨rfl, N5, hb5⟩
      rw [text3] at N5
      have G5 := G4.trans hb5
      clear N4 hb5 G4
      have hs1 : (1 : Int) ≤ (tl.length : Int) + 1 := by omega
      go_wp2_with fail
      go_loopw [76] (fun i wr => ∃ k : Nat, k ≤ tl.length ∧ i = .int .i64 k ∧ Lib.BuilderAt 89 5 wo.heap.size wo.heap.size (.pointer (some ⟨wo.heap.size, 0, none⟩)) (Lib.byteCells ([49, 46, 50] ++ arcsText (tl.take k))) wr ∧ (arcsText (tl.take k)).length ≤ 21 * k ∧ Below wo.heap.size wo wr) (fun i _ => tl.length - (intOf i).toNat)
      case atStart => exact ⟨0, Nat.zero_le _, rfl, by simpa [arcsText] using N5, by simp [arcsText], G5⟩
      case round =>
        obtain ⟨j, hj, rfl, N, hlt, G⟩ := hrel
        by_cases hjt : j < tl.length
        · have hjx : wr.cell? ⟨ga, 1 + j, none⟩ = some (.int .u64 (tl.getD j 0)) := by
            rw [G.cell (p := ⟨ga, 1 + j, none⟩) hga]
            have := HCL.out (1 + j) (by omega)
            rw [this, show (42 :: tl).getD (1 + j) 0 = tl.getD j 0 by rw [Nat.add_comm]; simp]
          have hxb := HTB.out (tl.getD j 0) (by simp [List.getElem?_eq_getElem hjt])
          have hsn := arcsText_snoc tl j hjt
          obtain ⟨x, hx⟩ : ∃ x, x = tl.getD j 0 := ⟨_, rfl⟩
          rw [← hx] at hjx hxb hsn
          have hds := digits_short x.toNat (by omega)
          obtain ⟨S, hS⟩ : ∃ S, S = [49, 46, 50] ++ arcsText (tl.take j) := ⟨_, rfl⟩
          have hSl : S.length ≤ 3 + 21 * j := by rw [hS]; simp; omega
          rw [← hS] at N
          have HSN := hid hsn
          have HSS := hid hS
          have hjl : j ≤ 100 := by simp at hlen; omega
          clear hx hsn hS
          have hi1 : (j : Int) < (tl.length : Int) := by omega
          go_wp2_with fail
          refine (bWriteByte wo.heap.size wo.heap.size _ 46 _ (.inr N) (by rw [byteCells_length]; omega) G.size).mono ?_
          rintro e w6 ⟨rfl, N6, hb6⟩
          rw [bytes_dot] at N6
          have G6 := G.trans hb6
          clear N hb6 G
          go_wp2_with fail
          refine (formatUintI x hxb.1 hxb.2 _ (T0.below (by omega) G6)).mono ?_
          rintro e w7 ⟨rfl, hb7⟩
          have N7 := builder_below N6 hb7
          have G7 := G6.trans (hb7.mono G6.size)
          clear N6 hb7 G6
          go_wp2_with fail
          refine (bWriteString wo.heap.size wo.heap.size _ _ _ (.inr N7) (by rw [byteCells_length]; simp [ByteArray.size]; omega) G7.size).mono ?_
          rintro e w8 ⟨rfl, N8, hb8⟩
          rw [bytes_str] at N8
          have G8 := G7.trans hb8
          clear N7 hb8 G7
          go_wp2
          go_roundw
          case rel =>
            refine ⟨j + 1, by omega, by go_num, ?_, ?_, G8⟩
            · rw [HSN.out, ← List.append_assoc, ← HSS.out, show (46 : UInt8) :: Lib.decDigits x.toNat = [46] ++ Lib.decDigits x.toNat from rfl, ← List.append_assoc]
              exact N8
            · rw [HSN.out]; simp; omega
          case measure => simp [intOf]; omega
        · obtain rfl : j = tl.length := by omega
          rw [List.take_length] at N
          go_wp2_with fail
          refine (Ybaf.Builder_String wo.heap.size wo.heap.size _ _ (.inr N) (by simp)).mono ?_
          rintro e w6 ⟨rfl, hb6⟩
          go_wp2
          go_ret2
          exact ⟨rfl, hbw.trans ((G.trans hb6).mono hwz)⟩

end Go.Proofs.YbulkayaiFmt.A
