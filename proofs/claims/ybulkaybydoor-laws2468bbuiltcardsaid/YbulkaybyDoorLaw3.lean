/-
  THE LAW's WALK, WHERE THE PREFIX IS NUMBER 3 OF FOUR: the six types of alert, one walk each.
-/
import Derived.Test.YbulkaybyDoorLaw
namespace Go.Proofs.YbulkaybyDoor.A
open Go.RowKit Go.Lib
set_option linter.unusedVariables false

set_option maxRecDepth 20000 in
set_option maxHeartbeats 4000000 in
theorem law_3_0 (x y : Int) (e1 : (x % 5 == 1) = false) (e2 : (x % 5 == 2) = false) (e3 : (x % 5 == 3) = true) (f1 : (y % 7 == 1) = false) (f2 : (y % 7 == 2) = false) (f3 : (y % 7 == 3) = false) (f4 : (y % 7 == 4) = false) (f5 : (y % 7 == 5) = false) (p : Option Addr) (n c : Nat) (a : Int) (j : ByteArray) (zs : List Int) (w : World) (hn : n ≤ 1024) (hj : j.size ≤ 1024) (hz : Task w p n zs)
    (hx0 : 0 ≤ x) (hx1 : x ≤ 255) (hy0 : 0 ≤ y) (hy1 : y ≤ 255) (ha0 : -2147483648 ≤ a) (ha1 : a ≤ 2147483647) (E : Env w) (SV : ∀ w', Below w.heap.size w w' → Sev w') :
    Calls Ybad.prog 4 #[.slice p n c, .int .i32 a, .int .u8 x, .int .u8 y, .string j] w fun e w' => e = .returned (.bool true) ∧ Below w.heap.size w w' := by
  obtain ⟨i0, hi, hz0, hz1, hz2⟩ := info_parts Ybad.info5
  have hn' : ¬ (1024 : Int) < (n : Int) := by omega
  have hj' : ¬ (1024 : Int) < (j.size : Int) := by omega
  have HZ := hid hz
  clear hz
  go_enter Ybad.func4, Ybad.ntmps4
  go_wp2_with (at_make; refine wpList_make_own _ rfl _ _ 23 rfl w.heap.size 5 i0 (.int .u8 0) 1 Ybad.underlying23 hi hz0 hz1 .i64 .i64 _ n rfl rfl (by first | rfl | omega) (by rw [hz2]; omega) (by unfold maxLen; omega) (Nat.le_refl _) ?_; intro w1 hown0 hgrow0)
  go_wp2
  have hb1 : Below w.heap.size w w1 := (Below.refl _ _).grown hgrow0 (Nat.le_refl _) (by simp)
  go_loopw [11, 12] (fun bs i wr => ∃ (k : Nat) (A : List Int) (g cap : Nat), k ≤ n ∧ i = .int .i64 k ∧ A.length = k ∧ bs = .slice (some ⟨g, 0, none⟩) k cap ∧ wr.ownsRow w.heap.size 5 1 (.slice (some ⟨g, 0, none⟩) k cap) k (cellsI A) ∧ Below w.heap.size w wr) (fun _ i _ => n - (RowKit.intOf i).toNat)
  case atStart => exact ⟨0, [], _, _, Nat.zero_le _, rfl, rfl, rfl, hown0, hb1⟩
  case round =>
    clear hown0 hgrow0 hb1
    obtain ⟨k, A, g, cap, hk, rfl, hA, rfl, hown, hb⟩ := hrel
    by_cases hkn : k < n
    · obtain ⟨hl, hc, hr⟩ := HZ.out
      obtain ⟨gz, oz, rfl, hcell⟩ : ∃ gz oz, p = some ⟨gz, oz, none⟩ ∧ (∀ i, i < n → w.cell? ⟨gz, oz + i, none⟩ = some (.int .u8 (zs.getD i 0))) := by
        rcases hc with h | h
        · omega
        · exact h
      obtain ⟨z, hzk⟩ : ∃ z, z = zs.getD k 0 := ⟨_, rfl⟩
      have hck := hcell k hkn
      rw [← hzk] at hck
      have hzm : z ∈ zs := by rw [hzk]; simp [List.getD, List.getElem?_eq_getElem (show k < zs.length by omega)]
      obtain ⟨r0, r1⟩ := hr z hzm
      have hcx : wr.cell? ⟨gz, oz + k, none⟩ = some (.int .u8 z) := by rw [hb.cell (lt_of_cell hck)]; exact hck
      clear hcell hl hc hr hzk hzm hck HZ
      have hi1 : (k : Int) < (n : Int) := by omega
      have hsz := hb.size
      go_wp2_with (at_builtin; refine wpList_append_lies _ rfl (.tmp 33) (.tmp 41) 23 rfl w.heap.size 5 i0 (.int .u8 0) 1 1 Ybad.underlying23 hi hz0 hz1 hz2 rfl (by decide) _ k (cellsI A) rfl (hown.alloc _) ⟨wr.heap.size, 0, none⟩ 1 1 [_] rfl rfl (cell_one_new _ _ _) (by simp [Value.oneCell']) (by omega) (by unfold maxLen; omega) (by omega) (by simp at hsz ⊢; omega) _ rfl ?_; intro g3 cap3 w3 hown3 hgrow3 hat3 hlt3)
      go_wp2
      go_roundw
      case rel => exact ⟨k + 1, A ++ [_], g3, cap3, by omega, by go_num, by simp [hA], rfl, by simpa [cellsI] using hown3, (hb.alloc hsz _).grown hgrow3 (by simp at hsz ⊢; omega) (own_blocks hown)⟩
      case measure => simp [RowKit.intOf]; omega
    · obtain rfl : k = n := by omega
      have hcv : ∀ w', Below wr.heap.size wr w' → (convert 23 9 (.slice (some ⟨g, 0, none⟩) k cap)).run Ybad.prog w' = .ok (.string (strOfNums A)) w' := fun w' hb' => conv_run hA hown hb'
      have hSz : (strOfNums A).size = k := by rw [strOfNums_size, hA]
      obtain ⟨S, hS⟩ : ∃ S, S = strOfNums A := ⟨_, rfl⟩
      rw [← hS] at hcv hSz
      have hI : (⟨(Lib.itoa a).toArray⟩ : ByteArray).size ≤ 30 := itoa_size a ha0 ha1
      obtain ⟨I, hIe⟩ : ∃ I : ByteArray, I = ⟨(Lib.itoa a).toArray⟩ := ⟨_, rfl⟩
      rw [← hIe] at hI
      have EI := hid hIe
      obtain ⟨X1, X2, X3, X4, X5, c1, c2, c3, c4, c5, hX5⟩ := cats ⟨#[97, 108, 101, 114, 116]⟩ S I ⟨#[115, 116, 97, 108, 108, 101, 100]⟩ ⟨#[45]⟩ (by decide) (by omega) hI (by first | decide | exact hj) (by decide)
      have HX := hid hX5
      have HB : Below wr.heap.size wr wr.drew := (Below.refl _ _).drew
      have EE : Env wr.drew := (E.below hb).below HB
      have hwr := wrap_a a ha0 ha1
      clear hS hIe HZ hX5 hI hSz hown hA
      go_wp2_with fail
      go_region_held3 (fun w' => Below wr.heap.size wr w') (assumption) ((go_at_call 7; refine (itoa a (by omega) (by omega) _ EE).mono ?_; rintro e w' ⟨rfl, hbI⟩; rw [← EI.out]; have hB2 : Below wr.heap.size wr w' := HB.trans hbI))
      have hB3 : Below w.heap.size w w' := hb.trans (hB2.mono hb.size)
      go_wp2_with fail
      refine (validAlert X5 HX.out _ (E.below hB3) (SV _ hB3)).mono ?_
      rintro e w2 ⟨rfl, hb4⟩
      go_wp2_with fail
      refine (model X5 HX.out _).mono ?_
      rintro e w3 ⟨rfl, rfl⟩
      go_wp2
      go_ret
      exact ⟨by simp, hB3.trans (hb4.mono hB3.size)⟩

set_option maxRecDepth 20000 in
set_option maxHeartbeats 4000000 in
theorem law_3_1 (x y : Int) (e1 : (x % 5 == 1) = false) (e2 : (x % 5 == 2) = false) (e3 : (x % 5 == 3) = true) (f1 : (y % 7 == 1) = true) (p : Option Addr) (n c : Nat) (a : Int) (j : ByteArray) (zs : List Int) (w : World) (hn : n ≤ 1024) (hj : j.size ≤ 1024) (hz : Task w p n zs)
    (hx0 : 0 ≤ x) (hx1 : x ≤ 255) (hy0 : 0 ≤ y) (hy1 : y ≤ 255) (ha0 : -2147483648 ≤ a) (ha1 : a ≤ 2147483647) (E : Env w) (SV : ∀ w', Below w.heap.size w w' → Sev w') :
    Calls Ybad.prog 4 #[.slice p n c, .int .i32 a, .int .u8 x, .int .u8 y, .string j] w fun e w' => e = .returned (.bool true) ∧ Below w.heap.size w w' := by
  obtain ⟨i0, hi, hz0, hz1, hz2⟩ := info_parts Ybad.info5
  have hn' : ¬ (1024 : Int) < (n : Int) := by omega
  have hj' : ¬ (1024 : Int) < (j.size : Int) := by omega
  have HZ := hid hz
  clear hz
  go_enter Ybad.func4, Ybad.ntmps4
  go_wp2_with (at_make; refine wpList_make_own _ rfl _ _ 23 rfl w.heap.size 5 i0 (.int .u8 0) 1 Ybad.underlying23 hi hz0 hz1 .i64 .i64 _ n rfl rfl (by first | rfl | omega) (by rw [hz2]; omega) (by unfold maxLen; omega) (Nat.le_refl _) ?_; intro w1 hown0 hgrow0)
  go_wp2
  have hb1 : Below w.heap.size w w1 := (Below.refl _ _).grown hgrow0 (Nat.le_refl _) (by simp)
  go_loopw [11, 12] (fun bs i wr => ∃ (k : Nat) (A : List Int) (g cap : Nat), k ≤ n ∧ i = .int .i64 k ∧ A.length = k ∧ bs = .slice (some ⟨g, 0, none⟩) k cap ∧ wr.ownsRow w.heap.size 5 1 (.slice (some ⟨g, 0, none⟩) k cap) k (cellsI A) ∧ Below w.heap.size w wr) (fun _ i _ => n - (RowKit.intOf i).toNat)
  case atStart => exact ⟨0, [], _, _, Nat.zero_le _, rfl, rfl, rfl, hown0, hb1⟩
  case round =>
    clear hown0 hgrow0 hb1
    obtain ⟨k, A, g, cap, hk, rfl, hA, rfl, hown, hb⟩ := hrel
    by_cases hkn : k < n
    · obtain ⟨hl, hc, hr⟩ := HZ.out
      obtain ⟨gz, oz, rfl, hcell⟩ : ∃ gz oz, p = some ⟨gz, oz, none⟩ ∧ (∀ i, i < n → w.cell? ⟨gz, oz + i, none⟩ = some (.int .u8 (zs.getD i 0))) := by
        rcases hc with h | h
        · omega
        · exact h
      obtain ⟨z, hzk⟩ : ∃ z, z = zs.getD k 0 := ⟨_, rfl⟩
      have hck := hcell k hkn
      rw [← hzk] at hck
      have hzm : z ∈ zs := by rw [hzk]; simp [List.getD, List.getElem?_eq_getElem (show k < zs.length by omega)]
      obtain ⟨r0, r1⟩ := hr z hzm
      have hcx : wr.cell? ⟨gz, oz + k, none⟩ = some (.int .u8 z) := by rw [hb.cell (lt_of_cell hck)]; exact hck
      clear hcell hl hc hr hzk hzm hck HZ
      have hi1 : (k : Int) < (n : Int) := by omega
      have hsz := hb.size
      go_wp2_with (at_builtin; refine wpList_append_lies _ rfl (.tmp 33) (.tmp 41) 23 rfl w.heap.size 5 i0 (.int .u8 0) 1 1 Ybad.underlying23 hi hz0 hz1 hz2 rfl (by decide) _ k (cellsI A) rfl (hown.alloc _) ⟨wr.heap.size, 0, none⟩ 1 1 [_] rfl rfl (cell_one_new _ _ _) (by simp [Value.oneCell']) (by omega) (by unfold maxLen; omega) (by omega) (by simp at hsz ⊢; omega) _ rfl ?_; intro g3 cap3 w3 hown3 hgrow3 hat3 hlt3)
      go_wp2
      go_roundw
      case rel => exact ⟨k + 1, A ++ [_], g3, cap3, by omega, by go_num, by simp [hA], rfl, by simpa [cellsI] using hown3, (hb.alloc hsz _).grown hgrow3 (by simp at hsz ⊢; omega) (own_blocks hown)⟩
      case measure => simp [RowKit.intOf]; omega
    · obtain rfl : k = n := by omega
      have hcv : ∀ w', Below wr.heap.size wr w' → (convert 23 9 (.slice (some ⟨g, 0, none⟩) k cap)).run Ybad.prog w' = .ok (.string (strOfNums A)) w' := fun w' hb' => conv_run hA hown hb'
      have hSz : (strOfNums A).size = k := by rw [strOfNums_size, hA]
      obtain ⟨S, hS⟩ : ∃ S, S = strOfNums A := ⟨_, rfl⟩
      rw [← hS] at hcv hSz
      have hI : (⟨(Lib.itoa a).toArray⟩ : ByteArray).size ≤ 30 := itoa_size a ha0 ha1
      obtain ⟨I, hIe⟩ : ∃ I : ByteArray, I = ⟨(Lib.itoa a).toArray⟩ := ⟨_, rfl⟩
      rw [← hIe] at hI
      have EI := hid hIe
      obtain ⟨X1, X2, X3, X4, X5, c1, c2, c3, c4, c5, hX5⟩ := cats ⟨#[97, 108, 101, 114, 116]⟩ S I ⟨#[110, 111, 95, 99, 104, 101, 99, 107, 105, 110]⟩ ⟨#[45]⟩ (by decide) (by omega) hI (by first | decide | exact hj) (by decide)
      have HX := hid hX5
      have HB : Below wr.heap.size wr wr.drew := (Below.refl _ _).drew
      have EE : Env wr.drew := (E.below hb).below HB
      have hwr := wrap_a a ha0 ha1
      clear hS hIe HZ hX5 hI hSz hown hA
      go_wp2_with fail
      go_region_held3 (fun w' => Below wr.heap.size wr w') (assumption) ((go_at_call 7; refine (itoa a (by omega) (by omega) _ EE).mono ?_; rintro e w' ⟨rfl, hbI⟩; rw [← EI.out]; have hB2 : Below wr.heap.size wr w' := HB.trans hbI))
      have hB3 : Below w.heap.size w w' := hb.trans (hB2.mono hb.size)
      go_wp2_with fail
      refine (validAlert X5 HX.out _ (E.below hB3) (SV _ hB3)).mono ?_
      rintro e w2 ⟨rfl, hb4⟩
      go_wp2_with fail
      refine (model X5 HX.out _).mono ?_
      rintro e w3 ⟨rfl, rfl⟩
      go_wp2
      go_ret
      exact ⟨by simp, hB3.trans (hb4.mono hB3.size)⟩

set_option maxRecDepth 20000 in
set_option maxHeartbeats 4000000 in
theorem law_3_2 (x y : Int) (e1 : (x % 5 == 1) = false) (e2 : (x % 5 == 2) = false) (e3 : (x % 5 == 3) = true) (f1 : (y % 7 == 1) = false) (f2 : (y % 7 == 2) = true) (p : Option Addr) (n c : Nat) (a : Int) (j : ByteArray) (zs : List Int) (w : World) (hn : n ≤ 1024) (hj : j.size ≤ 1024) (hz : Task w p n zs)
    (hx0 : 0 ≤ x) (hx1 : x ≤ 255) (hy0 : 0 ≤ y) (hy1 : y ≤ 255) (ha0 : -2147483648 ≤ a) (ha1 : a ≤ 2147483647) (E : Env w) (SV : ∀ w', Below w.heap.size w w' → Sev w') :
    Calls Ybad.prog 4 #[.slice p n c, .int .i32 a, .int .u8 x, .int .u8 y, .string j] w fun e w' => e = .returned (.bool true) ∧ Below w.heap.size w w' := by
  obtain ⟨i0, hi, hz0, hz1, hz2⟩ := info_parts Ybad.info5
  have hn' : ¬ (1024 : Int) < (n : Int) := by omega
  have hj' : ¬ (1024 : Int) < (j.size : Int) := by omega
  have HZ := hid hz
  clear hz
  go_enter Ybad.func4, Ybad.ntmps4
  go_wp2_with (at_make; refine wpList_make_own _ rfl _ _ 23 rfl w.heap.size 5 i0 (.int .u8 0) 1 Ybad.underlying23 hi hz0 hz1 .i64 .i64 _ n rfl rfl (by first | rfl | omega) (by rw [hz2]; omega) (by unfold maxLen; omega) (Nat.le_refl _) ?_; intro w1 hown0 hgrow0)
  go_wp2
  have hb1 : Below w.heap.size w w1 := (Below.refl _ _).grown hgrow0 (Nat.le_refl _) (by simp)
  go_loopw [11, 12] (fun bs i wr => ∃ (k : Nat) (A : List Int) (g cap : Nat), k ≤ n ∧ i = .int .i64 k ∧ A.length = k ∧ bs = .slice (some ⟨g, 0, none⟩) k cap ∧ wr.ownsRow w.heap.size 5 1 (.slice (some ⟨g, 0, none⟩) k cap) k (cellsI A) ∧ Below w.heap.size w wr) (fun _ i _ => n - (RowKit.intOf i).toNat)
  case atStart => exact ⟨0, [], _, _, Nat.zero_le _, rfl, rfl, rfl, hown0, hb1⟩
  case round =>
    clear hown0 hgrow0 hb1
    obtain ⟨k, A, g, cap, hk, rfl, hA, rfl, hown, hb⟩ := hrel
    by_cases hkn : k < n
    · obtain ⟨hl, hc, hr⟩ := HZ.out
      obtain ⟨gz, oz, rfl, hcell⟩ : ∃ gz oz, p = some ⟨gz, oz, none⟩ ∧ (∀ i, i < n → w.cell? ⟨gz, oz + i, none⟩ = some (.int .u8 (zs.getD i 0))) := by
        rcases hc with h | h
        · omega
        · exact h
      obtain ⟨z, hzk⟩ : ∃ z, z = zs.getD k 0 := ⟨_, rfl⟩
      have hck := hcell k hkn
      rw [← hzk] at hck
      have hzm : z ∈ zs := by rw [hzk]; simp [List.getD, List.getElem?_eq_getElem (show k < zs.length by omega)]
      obtain ⟨r0, r1⟩ := hr z hzm
      have hcx : wr.cell? ⟨gz, oz + k, none⟩ = some (.int .u8 z) := by rw [hb.cell (lt_of_cell hck)]; exact hck
      clear hcell hl hc hr hzk hzm hck HZ
      have hi1 : (k : Int) < (n : Int) := by omega
      have hsz := hb.size
      go_wp2_with (at_builtin; refine wpList_append_lies _ rfl (.tmp 33) (.tmp 41) 23 rfl w.heap.size 5 i0 (.int .u8 0) 1 1 Ybad.underlying23 hi hz0 hz1 hz2 rfl (by decide) _ k (cellsI A) rfl (hown.alloc _) ⟨wr.heap.size, 0, none⟩ 1 1 [_] rfl rfl (cell_one_new _ _ _) (by simp [Value.oneCell']) (by omega) (by unfold maxLen; omega) (by omega) (by simp at hsz ⊢; omega) _ rfl ?_; intro g3 cap3 w3 hown3 hgrow3 hat3 hlt3)
      go_wp2
      go_roundw
      case rel => exact ⟨k + 1, A ++ [_], g3, cap3, by omega, by go_num, by simp [hA], rfl, by simpa [cellsI] using hown3, (hb.alloc hsz _).grown hgrow3 (by simp at hsz ⊢; omega) (own_blocks hown)⟩
      case measure => simp [RowKit.intOf]; omega
    · obtain rfl : k = n := by omega
      have hcv : ∀ w', Below wr.heap.size wr w' → (convert 23 9 (.slice (some ⟨g, 0, none⟩) k cap)).run Ybad.prog w' = .ok (.string (strOfNums A)) w' := fun w' hb' => conv_run hA hown hb'
      have hSz : (strOfNums A).size = k := by rw [strOfNums_size, hA]
      obtain ⟨S, hS⟩ : ∃ S, S = strOfNums A := ⟨_, rfl⟩
      rw [← hS] at hcv hSz
      have hI : (⟨(Lib.itoa a).toArray⟩ : ByteArray).size ≤ 30 := itoa_size a ha0 ha1
      obtain ⟨I, hIe⟩ : ∃ I : ByteArray, I = ⟨(Lib.itoa a).toArray⟩ := ⟨_, rfl⟩
      rw [← hIe] at hI
      have EI := hid hIe
      obtain ⟨X1, X2, X3, X4, X5, c1, c2, c3, c4, c5, hX5⟩ := cats ⟨#[97, 108, 101, 114, 116]⟩ S I ⟨#[110, 111, 95, 112, 114, 111, 103, 114, 101, 115, 115]⟩ ⟨#[45]⟩ (by decide) (by omega) hI (by first | decide | exact hj) (by decide)
      have HX := hid hX5
      have HB : Below wr.heap.size wr wr.drew := (Below.refl _ _).drew
      have EE : Env wr.drew := (E.below hb).below HB
      have hwr := wrap_a a ha0 ha1
      clear hS hIe HZ hX5 hI hSz hown hA
      go_wp2_with fail
      go_region_held3 (fun w' => Below wr.heap.size wr w') (assumption) ((go_at_call 7; refine (itoa a (by omega) (by omega) _ EE).mono ?_; rintro e w' ⟨rfl, hbI⟩; rw [← EI.out]; have hB2 : Below wr.heap.size wr w' := HB.trans hbI))
      have hB3 : Below w.heap.size w w' := hb.trans (hB2.mono hb.size)
      go_wp2_with fail
      refine (validAlert X5 HX.out _ (E.below hB3) (SV _ hB3)).mono ?_
      rintro e w2 ⟨rfl, hb4⟩
      go_wp2_with fail
      refine (model X5 HX.out _).mono ?_
      rintro e w3 ⟨rfl, rfl⟩
      go_wp2
      go_ret
      exact ⟨by simp, hB3.trans (hb4.mono hB3.size)⟩

set_option maxRecDepth 20000 in
set_option maxHeartbeats 4000000 in
theorem law_3_3 (x y : Int) (e1 : (x % 5 == 1) = false) (e2 : (x % 5 == 2) = false) (e3 : (x % 5 == 3) = true) (f1 : (y % 7 == 1) = false) (f2 : (y % 7 == 2) = false) (f3 : (y % 7 == 3) = true) (p : Option Addr) (n c : Nat) (a : Int) (j : ByteArray) (zs : List Int) (w : World) (hn : n ≤ 1024) (hj : j.size ≤ 1024) (hz : Task w p n zs)
    (hx0 : 0 ≤ x) (hx1 : x ≤ 255) (hy0 : 0 ≤ y) (hy1 : y ≤ 255) (ha0 : -2147483648 ≤ a) (ha1 : a ≤ 2147483647) (E : Env w) (SV : ∀ w', Below w.heap.size w w' → Sev w') :
    Calls Ybad.prog 4 #[.slice p n c, .int .i32 a, .int .u8 x, .int .u8 y, .string j] w fun e w' => e = .returned (.bool true) ∧ Below w.heap.size w w' := by
  obtain ⟨i0, hi, hz0, hz1, hz2⟩ := info_parts Ybad.info5
  have hn' : ¬ (1024 : Int) < (n : Int) := by omega
  have hj' : ¬ (1024 : Int) < (j.size : Int) := by omega
  have HZ := hid hz
  clear hz
  go_enter Ybad.func4, Ybad.ntmps4
  go_wp2_with (at_make; refine wpList_make_own _ rfl _ _ 23 rfl w.heap.size 5 i0 (.int .u8 0) 1 Ybad.underlying23 hi hz0 hz1 .i64 .i64 _ n rfl rfl (by first | rfl | omega) (by rw [hz2]; omega) (by unfold maxLen; omega) (Nat.le_refl _) ?_; intro w1 hown0 hgrow0)
  go_wp2
  have hb1 : Below w.heap.size w w1 := (Below.refl _ _).grown hgrow0 (Nat.le_refl _) (by simp)
  go_loopw [11, 12] (fun bs i wr => ∃ (k : Nat) (A : List Int) (g cap : Nat), k ≤ n ∧ i = .int .i64 k ∧ A.length = k ∧ bs = .slice (some ⟨g, 0, none⟩) k cap ∧ wr.ownsRow w.heap.size 5 1 (.slice (some ⟨g, 0, none⟩) k cap) k (cellsI A) ∧ Below w.heap.size w wr) (fun _ i _ => n - (RowKit.intOf i).toNat)
  case atStart => exact ⟨0, [], _, _, Nat.zero_le _, rfl, rfl, rfl, hown0, hb1⟩
  case round =>
    clear hown0 hgrow0 hb1
    obtain ⟨k, A, g, cap, hk, rfl, hA, rfl, hown, hb⟩ := hrel
    by_cases hkn : k < n
    · obtain ⟨hl, hc, hr⟩ := HZ.out
      obtain ⟨gz, oz, rfl, hcell⟩ : ∃ gz oz, p = some ⟨gz, oz, none⟩ ∧ (∀ i, i < n → w.cell? ⟨gz, oz + i, none⟩ = some (.int .u8 (zs.getD i 0))) := by
        rcases hc with h | h
        · omega
        · exact h
      obtain ⟨z, hzk⟩ : ∃ z, z = zs.getD k 0 := ⟨_, rfl⟩
      have hck := hcell k hkn
      rw [← hzk] at hck
      have hzm : z ∈ zs := by rw [hzk]; simp [List.getD, List.getElem?_eq_getElem (show k < zs.length by omega)]
      obtain ⟨r0, r1⟩ := hr z hzm
      have hcx : wr.cell? ⟨gz, oz + k, none⟩ = some (.int .u8 z) := by rw [hb.cell (lt_of_cell hck)]; exact hck
      clear hcell hl hc hr hzk hzm hck HZ
      have hi1 : (k : Int) < (n : Int) := by omega
      have hsz := hb.size
      go_wp2_with (at_builtin; refine wpList_append_lies _ rfl (.tmp 33) (.tmp 41) 23 rfl w.heap.size 5 i0 (.int .u8 0) 1 1 Ybad.underlying23 hi hz0 hz1 hz2 rfl (by decide) _ k (cellsI A) rfl (hown.alloc _) ⟨wr.heap.size, 0, none⟩ 1 1 [_] rfl rfl (cell_one_new _ _ _) (by simp [Value.oneCell']) (by omega) (by unfold maxLen; omega) (by omega) (by simp at hsz ⊢; omega) _ rfl ?_; intro g3 cap3 w3 hown3 hgrow3 hat3 hlt3)
      go_wp2
      go_roundw
      case rel => exact ⟨k + 1, A ++ [_], g3, cap3, by omega, by go_num, by simp [hA], rfl, by simpa [cellsI] using hown3, (hb.alloc hsz _).grown hgrow3 (by simp at hsz ⊢; omega) (own_blocks hown)⟩
      case measure => simp [RowKit.intOf]; omega
    · obtain rfl : k = n := by omega
      have hcv : ∀ w', Below wr.heap.size wr w' → (convert 23 9 (.slice (some ⟨g, 0, none⟩) k cap)).run Ybad.prog w' = .ok (.string (strOfNums A)) w' := fun w' hb' => conv_run hA hown hb'
      have hSz : (strOfNums A).size = k := by rw [strOfNums_size, hA]
      obtain ⟨S, hS⟩ : ∃ S, S = strOfNums A := ⟨_, rfl⟩
      rw [← hS] at hcv hSz
      have hI : (⟨(Lib.itoa a).toArray⟩ : ByteArray).size ≤ 30 := itoa_size a ha0 ha1
      obtain ⟨I, hIe⟩ : ∃ I : ByteArray, I = ⟨(Lib.itoa a).toArray⟩ := ⟨_, rfl⟩
      rw [← hIe] at hI
      have EI := hid hIe
      obtain ⟨X1, X2, X3, X4, X5, c1, c2, c3, c4, c5, hX5⟩ := cats ⟨#[97, 108, 101, 114, 116]⟩ S I ⟨#[116, 97, 115, 107, 95, 102, 97, 105, 108, 101, 100]⟩ ⟨#[45]⟩ (by decide) (by omega) hI (by first | decide | exact hj) (by decide)
      have HX := hid hX5
      have HB : Below wr.heap.size wr wr.drew := (Below.refl _ _).drew
      have EE : Env wr.drew := (E.below hb).below HB
      have hwr := wrap_a a ha0 ha1
      clear hS hIe HZ hX5 hI hSz hown hA
      go_wp2_with fail
      go_region_held3 (fun w' => Below wr.heap.size wr w') (assumption) ((go_at_call 7; refine (itoa a (by omega) (by omega) _ EE).mono ?_; rintro e w' ⟨rfl, hbI⟩; rw [← EI.out]; have hB2 : Below wr.heap.size wr w' := HB.trans hbI))
      have hB3 : Below w.heap.size w w' := hb.trans (hB2.mono hb.size)
      go_wp2_with fail
      refine (validAlert X5 HX.out _ (E.below hB3) (SV _ hB3)).mono ?_
      rintro e w2 ⟨rfl, hb4⟩
      go_wp2_with fail
      refine (model X5 HX.out _).mono ?_
      rintro e w3 ⟨rfl, rfl⟩
      go_wp2
      go_ret
      exact ⟨by simp, hB3.trans (hb4.mono hB3.size)⟩

set_option maxRecDepth 20000 in
set_option maxHeartbeats 4000000 in
theorem law_3_4 (x y : Int) (e1 : (x % 5 == 1) = false) (e2 : (x % 5 == 2) = false) (e3 : (x % 5 == 3) = true) (f1 : (y % 7 == 1) = false) (f2 : (y % 7 == 2) = false) (f3 : (y % 7 == 3) = false) (f4 : (y % 7 == 4) = true) (p : Option Addr) (n c : Nat) (a : Int) (j : ByteArray) (zs : List Int) (w : World) (hn : n ≤ 1024) (hj : j.size ≤ 1024) (hz : Task w p n zs)
    (hx0 : 0 ≤ x) (hx1 : x ≤ 255) (hy0 : 0 ≤ y) (hy1 : y ≤ 255) (ha0 : -2147483648 ≤ a) (ha1 : a ≤ 2147483647) (E : Env w) (SV : ∀ w', Below w.heap.size w w' → Sev w') :
    Calls Ybad.prog 4 #[.slice p n c, .int .i32 a, .int .u8 x, .int .u8 y, .string j] w fun e w' => e = .returned (.bool true) ∧ Below w.heap.size w w' := by
  obtain ⟨i0, hi, hz0, hz1, hz2⟩ := info_parts Ybad.info5
  have hn' : ¬ (1024 : Int) < (n : Int) := by omega
  have hj' : ¬ (1024 : Int) < (j.size : Int) := by omega
  have HZ := hid hz
  clear hz
  go_enter Ybad.func4, Ybad.ntmps4
  go_wp2_with (at_make; refine wpList_make_own _ rfl _ _ 23 rfl w.heap.size 5 i0 (.int .u8 0) 1 Ybad.underlying23 hi hz0 hz1 .i64 .i64 _ n rfl rfl (by first | rfl | omega) (by rw [hz2]; omega) (by unfold maxLen; omega) (Nat.le_refl _) ?_; intro w1 hown0 hgrow0)
  go_wp2
  have hb1 : Below w.heap.size w w1 := (Below.refl _ _).grown hgrow0 (Nat.le_refl _) (by simp)
  go_loopw [11, 12] (fun bs i wr => ∃ (k : Nat) (A : List Int) (g cap : Nat), k ≤ n ∧ i = .int .i64 k ∧ A.length = k ∧ bs = .slice (some ⟨g, 0, none⟩) k cap ∧ wr.ownsRow w.heap.size 5 1 (.slice (some ⟨g, 0, none⟩) k cap) k (cellsI A) ∧ Below w.heap.size w wr) (fun _ i _ => n - (RowKit.intOf i).toNat)
  case atStart => exact ⟨0, [], _, _, Nat.zero_le _, rfl, rfl, rfl, hown0, hb1⟩
  case round =>
    clear hown0 hgrow0 hb1
    obtain ⟨k, A, g, cap, hk, rfl, hA, rfl, hown, hb⟩ := hrel
    by_cases hkn : k < n
    · obtain ⟨hl, hc, hr⟩ := HZ.out
      obtain ⟨gz, oz, rfl, hcell⟩ : ∃ gz oz, p = some ⟨gz, oz, none⟩ ∧ (∀ i, i < n → w.cell? ⟨gz, oz + i, none⟩ = some (.int .u8 (zs.getD i 0))) := by
        rcases hc with h | h
        · omega
        · exact h
      obtain ⟨z, hzk⟩ : ∃ z, z = zs.getD k 0 := ⟨_, rfl⟩
      have hck := hcell k hkn
      rw [← hzk] at hck
      have hzm : z ∈ zs := by rw [hzk]; simp [List.getD, List.getElem?_eq_getElem (show k < zs.length by omega)]
      obtain ⟨r0, r1⟩ := hr z hzm
      have hcx : wr.cell? ⟨gz, oz + k, none⟩ = some (.int .u8 z) := by rw [hb.cell (lt_of_cell hck)]; exact hck
      clear hcell hl hc hr hzk hzm hck HZ
      have hi1 : (k : Int) < (n : Int) := by omega
      have hsz := hb.size
      go_wp2_with (at_builtin; refine wpList_append_lies _ rfl (.tmp 33) (.tmp 41) 23 rfl w.heap.size 5 i0 (.int .u8 0) 1 1 Ybad.underlying23 hi hz0 hz1 hz2 rfl (by decide) _ k (cellsI A) rfl (hown.alloc _) ⟨wr.heap.size, 0, none⟩ 1 1 [_] rfl rfl (cell_one_new _ _ _) (by simp [Value.oneCell']) (by omega) (by unfold maxLen; omega) (by omega) (by simp at hsz ⊢; omega) _ rfl ?_; intro g3 cap3 w3 hown3 hgrow3 hat3 hlt3)
      go_wp2
      go_roundw
      case rel => exact ⟨k + 1, A ++ [_], g3, cap3, by omega, by go_num, by simp [hA], rfl, by simpa [cellsI] using hown3, (hb.alloc hsz _).grown hgrow3 (by simp at hsz ⊢; omega) (own_blocks hown)⟩
      case measure => simp [RowKit.intOf]; omega
    · obtain rfl : k = n := by omega
      have hcv : ∀ w', Below wr.heap.size wr w' → (convert 23 9 (.slice (some ⟨g, 0, none⟩) k cap)).run Ybad.prog w' = .ok (.string (strOfNums A)) w' := fun w' hb' => conv_run hA hown hb'
      have hSz : (strOfNums A).size = k := by rw [strOfNums_size, hA]
      obtain ⟨S, hS⟩ : ∃ S, S = strOfNums A := ⟨_, rfl⟩
      rw [← hS] at hcv hSz
      have hI : (⟨(Lib.itoa a).toArray⟩ : ByteArray).size ≤ 30 := itoa_size a ha0 ha1
      obtain ⟨I, hIe⟩ : ∃ I : ByteArray, I = ⟨(Lib.itoa a).toArray⟩ := ⟨_, rfl⟩
      rw [← hIe] at hI
      have EI := hid hIe
      obtain ⟨X1, X2, X3, X4, X5, c1, c2, c3, c4, c5, hX5⟩ := cats ⟨#[97, 108, 101, 114, 116]⟩ S I j ⟨#[45]⟩ (by decide) (by omega) hI (by first | decide | exact hj) (by decide)
      have HX := hid hX5
      have HB : Below wr.heap.size wr wr.drew := (Below.refl _ _).drew
      have EE : Env wr.drew := (E.below hb).below HB
      have hwr := wrap_a a ha0 ha1
      clear hS hIe HZ hX5 hI hSz hown hA
      go_wp2_with fail
      go_region_held3 (fun w' => Below wr.heap.size wr w') (assumption) ((go_at_call 7; refine (itoa a (by omega) (by omega) _ EE).mono ?_; rintro e w' ⟨rfl, hbI⟩; rw [← EI.out]; have hB2 : Below wr.heap.size wr w' := HB.trans hbI))
      have hB3 : Below w.heap.size w w' := hb.trans (hB2.mono hb.size)
      go_wp2_with fail
      refine (validAlert X5 HX.out _ (E.below hB3) (SV _ hB3)).mono ?_
      rintro e w2 ⟨rfl, hb4⟩
      go_wp2_with fail
      refine (model X5 HX.out _).mono ?_
      rintro e w3 ⟨rfl, rfl⟩
      go_wp2
      go_ret
      exact ⟨by simp, hB3.trans (hb4.mono hB3.size)⟩

set_option maxRecDepth 20000 in
set_option maxHeartbeats 4000000 in
theorem law_3_5 (x y : Int) (e1 : (x % 5 == 1) = false) (e2 : (x % 5 == 2) = false) (e3 : (x % 5 == 3) = true) (f1 : (y % 7 == 1) = false) (f2 : (y % 7 == 2) = false) (f3 : (y % 7 == 3) = false) (f4 : (y % 7 == 4) = false) (f5 : (y % 7 == 5) = true) (p : Option Addr) (n c : Nat) (a : Int) (j : ByteArray) (zs : List Int) (w : World) (hn : n ≤ 1024) (hj : j.size ≤ 1024) (hz : Task w p n zs)
    (hx0 : 0 ≤ x) (hx1 : x ≤ 255) (hy0 : 0 ≤ y) (hy1 : y ≤ 255) (ha0 : -2147483648 ≤ a) (ha1 : a ≤ 2147483647) (E : Env w) (SV : ∀ w', Below w.heap.size w w' → Sev w') :
    Calls Ybad.prog 4 #[.slice p n c, .int .i32 a, .int .u8 x, .int .u8 y, .string j] w fun e w' => e = .returned (.bool true) ∧ Below w.heap.size w w' := by
  obtain ⟨i0, hi, hz0, hz1, hz2⟩ := info_parts Ybad.info5
  have hn' : ¬ (1024 : Int) < (n : Int) := by omega
  have hj' : ¬ (1024 : Int) < (j.size : Int) := by omega
  have HZ := hid hz
  clear hz
  go_enter Ybad.func4, Ybad.ntmps4
  go_wp2_with (at_make; refine wpList_make_own _ rfl _ _ 23 rfl w.heap.size 5 i0 (.int .u8 0) 1 Ybad.underlying23 hi hz0 hz1 .i64 .i64 _ n rfl rfl (by first | rfl | omega) (by rw [hz2]; omega) (by unfold maxLen; omega) (Nat.le_refl _) ?_; intro w1 hown0 hgrow0)
  go_wp2
  have hb1 : Below w.heap.size w w1 := (Below.refl _ _).grown hgrow0 (Nat.le_refl _) (by simp)
  go_loopw [11, 12] (fun bs i wr => ∃ (k : Nat) (A : List Int) (g cap : Nat), k ≤ n ∧ i = .int .i64 k ∧ A.length = k ∧ bs = .slice (some ⟨g, 0, none⟩) k cap ∧ wr.ownsRow w.heap.size 5 1 (.slice (some ⟨g, 0, none⟩) k cap) k (cellsI A) ∧ Below w.heap.size w wr) (fun _ i _ => n - (RowKit.intOf i).toNat)
  case atStart => exact ⟨0, [], _, _, Nat.zero_le _, rfl, rfl, rfl, hown0, hb1⟩
  case round =>
    clear hown0 hgrow0 hb1
    obtain ⟨k, A, g, cap, hk, rfl, hA, rfl, hown, hb⟩ := hrel
    by_cases hkn : k < n
    · obtain ⟨hl, hc, hr⟩ := HZ.out
      obtain ⟨gz, oz, rfl, hcell⟩ : ∃ gz oz, p = some ⟨gz, oz, none⟩ ∧ (∀ i, i < n → w.cell? ⟨gz, oz + i, none⟩ = some (.int .u8 (zs.getD i 0))) := by
        rcases hc with h | h
        · omega
        · exact h
      obtain ⟨z, hzk⟩ : ∃ z, z = zs.getD k 0 := ⟨_, rfl⟩
      have hck := hcell k hkn
      rw [← hzk] at hck
      have hzm : z ∈ zs := by rw [hzk]; simp [List.getD, List.getElem?_eq_getElem (show k < zs.length by omega)]
      obtain ⟨r0, r1⟩ := hr z hzm
      have hcx : wr.cell? ⟨gz, oz + k, none⟩ = some (.int .u8 z) := by rw [hb.cell (lt_of_cell hck)]; exact hck
      clear hcell hl hc hr hzk hzm hck HZ
      have hi1 : (k : Int) < (n : Int) := by omega
      have hsz := hb.size
      go_wp2_with (at_builtin; refine wpList_append_lies _ rfl (.tmp 33) (.tmp 41) 23 rfl w.heap.size 5 i0 (.int .u8 0) 1 1 Ybad.underlying23 hi hz0 hz1 hz2 rfl (by decide) _ k (cellsI A) rfl (hown.alloc _) ⟨wr.heap.size, 0, none⟩ 1 1 [_] rfl rfl (cell_one_new _ _ _) (by simp [Value.oneCell']) (by omega) (by unfold maxLen; omega) (by omega) (by simp at hsz ⊢; omega) _ rfl ?_; intro g3 cap3 w3 hown3 hgrow3 hat3 hlt3)
      go_wp2
      go_roundw
      case rel => exact ⟨k + 1, A ++ [_], g3, cap3, by omega, by go_num, by simp [hA], rfl, by simpa [cellsI] using hown3, (hb.alloc hsz _).grown hgrow3 (by simp at hsz ⊢; omega) (own_blocks hown)⟩
      case measure => simp [RowKit.intOf]; omega
    · obtain rfl : k = n := by omega
      have hcv : ∀ w', Below wr.heap.size wr w' → (convert 23 9 (.slice (some ⟨g, 0, none⟩) k cap)).run Ybad.prog w' = .ok (.string (strOfNums A)) w' := fun w' hb' => conv_run hA hown hb'
      have hSz : (strOfNums A).size = k := by rw [strOfNums_size, hA]
      obtain ⟨S, hS⟩ : ∃ S, S = strOfNums A := ⟨_, rfl⟩
      rw [← hS] at hcv hSz
      have hI : (⟨(Lib.itoa a).toArray⟩ : ByteArray).size ≤ 30 := itoa_size a ha0 ha1
      obtain ⟨I, hIe⟩ : ∃ I : ByteArray, I = ⟨(Lib.itoa a).toArray⟩ := ⟨_, rfl⟩
      rw [← hIe] at hI
      have EI := hid hIe
      obtain ⟨X1, X2, X3, X4, X5, c1, c2, c3, c4, c5, hX5⟩ := cats ⟨#[97, 108, 101, 114, 116]⟩ S I ⟨#[115, 116, 97, 108, 108, 101, 100, 120]⟩ ⟨#[45]⟩ (by decide) (by omega) hI (by first | decide | exact hj) (by decide)
      have HX := hid hX5
      have HB : Below wr.heap.size wr wr.drew := (Below.refl _ _).drew
      have EE : Env wr.drew := (E.below hb).below HB
      have hwr := wrap_a a ha0 ha1
      clear hS hIe HZ hX5 hI hSz hown hA
      go_wp2_with fail
      go_region_held3 (fun w' => Below wr.heap.size wr w') (assumption) ((go_at_call 7; refine (itoa a (by omega) (by omega) _ EE).mono ?_; rintro e w' ⟨rfl, hbI⟩; rw [← EI.out]; have hB2 : Below wr.heap.size wr w' := HB.trans hbI))
      have hB3 : Below w.heap.size w w' := hb.trans (hB2.mono hb.size)
      go_wp2_with fail
      refine (validAlert X5 HX.out _ (E.below hB3) (SV _ hB3)).mono ?_
      rintro e w2 ⟨rfl, hb4⟩
      go_wp2_with fail
      refine (model X5 HX.out _).mono ?_
      rintro e w3 ⟨rfl, rfl⟩
      go_wp2
      go_ret
      exact ⟨by simp, hB3.trans (hb4.mono hB3.size)⟩

end Go.Proofs.YbulkaybyDoor.A
