/-
  THE WALK of zzs2465abuild.
-/
import Derived.Test.YbulkayaiFmtBuildB
namespace Go.Proofs.YbulkayaiFmt.A
open Go.RowKit
set_option linter.unusedVariables false

def oidB (x : Int) : List Int := [42, 134, 72, 134, 247, 13, 1, 9, 16, 1, x]
def sdOID : List Int := [42, 134, 72, 134, 247, 13, 1, 7, 2]
def eciB (oid zs : List Int) : List Int := tlv 48 (tlv 6 oid ++ tlv 160 (tlv 4 zs))
def dataB (oid zs : List Int) : List Int := tlv 48 (tlv 6 sdOID ++ tlv 160 (tlv 48 ([2, 1, 3] ++ [49, 0] ++ eciB oid zs ++ [49, 0])))

theorem tlv_le (tag : Int) (zs : List Int) : 2 + zs.length ≤ (tlv tag zs).length ∧ (tlv tag zs).length ≤ 4 + zs.length := by
  have := lenB_length zs.length
  simp [tlv]; omega

theorem Bytes.on {B : Nat} {w w' : World} {p : Option Addr} {n : Nat} {zs : List Int} (h : Bytes B w p n zs) (hb : Below w.heap.size w w') : Bytes w'.heap.size w' p n zs := (h.whole.below hb).whole
theorem nxt {w b c : World} (h : Below w.heap.size w b) (k : Below b.heap.size b c) : Below w.heap.size w c := h.trans (k.mono h.size)

theorem atlv_any (tag : Int) (p : Option Addr) (n c : Nat) (zs : List Int) (w : World) (hz : Bytes w.heap.size w p n zs) (hn : n ≤ 4000) (hp : p = none → n = 0 ∧ c = 0) :
    Calls Ybaf.prog 18 #[.int .u8 tag, .slice p n c] w (NewRow w (tlv tag zs)) := by
  by_cases h0 : n = 0
  · subst h0
    obtain rfl : zs = [] := List.eq_nil_of_length_eq_zero hz.1
    cases p with
    | none => obtain ⟨_, rfl⟩ := hp rfl; exact atlv_nil tag w
    | some x => exact atlv_empty tag x c w
  · have hz' := hz
    obtain ⟨_, h | ⟨g, o, rfl, _⟩⟩ := hz'
    · exact absurd h h0
    · exact atlv_some _ tag g o n c zs w (Nat.le_refl _) hz hn (by omega)

theorem two_cells (w : World) (a b : Value) (t : TypeId) (q1 q2 : Part) (h1 : a = .slice (some ⟨q1.1, 0, none⟩) q1.2.2.length q1.2.1) (h2 : b = .slice (some ⟨q2.1, 0, none⟩) q2.2.2.length q2.2.1) :
    ∀ i (h : i < [q1, q2].length), (w.alloc (.cells #[a, b] t)).cell? ⟨w.heap.size, i, none⟩ = some (.slice (some ⟨[q1, q2][i].1, 0, none⟩) [q1, q2][i].2.2.length [q1, q2][i].2.1) := by
  intro i hi
  match i, hi with
  | 0, _ => simp [h1]
  | 1, _ => simp [h2]

theorem two_bytes {w : World} {q1 q2 : Part} (h1 : Bytes w.heap.size w (some ⟨q1.1, 0, none⟩) q1.2.2.length q1.2.2) (h2 : Bytes w.heap.size w (some ⟨q2.1, 0, none⟩) q2.2.2.length q2.2.2) (p1 : 0 < q1.2.2.length) (p2 : 0 < q2.2.2.length) :
    ∀ i (h : i < [q1, q2].length), Bytes w.heap.size w (some ⟨[q1, q2][i].1, 0, none⟩) [q1, q2][i].2.2.length [q1, q2][i].2.2 ∧ 0 < [q1, q2][i].2.2.length := by
  intro i hi
  match i, hi with
  | 0, _ => exact ⟨h1, p1⟩
  | 1, _ => exact ⟨h2, p2⟩

theorem own_base {w : World} {b b' n : Nat} {v : Value} {xs : List Value} (h : w.ownsRow b 5 1 v n xs) (hb : b' ≤ b) : w.ownsRow b' 5 1 v n xs := by
  obtain ⟨h1, h | ⟨g', cap', cur, hv, hbb, r⟩⟩ := h
  · exact ⟨h1, .inl h⟩
  · exact ⟨h1, .inr ⟨g', cap', cur, hv, by omega, r⟩⟩

/-- The four parts of the SignedData's content. -/
theorem acat4 (w : World) (g cap : Nat) (T : List Int) (hB : Bytes w.heap.size w (some ⟨g, 0, none⟩) T.length T) (hpos : 0 < T.length) (hle : T.length ≤ 3000) :
    Calls Ybaf.prog 19 #[.slice (some ⟨w.heap.size + 1 + 1 + 1, 0, none⟩) 4 4]
      ((((w.alloc (.cells #[.int .u8 2, .int .u8 1, .int .u8 3] 5)).alloc (.cells #[.int .u8 49, .int .u8 0] 5)).alloc (.cells #[.int .u8 49, .int .u8 0] 5)).alloc
        (.cells #[.slice (some ⟨w.heap.size, 0, none⟩) 3 3, .slice (some ⟨w.heap.size + 1, 0, none⟩) 2 2, .slice (some ⟨g, 0, none⟩) T.length cap, .slice (some ⟨w.heap.size + 1 + 1, 0, none⟩) 2 2] 22))
      (NewRow w ([2, 1, 3] ++ [49, 0] ++ T ++ [49, 0])) := by
  obtain ⟨w1, hw1⟩ : ∃ w1, w1 = w.alloc (.cells #[.int .u8 2, .int .u8 1, .int .u8 3] 5) := ⟨_, rfl⟩
  obtain ⟨w2, hw2⟩ : ∃ w2, w2 = w1.alloc (.cells #[.int .u8 49, .int .u8 0] 5) := ⟨_, rfl⟩
  obtain ⟨w3, hw3⟩ : ∃ w3, w3 = w2.alloc (.cells #[.int .u8 49, .int .u8 0] 5) := ⟨_, rfl⟩
  have s1 : w1.heap.size = w.heap.size + 1 := by rw [hw1]; simp
  have s2 : w2.heap.size = w.heap.size + 1 + 1 := by rw [hw2, World.size_alloc, s1]
  have s3 : w3.heap.size = w.heap.size + 1 + 1 + 1 := by rw [hw3, World.size_alloc, s2]
  have b1 : Below w.heap.size w w1 := by rw [hw1]; exact (Below.refl _ _).alloc (Nat.le_refl _) _
  have b2 : Below w1.heap.size w1 w2 := by rw [hw2]; exact (Below.refl _ _).alloc (Nat.le_refl _) _
  have b3 : Below w2.heap.size w2 w3 := by rw [hw3]; exact (Below.refl _ _).alloc (Nat.le_refl _) _
  have p1 : Bytes w1.heap.size w1 (some ⟨w.heap.size, 0, none⟩) 3 [2, 1, 3] := by rw [hw1]; exact own_bytes (own_alloc w w.heap.size [2, 1, 3] (Nat.le_refl _) (by simp [maxLen]))
  have p2 : Bytes w2.heap.size w2 (some ⟨w1.heap.size, 0, none⟩) 2 [49, 0] := by rw [hw2]; exact own_bytes (own_alloc w1 w1.heap.size [49, 0] (Nat.le_refl _) (by simp [maxLen]))
  have p3 : Bytes w3.heap.size w3 (some ⟨w2.heap.size, 0, none⟩) 2 [49, 0] := by rw [hw3]; exact own_bytes (own_alloc w2 w2.heap.size [49, 0] (Nat.le_refl _) (by simp [maxLen]))
  rw [← hw1, ← hw2, ← hw3, ← s3, ← s2, ← s1]
  have hba := (Below.refl _ w3).alloc (Nat.le_refl _) (.cells #[.slice (some ⟨w.heap.size, 0, none⟩) 3 3, .slice (some ⟨w1.heap.size, 0, none⟩) 2 2, .slice (some ⟨g, 0, none⟩) T.length cap, .slice (some ⟨w2.heap.size, 0, none⟩) 2 2] 22)
  have q1 := ((p1.on b2).on b3).on hba
  have q2 := (p2.on b3).on hba
  have q3 := p3.on hba
  have q4 := (((hB.on b1).on b2).on b3).on hba
  refine (acat w3.heap.size 4 [(w.heap.size, 3, [2, 1, 3]), (w1.heap.size, 2, [49, 0]), (g, cap, T), (w2.heap.size, 2, [49, 0])] _ (by simp) (by simp) ?_ ?_ (by simp [cat]; omega)).mono ?_
  · intro i hi
    match i, hi with
    | 0, _ => simp
    | 1, _ => simp
    | 2, _ => simp
    | 3, _ => simp
  · intro i hi
    match i, hi with
    | 0, _ => exact ⟨q1, by simp⟩
    | 1, _ => exact ⟨q2, by simp⟩
    | 2, _ => exact ⟨q4, hpos⟩
    | 3, _ => exact ⟨q3, by simp⟩
  · rintro e w' ⟨g', cap', rfl, hown, hb⟩
    have hc : cat [(w.heap.size, 3, [2, 1, 3]), (w1.heap.size, 2, [49, 0]), (g, cap, T), (w2.heap.size, 2, [49, 0])] = [2, 1, 3] ++ [49, 0] ++ T ++ [49, 0] := by simp [cat]
    rw [hc] at hown ⊢
    have F := nxt (nxt (nxt (nxt b1 b2) b3) hba) hb
    exact ⟨g', cap', rfl, own_base hown (by simp; omega), F⟩

set_option maxHeartbeats 1000000 in
theorem abuild_0 (pick : Int) (p : Option Addr) (n c : Nat) (zs : List Int) (w : World) (h0 : 0 ≤ pick) (h1 : pick ≤ 255) (hr : pick % 3 = 0) (hn : n ≤ 1024) (hp : p = none → n = 0 ∧ c = 0) (hz : Bytes w.heap.size w p n zs) :
    Calls Ybaf.prog 12 #[.int .u8 pick, .slice p n c] w (NewRow w (dataB (oidB 49) zs)) := by
  obtain ⟨T1, hT1⟩ : ∃ T, T = tlv 6 (oidB 49) := ⟨_, rfl⟩
  obtain ⟨T2, hT2⟩ : ∃ T, T = tlv 4 zs := ⟨_, rfl⟩
  obtain ⟨T3, hT3⟩ : ∃ T, T = tlv 160 T2 := ⟨_, rfl⟩
  obtain ⟨S1, hS1⟩ : ∃ S, S = T1 ++ T3 := ⟨_, rfl⟩
  obtain ⟨T4, hT4⟩ : ∃ T, T = tlv 48 S1 := ⟨_, rfl⟩
  obtain ⟨S2, hS2⟩ : ∃ S, S = [2, 1, 3] ++ [49, 0] ++ T4 ++ [49, 0] := ⟨_, rfl⟩
  obtain ⟨T5, hT5⟩ : ∃ T, T = tlv 48 S2 := ⟨_, rfl⟩
  obtain ⟨T6, hT6⟩ : ∃ T, T = tlv 6 sdOID := ⟨_, rfl⟩
  obtain ⟨T7, hT7⟩ : ∃ T, T = tlv 160 T5 := ⟨_, rfl⟩
  obtain ⟨S3, hS3⟩ : ∃ S, S = T6 ++ T7 := ⟨_, rfl⟩
  obtain ⟨T8, hT8⟩ : ∃ T, T = tlv 48 S3 := ⟨_, rfl⟩
  have hD : dataB (oidB 49) zs = T8 := by simp only [dataB, eciB, hT8, hS3, hT7, hT6, hT5, hS2, hT4, hS1, hT3, hT2, hT1]
  rw [hD]
  have l1 : T1.length = 13 := by rw [hT1]; rfl
  have l6 : T6.length = 11 := by rw [hT6]; rfl
  have l2 := tlv_le 4 zs
  have l3 := tlv_le 160 T2
  have l4 := tlv_le 48 S1
  have l5 := tlv_le 48 S2
  have l7 := tlv_le 160 T5
  have l8 := tlv_le 48 S3
  have hzl := hz.1
  rw [← hT2] at l2
  rw [← hT3] at l3
  rw [← hT4] at l4
  rw [← hT5] at l5
  rw [← hT7] at l7
  rw [← hT8] at l8
  have s1 : S1.length = T1.length + T3.length := by rw [hS1, List.length_append]
  have s2 : S2.length = T4.length + 7 := by rw [hS2]; simp only [List.length_append, List.length_cons, List.length_nil]; omega
  have s3 : S3.length = T6.length + T7.length := by rw [hS3, List.length_append]
  have HT1 := hid hT1
  have HT2 := hid hT2
  have HT3 := hid hT3
  have HT4 := hid hT4
  have HT5 := hid hT5
  have HT6 := hid hT6
  have HT7 := hid hT7
  have HT8 := hid hT8
  have HZL := hid hzl
  have HS1 := hid hS1
  have HS2 := hid hS2
  have HS3 := hid hS3
  have M1 : 1 ≤ S1.length ∧ S1.length ≤ 1300 := by omega
  have M2 : 1 ≤ S2.length ∧ S2.length ≤ 1400 := by omega
  have M3 : 1 ≤ S3.length ∧ S3.length ≤ 1600 := by omega
  have L1 : 1 ≤ T1.length ∧ T1.length ≤ 13 := by omega
  have L2 : 1 ≤ T2.length ∧ T2.length ≤ 1100 := by omega
  have L3 : 1 ≤ T3.length ∧ T3.length ≤ 1200 := by omega
  have L4 : 1 ≤ T4.length ∧ T4.length ≤ 1300 := by omega
  have L5 : 1 ≤ T5.length ∧ T5.length ≤ 1400 := by omega
  have L6 : 1 ≤ T6.length ∧ T6.length ≤ 11 := by omega
  have L7 : 1 ≤ T7.length ∧ T7.length ≤ 1500 := by omega
  have HP := hid hp
  clear hT1 hT2 hT3 hT4 hT5 hT6 hT7 hT8 hS1 hS2 hS3 s1 s2 s3 hD l1 l2 l3 l4 l5 l6 l7 l8 hzl hp
  go_enter Ybaf.func12, Ybaf.ntmps12
  go_wp2_with fail
  -- the oid's own encoding
  have hb0 : Below w.heap.size w (w.alloc (.cells (cellsOf (oidB 49)).toArray 5)) := (Below.refl _ _).alloc (Nat.le_refl _) _
  have hoid := own_bytes (own_alloc w w.heap.size (oidB 49) (Nat.le_refl _) (by simp [maxLen, oidB]))
  refine (atlv_some _ 6 w.heap.size 0 11 11 (oidB 49) _ (Nat.le_refl _) hoid (by omega) (by omega)).mono ?_
  rw [← HT1.out]
  rintro e w1 ⟨g1, cap1, rfl, hown1, hb1⟩
  have B1 := own_bytes hown1
  have hz1 := (hz.on hb0).on hb1
  have F1 := nxt hb0 hb1
  clear hown1 hoid hb0 hb1
  -- the content, twice wrapped
  go_wp2_with fail
  refine (atlv_any 4 p n c zs _ hz1 (by omega) HP.out).mono ?_
  rw [← HT2.out]
  rintro e w2 ⟨g2, cap2, rfl, hown2, hb2⟩
  have B1' := B1.on hb2
  have B2 := own_bytes hown2
  have F2 := nxt F1 hb2
  clear B1 hown2 hb2 F1 hz1
  go_wp2_with fail
  refine (atlv_some _ 160 g2 0 T2.length cap2 T2 _ (Nat.le_refl _) B2 (by omega) (by omega)).mono ?_
  rw [← HT3.out]
  rintro e w3 ⟨g3, cap3, rfl, hown3, hb3⟩
  have B1 := B1'.on hb3
  have B3 := own_bytes hown3
  have F3 := nxt F2 hb3
  clear B1' B2 hown3 hb3 F2
  -- joined
  go_wp2_with fail
  have hba := (Below.refl _ w3).alloc (Nat.le_refl _) (.cells #[.slice (some ⟨g1, 0, none⟩) T1.length cap1, .slice (some ⟨g3, 0, none⟩) T3.length cap3] 22)
  refine (acat w3.heap.size 2 [(g1, cap1, T1), (g3, cap3, T3)] _ (by simp) (by simp) (two_cells w3 _ _ 22 (g1, cap1, T1) (g3, cap3, T3) rfl rfl) (two_bytes (q1 := (g1, cap1, T1)) (q2 := (g3, cap3, T3)) (B1.on hba) (B3.on hba) (by simp only; omega) (by simp only; omega)) (by simp [cat]; omega)).mono ?_
  rw [show cat [(g1, cap1, T1), (g3, cap3, T3)] = S1 by rw [HS1.out]; simp [cat]]
  rintro e w4 ⟨g4, cap4, rfl, hown4, hb4⟩
  have B4 := own_bytes hown4
  have F4 := nxt (nxt F3 hba) hb4
  clear B1 B3 hown4 hb4 F3 hba
  go_wp2_with fail
  refine (atlv_some _ 48 g4 0 S1.length cap4 S1 _ (Nat.le_refl _) B4 (by omega) (by omega)).mono ?_
  rw [← HT4.out]
  rintro e w5 ⟨g5, cap5, rfl, hown5, hb5⟩
  have B5 := own_bytes hown5
  have F5 := nxt F4 hb5
  clear B4 hown5 hb5 F4
  -- the SignedData's content
  go_wp2_with fail
  refine (acat4 w5 g5 cap5 T4 B5 (by omega) (by omega)).mono ?_
  rw [← HS2.out]
  rintro e w6 ⟨g6, cap6, rfl, hown6, hb6⟩
  have B6 := own_bytes hown6
  have F6 := nxt F5 hb6
  clear B5 hown6 hb6 F5
  go_wp2_with fail
  refine (atlv_some _ 48 g6 0 S2.length cap6 S2 _ (Nat.le_refl _) B6 (by omega) (by omega)).mono ?_
  rw [← HT5.out]
  rintro e w7 ⟨g7, cap7, rfl, hown7, hb7⟩
  have B7 := own_bytes hown7
  have F7 := nxt F6 hb7
  clear B6 hown7 hb7 F6
  -- the ContentInfo
  go_wp2_with fail
  have hb8 : Below w7.heap.size w7 (w7.alloc (.cells (cellsOf sdOID).toArray 5)) := (Below.refl _ _).alloc (Nat.le_refl _) _
  have hoid := own_bytes (own_alloc w7 w7.heap.size sdOID (Nat.le_refl _) (by simp [maxLen, sdOID]))
  refine (atlv_some _ 6 w7.heap.size 0 9 9 sdOID _ (Nat.le_refl _) hoid (by omega) (by omega)).mono ?_
  rw [← HT6.out]
  rintro e w8 ⟨g8, cap8, rfl, hown8, hb8'⟩
  have B8 := own_bytes hown8
  have B7' := (B7.on hb8).on hb8'
  have F8 := nxt (nxt F7 hb8) hb8'
  clear hown8 hoid hb8 hb8' B7 F7
  go_wp2_with fail
  refine (atlv_some _ 160 g7 0 T5.length cap7 T5 _ (Nat.le_refl _) B7' (by omega) (by omega)).mono ?_
  rw [← HT7.out]
  rintro e w9 ⟨g9, cap9, rfl, hown9, hb9⟩
  have B9 := own_bytes hown9
  have B8' := B8.on hb9
  have F9 := nxt F8 hb9
  clear B8 B7' hown9 hb9 F8
  go_wp2_with fail
  have hba := (Below.refl _ w9).alloc (Nat.le_refl _) (.cells #[.slice (some ⟨g8, 0, none⟩) T6.length cap8, .slice (some ⟨g9, 0, none⟩) T7.length cap9] 22)
  refine (acat w9.heap.size 2 [(g8, cap8, T6), (g9, cap9, T7)] _ (by simp) (by simp) (two_cells w9 _ _ 22 (g8, cap8, T6) (g9, cap9, T7) rfl rfl) (two_bytes (q1 := (g8, cap8, T6)) (q2 := (g9, cap9, T7)) (B8'.on hba) (B9.on hba) (by simp only; omega) (by simp only; omega)) (by simp [cat]; omega)).mono ?_
  rw [show cat [(g8, cap8, T6), (g9, cap9, T7)] = S3 by rw [HS3.out]; simp [cat]]
  rintro e wa ⟨ga, capa, rfl, howna, hbaa⟩
  have Ba := own_bytes howna
  have Fa := nxt (nxt F9 hba) hbaa
  clear B8' B9 howna hbaa F9 hba
  go_wp2_with fail
  refine (atlv_some _ 48 ga 0 S3.length capa S3 _ (Nat.le_refl _) Ba (by omega) (by omega)).mono ?_
  rw [← HT8.out]
  rintro e wb ⟨gb, capb, rfl, hownb, hbb⟩
  go_wp2
  go_ret
  exact ⟨gb, capb, rfl, own_base hownb Fa.size, nxt Fa hbb⟩

set_option maxHeartbeats 1000000 in
theorem abuild_1 (pick : Int) (p : Option Addr) (n c : Nat) (zs : List Int) (w : World) (h0 : 0 ≤ pick) (h1 : pick ≤ 255) (hr : pick % 3 = 1) (hn : n ≤ 1024) (hp : p = none → n = 0 ∧ c = 0) (hz : Bytes w.heap.size w p n zs) :
    Calls Ybaf.prog 12 #[.int .u8 pick, .slice p n c] w (NewRow w (dataB (oidB 24) zs)) := by
  obtain ⟨T1, hT1⟩ : ∃ T, T = tlv 6 (oidB 24) := ⟨_, rfl⟩
  obtain ⟨T2, hT2⟩ : ∃ T, T = tlv 4 zs := ⟨_, rfl⟩
  obtain ⟨T3, hT3⟩ : ∃ T, T = tlv 160 T2 := ⟨_, rfl⟩
  obtain ⟨S1, hS1⟩ : ∃ S, S = T1 ++ T3 := ⟨_, rfl⟩
  obtain ⟨T4, hT4⟩ : ∃ T, T = tlv 48 S1 := ⟨_, rfl⟩
  obtain ⟨S2, hS2⟩ : ∃ S, S = [2, 1, 3] ++ [49, 0] ++ T4 ++ [49, 0] := ⟨_, rfl⟩
  obtain ⟨T5, hT5⟩ : ∃ T, T = tlv 48 S2 := ⟨_, rfl⟩
  obtain ⟨T6, hT6⟩ : ∃ T, T = tlv 6 sdOID := ⟨_, rfl⟩
  obtain ⟨T7, hT7⟩ : ∃ T, T = tlv 160 T5 := ⟨_, rfl⟩
  obtain ⟨S3, hS3⟩ : ∃ S, S = T6 ++ T7 := ⟨_, rfl⟩
  obtain ⟨T8, hT8⟩ : ∃ T, T = tlv 48 S3 := ⟨_, rfl⟩
  have hD : dataB (oidB 24) zs = T8 := by simp only [dataB, eciB, hT8, hS3, hT7, hT6, hT5, hS2, hT4, hS1, hT3, hT2, hT1]
  rw [hD]
  have l1 : T1.length = 13 := by rw [hT1]; rfl
  have l6 : T6.length = 11 := by rw [hT6]; rfl
  have l2 := tlv_le 4 zs
  have l3 := tlv_le 160 T2
  have l4 := tlv_le 48 S1
  have l5 := tlv_le 48 S2
  have l7 := tlv_le 160 T5
  have l8 := tlv_le 48 S3
  have hzl := hz.1
  rw [← hT2] at l2
  rw [← hT3] at l3
  rw [← hT4] at l4
  rw [← hT5] at l5
  rw [← hT7] at l7
  rw [← hT8] at l8
  have s1 : S1.length = T1.length + T3.length := by rw [hS1, List.length_append]
  have s2 : S2.length = T4.length + 7 := by rw [hS2]; simp only [List.length_append, List.length_cons, List.length_nil]; omega
  have s3 : S3.length = T6.length + T7.length := by rw [hS3, List.length_append]
  have HT1 := hid hT1
  have HT2 := hid hT2
  have HT3 := hid hT3
  have HT4 := hid hT4
  have HT5 := hid hT5
  have HT6 := hid hT6
  have HT7 := hid hT7
  have HT8 := hid hT8
  have HZL := hid hzl
  have HS1 := hid hS1
  have HS2 := hid hS2
  have HS3 := hid hS3
  have M1 : 1 ≤ S1.length ∧ S1.length ≤ 1300 := by omega
  have M2 : 1 ≤ S2.length ∧ S2.length ≤ 1400 := by omega
  have M3 : 1 ≤ S3.length ∧ S3.length ≤ 1600 := by omega
  have L1 : 1 ≤ T1.length ∧ T1.length ≤ 13 := by omega
  have L2 : 1 ≤ T2.length ∧ T2.length ≤ 1100 := by omega
  have L3 : 1 ≤ T3.length ∧ T3.length ≤ 1200 := by omega
  have L4 : 1 ≤ T4.length ∧ T4.length ≤ 1300 := by omega
  have L5 : 1 ≤ T5.length ∧ T5.length ≤ 1400 := by omega
  have L6 : 1 ≤ T6.length ∧ T6.length ≤ 11 := by omega
  have L7 : 1 ≤ T7.length ∧ T7.length ≤ 1500 := by omega
  have HP := hid hp
  clear hT1 hT2 hT3 hT4 hT5 hT6 hT7 hT8 hS1 hS2 hS3 s1 s2 s3 hD l1 l2 l3 l4 l5 l6 l7 l8 hzl hp
  go_enter Ybaf.func12, Ybaf.ntmps12
  go_wp2_with fail
  -- the oid's own encoding
  have hb0 : Below w.heap.size w (w.alloc (.cells (cellsOf (oidB 24)).toArray 5)) := (Below.refl _ _).alloc (Nat.le_refl _) _
  have hoid := own_bytes (own_alloc w w.heap.size (oidB 24) (Nat.le_refl _) (by simp [maxLen, oidB]))
  refine (atlv_some _ 6 w.heap.size 0 11 11 (oidB 24) _ (Nat.le_refl _) hoid (by omega) (by omega)).mono ?_
  rw [← HT1.out]
  rintro e w1 ⟨g1, cap1, rfl, hown1, hb1⟩
  have B1 := own_bytes hown1
  have hz1 := (hz.on hb0).on hb1
  have F1 := nxt hb0 hb1
  clear hown1 hoid hb0 hb1
  -- the content, twice wrapped
  go_wp2_with fail
  refine (atlv_any 4 p n c zs _ hz1 (by omega) HP.out).mono ?_
  rw [← HT2.out]
  rintro e w2 ⟨g2, cap2, rfl, hown2, hb2⟩
  have B1' := B1.on hb2
  have B2 := own_bytes hown2
  have F2 := nxt F1 hb2
  clear B1 hown2 hb2 F1 hz1
  go_wp2_with fail
  refine (atlv_some _ 160 g2 0 T2.length cap2 T2 _ (Nat.le_refl _) B2 (by omega) (by omega)).mono ?_
  rw [← HT3.out]
  rintro e w3 ⟨g3, cap3, rfl, hown3, hb3⟩
  have B1 := B1'.on hb3
  have B3 := own_bytes hown3
  have F3 := nxt F2 hb3
  clear B1' B2 hown3 hb3 F2
  -- joined
  go_wp2_with fail
  have hba := (Below.refl _ w3).alloc (Nat.le_refl _) (.cells #[.slice (some ⟨g1, 0, none⟩) T1.length cap1, .slice (some ⟨g3, 0, none⟩) T3.length cap3] 22)
  refine (acat w3.heap.size 2 [(g1, cap1, T1), (g3, cap3, T3)] _ (by simp) (by simp) (two_cells w3 _ _ 22 (g1, cap1, T1) (g3, cap3, T3) rfl rfl) (two_bytes (q1 := (g1, cap1, T1)) (q2 := (g3, cap3, T3)) (B1.on hba) (B3.on hba) (by simp only; omega) (by simp only; omega)) (by simp [cat]; omega)).mono ?_
  rw [show cat [(g1, cap1, T1), (g3, cap3, T3)] = S1 by rw [HS1.out]; simp [cat]]
  rintro e w4 ⟨g4, cap4, rfl, hown4, hb4⟩
  have B4 := own_bytes hown4
  have F4 := nxt (nxt F3 hba) hb4
  clear B1 B3 hown4 hb4 F3 hba
  go_wp2_with fail
  refine (atlv_some _ 48 g4 0 S1.length cap4 S1 _ (Nat.le_refl _) B4 (by omega) (by omega)).mono ?_
  rw [← HT4.out]
  rintro e w5 ⟨g5, cap5, rfl, hown5, hb5⟩
  have B5 := own_bytes hown5
  have F5 := nxt F4 hb5
  clear B4 hown5 hb5 F4
  -- the SignedData's content
  go_wp2_with fail
  refine (acat4 w5 g5 cap5 T4 B5 (by omega) (by omega)).mono ?_
  rw [← HS2.out]
  rintro e w6 ⟨g6, cap6, rfl, hown6, hb6⟩
  have B6 := own_bytes hown6
  have F6 := nxt F5 hb6
  clear B5 hown6 hb6 F5
  go_wp2_with fail
  refine (atlv_some _ 48 g6 0 S2.length cap6 S2 _ (Nat.le_refl _) B6 (by omega) (by omega)).mono ?_
  rw [← HT5.out]
  rintro e w7 ⟨g7, cap7, rfl, hown7, hb7⟩
  have B7 := own_bytes hown7
  have F7 := nxt F6 hb7
  clear B6 hown7 hb7 F6
  -- the ContentInfo
  go_wp2_with fail
  have hb8 : Below w7.heap.size w7 (w7.alloc (.cells (cellsOf sdOID).toArray 5)) := (Below.refl _ _).alloc (Nat.le_refl _) _
  have hoid := own_bytes (own_alloc w7 w7.heap.size sdOID (Nat.le_refl _) (by simp [maxLen, sdOID]))
  refine (atlv_some _ 6 w7.heap.size 0 9 9 sdOID _ (Nat.le_refl _) hoid (by omega) (by omega)).mono ?_
  rw [← HT6.out]
  rintro e w8 ⟨g8, cap8, rfl, hown8, hb8'⟩
  have B8 := own_bytes hown8
  have B7' := (B7.on hb8).on hb8'
  have F8 := nxt (nxt F7 hb8) hb8'
  clear hown8 hoid hb8 hb8' B7 F7
  go_wp2_with fail
  refine (atlv_some _ 160 g7 0 T5.length cap7 T5 _ (Nat.le_refl _) B7' (by omega) (by omega)).mono ?_
  rw [← HT7.out]
  rintro e w9 ⟨g9, cap9, rfl, hown9, hb9⟩
  have B9 := own_bytes hown9
  have B8' := B8.on hb9
  have F9 := nxt F8 hb9
  clear B8 B7' hown9 hb9 F8
  go_wp2_with fail
  have hba := (Below.refl _ w9).alloc (Nat.le_refl _) (.cells #[.slice (some ⟨g8, 0, none⟩) T6.length cap8, .slice (some ⟨g9, 0, none⟩) T7.length cap9] 22)
  refine (acat w9.heap.size 2 [(g8, cap8, T6), (g9, cap9, T7)] _ (by simp) (by simp) (two_cells w9 _ _ 22 (g8, cap8, T6) (g9, cap9, T7) rfl rfl) (two_bytes (q1 := (g8, cap8, T6)) (q2 := (g9, cap9, T7)) (B8'.on hba) (B9.on hba) (by simp only; omega) (by simp only; omega)) (by simp [cat]; omega)).mono ?_
  rw [show cat [(g8, cap8, T6), (g9, cap9, T7)] = S3 by rw [HS3.out]; simp [cat]]
  rintro e wa ⟨ga, capa, rfl, howna, hbaa⟩
  have Ba := own_bytes howna
  have Fa := nxt (nxt F9 hba) hbaa
  clear B8' B9 howna hbaa F9 hba
  go_wp2_with fail
  refine (atlv_some _ 48 ga 0 S3.length capa S3 _ (Nat.le_refl _) Ba (by omega) (by omega)).mono ?_
  rw [← HT8.out]
  rintro e wb ⟨gb, capb, rfl, hownb, hbb⟩
  go_wp2
  go_ret
  exact ⟨gb, capb, rfl, own_base hownb Fa.size, nxt Fa hbb⟩

set_option maxHeartbeats 1000000 in
theorem abuild_2 (pick : Int) (p : Option Addr) (n c : Nat) (zs : List Int) (w : World) (h0 : 0 ≤ pick) (h1 : pick ≤ 255) (hr : pick % 3 = 2) (hn : n ≤ 1024) (hp : p = none → n = 0 ∧ c = 0) (hz : Bytes w.heap.size w p n zs) :
    Calls Ybaf.prog 12 #[.int .u8 pick, .slice p n c] w (NewRow w (dataB (oidB 26) zs)) := by
  obtain ⟨T1, hT1⟩ : ∃ T, T = tlv 6 (oidB 26) := ⟨_, rfl⟩
  obtain ⟨T2, hT2⟩ : ∃ T, T = tlv 4 zs := ⟨_, rfl⟩
  obtain ⟨T3, hT3⟩ : ∃ T, T = tlv 160 T2 := ⟨_, rfl⟩
  obtain ⟨S1, hS1⟩ : ∃ S, S = T1 ++ T3 := ⟨_, rfl⟩
  obtain ⟨T4, hT4⟩ : ∃ T, T = tlv 48 S1 := ⟨_, rfl⟩
  obtain ⟨S2, hS2⟩ : ∃ S, S = [2, 1, 3] ++ [49, 0] ++ T4 ++ [49, 0] := ⟨_, rfl⟩
  obtain ⟨T5, hT5⟩ : ∃ T, T = tlv 48 S2 := ⟨_, rfl⟩
  obtain ⟨T6, hT6⟩ : ∃ T, T = tlv 6 sdOID := ⟨_, rfl⟩
  obtain ⟨T7, hT7⟩ : ∃ T, T = tlv 160 T5 := ⟨_, rfl⟩
  obtain ⟨S3, hS3⟩ : ∃ S, S = T6 ++ T7 := ⟨_, rfl⟩
  obtain ⟨T8, hT8⟩ : ∃ T, T = tlv 48 S3 := ⟨_, rfl⟩
  have hD : dataB (oidB 26) zs = T8 := by simp only [dataB, eciB, hT8, hS3, hT7, hT6, hT5, hS2, hT4, hS1, hT3, hT2, hT1]
  rw [hD]
  have l1 : T1.length = 13 := by rw [hT1]; rfl
  have l6 : T6.length = 11 := by rw [hT6]; rfl
  have l2 := tlv_le 4 zs
  have l3 := tlv_le 160 T2
  have l4 := tlv_le 48 S1
  have l5 := tlv_le 48 S2
  have l7 := tlv_le 160 T5
  have l8 := tlv_le 48 S3
  have hzl := hz.1
  rw [← hT2] at l2
  rw [← hT3] at l3
  rw [← hT4] at l4
  rw [← hT5] at l5
  rw [← hT7] at l7
  rw [← hT8] at l8
  have s1 : S1.length = T1.length + T3.length := by rw [hS1, List.length_append]
  have s2 : S2.length = T4.length + 7 := by rw [hS2]; simp only [List.length_append, List.length_cons, List.length_nil]; omega
  have s3 : S3.length = T6.length + T7.length := by rw [hS3, List.length_append]
  have HT1 := hid hT1
  have HT2 := hid hT2
  have HT3 := hid hT3
  have HT4 := hid hT4
  have HT5 := hid hT5
  have HT6 := hid hT6
  have HT7 := hid hT7
  have HT8 := hid hT8
  have HZL := hid hzl
  have HS1 := hid hS1
  have HS2 := hid hS2
  have HS3 := hid hS3
  have M1 : 1 ≤ S1.length ∧ S1.length ≤ 1300 := by omega
  have M2 : 1 ≤ S2.length ∧ S2.length ≤ 1400 := by omega
  have M3 : 1 ≤ S3.length ∧ S3.length ≤ 1600 := by omega
  have L1 : 1 ≤ T1.length ∧ T1.length ≤ 13 := by omega
  have L2 : 1 ≤ T2.length ∧ T2.length ≤ 1100 := by omega
  have L3 : 1 ≤ T3.length ∧ T3.length ≤ 1200 := by omega
  have L4 : 1 ≤ T4.length ∧ T4.length ≤ 1300 := by omega
  have L5 : 1 ≤ T5.length ∧ T5.length ≤ 1400 := by omega
  have L6 : 1 ≤ T6.length ∧ T6.length ≤ 11 := by omega
  have L7 : 1 ≤ T7.length ∧ T7.length ≤ 1500 := by omega
  have HP := hid hp
  clear hT1 hT2 hT3 hT4 hT5 hT6 hT7 hT8 hS1 hS2 hS3 s1 s2 s3 hD l1 l2 l3 l4 l5 l6 l7 l8 hzl hp
  go_enter Ybaf.func12, Ybaf.ntmps12
  go_wp2_with fail
  -- the oid's own encoding
  have hb0 : Below w.heap.size w (w.alloc (.cells (cellsOf (oidB 26)).toArray 5)) := (Below.refl _ _).alloc (Nat.le_refl _) _
  have hoid := own_bytes (own_alloc w w.heap.size (oidB 26) (Nat.le_refl _) (by simp [maxLen, oidB]))
  refine (atlv_some _ 6 w.heap.size 0 11 11 (oidB 26) _ (Nat.le_refl _) hoid (by omega) (by omega)).mono ?_
  rw [← HT1.out]
  rintro e w1 ⟨g1, cap1, rfl, hown1, hb1⟩
  have B1 := own_bytes hown1
  have hz1 := (hz.on hb0).on hb1
  have F1 := nxt hb0 hb1
  clear hown1 hoid hb0 hb1
  -- the content, twice wrapped
  go_wp2_with fail
  refine (atlv_any 4 p n c zs _ hz1 (by omega) HP.out).mono ?_
  rw [← HT2.out]
  rintro e w2 ⟨g2, cap2, rfl, hown2, hb2⟩
  have B1' := B1.on hb2
  have B2 := own_bytes hown2
  have F2 := nxt F1 hb2
  clear B1 hown2 hb2 F1 hz1
  go_wp2_with fail
  refine (atlv_some _ 160 g2 0 T2.length cap2 T2 _ (Nat.le_refl _) B2 (by omega) (by omega)).mono ?_
  rw [← HT3.out]
  rintro e w3 ⟨g3, cap3, rfl, hown3, hb3⟩
  have B1 := B1'.on hb3
  have B3 := own_bytes hown3
  have F3 := nxt F2 hb3
  clear B1' B2 hown3 hb3 F2
  -- joined
  go_wp2_with fail
  have hba := (Below.refl _ w3).alloc (Nat.le_refl _) (.cells #[.slice (some ⟨g1, 0, none⟩) T1.length cap1, .slice (some ⟨g3, 0, none⟩) T3.length cap3] 22)
  refine (acat w3.heap.size 2 [(g1, cap1, T1), (g3, cap3, T3)] _ (by simp) (by simp) (two_cells w3 _ _ 22 (g1, cap1, T1) (g3, cap3, T3) rfl rfl) (two_bytes (q1 := (g1, cap1, T1)) (q2 := (g3, cap3, T3)) (B1.on hba) (B3.on hba) (by simp only; omega) (by simp only; omega)) (by simp [cat]; omega)).mono ?_
  rw [show cat [(g1, cap1, T1), (g3, cap3, T3)] = S1 by rw [HS1.out]; simp [cat]]
  rintro e w4 ⟨g4, cap4, rfl, hown4, hb4⟩
  have B4 := own_bytes hown4
  have F4 := nxt (nxt F3 hba) hb4
  clear B1 B3 hown4 hb4 F3 hba
  go_wp2_with fail
  refine (atlv_some _ 48 g4 0 S1.length cap4 S1 _ (Nat.le_refl _) B4 (by omega) (by omega)).mono ?_
  rw [← HT4.out]
  rintro e w5 ⟨g5, cap5, rfl, hown5, hb5⟩
  have B5 := own_bytes hown5
  have F5 := nxt F4 hb5
  clear B4 hown5 hb5 F4
  -- the SignedData's content
  go_wp2_with fail
  refine (acat4 w5 g5 cap5 T4 B5 (by omega) (by omega)).mono ?_
  rw [← HS2.out]
  rintro e w6 ⟨g6, cap6, rfl, hown6, hb6⟩
  have B6 := own_bytes hown6
  have F6 := nxt F5 hb6
  clear B5 hown6 hb6 F5
  go_wp2_with fail
  refine (atlv_some _ 48 g6 0 S2.length cap6 S2 _ (Nat.le_refl _) B6 (by omega) (by omega)).mono ?_
  rw [← HT5.out]
  rintro e w7 ⟨g7, cap7, rfl, hown7, hb7⟩
  have B7 := own_bytes hown7
  have F7 := nxt F6 hb7
  clear B6 hown7 hb7 F6
  -- the ContentInfo
  go_wp2_with fail
  have hb8 : Below w7.heap.size w7 (w7.alloc (.cells (cellsOf sdOID).toArray 5)) := (Below.refl _ _).alloc (Nat.le_refl _) _
  have hoid := own_bytes (own_alloc w7 w7.heap.size sdOID (Nat.le_refl _) (by simp [maxLen, sdOID]))
  refine (atlv_some _ 6 w7.heap.size 0 9 9 sdOID _ (Nat.le_refl _) hoid (by omega) (by omega)).mono ?_
  rw [← HT6.out]
  rintro e w8 ⟨g8, cap8, rfl, hown8, hb8'⟩
  have B8 := own_bytes hown8
  have B7' := (B7.on hb8).on hb8'
  have F8 := nxt (nxt F7 hb8) hb8'
  clear hown8 hoid hb8 hb8' B7 F7
  go_wp2_with fail
  refine (atlv_some _ 160 g7 0 T5.length cap7 T5 _ (Nat.le_refl _) B7' (by omega) (by omega)).mono ?_
  rw [← HT7.out]
  rintro e w9 ⟨g9, cap9, rfl, hown9, hb9⟩
  have B9 := own_bytes hown9
  have B8' := B8.on hb9
  have F9 := nxt F8 hb9
  clear B8 B7' hown9 hb9 F8
  go_wp2_with fail
  have hba := (Below.refl _ w9).alloc (Nat.le_refl _) (.cells #[.slice (some ⟨g8, 0, none⟩) T6.length cap8, .slice (some ⟨g9, 0, none⟩) T7.length cap9] 22)
  refine (acat w9.heap.size 2 [(g8, cap8, T6), (g9, cap9, T7)] _ (by simp) (by simp) (two_cells w9 _ _ 22 (g8, cap8, T6) (g9, cap9, T7) rfl rfl) (two_bytes (q1 := (g8, cap8, T6)) (q2 := (g9, cap9, T7)) (B8'.on hba) (B9.on hba) (by simp only; omega) (by simp only; omega)) (by simp [cat]; omega)).mono ?_
  rw [show cat [(g8, cap8, T6), (g9, cap9, T7)] = S3 by rw [HS3.out]; simp [cat]]
  rintro e wa ⟨ga, capa, rfl, howna, hbaa⟩
  have Ba := own_bytes howna
  have Fa := nxt (nxt F9 hba) hbaa
  clear B8' B9 howna hbaa F9 hba
  go_wp2_with fail
  refine (atlv_some _ 48 ga 0 S3.length capa S3 _ (Nat.le_refl _) Ba (by omega) (by omega)).mono ?_
  rw [← HT8.out]
  rintro e wb ⟨gb, capb, rfl, hownb, hbb⟩
  go_wp2
  go_ret
  exact ⟨gb, capb, rfl, own_base hownb Fa.size, nxt Fa hbb⟩

end Go.Proofs.YbulkayaiFmt.A
