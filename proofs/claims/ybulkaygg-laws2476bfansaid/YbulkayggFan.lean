/-
  fan, of a correct sender.
-/
import Derived.Test.YbulkayggList
namespace Go.Proofs.Ybulkaygg.A
open Go.RowKit
set_option linter.unusedVariables false

theorem own_drew {w : World} {B n s : Nat} {t : TypeId} {v : Value} {xs : List Value} (h : w.ownsRow B t s v n xs) : w.drew.ownsRow B t s v n xs := h

set_option maxRecDepth 20000 in
set_option maxHeartbeats 4000000 in
theorem fan_yes (f B C n Cr T L : Nat) (mask r : Int) (p q : Option Addr) (m c k kc : Nat) (bs : List Bool) (sil : Nat → Bool) (ms : List Int) (w : World)
    (h0 : 0 ≤ mask) (h1 : mask ≤ 255) (hf : f < n) (hn : n ≤ 8) (hk : k ≤ 256) (hB : B ≤ w.heap.size) (hC : CS w C n Cr T (.slice none 0 0) L r) (hCB : C < B) (hT : w.cell? ⟨T, 0, none⟩ = some (.slice p m c)) (hb : Bools w p m bs) (hL : LRB w B C L n sil) (hTB : T < B) (hTC : T ≠ C) (hLB : L < B) (hLC : L ≠ C) (hrB : Cr < B) (hrC : Cr ≠ C) (hpB : ∀ a, p = some a → 0 < m → a.block < B ∧ a.block ≠ C) (hqB : ∀ a, q = some a → 0 < k → a.block < B ∧ a.block ≠ C) (hcr : w.cell? ⟨Cr, 0, none⟩ = some (.int .u8 mask)) (hfl : w.cell? ⟨L, f, none⟩ = some (.pointer none)) (hms : Ints w q k ms) :
    Calls Yba.prog 7 #[.pointer (some ⟨C, 0, none⟩), .int .i64 f, .slice q k kc] w fun e w' => e = .returned (.tuple #[]) ∧ ∃ v, CS w' C n Cr T v L (rndD r ms) ∧ w'.ownsRow B 51 3 v (allD f bs sil mask n ms).length (delC (allD f bs sil mask n ms)) ∧ Keep B C w w' := by
  have mo := m_open Cr
  have mt := m_to Cr
  simp [Yba.underlying30] at mo mt
  have c11 := hC.cell 11
  simp at c11
  have hi : (f : Int) < (n : Int) := by omega
  go_enter Yba.func7, Yba.ntmps7
  go_wp2
  go_loopw [29] (fun vi wr => ∃ (j : Nat) (v : Value), j ≤ k ∧ vi = .int .i64 j ∧ CS wr C n Cr T v L (rndD r (ms.take j)) ∧ wr.ownsRow B 51 3 v (allD f bs sil mask n (ms.take j)).length (delC (allD f bs sil mask n (ms.take j))) ∧ Keep B C w wr) (fun vi _ => k - (RowKit.intOf vi).toNat)
  case atStart => exact ⟨0, _, Nat.zero_le _, rfl, hC, World.ownsRow_nil _ _ _ _, Keep.refl _ _ _⟩
  case round =>
    obtain ⟨j, v, hj, rfl, hC1, hown, hK⟩ := hrel
    by_cases hjk : j < k
    · obtain ⟨hl, hz | ⟨g, o, rfl, hcell⟩⟩ := hms
      · omega
      have hx := hcell j hjk
      obtain ⟨z, hzj⟩ : ∃ z, z = ms.getD j 0 := ⟨_, rfl⟩
      rw [← hzj] at hx
      have hji : (j : Int) < (k : Int) := by omega
      have c1 := hC1.cell 1
      simp at c1
      have hx1 : wr.cell? ⟨g, o + j, none⟩ = some (.int .i64 z) := by
        obtain ⟨q1, q2⟩ := hqB _ rfl (by omega)
        exact (hK.cell (a := ⟨g, o + j, none⟩) q1 q2).trans hx
      have htk : ms.take (j + 1) = ms.take j ++ [z] := by
        rw [List.take_succ_eq_append_getElem (by omega), hzj]
        simp [List.getD, List.getElem?_eq_getElem (show j < ms.length by omega)]
      replace htk := Ybulkaygg.A.hid htk
      clear hzj hx
      have c0 := hC1.cell 0
      have c12 := hC1.cell 12
      have f12 := hC1.frozen 12
      simp at c0 c12
      have hBr : B ≤ wr.heap.size := Nat.le_trans hB hK.size
      have hCw : C < wr.heap.size := by omega
      obtain ⟨ds, hds⟩ : ∃ ds, ds = allD f bs sil mask n (ms.take j) := ⟨_, rfl⟩
      obtain ⟨R, hR⟩ : ∃ R, R = rndD r (ms.take j) := ⟨_, rfl⟩
      rw [← hds] at hown
      rw [← hR] at hC1 c12
      have hdl : ds.length ≤ 8 * 256 := by
        rw [hds]
        refine Nat.le_trans (allD_le _ _ _ _ _ _) (Nat.mul_le_mul hn ?_)
        rw [List.length_take]; omega
      have HDS := Ybulkaygg.A.hid hds
      have HR := Ybulkaygg.A.hid hR
      clear hds hR hcell
      cases hz3 : (z.tmod 3 != 0)
      · go_wp2_with fail
        refine (open37 z Cr _).mono ?_
        rintro e w' ⟨rfl, rfl⟩
        rw [hz3]
        go_wp2
        go_loopw [58] (fun vi wx => ∃ (t : Nat) (vx : Value), t ≤ n ∧ vi = .int .i64 t ∧ CS wx C n Cr T vx L R ∧ wx.ownsRow B 51 3 vx (ds ++ rowD f bs sil mask z t).length (delC (ds ++ rowD f bs sil mask z t)) ∧ Keep B C w wx) (fun vi _ => n - (RowKit.intOf vi).toNat)
        case atStart => exact ⟨0, v, Nat.zero_le _, rfl, ((hC1.alloc _).alloc _), by simpa [rowD] using (hown.alloc _).alloc _, hK.trans ((Keep.alloc hBr _).trans (Keep.alloc (by simp; omega) _))⟩
        case round =>
          obtain ⟨t, vx, ht, rfl, hC2, hown2, hK2⟩ := hrel
          have hL2 := (hL.keep hK2 hLB hLC).lr
          have hb2 := hb.keep hK2 hpB
          have hT2 : wr.cell? ⟨T, 0, none⟩ = some (.slice p m c) := (hK2.cell (a := ⟨T, 0, none⟩) hTB hTC).trans hT
          have hr2 : wr.cell? ⟨Cr, 0, none⟩ = some (.int .u8 mask) := (hK2.cell (a := ⟨Cr, 0, none⟩) hrB hrC).trans hcr
          have d1 := hC2.cell 1
          simp at d1
          have hxl := rowD_le f bs sil mask z t
          have hBx : B ≤ wr.heap.size := Nat.le_trans hB hK2.size
          by_cases htn : t < n
          · have hti : (t : Int) < (n : Int) := by omega
            by_cases htf : t = f
            · have htf' : ((t : Int) == (f : Int)) = true := by rw [beq_iff_eq]; omega
              have hs : sendTo f bs sil mask z t = [] := by unfold sendTo; rw [if_pos htf]
              go_wp2
              go_roundw
              case rel => exact ⟨t + 1, vx, by omega, by go_num, hC2, by rw [rowD_succ, hs, List.append_nil]; exact hown2, hK2⟩
              case measure => simp [RowKit.intOf]; omega
            · have htf' : ((t : Int) == (f : Int)) = false := by rw [beq_eq_false_iff_ne]; omega
              go_wp2_with fail
              refine (part10 t C n Cr T L vx _ p m c bs sil _ htn hn hC2 hT2 hb2 hL2).mono ?_
              rintro e w' ⟨rfl, rfl⟩
              cases hP : (at_ bs t && !sil t)
              · have hs : sendTo f bs sil mask z t = [] := by unfold sendTo; rw [if_neg htf, hP]; rfl
                go_wp2
                go_roundw
                case rel => exact ⟨t + 1, vx, by omega, by go_num, hC2, by rw [rowD_succ, hs, List.append_nil]; exact hown2, hK2⟩
                case measure => simp [RowKit.intOf]; omega
              · go_wp2_with fail
                refine (to38 mask z t Cr _ h0 h1 (by omega) (by omega) hr2).mono ?_
                rintro e w' ⟨rfl, rfl⟩
                cases hO : okB mask z t
                · have hs : sendTo f bs sil mask z t = [] := by unfold sendTo; rw [if_neg htf, hP, hO]; rfl
                  go_wp2
                  go_roundw
                  case rel => exact ⟨t + 1, vx, by omega, by go_num, hC2, by rw [rowD_succ, hs, List.append_nil]; exact hown2, hK2⟩
                  case measure => simp [RowKit.intOf]; omega
                · have hs : sendTo f bs sil mask z t = [((f : Int), (t : Int), wrap64 (z + t))] := by unfold sendTo; rw [if_neg htf, hP, hO]; rfl
                  go_wp2_with fail
                  refine (send11 B C n Cr T L f t (wrap64 (z + t)) _ vx _ _ _ hC2 hCB hBx hown2 (by rw [List.length_append]; omega)).mono ?_
                  rintro e w3 ⟨rfl, v3, hC3, hown3, hK3⟩
                  go_wp2
                  go_roundw
                  case rel => exact ⟨t + 1, v3, by omega, by go_num, hC3, by rw [rowD_succ, hs, ← List.append_assoc, List.length_append]; exact hown3, hK2.trans hK3⟩
                  case measure => simp [RowKit.intOf]; omega
          · obtain rfl : t = n := by omega
            go_wp2
            go_roundw
            case rel =>
              refine ⟨j + 1, vx, by omega, by go_num, ?_, ?_, hK2⟩
              · rw [htk.out, rndD_snoc, ← HR.out, rnd1, hz3]; exact hC2
              · rw [htk.out, allD_snoc, ← HDS.out]; exact hown2
            case measure => simp [RowKit.intOf]; omega
      · by_cases hRz : R < wrap64 (z.tdiv 4)
        · have HRz := Ybulkaygg.A.hid hRz
          go_wp2_with fail
          refine (open37 z Cr _).mono ?_
          rintro e w' ⟨rfl, rfl⟩
          rw [hz3]
          go_wp2
          go_region
          go_wp2
          go_loopw [58] (fun vi wx => ∃ (t : Nat) (vx : Value), t ≤ n ∧ vi = .int .i64 t ∧ CS wx C n Cr T vx L (wrap64 (z.tdiv 4)) ∧ wx.ownsRow B 51 3 vx (ds ++ rowD f bs sil mask z t).length (delC (ds ++ rowD f bs sil mask z t)) ∧ Keep B C w wx) (fun vi _ => n - (RowKit.intOf vi).toNat)
          case atStart => exact ⟨0, v, Nat.zero_le _, rfl, (((hC1.setR _).alloc _).alloc _), by rw [show rowD f bs sil mask z 0 = [] from rfl, List.append_nil]; exact own_drew (((own_set hown hCB 12 _).alloc _).alloc _), hK.trans ((Keep.setCell 12 _).trans ((Keep.alloc (by simp [World.setCell]; omega) _).trans ((Keep.alloc (by simp [World.setCell]; omega) _).trans (Keep.of_below (Below.refl _ _).drew))))⟩
          case round =>
            obtain ⟨t, vx, ht, rfl, hC2, hown2, hK2⟩ := hrel
            have hL2 := (hL.keep hK2 hLB hLC).lr
            have hb2 := hb.keep hK2 hpB
            have hT2 : wr.cell? ⟨T, 0, none⟩ = some (.slice p m c) := (hK2.cell (a := ⟨T, 0, none⟩) hTB hTC).trans hT
            have hr2 : wr.cell? ⟨Cr, 0, none⟩ = some (.int .u8 mask) := (hK2.cell (a := ⟨Cr, 0, none⟩) hrB hrC).trans hcr
            have d1 := hC2.cell 1
            simp at d1
            have hxl := rowD_le f bs sil mask z t
            have hBx : B ≤ wr.heap.size := Nat.le_trans hB hK2.size
            by_cases htn : t < n
            · have hti : (t : Int) < (n : Int) := by omega
              by_cases htf : t = f
              · have htf' : ((t : Int) == (f : Int)) = true := by rw [beq_iff_eq]; omega
                have hs : sendTo f bs sil mask z t = [] := by unfold sendTo; rw [if_pos htf]
                go_wp2
                go_roundw
                case rel => exact ⟨t + 1, vx, by omega, by go_num, hC2, by rw [rowD_succ, hs, List.append_nil]; exact hown2, hK2⟩
                case measure => simp [RowKit.intOf]; omega
              · have htf' : ((t : Int) == (f : Int)) = false := by rw [beq_eq_false_iff_ne]; omega
                go_wp2_with fail
                refine (part10 t C n Cr T L vx _ p m c bs sil _ htn hn hC2 hT2 hb2 hL2).mono ?_
                rintro e w' ⟨rfl, rfl⟩
                cases hP : (at_ bs t && !sil t)
                · have hs : sendTo f bs sil mask z t = [] := by unfold sendTo; rw [if_neg htf, hP]; rfl
                  go_wp2
                  go_roundw
                  case rel => exact ⟨t + 1, vx, by omega, by go_num, hC2, by rw [rowD_succ, hs, List.append_nil]; exact hown2, hK2⟩
                  case measure => simp [RowKit.intOf]; omega
                · go_wp2_with fail
                  refine (to38 mask z t Cr _ h0 h1 (by omega) (by omega) hr2).mono ?_
                  rintro e w' ⟨rfl, rfl⟩
                  cases hO : okB mask z t
                  · have hs : sendTo f bs sil mask z t = [] := by unfold sendTo; rw [if_neg htf, hP, hO]; rfl
                    go_wp2
                    go_roundw
                    case rel => exact ⟨t + 1, vx, by omega, by go_num, hC2, by rw [rowD_succ, hs, List.append_nil]; exact hown2, hK2⟩
                    case measure => simp [RowKit.intOf]; omega
                  · have hs : sendTo f bs sil mask z t = [((f : Int), (t : Int), wrap64 (z + t))] := by unfold sendTo; rw [if_neg htf, hP, hO]; rfl
                    go_wp2_with fail
                    refine (send11 B C n Cr T L f t (wrap64 (z + t)) _ vx _ _ _ hC2 hCB hBx hown2 (by rw [List.length_append]; omega)).mono ?_
                    rintro e w3 ⟨rfl, v3, hC3, hown3, hK3⟩
                    go_wp2
                    go_roundw
                    case rel => exact ⟨t + 1, v3, by omega, by go_num, hC3, by rw [rowD_succ, hs, ← List.append_assoc, List.length_append]; exact hown3, hK2.trans hK3⟩
                    case measure => simp [RowKit.intOf]; omega
            · obtain rfl : t = n := by omega
              go_wp2
              go_roundw
              case rel =>
                refine ⟨j + 1, vx, by omega, by go_num, ?_, ?_, hK2⟩
                · rw [htk.out, rndD_snoc, ← HR.out, rnd1, hz3, if_pos rfl, if_pos HRz.out]; exact hC2
                · rw [htk.out, allD_snoc, ← HDS.out]; exact hown2
              case measure => simp [RowKit.intOf]; omega
        · have HRz := Ybulkaygg.A.hid hRz
          go_wp2_with fail
          refine (open37 z Cr _).mono ?_
          rintro e w' ⟨rfl, rfl⟩
          rw [hz3]
          go_wp2
          go_region
          go_wp2
          go_loopw [58] (fun vi wx => ∃ (t : Nat) (vx : Value), t ≤ n ∧ vi = .int .i64 t ∧ CS wx C n Cr T vx L R ∧ wx.ownsRow B 51 3 vx (ds ++ rowD f bs sil mask z t).length (delC (ds ++ rowD f bs sil mask z t)) ∧ Keep B C w wx) (fun vi _ => n - (RowKit.intOf vi).toNat)
          case atStart => exact ⟨0, v, Nat.zero_le _, rfl, (((hC1.setR _).alloc _).alloc _), by rw [show rowD f bs sil mask z 0 = [] from rfl, List.append_nil]; exact own_drew (((own_set hown hCB 12 _).alloc _).alloc _), hK.trans ((Keep.setCell 12 _).trans ((Keep.alloc (by simp [World.setCell]; omega) _).trans ((Keep.alloc (by simp [World.setCell]; omega) _).trans (Keep.of_below (Below.refl _ _).drew))))⟩
          case round =>
            obtain ⟨t, vx, ht, rfl, hC2, hown2, hK2⟩ := hrel
            have hL2 := (hL.keep hK2 hLB hLC).lr
            have hb2 := hb.keep hK2 hpB
            have hT2 : wr.cell? ⟨T, 0, none⟩ = some (.slice p m c) := (hK2.cell (a := ⟨T, 0, none⟩) hTB hTC).trans hT
            have hr2 : wr.cell? ⟨Cr, 0, none⟩ = some (.int .u8 mask) := (hK2.cell (a := ⟨Cr, 0, none⟩) hrB hrC).trans hcr
            have d1 := hC2.cell 1
            simp at d1
            have hxl := rowD_le f bs sil mask z t
            have hBx : B ≤ wr.heap.size := Nat.le_trans hB hK2.size
            by_cases htn : t < n
            · have hti : (t : Int) < (n : Int) := by omega
              by_cases htf : t = f
              · have htf' : ((t : Int) == (f : Int)) = true := by rw [beq_iff_eq]; omega
                have hs : sendTo f bs sil mask z t = [] := by unfold sendTo; rw [if_pos htf]
                go_wp2
                go_roundw
                case rel => exact ⟨t + 1, vx, by omega, by go_num, hC2, by rw [rowD_succ, hs, List.append_nil]; exact hown2, hK2⟩
                case measure => simp [RowKit.intOf]; omega
              · have htf' : ((t : Int) == (f : Int)) = false := by rw [beq_eq_false_iff_ne]; omega
                go_wp2_with fail
                refine (part10 t C n Cr T L vx _ p m c bs sil _ htn hn hC2 hT2 hb2 hL2).mono ?_
                rintro e w' ⟨rfl, rfl⟩
                cases hP : (at_ bs t && !sil t)
                · have hs : sendTo f bs sil mask z t = [] := by unfold sendTo; rw [if_neg htf, hP]; rfl
                  go_wp2
                  go_roundw
                  case rel => exact ⟨t + 1, vx, by omega, by go_num, hC2, by rw [rowD_succ, hs, List.append_nil]; exact hown2, hK2⟩
                  case measure => simp [RowKit.intOf]; omega
                · go_wp2_with fail
                  refine (to38 mask z t Cr _ h0 h1 (by omega) (by omega) hr2).mono ?_
                  rintro e w' ⟨rfl, rfl⟩
                  cases hO : okB mask z t
                  · have hs : sendTo f bs sil mask z t = [] := by unfold sendTo; rw [if_neg htf, hP, hO]; rfl
                    go_wp2
                    go_roundw
                    case rel => exact ⟨t + 1, vx, by omega, by go_num, hC2, by rw [rowD_succ, hs, List.append_nil]; exact hown2, hK2⟩
                    case measure => simp [RowKit.intOf]; omega
                  · have hs : sendTo f bs sil mask z t = [((f : Int), (t : Int), wrap64 (z + t))] := by unfold sendTo; rw [if_neg htf, hP, hO]; rfl
                    go_wp2_with fail
                    refine (send11 B C n Cr T L f t (wrap64 (z + t)) _ vx _ _ _ hC2 hCB hBx hown2 (by rw [List.length_append]; omega)).mono ?_
                    rintro e w3 ⟨rfl, v3, hC3, hown3, hK3⟩
                    go_wp2
                    go_roundw
                    case rel => exact ⟨t + 1, v3, by omega, by go_num, hC3, by rw [rowD_succ, hs, ← List.append_assoc, List.length_append]; exact hown3, hK2.trans hK3⟩
                    case measure => simp [RowKit.intOf]; omega
            · obtain rfl : t = n := by omega
              go_wp2
              go_roundw
              case rel =>
                refine ⟨j + 1, vx, by omega, by go_num, ?_, ?_, hK2⟩
                · rw [htk.out, rndD_snoc, ← HR.out, rnd1, hz3, if_pos rfl, if_neg (show ¬ R < wrap64 (z.tdiv 4) by have := HRz.out; omega)]; exact hC2
                · rw [htk.out, allD_snoc, ← HDS.out]; exact hown2
              case measure => simp [RowKit.intOf]; omega
    · obtain rfl : j = k := by omega
      have htk : ms.take j = ms := List.take_of_length_le (by rw [hms.1]; exact Nat.le_refl _)
      rw [htk] at hC1 hown
      go_wp2
      go_end0
      exact ⟨rfl, v, hC1, hown, hK⟩
end Go.Proofs.Ybulkaygg.A
