/-
  THE LAW, walked.
-/
import Derived.Test.YbulkayggLaw0
namespace Go.Proofs.Ybulkaygg.A
open Go.RowKit
set_option linter.unusedVariables false

set_option maxRecDepth 20000 in
theorem law_long (n fr mask r : Int) (p0 p1 q : Option Addr) (m0 c0 m1 c1 k kc : Nat) (lies : Bool) (w : World) (hk : 256 < k) :
    Calls Yba.prog 3 #[.int .u8 n, .int .u8 fr, .slice p0 m0 c0, .slice p1 m1 c1, .bool lies, .int .u8 mask, .int .i64 r, .slice q k kc] w fun e w' => e = .returned (.bool true) ∧ Below w.heap.size w w' := by
  have hki : (256 : Int) < (k : Int) := by omega
  go_enter Yba.func3, Yba.ntmps3
  go_wp2
  go_ret
  exact ⟨rfl, (Below.refl _ _).alloc (Nat.le_refl _) _⟩

theorem below_drewN {S : Nat} {w w' : World} (h : Below S w w') (n : Nat) : Below S w (w'.drewN n) := ⟨h.os, h.tape, h.output, h.size, h.block⟩
theorem cell_heap {w w' : World} (h : w'.heap = w.heap) {a : Addr} {u : Value} (hc : w.cell? a = some u) : w'.cell? a = some u := by
  unfold World.cell? at hc ⊢
  rw [h]
  exact hc
theorem run_makeF (fn first cap w) : (Instr.makeFunc fn first cap).run Yba.prog w = .ok (.func fn first cap) w := rfl

set_option maxRecDepth 20000 in
set_option maxHeartbeats 4000000 in
theorem law_walk (n fr mask r : Int) (p0 p1 q : Option Addr) (m0 c0 m1 c1 k kc : Nat) (bs sb : List Bool) (ms : List Int) (lies : Bool) (w : World) (hk : k ≤ 256) (n0 : 0 ≤ n) (n1 : n ≤ 255) (f0 : 0 ≤ fr) (f1 : fr ≤ 255) (h0 : 0 ≤ mask) (h1 : mask ≤ 255)
    (hb : Bools w p0 m0 bs) (hs : Bools w p1 m1 sb) (hms : Ints w q k ms) (hq0 : q = none → k = 0 ∧ kc = 0)
    (hp0 : ∀ a, p0 = some a → 0 < m0 → a.block < w.heap.size) (hp1 : ∀ a, p1 = some a → 0 < m1 → a.block < w.heap.size) (hqq : ∀ a, q = some a → 0 < k → a.block < w.heap.size) :
    Calls Yba.prog 3 #[.int .u8 n, .int .u8 fr, .slice p0 m0 c0, .slice p1 m1 c1, .bool lies, .int .u8 mask, .int .i64 r, .slice q k kc] w fun e w' => e = .returned (.bool true) ∧ Below w.heap.size w w' := by
  have hki : ¬ (256 : Int) < (k : Int) := by omega
  have hmf := run_makeF
  obtain ⟨i0, hi0, hz0, hz1, hz2⟩ := info_parts Yba.info51
  have hmm := fun w => run_makeMap (P := Yba.prog) 42 w
  obtain ⟨N, hN⟩ : ∃ N : Nat, 1 + n % 8 = (N : Int) := ⟨(1 + n % 8).toNat, by omega⟩
  have hN1 : 1 ≤ N := by omega
  have hN8 : N ≤ 8 := by omega
  obtain ⟨f, hf⟩ : ∃ f : Nat, fr % (N : Int) = (f : Int) := ⟨(fr % (N : Int)).toNat, by have := Int.emod_nonneg fr (show (N : Int) ≠ 0 by omega); omega⟩
  have hfN : f < N := by have := Int.emod_lt_of_pos fr (show (0 : Int) < (N : Int) by omega); omega
  have HN := Ybulkaygg.A.hid hN
  have HF := Ybulkaygg.A.hid hf
  have HB := Ybulkaygg.A.hid hb
  have HS := Ybulkaygg.A.hid hs
  have HM := Ybulkaygg.A.hid hms
  clear hN hf hb hs hms
  go_enter Yba.func3, Yba.ntmps3
  go_wp2_with fail
  have hbA : Below w.heap.size w (w.alloc (.cells #[.slice p0 m0 c0] 22)) := (Below.refl _ _).alloc (Nat.le_refl _) _
  refine (clone4 q k kc ms _ hq0 hk (HM.out.below hbA hqq)).mono ?_
  rintro e w1 ⟨⟨p', kc', rfl, hms', hp'⟩, hb1⟩
  rw [HN.out, HF.out]
  have hT1 : w1.cell? ⟨w.heap.size, 0, none⟩ = some (.slice p0 m0 c0) := (hb1.cell (p := ⟨w.heap.size, 0, none⟩) (by simp)).trans (by simp only [World.cell?, alloc_at]; rfl)
  have hw1 : w.heap.size < w1.heap.size := lt_of_cell hT1
  have hB1 : Below w.heap.size w w1 := hbA.trans (hb1.mono (by simp))
  have HP := Ybulkaygg.A.hid hp'
  have HBA := Ybulkaygg.A.hid hbA
  have HB1 := Ybulkaygg.A.hid hb1
  clear hp' hbA hb1
  go_wp2_with fail
  refine (newC N w1.heap.size w.heap.size _ hN8).mono ?_
  rintro e w2 ⟨rfl, hw2⟩
  go_wp2
  go_loopw [23] (fun vi wr => ∃ (j : Nat), j ≤ N ∧ vi = .int .i64 j ∧ LRow wr (w1.heap.size + 3) (w1.heap.size + 2) N (silJ j f sb) ∧ CS wr (w1.heap.size + 3) N w1.heap.size w.heap.size (.slice none 0 0) (w1.heap.size + 2) r ∧ Below (w1.heap.size + 1) (w1.alloc (.cells #[.int .u8 mask] 28)) wr) (fun vi _ => N - (RowKit.intOf vi).toNat)
  case atStart =>
    obtain ⟨a1, a2, a3⟩ := start_ok w1 N w.heap.size mask r _ _ rfl
    exact ⟨0, Nat.zero_le _, rfl, a1.congr (fun id _ => by simp [silJ]), a2, a3⟩
  case round =>
    obtain ⟨j, hj, rfl, hL, hC, hBr⟩ := hrel
    have hBw : Below w.heap.size w wr := (hB1.alloc (by omega) (.cells #[.int .u8 mask] 28)).trans (hBr.mono (by omega))
    have hsr := HS.out.below hBw hp1
    have c11 := hC.cell 11
    simp at c11
    have fL := hL.frozen j
    have hCs : w1.heap.size + 3 < wr.heap.size := (Array.getElem?_eq_some_iff.1 hC).1
    have hLs : w1.heap.size + 2 < wr.heap.size := by omega
    by_cases hjN : j < N
    · obtain ⟨u, cL, oL⟩ := hL.any j hjN
      have hji : (j : Int) < (N : Int) := by omega
      by_cases hjf : j = f
      · have hjf' : ((j : Int) == (f : Int)) = true := by rw [beq_iff_eq]; omega
        go_wp2
        go_roundw
        case rel => exact ⟨j + 1, by omega, by go_num, hL.congr (fun id _ => silJ_no (by unfold silF; simp [hjf]) id), hC, hBr⟩
        case measure => simp [RowKit.intOf]; omega
      · have hjf' : ((j : Int) == (f : Int)) = false := by rw [beq_eq_false_iff_ne]; omega
        by_cases hjm : j < m1
        · have hjmi : (j : Int) < (m1 : Int) := by omega
          obtain ⟨g, o, hp, cs⟩ := at_in hsr j hjm
          subst hp
          cases hA : at_ sb j
          · rw [hA] at cs
            go_wp2
            go_roundw
            case rel => exact ⟨j + 1, by omega, by go_num, hL.congr (fun id _ => silJ_no (by unfold silF; simp [hA]) id), hC, hBr⟩
            case measure => simp [RowKit.intOf]; omega
          · rw [hA] at cs
            go_wp2
            obtain ⟨a1, a2, a3, _⟩ := liar_ok (S := w1.heap.size + 1) hL (by omega) hC (by omega) j hjN (.int .i64 j) (.int .i64 N) _ rfl
            exact ⟨⟨j + 1, by omega, by go_num, a1.congr (fun id _ => silJ_yes (by unfold silF; simp [hA, hjf]) id), a2, hBr.trans a3⟩, by simp [RowKit.intOf]; omega⟩
        · have hjmi : ¬ (j : Int) < (m1 : Int) := by omega
          have hA := at_beyond hsr j hjm
          have HA := Ybulkaygg.A.hid hA
          clear hA
          go_wp2
          go_roundw
          case rel => exact ⟨j + 1, by omega, by go_num, hL.congr (fun id _ => silJ_no (by unfold silF; simp [HA.out]) id), hC, hBr⟩
          case measure => simp [RowKit.intOf]; omega
    · obtain rfl : j = N := by omega
      have hL2 : LRow wr (w1.heap.size + 3) (w1.heap.size + 2) j (silF f sb) := hL.congr (fun id hi => by simp [silJ, hi])
      have hTr : wr.cell? ⟨w.heap.size, 0, none⟩ = some (.slice p0 m0 c0) := by
        rw [hBr.cell (p := ⟨w.heap.size, 0, none⟩) (by simp; omega), World.cell?_alloc_lt]
        exact hT1
        exact hw1
      have hbr := HB.out.below hBw hp0
      have hqr := HM.out.below hBw hqq
      have hCr : wr.cell? ⟨w1.heap.size, 0, none⟩ = some (.int .u8 mask) := by
        rw [hBr.cell (p := ⟨w1.heap.size, 0, none⟩) (by simp)]
        simp only [World.cell?, alloc_at]
        rfl
      have hp'' : ∀ a, p' = some a → 0 < k → w.heap.size < a.block ∧ a.block < w1.heap.size := fun a ha h => by
        have := HP.out a h ha
        simp at this
        omega
      have hmr : Ints wr p' k ms := by
        refine (hms'.below ((Below.refl _ _).alloc (Nat.le_refl _) (.cells #[.int .u8 mask] 28)) (fun a ha h => (hp'' a ha h).2)).below hBr (fun a ha h => by have := hp'' a ha h; omega)
      have fLf := hL2.frozen f
      have cLf := hL2.cell f hfN (by simp [silF])
      have hfi : (f : Int) < (j : Int) := by omega
      cases lies
      · have HBW := Ybulkaygg.A.hid hBw
        clear hBw
        go_wp2_with fail
        refine (fan_yes f wr.heap.size (w1.heap.size + 3) j w1.heap.size w.heap.size (w1.heap.size + 2) mask r p0 p' m0 c0 k kc' bs (silF f sb) ms _ h0 h1 hfN hN8 hk (Nat.le_refl _) hC hCs hTr hbr hL2.lrb (by omega) (by omega) (by omega) (by omega) (by omega) (by omega) ?_ ?_ hCr cLf hmr).mono ?_
        · intro a ha h
          have := hp0 a ha h
          omega
        · intro a ha h
          have := hp'' a ha h
          omega
        rintro e w5 ⟨rfl, v, hC5, hown5, hK5⟩
        have h5s := hK5.size
        have hT5 : w5.cell? ⟨w.heap.size, 0, none⟩ = some (.slice p0 m0 c0) := (hK5.cell (a := ⟨w.heap.size, 0, none⟩) (by simp; omega) (by simp; omega)).trans hTr
        have hB5 : Below w.heap.size w w5 := HBW.out.trans (hK5.below (by omega) (by omega))
        have hall := allD_le f bs (silF f sb) mask j ms
        clear hT1 hB1 hms' hL hC hBr hsr c11 fL hL2 hTr hbr hqr hCr hmr cLf fLf HBA HB1 HP hp''
        obtain ⟨S, hS⟩ : ∃ S, S = w.heap.size := ⟨_, rfl⟩
        go_wp2
        go_loopw [122, 24, 25] (fun vi vw vx wx => ∃ (t : Nat), t ≤ k ∧ vi = .int .i64 t ∧ vw = .int .i64 (rndD r (ms.take t)) ∧ wx.ownsRow w5.heap.size 51 3 vx (allD f bs (silF f sb) mask j (ms.take t)).length (delC (allD f bs (silF f sb) mask j (ms.take t))) ∧ Below w5.heap.size w5 wx) (fun vi _ _ _ => k - (RowKit.intOf vi).toNat)
        case atStart => exact ⟨0, Nat.zero_le _, rfl, rfl, World.ownsRow_nil _ _ _ _, Below.refl _ _⟩
        case round =>
          obtain ⟨t, ht, rfl, rfl, hown, hBx⟩ := hrel
          have hBw : Below w.heap.size w wr := hB5.trans (hBx.mono (by omega))
          by_cases htk : t < k
          · obtain ⟨hl, hz | ⟨g, o, hqe, hcell⟩⟩ := HM.out.below hBw hqq
            · omega
            subst hqe
            have hx := hcell t htk
            obtain ⟨z, hzt⟩ : ∃ z, z = ms.getD t 0 := ⟨_, rfl⟩
            rw [← hzt] at hx
            have hti : (t : Int) < (k : Int) := by omega
            have htake : ms.take (t + 1) = ms.take t ++ [z] := by
              rw [List.take_succ_eq_append_getElem (by omega), hzt]
              simp [List.getD, List.getElem?_eq_getElem (show t < ms.length by omega)]
            replace htake := Ybulkaygg.A.hid htake
            clear hzt hcell
            obtain ⟨ds, hds⟩ : ∃ ds, ds = allD f bs (silF f sb) mask j (ms.take t) := ⟨_, rfl⟩
            obtain ⟨R, hR⟩ : ∃ R, R = rndD r (ms.take t) := ⟨_, rfl⟩
            rw [← hds] at hown
            rw [← hR]
            have hdl : ds.length ≤ 8 * 256 := by
              rw [hds]
              refine Nat.le_trans (allD_le _ _ _ _ _ _) (Nat.mul_le_mul hN8 ?_)
              rw [List.length_take]; omega
            have HDS := Ybulkaygg.A.hid hds
            have HR := Ybulkaygg.A.hid hR
            clear hds hR
            have hcs : ((z.tmod 3 != 0) = false ∧ rnd1 R z = R) ∨ ((z.tmod 3 != 0) = true ∧ R < wrap64 (z.tdiv 4) ∧ rnd1 R z = wrap64 (z.tdiv 4)) ∨ ((z.tmod 3 != 0) = true ∧ ¬ R < wrap64 (z.tdiv 4) ∧ rnd1 R z = R) := by
              unfold rnd1
              cases hz3 : (z.tmod 3 != 0)
              · exact .inl ⟨rfl, rfl⟩
              · by_cases hRz : R < wrap64 (z.tdiv 4)
                · exact .inr (.inl ⟨rfl, hRz, by rw [if_pos rfl, if_pos hRz]⟩)
                · exact .inr (.inr ⟨rfl, hRz, by rw [if_pos rfl, if_neg hRz]⟩)
            rcases hcs with ⟨hz3, E⟩ | ⟨hz3, hRz, E⟩ | ⟨hz3, hRz, E⟩
            all_goals
              replace E := Ybulkaygg.A.hid E
              go_wp2
              go_loopw [28, 25] (fun vi vx wx => ∃ (t2 : Nat), t2 ≤ j ∧ vi = .int .i64 t2 ∧ wx.ownsRow w5.heap.size 51 3 vx (ds ++ rowD f bs (silF f sb) mask z t2).length (delC (ds ++ rowD f bs (silF f sb) mask z t2)) ∧ Below w5.heap.size w5 wx) (fun vi _ _ => j - (RowKit.intOf vi).toNat)
              case atStart => exact ⟨0, Nat.zero_le _, rfl, by rw [show rowD f bs (silF f sb) mask z 0 = [] from rfl, List.append_nil]; exact hown, hBx⟩
              case round =>
                obtain ⟨t2, ht2, rfl, hown2, hBx2⟩ := hrel
                have hBw2 : Below w.heap.size w wr := hB5.trans (hBx2.mono (by omega))
                have hT2 : wr.cell? ⟨w.heap.size, 0, none⟩ = some (.slice p0 m0 c0) := (hBx2.cell (p := ⟨w.heap.size, 0, none⟩) (by simp; omega)).trans hT5
                have hb2 := HB.out.below hBw2 hp0
                have hs2 := HS.out.below hBw2 hp1
                have hxl := rowD_le f bs (silF f sb) mask z t2
                have hBs : w5.heap.size ≤ wr.heap.size := hBx2.size
                have hsT := sendTo_sil f bs sb mask z t2
                replace hsT := Ybulkaygg.A.hid hsT
                by_cases htj : t2 < j
                · have htji : (t2 : Int) < (j : Int) := by omega
                  by_cases htf : t2 = f
                  · have htf' : ((t2 : Int) == (f : Int)) = true := by rw [beq_iff_eq]; omega
                    have hsE : sendTo f bs (silF f sb) mask z t2 = [] := by rw [hsT.out, if_pos htf]
                    replace hsE := Ybulkaygg.A.hid hsE
                    go_wp2
                    go_roundw
                    case rel => exact ⟨t2 + 1, by omega, by go_num, by rw [rowD_succ, hsE.out, List.append_nil]; exact hown2, hBx2⟩
                    case measure => simp [RowKit.intOf]; omega
                  · have htf' : ((t2 : Int) == (f : Int)) = false := by rw [beq_eq_false_iff_ne]; omega
                    go_wp2_with fail
                    refine (th5 t2 w.heap.size p0 m0 c0 bs _ hT2 hb2).mono ?_
                    rintro e w' ⟨rfl, rfl⟩
                    cases hP : at_ bs t2
                    · have hsE : sendTo f bs (silF f sb) mask z t2 = [] := by rw [hsT.out, if_neg htf, hP]; rfl
                      replace hsE := Ybulkaygg.A.hid hsE
                      go_wp2
                      go_roundw
                      case rel => exact ⟨t2 + 1, by omega, by go_num, by rw [rowD_succ, hsE.out, List.append_nil]; exact hown2, hBx2⟩
                      case measure => simp [RowKit.intOf]; omega
                    · by_cases htm : t2 < m1
                      · have htmi : (t2 : Int) < (m1 : Int) := by omega
                        obtain ⟨g1, o1, hpe, cs⟩ := at_in hs2 t2 htm
                        subst hpe
                        cases hA : at_ sb t2
                        · rw [hA] at cs
                          go_wp2_with fail
                          refine (ok8 mask z t2 _ h0 h1 (by omega) (by omega)).mono ?_
                          rintro e w' ⟨rfl, rfl⟩
                          cases hO : okB mask z t2
                          · have hsE : sendTo f bs (silF f sb) mask z t2 = [] := by rw [hsT.out, if_neg htf, hP, hA, hO]; rfl
                            replace hsE := Ybulkaygg.A.hid hsE
                            go_wp2
                            go_roundw
                            case rel => exact ⟨t2 + 1, by omega, by go_num, by rw [rowD_succ, hsE.out, List.append_nil]; exact hown2, hBx2⟩
                            case measure => simp [RowKit.intOf]; omega
                          · have hsE : sendTo f bs (silF f sb) mask z t2 = [((f : Int), (t2 : Int), wrap64 (z + t2))] := by rw [hsT.out, if_neg htf, hP, hA, hO]; rfl
                            replace hsE := Ybulkaygg.A.hid hsE
                            go_wp2_with (at_builtin; refine wpList_append_lies _ rfl (.tmp 166) (.tmp 173) 32 rfl w5.heap.size 51 i0 (.agg #[.int .i64 0, .int .i64 0, .int .i64 0]) 3 24 Yba.underlying32 hi0 hz0 hz1 hz2 rfl (by decide) u25 (ds ++ rowD f bs (silF f sb) mask z t2).length (delC (ds ++ rowD f bs (silF f sb) mask z t2)) rfl (hown2.alloc _) ⟨w'.heap.size, 0, none⟩ 1 1 [.int .i64 f, .int .i64 t2, .int .i64 (wrap64 (z + t2))] rfl rfl (news3 _ _ _ _ _) (by simp [Value.oneCell']) (by omega) (by rw [List.length_append]; unfold maxLen; omega) (by rw [List.length_append]; omega) (by simp; omega) _ rfl ?_; intro G cap w9 hown9 hgrow hg1 hg2)
                            have hB9 : Below w5.heap.size w5 w9 := (hBx2.alloc hBs _).grown hgrow (by simp; omega) (own_blocks hown2)
                            refine ⟨⟨t2 + 1, by omega, by go_num, ?_, hB9⟩, by simp [RowKit.intOf]; omega⟩
                            rw [rowD_succ, hsE.out, ← List.append_assoc, delC_append _ [((f : Int), (t2 : Int), wrap64 (z + t2))]]
                            simp only [List.length_append] at hown9 ⊢
                            exact hown9
                        · rw [hA] at cs
                          have hsE : sendTo f bs (silF f sb) mask z t2 = [] := by rw [hsT.out, if_neg htf, hP, hA]; rfl
                          replace hsE := Ybulkaygg.A.hid hsE
                          go_wp2
                          go_roundw
                          case rel => exact ⟨t2 + 1, by omega, by go_num, by rw [rowD_succ, hsE.out, List.append_nil]; exact hown2, hBx2⟩
                          case measure => simp [RowKit.intOf]; omega
                      · have htmi : ¬ (t2 : Int) < (m1 : Int) := by omega
                        have hA := at_beyond hs2 t2 htm
                        go_wp2_with fail
                        refine (ok8 mask z t2 _ h0 h1 (by omega) (by omega)).mono ?_
                        rintro e w' ⟨rfl, rfl⟩
                        cases hO : okB mask z t2
                        · have hsE : sendTo f bs (silF f sb) mask z t2 = [] := by rw [hsT.out, if_neg htf, hP, hA, hO]; rfl
                          replace hsE := Ybulkaygg.A.hid hsE
                          go_wp2
                          go_roundw
                          case rel => exact ⟨t2 + 1, by omega, by go_num, by rw [rowD_succ, hsE.out, List.append_nil]; exact hown2, hBx2⟩
                          case measure => simp [RowKit.intOf]; omega
                        · have hsE : sendTo f bs (silF f sb) mask z t2 = [((f : Int), (t2 : Int), wrap64 (z + t2))] := by rw [hsT.out, if_neg htf, hP, hA, hO]; rfl
                          replace hsE := Ybulkaygg.A.hid hsE
                          go_wp2_with (at_builtin; refine wpList_append_lies _ rfl (.tmp 166) (.tmp 173) 32 rfl w5.heap.size 51 i0 (.agg #[.int .i64 0, .int .i64 0, .int .i64 0]) 3 24 Yba.underlying32 hi0 hz0 hz1 hz2 rfl (by decide) u25 (ds ++ rowD f bs (silF f sb) mask z t2).length (delC (ds ++ rowD f bs (silF f sb) mask z t2)) rfl (hown2.alloc _) ⟨w'.heap.size, 0, none⟩ 1 1 [.int .i64 f, .int .i64 t2, .int .i64 (wrap64 (z + t2))] rfl rfl (news3 _ _ _ _ _) (by simp [Value.oneCell']) (by omega) (by rw [List.length_append]; unfold maxLen; omega) (by rw [List.length_append]; omega) (by simp; omega) _ rfl ?_; intro G cap w9 hown9 hgrow hg1 hg2)
                          have hB9 : Below w5.heap.size w5 w9 := (hBx2.alloc hBs _).grown hgrow (by simp; omega) (own_blocks hown2)
                          refine ⟨⟨t2 + 1, by omega, by go_num, ?_, hB9⟩, by simp [RowKit.intOf]; omega⟩
                          rw [rowD_succ, hsE.out, ← List.append_assoc, delC_append _ [((f : Int), (t2 : Int), wrap64 (z + t2))]]
                          simp only [List.length_append] at hown9 ⊢
                          exact hown9
                · obtain rfl : t2 = j := by omega
                  go_wp2
                  go_roundw
                  case rel => exact ⟨t + 1, by omega, by go_num, by rw [htake.out, rndD_snoc, ← HR.out, E.out], by rw [htake.out, allD_snoc, ← HDS.out]; exact hown2, hBx2⟩
                  case measure => simp [RowKit.intOf]; omega
          · obtain rfl : t = k := by omega
            have htk2 : ms.take t = ms := List.take_of_length_le (by rw [HM.out.1]; exact Nat.le_refl _)
            rw [htk2] at hown ⊢
            have hown6 := own_below hown5 hBx (Nat.le_refl _)
            have hC6 := hC5.below hBx (by omega)
            obtain ⟨p5, c5, hv5, hf5⟩ := own_form hown5
            obtain ⟨p6, c6, hv6, hf6⟩ := own_form hown
            subst hv5 hv6
            obtain ⟨ds, hds⟩ : ∃ ds, ds = allD f bs (silF f sb) mask j ms := ⟨_, rfl⟩
            obtain ⟨R, hR⟩ : ∃ R, R = rndD r ms := ⟨_, rfl⟩
            rw [← hds] at hown hown6 hC6 hf5 hf6 ⊢
            rw [← hR] at hC6 ⊢
            have d4 := hC6.cell 4
            have d8 := hC6.cell 8
            have d12 := hC6.cell 12
            simp at d4 d8 d12
            have hdl : ds.length ≤ 8 * 256 := by
              rw [hds]
              exact Nat.le_trans hall (Nat.mul_le_mul hN8 (by rw [HM.out.1]; exact hk))
            clear hds hR htk2 hall
            go_wp2
            go_loopw [198] (fun vi wx => ∃ (i : Nat), i ≤ ds.length ∧ vi = .int .i64 i ∧ wx.heap = wr.heap ∧ Below w.heap.size w wx) (fun vi _ => ds.length - (RowKit.intOf vi).toNat)
            case atStart => exact ⟨0, Nat.zero_le _, rfl, rfl, hBw⟩
            case round =>
              obtain ⟨i, hi, rfl, hhp, hBy⟩ := hrel
              by_cases hil : i < ds.length
              · have hili : (i : Int) < (ds.length : Int) := by omega
                obtain ⟨g5, rfl⟩ : ∃ g, p5 = some ⟨g, 0, none⟩ := by
                  rcases hf5 with h | h
                  · omega
                  · exact h
                obtain ⟨g6, rfl⟩ : ∃ g, p6 = some ⟨g, 0, none⟩ := by
                  rcases hf6 with h | h
                  · omega
                  · exact h
                obtain ⟨d, hd⟩ : ∃ d, ds[i]? = some d := ⟨_, List.getElem?_eq_getElem hil⟩
                obtain ⟨a1, a2, a3⟩ := own_del hown6 i d hd
                obtain ⟨b1, b2, b3⟩ := own_del hown i d hd
                obtain ⟨x, y, z⟩ := d
                replace d4 := cell_heap hhp d4
                replace a1 := cell_heap hhp a1
                replace a2 := cell_heap hhp a2
                replace a3 := cell_heap hhp a3
                replace b1 := cell_heap hhp b1
                replace b2 := cell_heap hhp b2
                replace b3 := cell_heap hhp b3
                go_wp2
                go_quiet (fail)
                go_wp2
                exact ⟨⟨i + 1, by omega, by go_num, hhp, below_drewN hBy _⟩, by simp [RowKit.intOf]; omega⟩
              · obtain rfl : i = ds.length := by omega
                go_wp2
                go_ret
                exact ⟨rfl, hBy⟩
      · obtain ⟨b1, b2, b3, b4, b5, b6, b7⟩ := liar_ok (S := w1.heap.size + 1) hL2 (by omega) hC (by omega) f hfN (.int .i64 f) (.int .i64 j) _ rfl
        have HB3 := Ybulkaygg.A.hid b3
        have HBW := Ybulkaygg.A.hid hBw
        clear b1 b3
        go_wp2_with fail
        refine (fan_no f (wr.heap.size + 2) (w1.heap.size + 3) j w1.heap.size w.heap.size (w1.heap.size + 2) (wr.heap.size + 1) wr.heap.size (.slice none 0 0) r p' k kc' ms _ hfN b2 b5 hk (by rw [b4]; exact Nat.le_refl _) (by omega) (by omega) (by omega) ?_ ?_ ?_ b7 ?_ ?_).mono ?_
        · simp only [World.cell?, b6]; rfl
        · simp only [World.cell?, b6]; rfl
        · simp only [World.cell?, b6]; rfl
        · exact hmr.below HB3.out (fun a ha h => by have := hp'' a ha h; omega)
        · intro a ha h
          have := hp'' a ha h
          omega
        rintro e w5 ⟨rfl, hK5⟩
        have hC5 := b2.keepM hK5 (by omega) (by omega)
        have d4 := hC5.cell 4
        have d8 := hC5.cell 8
        have d12 := hC5.cell 12
        simp at d4 d8 d12
        have hBE : Below w.heap.size w w5 := (HBW.out.trans (HB3.out.mono (by omega))).trans (hK5.below (by omega) (by omega))
        clear b2 b5 b6 b7
        go_wp2
        go_ret
        exact ⟨rfl, hBE⟩
end Go.Proofs.Ybulkaygg.A
