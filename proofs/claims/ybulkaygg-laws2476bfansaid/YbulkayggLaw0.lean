/-
  THE LAW: the state that its loops keep.
-/
import Derived.Test.YbulkayggNo
namespace Go.Proofs.Ybulkaygg.A
open Go.RowKit
set_option linter.unusedVariables false

theorem start_ok (w1 : World) (N T : Nat) (mask r : Int) (ob : Obj) : ∀ w4, w4 = (((w1.alloc (.cells #[.int .u8 mask] 28)).alloc ob).alloc (.cells (madeCells #[.pointer none] N) 40)).alloc (.cells (cluV N w1.heap.size T (.slice none 0 0) (w1.heap.size + 2) r) 38) →
    LRow w4 (w1.heap.size + 3) (w1.heap.size + 2) N (fun _ => false) ∧ CS w4 (w1.heap.size + 3) N w1.heap.size T (.slice none 0 0) (w1.heap.size + 2) r ∧ Below (w1.heap.size + 1) (w1.alloc (.cells #[.int .u8 mask] 28)) w4 := by
  rintro w4 rfl
  refine ⟨LRow.alloc (LRow.made ?_) _, ?_, ((((Below.refl _ _).alloc (by simp) _).alloc (by simp) _).alloc (by simp) _)⟩
  · have := alloc_at ((w1.alloc (.cells #[.int .u8 mask] 28)).alloc ob) (.cells (madeCells #[.pointer none] N) 40)
    simpa using this
  · have := alloc_at (((w1.alloc (.cells #[.int .u8 mask] 28)).alloc ob).alloc (.cells (madeCells #[.pointer none] N) 40)) (.cells (cluV N w1.heap.size T (.slice none 0 0) (w1.heap.size + 2) r) 38)
    simpa [CS] using this
theorem silJ_succ (j f : Nat) (sb : List Bool) (id : Nat) : silJ (j + 1) f sb id = (silJ j f sb id || (id == j && silF f sb id)) := by
  unfold silJ
  by_cases h1 : id < j
  · simp [h1, show id < j + 1 by omega]
  · by_cases h2 : id = j
    · simp [h2]
    · simp [h1, h2, show ¬ id < j + 1 by omega]
theorem silJ_no {j f : Nat} {sb : List Bool} (h : silF f sb j = false) (id : Nat) : silJ (j + 1) f sb id = silJ j f sb id := by
  rw [silJ_succ]
  by_cases h2 : id = j
  · subst h2; rw [h]; simp
  · simp [h2]
theorem silJ_yes {j f : Nat} {sb : List Bool} (h : silF f sb j = true) (id : Nat) : silJ (j + 1) f sb id = (silJ j f sb id || id == j) := by
  rw [silJ_succ]
  by_cases h2 : id = j
  · subst h2; rw [h]; simp
  · rw [show (id == j) = false from beq_eq_false_iff_ne.2 h2]; simp
theorem CS.setL {w : World} {C n Cr T L : Nat} {v : Value} {r : Int} (h : CS w C n Cr T v L r) (G j : Nat) (hG : G ≠ C) (u : Value) : CS (w.setCell ⟨G, j, none⟩ u) C n Cr T v L r := by
  unfold CS at h ⊢
  rw [← h]
  simp [World.setCell, Array.getElem?_modify, hG]
/-- One liar more. -/
theorem liar_ok {w : World} {C L n Cr T S : Nat} {s : Nat → Bool} {v : Value} {r : Int} (h : LRow w C L n s) (hLC : L < C) (hC : CS w C n Cr T v L r) (hS : S ≤ L) (j : Nat) (hj : j < n) (x y : Value) : ∀ w', w' = ((w.setCell ⟨L, j, none⟩ (.pointer (some ⟨w.heap.size + 1, 0, none⟩))).alloc (.map #[] 0)).alloc (.cells #[.int .u8 1, x, y, .iface 26 (.pointer (some ⟨Cr, 0, none⟩)), .pointer none, .nilFunc, .nilFunc, .map (some w.heap.size)] 47) →
    LRow w' C L n (fun id => s id || id == j) ∧ CS w' C n Cr T v L r ∧ Below S w w' ∧ w'.heap.size = w.heap.size + 2 ∧ w'.cell? ⟨L, j, none⟩ = some (.pointer (some ⟨w.heap.size + 1, 0, none⟩)) ∧
      w'.heap[w.heap.size + 1]? = some (.cells #[.int .u8 1, x, y, .iface 26 (.pointer (some ⟨Cr, 0, none⟩)), .pointer none, .nilFunc, .nilFunc, .map (some w.heap.size)] 47) ∧ MapAt w' w.heap.size := by
  rintro w' rfl
  have hCs : C < w.heap.size := (Array.getElem?_eq_some_iff.1 hC).1
  have hsz : (w.setCell ⟨L, j, none⟩ (.pointer (some ⟨w.heap.size + 1, 0, none⟩))).heap.size = w.heap.size := by rw [World.setCell]; simp
  have e : ((w.setCell ⟨L, j, none⟩ (.pointer (some ⟨w.heap.size + 1, 0, none⟩))).alloc (.map #[] 0)).alloc (.cells #[.int .u8 1, x, y, .iface 26 (.pointer (some ⟨Cr, 0, none⟩)), .pointer none, .nilFunc, .nilFunc, .map (some w.heap.size)] 47) = ((w.alloc (.map #[] 0)).alloc (.cells #[.int .u8 1, x, y, .iface 26 (.pointer (some ⟨Cr, 0, none⟩)), .pointer none, .nilFunc, .nilFunc, .map (some w.heap.size)] 47)).setCell ⟨L, j, none⟩ (.pointer (some ⟨w.heap.size + 1, 0, none⟩)) := by
    rw [World.setCell_alloc_past _ _ _ _ (by simp; omega), World.setCell_alloc_past _ _ _ _ (by omega)]
  have hQ := alloc_at (w.alloc (.map #[] 0)) (.cells #[.int .u8 1, x, y, .iface 26 (.pointer (some ⟨Cr, 0, none⟩)), .pointer none, .nilFunc, .nilFunc, .map (some w.heap.size)] 47)
  rw [show (w.alloc (.map #[] 0)).heap.size = w.heap.size + 1 by simp] at hQ
  have hL' := LRow.set ((h.alloc (.map #[] 0)).alloc (.cells #[.int .u8 1, x, y, .iface 26 (.pointer (some ⟨Cr, 0, none⟩)), .pointer none, .nilFunc, .nilFunc, .map (some w.heap.size)] 47)) hLC j (w.heap.size + 1) (by omega) (by simp only [World.cell?, hQ]; rfl)
  refine ⟨by rw [e]; exact hL', ((hC.setL L j (by omega) _).alloc _).alloc _, ?_, by simp [hsz], ?_, ?_, ?_⟩
  · exact (((Below.refl S w).setCell (by simp; omega) _).alloc (by rw [hsz]; omega) _).alloc (by simp [hsz]; omega) _
  · rw [e]
    obtain ⟨cs, h1, h2, h3⟩ := h
    have h1' : ((w.alloc (.map #[] 0)).alloc (.cells #[.int .u8 1, x, y, .iface 26 (.pointer (some ⟨Cr, 0, none⟩)), .pointer none, .nilFunc, .nilFunc, .map (some w.heap.size)] 47)).heap[L]? = some (.cells cs 40 (0, 0)) := by
      rw [Below.heap_alloc _ _ _ (by simp; omega), Below.heap_alloc _ _ _ (by omega)]
      exact h1
    simp [World.setCell, World.cell?, Array.getElem?_modify, h1', h2, hj]
  · have := alloc_at ((w.setCell ⟨L, j, none⟩ (.pointer (some ⟨w.heap.size + 1, 0, none⟩))).alloc (.map #[] 0)) (.cells #[.int .u8 1, x, y, .iface 26 (.pointer (some ⟨Cr, 0, none⟩)), .pointer none, .nilFunc, .nilFunc, .map (some w.heap.size)] 47)
    simpa [hsz] using this
  · refine .inl ⟨0, ?_⟩
    rw [Below.heap_alloc _ _ _ (by simp [hsz])]
    have := alloc_at (w.setCell ⟨L, j, none⟩ (.pointer (some ⟨w.heap.size + 1, 0, none⟩))) (.map #[] 0)
    rwa [hsz] at this
theorem at_beyond {w : World} {p : Option Addr} {n : Nat} {bs : List Bool} (hb : Bools w p n bs) (id : Nat) (h : ¬ id < n) : at_ bs id = false := by
  unfold at_; rw [List.getD_eq_getElem?_getD, List.getElem?_eq_none (by rw [hb.1]; omega)]; rfl
theorem at_in {w : World} {p : Option Addr} {n : Nat} {bs : List Bool} (hb : Bools w p n bs) (id : Nat) (h : id < n) : ∃ g o, p = some ⟨g, o, none⟩ ∧ w.cell? ⟨g, o + id, none⟩ = some (.bool (at_ bs id)) := by
  obtain ⟨hl, h0 | ⟨g, o, rfl, hc⟩⟩ := hb
  · omega
  · exact ⟨g, o, rfl, hc id h⟩


theorem own_form {w : World} {B t s n : Nat} {v : Value} {xs : List Value} (h : w.ownsRow B t s v n xs) : ∃ p c, v = .slice p n c ∧ (n = 0 ∨ ∃ g, p = some ⟨g, 0, none⟩) := by
  obtain ⟨_, ⟨rfl, rfl⟩ | ⟨g, cap, cur, rfl, _⟩⟩ := h
  · exact ⟨none, 0, rfl, .inl rfl⟩
  · exact ⟨_, cap, rfl, .inr ⟨g, rfl⟩⟩
theorem delC_at : ∀ (ds : List (Int × Int × Int)) (i : Nat) (d : Int × Int × Int), ds[i]? = some d → (delC ds)[i * 3]? = some (.int .i64 d.1) ∧ (delC ds)[i * 3 + 1]? = some (.int .i64 d.2.1) ∧ (delC ds)[i * 3 + 2]? = some (.int .i64 d.2.2)
  | [], i, d, h => by simp at h
  | e :: r, 0, d, h => by simp at h; subst h; exact ⟨rfl, rfl, rfl⟩
  | e :: r, i + 1, d, h => by
    have := delC_at r i d (by simpa using h)
    simp only [delC, show (i + 1) * 3 = i * 3 + 1 + 1 + 1 by omega, show i * 3 + 1 + 1 + 1 + 1 = i * 3 + 1 + 1 + 1 + 1 from rfl, List.getElem?_cons_succ]
    refine ⟨this.1, ?_, ?_⟩
    · exact this.2.1
    · exact this.2.2
theorem own_del {w : World} {B g cap n : Nat} {ds : List (Int × Int × Int)} (h : w.ownsRow B 51 3 (.slice (some ⟨g, 0, none⟩) n cap) n (delC ds)) (i : Nat) (d : Int × Int × Int) (hd : ds[i]? = some d) :
    w.cell? ⟨g, i * 3, none⟩ = some (.int .i64 d.1) ∧ w.cell? ⟨g, i * 3 + 1, none⟩ = some (.int .i64 d.2.1) ∧ w.cell? ⟨g, i * 3 + 2, none⟩ = some (.int .i64 d.2.2) := by
  obtain ⟨a, b, c⟩ := delC_at ds i d hd
  exact ⟨own_at h _ _ a, own_at h _ _ b, own_at h _ _ c⟩
theorem own_below {w w' : World} {B S t s n : Nat} {v : Value} {xs : List Value} (h : w.ownsRow B t s v n xs) (b : Below S w w') (hS : w.heap.size ≤ S) : w'.ownsRow B t s v n xs := by
  obtain ⟨h0, h | ⟨g', cap', cur, hv, hb, hh, h1⟩⟩ := h
  · exact ⟨h0, .inl h⟩
  · refine ⟨h0, .inr ⟨g', cap', cur, hv, hb, ?_, h1⟩⟩
    rw [← hh]
    have : g' < w.heap.size := (Array.getElem?_eq_some_iff.1 hh).1
    exact b.block g' (by omega)
theorem CS.below {w w' : World} {S C n Cr T L : Nat} {v : Value} {r : Int} (h : CS w C n Cr T v L r) (b : Below S w w') (hS : C < S) : CS w' C n Cr T v L r := by
  unfold CS at h ⊢
  rw [b.block C hS]
  exact h
theorem CS.keepM {w w' : World} {B M C n Cr T L : Nat} {v : Value} {r : Int} (h : CS w C n Cr T v L r) (b : Keep B M w w') (hS : C < B) (hM : C ≠ M) : CS w' C n Cr T v L r := by
  unfold CS at h ⊢
  rw [b.block C hS hM]
  exact h
theorem sendTo_sil (f : Nat) (bs : List Bool) (sb : List Bool) (mask m : Int) (to : Nat) : sendTo f bs (silF f sb) mask m to = if to = f then [] else if at_ bs to then (if at_ sb to then [] else if okB mask m to then [((f : Int), (to : Int), wrap64 (m + to))] else []) else [] := by
  unfold sendTo silF
  by_cases h : to = f
  · rw [if_pos h, if_pos h]
  · rw [if_neg h, if_neg h]
    cases at_ bs to <;> cases at_ sb to <;> simp [h]
end Go.Proofs.Ybulkaygg.A
