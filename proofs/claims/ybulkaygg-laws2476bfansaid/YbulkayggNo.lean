/-
  fan, of a silent sender; slices.Clone.
-/
import Derived.Test.YbulkayggLie2
namespace Go.Proofs.Ybulkaygg.A
open Go.RowKit
set_option linter.unusedVariables false

set_option maxRecDepth 20000 in
set_option maxHeartbeats 4000000 in
theorem fan_no (f B C n Cr T L Q M : Nat) (v : Value) (r : Int) (q : Option Addr) (k kc : Nat) (ms : List Int) (w : World) (hf : f < n) (hC : CS w C n Cr T v L r) (hfl : w.cell? ⟨L, f, none⟩ = some (.pointer (some ⟨Q, 0, none⟩)))
    (hk : k ≤ 256) (hB : B ≤ w.heap.size) (hMB : M < B) (hQB : Q < B) (hQM : Q ≠ M) (q0 : w.cell? ⟨Q, 0, none⟩ = some (.int .u8 1)) (q3 : w.cell? ⟨Q, 3, none⟩ = some (.iface 26 (.pointer (some ⟨Cr, 0, none⟩)))) (q7 : w.cell? ⟨Q, 7, none⟩ = some (.map (some M))) (hM : MapAt w M) (hms : Ints w q k ms) (hqB : ∀ a, q = some a → 0 < k → a.block < B ∧ a.block ≠ M) :
    Calls Yba.prog 7 #[.pointer (some ⟨C, 0, none⟩), .int .i64 f, .slice q k kc] w fun e w' => e = .returned (.tuple #[]) ∧ Keep B M w w' := by
  have c11 := hC.cell 11
  simp at c11
  have hi : (f : Int) < (n : Int) := by omega
  go_enter Yba.func7, Yba.ntmps7
  go_wp2_with fail
  refine (lie9 B Q M Cr q k kc ms _ hk hB hMB hQB hQM q0 q3 q7 hM hms hqB).mono ?_
  rintro e w' ⟨rfl, hK⟩
  go_wp2
  refine bodyPost_ret (v := .tuple #[]) (by simp [results, Yba.results7]) rfl ?_
  exact ⟨rfl, hK⟩

theorem Yba.info3 : (Yba.prog.info? 3).map (fun i => (i.zero, i.size, i.bytes)) = some (some (.int .i64 0), 1, 8) := by kernel_rfl

theorem clone_nil (w : World) : Calls Yba.prog 4 #[.slice none 0 0] w fun e w' => e = .returned (.slice none 0 0) ∧ w' = w := by
  have hq := fun (w : World) => Lib.run_eql_slice_nil (P := Yba.prog) w 23 3 none 0 0 0 0 Yba.underlying23
  go_enter Yba.func4, Yba.ntmps4
  go_wp2
  go_ret
  exact ⟨rfl, rfl⟩

set_option maxRecDepth 20000 in
theorem clone_zero (a : Addr) (c : Nat) (w : World) : Calls Yba.prog 4 #[.slice (some a) 0 c] w fun e w' => (∃ p kc, e = .returned (.slice p 0 kc)) ∧ Below w.heap.size w w' := by
  have hq := fun (w : World) => Lib.run_eql_slice_nil (P := Yba.prog) w 23 3 (some a) 0 c 0 0 Yba.underlying23
  go_enter Yba.func4, Yba.ntmps4
  go_wp2
  go_ret
  exact ⟨⟨_, _, rfl⟩, (Below.refl _ _).alloc (Nat.le_refl _) _⟩

theorem cells_of (zs : List Int) (g o n : Nat) (w : World) (hz : zs.length = n) (hc : ∀ i, i < n → w.cell? ⟨g, o + i, none⟩ = some (.int .i64 (zs.getD i 0))) : ∀ j u, (zs.map (Value.int .i64))[j]? = some u → w.cell? ((⟨g, o, none⟩ : Addr).add j) = some u := by
  intro j u h
  rw [List.getElem?_map] at h
  rcases hj : zs[j]? with _ | z
  · rw [hj] at h; cases h
  · rw [hj] at h
    obtain ⟨hlt, hz2⟩ := List.getElem?_eq_some_iff.1 hj
    have := hc j (by omega)
    rw [List.getD_eq_getElem?_getD, hj] at this
    simp at h this
    rw [← h]
    unfold Addr.add
    split
    · rename_i h0
      subst h0
      exact this
    · exact this
theorem alloc_at (w : World) (o : Obj) : (w.alloc o).heap[w.heap.size]? = some o := by
  show (w.heap.push o)[w.heap.size]? = some o
  simp

theorem own_at {w : World} {B t s g cap n : Nat} {xs : List Value} (h : w.ownsRow B t s (.slice (some ⟨g, 0, none⟩) n cap) n xs) (i : Nat) (u : Value) (hu : xs[i]? = some u) : w.cell? ⟨g, i, none⟩ = some u := by
  obtain ⟨_, h | ⟨g', cap', cur, hv, _, hh, _, _, _, ht⟩⟩ := h
  · obtain ⟨h, _⟩ := h
    cases h
  · simp at hv
    obtain ⟨rfl, rfl⟩ := hv
    rw [← ht, List.getElem?_take] at hu
    split at hu
    · simp only [World.cell?, hh]
      simpa using hu
    · cases hu
theorem own_lt {w : World} {B t s g cap n : Nat} {xs : List Value} (h : w.ownsRow B t s (.slice (some ⟨g, 0, none⟩) n cap) n xs) : g < w.heap.size ∧ B ≤ g := by
  obtain ⟨_, h | ⟨g', cap', cur, hv, hb, hh, _⟩⟩ := h
  · obtain ⟨h, _⟩ := h
    cases h
  · simp at hv
    obtain ⟨rfl, rfl⟩ := hv
    exact ⟨(Array.getElem?_eq_some_iff.1 hh).1, hb⟩

set_option maxRecDepth 20000 in
theorem clone_some (g o n c : Nat) (zs : List Int) (w : World) (h0 : 0 < n) (hn : n ≤ 256) (hz : zs.length = n) (hc : ∀ i, i < n → w.cell? ⟨g, o + i, none⟩ = some (.int .i64 (zs.getD i 0))) : Calls Yba.prog 4 #[.slice (some ⟨g, o, none⟩) n c] w fun e w' => (∃ G kc, w.heap.size ≤ G ∧ G < w'.heap.size ∧ e = .returned (.slice (some ⟨G, 0, none⟩) n kc) ∧ ∀ i, i < n → w'.cell? ⟨G, i, none⟩ = some (.int .i64 (zs.getD i 0))) ∧ Below w.heap.size w w' := by
  obtain ⟨i0, hi, hz0, hz1, hz2⟩ := info_parts Yba.info3
  have hq := fun (w : World) => Lib.run_eql_slice_nil (P := Yba.prog) w 23 3 (some ⟨g, o, none⟩) n c 0 0 Yba.underlying23
  go_enter Yba.func4, Yba.ntmps4
  have hO : (w.alloc (.cells #[] 3)).ownsRow w.heap.size 3 1 (.slice (some ⟨w.heap.size, 0, none⟩) 0 0) 0 [] := ⟨rfl, .inr ⟨w.heap.size, 0, #[], rfl, Nat.le_refl _, alloc_at _ _, Nat.le_refl _, by unfold maxLen; omega, rfl, rfl⟩⟩
  have hlt : g < w.heap.size := lt_of_cell (hc 0 h0)
  go_wp2_with (at_builtin; refine wpList_append_lies _ rfl (.tmp 5) (.tmp 6) 23 rfl w.heap.size 3 i0 (.int .i64 0) 1 8 Yba.underlying23 hi hz0 hz1 hz2 rfl (by decide) _ 0 [] rfl hO ⟨g, o, none⟩ n c (zs.map (.int .i64)) rfl (by simp [hz]) (cells_of zs g o n _ hz fun i hi => by rw [World.cell?_alloc_lt]; exact hc i hi; exact hlt) (by simp [Value.oneCell']) h0 (by unfold maxLen; omega) (by omega) (by simp) _ rfl ?_; intro G cap w' hown' hgrow hg1 hg2)
  go_ret
  rw [Nat.zero_add, List.nil_append] at hown'
  have hb : Below w.heap.size w w' := ((Below.refl _ w).alloc (Nat.le_refl _) _).grown hgrow (by simp) (by rintro k hk; exact own_blocks hO k hk)
  refine ⟨⟨G, cap, (own_lt hown').2, hg2, rfl, fun i hi => own_at hown' i _ ?_⟩, hb⟩
  rw [List.getElem?_map, List.getD_eq_getElem?_getD, List.getElem?_eq_getElem (by omega)]
  rfl

theorem clone4 (q : Option Addr) (k c : Nat) (zs : List Int) (w : World) (hq0 : q = none → k = 0 ∧ c = 0) (hk : k ≤ 256) (h : Ints w q k zs) :
    Calls Yba.prog 4 #[.slice q k c] w fun e w' => (∃ p kc, e = .returned (.slice p k kc) ∧ Ints w' p k zs ∧ ∀ a, 0 < k → p = some a → w.heap.size ≤ a.block ∧ a.block < w'.heap.size) ∧ Below w.heap.size w w' := by
  obtain ⟨hl, h⟩ := h
  by_cases h0 : k = 0
  · subst h0
    rcases q with _ | a
    · obtain ⟨_, rfl⟩ := hq0 rfl
      refine (clone_nil w).mono ?_
      rintro e w' ⟨rfl, rfl⟩
      exact ⟨⟨_, _, rfl, ⟨hl, .inl rfl⟩, fun _ h => by omega⟩, Below.refl _ _⟩
    · refine (clone_zero a c w).mono ?_
      rintro e w' ⟨⟨p, kc, rfl⟩, hb⟩
      exact ⟨⟨_, _, rfl, ⟨hl, .inl rfl⟩, fun _ h => by omega⟩, hb⟩
  · rcases h with h | ⟨g, o, rfl, hc⟩
    · omega
    refine (clone_some g o k c zs w (by omega) hk hl hc).mono ?_
    rintro e w' ⟨⟨G, kc, h1, h2, rfl, h3⟩, hb⟩
    exact ⟨⟨_, _, rfl, ⟨hl, .inr ⟨G, 0, rfl, fun i hi => by rw [Nat.zero_add]; exact h3 i hi⟩⟩, fun a _ ha => by obtain rfl := Option.some.inj ha; exact ⟨h1, h2⟩⟩, hb⟩

/-- The row of liars. -/
def LRow (w : World) (C L n : Nat) (s : Nat → Bool) : Prop :=
  ∃ cs, w.heap[L]? = some (.cells cs 40 (0, 0)) ∧ cs.size = n ∧ ∀ id, id < n → (s id = false ∧ cs[id]? = some (.pointer none)) ∨ (s id = true ∧ ∃ Q, C < Q ∧ Q < w.heap.size ∧ cs[id]? = some (.pointer (some ⟨Q, 0, none⟩)) ∧ w.cell? ⟨Q, 0, none⟩ = some (.int .u8 1))
theorem LRow.cell {w : World} {C L n : Nat} {s : Nat → Bool} (h : LRow w C L n s) (j : Nat) (hj : j < n) (hs : s j = false) : w.cell? ⟨L, j, none⟩ = some (.pointer none) := by
  obtain ⟨cs, h1, h2, h3⟩ := h
  rcases h3 j hj with ⟨_, h⟩ | ⟨h, _⟩
  · simp only [World.cell?, h1]; exact h
  · rw [hs] at h; cases h
theorem LRow.any {w : World} {C L n : Nat} {s : Nat → Bool} (h : LRow w C L n s) (j : Nat) (hj : j < n) : ∃ u, w.cell? ⟨L, j, none⟩ = some u ∧ u.oneCell' = true := by
  obtain ⟨cs, h1, h2, h3⟩ := h
  simp only [World.cell?, h1]
  rcases h3 j hj with ⟨_, h⟩ | ⟨_, Q, _, _, h, _⟩
  · exact ⟨_, h, rfl⟩
  · exact ⟨_, h, rfl⟩
theorem LRow.frozen {w : World} {C L n : Nat} {s : Nat → Bool} (h : LRow w C L n s) (j : Nat) : w.frozen? ⟨L, j, none⟩ = false := by
  obtain ⟨cs, h1, h2, h3⟩ := h
  simp [World.frozen?, h1]
theorem LRow.alloc {w : World} {C L n : Nat} {s : Nat → Bool} (h : LRow w C L n s) (o : Obj) : LRow (w.alloc o) C L n s := by
  obtain ⟨cs, h1, h2, h3⟩ := h
  have hlt : L < w.heap.size := (Array.getElem?_eq_some_iff.1 h1).1
  refine ⟨cs, by rw [Below.heap_alloc _ _ _ hlt]; exact h1, h2, fun id hi => ?_⟩
  rcases h3 id hi with h | ⟨h, Q, q1, q2, q3, q4⟩
  · exact .inl h
  · refine .inr ⟨h, Q, q1, by simp; omega, q3, ?_⟩
    rw [World.cell?_alloc_lt]
    exact q4
    exact q2
theorem LRow.set {w : World} {C L n : Nat} {s : Nat → Bool} (h : LRow w C L n s) (hLC : L < C) (j Q : Nat) (hQ : C < Q) (hQ2 : w.cell? ⟨Q, 0, none⟩ = some (.int .u8 1)) : LRow (w.setCell ⟨L, j, none⟩ (.pointer (some ⟨Q, 0, none⟩))) C L n (fun id => s id || id == j) := by
  obtain ⟨cs, h1, h2, h3⟩ := h
  have hcell : ∀ Q', C < Q' → (w.setCell ⟨L, j, none⟩ (.pointer (some ⟨Q, 0, none⟩))).cell? ⟨Q', 0, none⟩ = w.cell? ⟨Q', 0, none⟩ := by
    intro Q' hq
    simp [World.setCell, World.cell?, Array.getElem?_modify, show L ≠ Q' by omega]
  refine ⟨cs.setIfInBounds j (.pointer (some ⟨Q, 0, none⟩)), ?_, by simp [h2], fun id hi => ?_⟩
  · simp [World.setCell, Array.getElem?_modify, h1]
  · by_cases hid : id = j
    · subst hid
      refine .inr ⟨by simp, Q, hQ, by rw [World.setCell]; simpa using lt_of_cell hQ2, by rw [Array.getElem?_setIfInBounds_self_of_lt (by omega)], by rw [hcell Q hQ]; exact hQ2⟩
    · have e : (s id || id == j) = s id := by simp [hid]
      show (s id || id == j) = false ∧ _ ∨ (s id || id == j) = true ∧ _
      rw [e]
      rcases h3 id hi with ⟨h, h'⟩ | ⟨h, Q', q1, q2, q3, q4⟩
      · exact .inl ⟨h, by rw [← h']; simp [Ne.symm hid]⟩
      · exact .inr ⟨h, Q', q1, by simpa [World.setCell] using q2, by rw [← q3]; simp [Ne.symm hid], by rw [hcell Q' q1]; exact q4⟩
theorem LRow.congr {w : World} {C L n : Nat} {s s' : Nat → Bool} (h : LRow w C L n s) (he : ∀ id, id < n → s' id = s id) : LRow w C L n s' := by
  obtain ⟨cs, h1, h2, h3⟩ := h
  exact ⟨cs, h1, h2, fun id hi => by rw [he id hi]; exact h3 id hi⟩
theorem LRow.lrb {w : World} {C L n : Nat} {s : Nat → Bool} (h : LRow w C L n s) : LRB w w.heap.size C L n s := by
  obtain ⟨cs, h1, h2, h3⟩ := h
  intro id hi
  rcases h3 id hi with ⟨h, h'⟩ | ⟨h, Q, q1, q2, q3, q4⟩
  · exact .inl ⟨h, by simp only [World.cell?, h1]; exact h'⟩
  · exact .inr ⟨h, Q, q2, by omega, by simp only [World.cell?, h1]; exact q3, q4⟩
theorem LRow.made {w : World} {C L n : Nat} (h : w.heap[L]? = some (.cells (madeCells #[.pointer none] n) 40)) : LRow w C L n (fun _ => false) := by
  refine ⟨_, h, by simp [madeCells], fun id hi => .inl ⟨rfl, ?_⟩⟩
  simp [madeCells, hi, Nat.mod_one]
theorem Bools.below {w w' : World} {S n : Nat} {p : Option Addr} {bs : List Bool} (h : Bools w p n bs) (b : Below S w w') (hp : ∀ a, p = some a → 0 < n → a.block < S) : Bools w' p n bs :=
  h.keep (C := S) (Keep.of_below b) (fun a ha hn => ⟨hp a ha hn, by have := hp a ha hn; omega⟩)
theorem Ints.keep {w w' : World} {B C n : Nat} {p : Option Addr} {zs : List Int} (h : Ints w p n zs) (k : Keep B C w w') (hp : ∀ a, p = some a → 0 < n → a.block < B ∧ a.block ≠ C) : Ints w' p n zs := by
  obtain ⟨h1, h | ⟨g, o, rfl, hc⟩⟩ := h
  · exact ⟨h1, .inl h⟩
  · refine ⟨h1, .inr ⟨g, o, rfl, fun i hi => ?_⟩⟩
    obtain ⟨a, b⟩ := hp _ rfl (by omega)
    exact (k.cell (a := ⟨g, o + i, none⟩) a b).trans (hc i hi)
theorem Ints.below {w w' : World} {S n : Nat} {p : Option Addr} {zs : List Int} (h : Ints w p n zs) (b : Below S w w') (hp : ∀ a, p = some a → 0 < n → a.block < S) : Ints w' p n zs :=
  h.keep (C := S) (Keep.of_below b) (fun a ha hn => ⟨hp a ha hn, by have := hp a ha hn; omega⟩)
def silF (f : Nat) (sb : List Bool) (id : Nat) : Bool := !(id == f) && at_ sb id
def silJ (j f : Nat) (sb : List Bool) (id : Nat) : Bool := decide (id < j) && silF f sb id
end Go.Proofs.Ybulkaygg.A
