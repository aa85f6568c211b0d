/-
  THE PARSER AS A STATE: what the methods do to it, said of a world that is a letter.
-/
import Derived.Test.YbulkaxzgWalksD
namespace Go.Proofs.Ybulkaxzg.W
open Go.RowKit
set_option linter.unusedVariables false

/-- Block b is a parser: its data are the bytes zs, its mark is f. -/
structure PS (w : World) (b : Nat) (p : Option Addr) (n c : Nat) (f : Bool) (zs : List Int) : Prop where
  blk : w.heap[b]? = some (.cells #[.slice p n c, .bool f] 26 (0, 0))
  bytes : Bytes w p n zs
  le : n ≤ c
  cap : c ≤ 4096
  ne : ∀ x, p = some x → 0 < n → x.block ≠ b

theorem PS.c0 {w : World} {b : Nat} {p : Option Addr} {n c : Nat} {f : Bool} {zs : List Int} (h : PS w b p n c f zs) : w.cell? ⟨b, 0, none⟩ = some (.slice p n c) := by simp [World.cell?, h.blk]
theorem PS.c1 {w : World} {b : Nat} {p : Option Addr} {n c : Nat} {f : Bool} {zs : List Int} (h : PS w b p n c f zs) : w.cell? ⟨b, 1, none⟩ = some (.bool f) := by simp [World.cell?, h.blk]
theorem PS.f0 {w : World} {b : Nat} {p : Option Addr} {n c : Nat} {f : Bool} {zs : List Int} (h : PS w b p n c f zs) : w.frozen? ⟨b, 0, none⟩ = false := by simp [World.frozen?, h.blk]
theorem PS.f1 {w : World} {b : Nat} {p : Option Addr} {n c : Nat} {f : Bool} {zs : List Int} (h : PS w b p n c f zs) : w.frozen? ⟨b, 1, none⟩ = false := by simp [World.frozen?, h.blk]
theorem PS.lt {w : World} {b : Nat} {p : Option Addr} {n c : Nat} {f : Bool} {zs : List Int} (h : PS w b p n c f zs) : b < w.heap.size := (Array.getElem?_eq_some_iff.1 h.blk).1

/-- A new parser. -/
theorem PS.new {w : World} {p : Option Addr} {n c : Nat} {zs : List Int} (f : Bool) (h : Bytes w p n zs) (hn : n ≤ c) (hc : c ≤ 4096) :
    PS (w.alloc (.cells #[.slice p n c, .bool f] 26)) w.heap.size p n c f zs := by
  refine ⟨heap_alloc_new w _, h.alloc _, hn, hc, ?_⟩
  rintro x rfl hpos
  obtain ⟨_, h | ⟨g, o, he, h⟩⟩ := h
  · omega
  · simp at he
    subst he
    have := lt_of_cell (h 0 hpos)
    simp at this ⊢
    omega

/-- A call that makes blocks, or turns block b alone. -/
theorem heap_setCell0 {w : World} {b : Nat} {v0 v1 u : Value} (h : w.heap[b]? = some (.cells #[v0, v1] 26 (0, 0))) : (w.setCell ⟨b, 0, none⟩ u).heap[b]? = some (.cells #[u, v1] 26 (0, 0)) := by
  simp [World.setCell, Array.getElem?_modify, h]
theorem heap_setCell1 {w : World} {b : Nat} {v0 v1 u : Value} (h : w.heap[b]? = some (.cells #[v0, v1] 26 (0, 0))) : (w.setCell ⟨b, 1, none⟩ u).heap[b]? = some (.cells #[v0, u] 26 (0, 0)) := by
  simp [World.setCell, Array.getElem?_modify, h]

theorem grown_setCell (w : World) (a : Addr) (u : Value) : w.grownBy (w.setCell a u) (some a.block) :=
  ⟨rfl, rfl, rfl, by simp [World.setCell], fun k hk hne => Below.heap_setCell w a u k (fun e => hne (by rw [e]))⟩

/-- The parser behind a read of k bytes. -/
theorem PS.past {w : World} {b g o n c k : Nat} {zs : List Int} (h : PS w b (some ⟨g, o, none⟩) n c false zs) (hk : k ≤ n) (hk0 : 0 < k) :
    PS (w.setCell ⟨b, 0, none⟩ (.slice (some (W.past g o c k)) (n - k) (c - k))) b (some (W.past g o c k)) (n - k) (c - k) false (zs.drop k) := by
  have hb : (W.past g o c k).block = g := by unfold W.past; split <;> rfl
  refine ⟨heap_setCell0 h.blk, (h.bytes.past hk h.le).setCell _ _ ?_, by have := h.le; omega, by have := h.cap; omega, ?_⟩
  · rintro x hx hpos
    simp at hx
    subst hx
    rw [hb]
    exact h.ne _ rfl (by omega)
  · rintro x hx hpos
    simp at hx
    subst hx
    rw [hb]
    exact h.ne ⟨g, o, none⟩ rfl (by omega)

theorem PS.failed {w : World} {b : Nat} {p : Option Addr} {n c : Nat} {f : Bool} {zs : List Int} (h : PS w b p n c f zs) :
    PS (w.setCell ⟨b, 1, none⟩ (.bool true)) b p n c true zs :=
  ⟨heap_setCell1 h.blk, h.bytes.setCell _ _ (fun x hx hpos => h.ne x hx hpos), h.le, h.cap, h.ne⟩

theorem u8_ps {w : World} {b : Nat} {p : Option Addr} {n c : Nat} {zs : List Int} (h : PS w b p n c false zs) (hn : 1 ≤ n) :
    Calls Yba.prog 10 #[.pointer (some ⟨b, 0, none⟩)] w fun e w' => ∃ p', e = .returned (.int .u8 (zs.getD 0 0)) ∧ PS w' b p' (n - 1) (c - 1) false (zs.drop 1) ∧ w.grownBy w' (some b) := by
  obtain ⟨_, hx | ⟨g, o, rfl, hc⟩⟩ := h.bytes
  · omega
  · refine (u8_ok b n c g o (zs.getD 0 0) w hn h.le (by have := h.cap; unfold maxLen; omega) (h.ne ⟨g, o, none⟩ rfl hn) h.c0 h.c1 h.f0 (hc 0 hn)).mono ?_
    rintro e w' ⟨rfl, rfl⟩
    exact ⟨_, rfl, h.past hn (by omega), grown_setCell _ _ _⟩

theorem PS.drew {w : World} {b : Nat} {p : Option Addr} {n c : Nat} {f : Bool} {zs : List Int} (h : PS w b p n c f zs) : PS w.drew b p n c f zs := ⟨h.blk, h.bytes, h.le, h.cap, h.ne⟩
theorem PS.drewN {w : World} {b : Nat} {p : Option Addr} {n c : Nat} {f : Bool} {zs : List Int} (h : PS w b p n c f zs) (m : Nat) : PS (w.drewN m) b p n c f zs := ⟨h.blk, h.bytes, h.le, h.cap, h.ne⟩

theorem u8_ps_x {w : World} {b : Nat} {p : Option Addr} {n c : Nat} {zs : List Int} (x : Int) (hx : zs.getD 0 0 = x) (h : PS w b p n c false zs) (hn : 1 ≤ n) :
    Calls Yba.prog 10 #[.pointer (some ⟨b, 0, none⟩)] w fun e w' => ∃ p', e = .returned (.int .u8 x) ∧ PS w' b p' (n - 1) (c - 1) false (zs.drop 1) ∧ w.grownBy w' (some b) := by
  subst hx
  exact u8_ps h hn

theorem u8_ps_end {w : World} {b : Nat} {p : Option Addr} {c : Nat} {f : Bool} {zs : List Int} (h : PS w b p 0 c f zs) :
    Calls Yba.prog 10 #[.pointer (some ⟨b, 0, none⟩)] w fun e w' => e = .returned (.int .u8 0) ∧ PS w' b p 0 c true zs ∧ w.grownBy w' (some b) := by
  cases f with
  | false =>
    refine (u8_short b c p w h.c0 h.c1 h.f1).mono ?_
    rintro e w' ⟨rfl, rfl⟩
    exact ⟨rfl, h.failed, grown_setCell _ _ _⟩
  | true =>
    refine (u8_failed b w h.c1 h.f1).mono ?_
    rintro e w' ⟨rfl, rfl⟩
    exact ⟨rfl, h.failed, grown_setCell _ _ _⟩

theorem done_yes {w : World} {b : Nat} {p : Option Addr} {c : Nat} {zs : List Int} (h : PS w b p 0 c false zs) :
    Calls Yba.prog 14 #[.pointer (some ⟨b, 0, none⟩)] w fun e w' => e = .returned (.bool true) ∧ w' = w := by
  have h0 := h.c0
  have h1 := h.c1
  go_enter Yba.func14, Yba.ntmps14
  go_wp2
  go_ret
  exact ⟨rfl, rfl⟩

theorem done_failed {w : World} {b : Nat} {p : Option Addr} {n c : Nat} {zs : List Int} (h : PS w b p n c true zs) :
    Calls Yba.prog 14 #[.pointer (some ⟨b, 0, none⟩)] w fun e w' => e = .returned (.bool false) ∧ w' = w := by
  have h0 := h.c0
  have h1 := h.c1
  go_enter Yba.func14, Yba.ntmps14
  go_wp2
  go_ret
  exact ⟨rfl, rfl⟩

end Go.Proofs.Ybulkaxzg.W
