/-
  THE PLAIN LISTS; the carrier's methods.
-/
import Derived.Test.YbulkayggSend
import Derived.BigQuiet
namespace Go.Proofs.Ybulkaygg.A
open Go.RowKit
set_option linter.unusedVariables false

def sendTo (f : Nat) (bs : List Bool) (sil : Nat → Bool) (mask m : Int) (to : Nat) : List (Int × Int × Int) :=
  if to = f then [] else if at_ bs to && !sil to then (if okB mask m to then [((f : Int), (to : Int), wrap64 (m + to))] else []) else []
def rowD (f : Nat) (bs : List Bool) (sil : Nat → Bool) (mask m : Int) (j : Nat) : List (Int × Int × Int) := (List.range j).flatMap (sendTo f bs sil mask m)
def allD (f : Nat) (bs : List Bool) (sil : Nat → Bool) (mask : Int) (n : Nat) (ms : List Int) : List (Int × Int × Int) := ms.flatMap fun m => rowD f bs sil mask m n
def rnd1 (r m : Int) : Int := if m.tmod 3 != 0 then (if r < wrap64 (m.tdiv 4) then wrap64 (m.tdiv 4) else r) else r
def rndD (r : Int) (ms : List Int) : Int := ms.foldl rnd1 r

/-- Integers in memory. -/
def Ints (w : World) (p : Option Addr) (n : Nat) (zs : List Int) : Prop :=
  zs.length = n ∧ (n = 0 ∨ ∃ g o, p = some ⟨g, o, none⟩ ∧ ∀ i, i < n → w.cell? ⟨g, o + i, none⟩ = some (.int .i64 (zs.getD i 0)))

/-- The carrier's methods; their names are read off the program's own interface type. -/
theorem m_open (Cr : Nat) (w : World) : (method 214 26 (.pointer (some ⟨Cr, 0, none⟩)) (match Yba.prog.underlying 30 with
  | some (.interface ms) => ((ms[1]?).map (·.1)).getD Rows.lawS2476BFanSpec.name
  | _ => Rows.lawS2476BFanSpec.name)).run Yba.prog w = .ok (37, .pointer (some ⟨Cr, 0, none⟩)) w := by kernel_rfl
theorem m_to (Cr : Nat) (w : World) : (method 214 26 (.pointer (some ⟨Cr, 0, none⟩)) (match Yba.prog.underlying 30 with
  | some (.interface ms) => ((ms[2]?).map (·.1)).getD Rows.lawS2476BFanSpec.name
  | _ => Rows.lawS2476BFanSpec.name)).run Yba.prog w = .ok (38, .pointer (some ⟨Cr, 0, none⟩)) w := by kernel_rfl


/-- The liars by node, none of them in block C, all below B. -/
def LRB (w : World) (B C L n : Nat) (sil : Nat → Bool) : Prop :=
  ∀ id, id < n → (sil id = false ∧ w.cell? ⟨L, id, none⟩ = some (.pointer none)) ∨ (sil id = true ∧ ∃ Q, Q < B ∧ Q ≠ C ∧ w.cell? ⟨L, id, none⟩ = some (.pointer (some ⟨Q, 0, none⟩)) ∧ w.cell? ⟨Q, 0, none⟩ = some (.int .u8 1))
theorem LRB.lr {w : World} {B C L n : Nat} {sil : Nat → Bool} (h : LRB w B C L n sil) : LR w L n sil := by
  intro id hi
  rcases h id hi with h | ⟨h1, Q, _, _, h2, h3⟩
  · exact .inl h
  · exact .inr ⟨h1, Q, h2, h3⟩
theorem LRB.keep {w w' : World} {B C L n : Nat} {sil : Nat → Bool} (h : LRB w B C L n sil) (k : Keep B C w w') (hL : L < B) (hLC : L ≠ C) : LRB w' B C L n sil := by
  intro id hi
  rcases h id hi with ⟨h1, h2⟩ | ⟨h1, Q, q1, q2, h2, h3⟩
  · exact .inl ⟨h1, by rw [k.cell hL hLC]; exact h2⟩
  · exact .inr ⟨h1, Q, q1, q2, by rw [k.cell hL hLC]; exact h2, by rw [k.cell q1 q2]; exact h3⟩
theorem Bools.keep {w w' : World} {B C n : Nat} {p : Option Addr} {bs : List Bool} (h : Bools w p n bs) (k : Keep B C w w') (hp : ∀ a, p = some a → 0 < n → a.block < B ∧ a.block ≠ C) : Bools w' p n bs := by
  obtain ⟨h1, h | ⟨g, o, rfl, hc⟩⟩ := h
  · exact ⟨h1, .inl h⟩
  · refine ⟨h1, .inr ⟨g, o, rfl, fun i hi => ?_⟩⟩
    obtain ⟨a, b⟩ := hp _ rfl (by omega)
    exact (k.cell (a := ⟨g, o + i, none⟩) a b).trans (hc i hi)

theorem rowD_succ (f : Nat) (bs : List Bool) (sil : Nat → Bool) (mask m : Int) (j : Nat) : rowD f bs sil mask m (j + 1) = rowD f bs sil mask m j ++ sendTo f bs sil mask m j := by
  unfold rowD
  rw [List.range_succ, List.flatMap_append]
  simp
theorem rowD_le (f : Nat) (bs : List Bool) (sil : Nat → Bool) (mask m : Int) (j : Nat) : (rowD f bs sil mask m j).length ≤ j := by
  induction j with
  | zero => simp [rowD]
  | succ j ih =>
    rw [rowD_succ, List.length_append]
    have : (sendTo f bs sil mask m j).length ≤ 1 := by
      unfold sendTo
      split
      · simp
      · split
        · split <;> simp
        · simp
    omega
theorem allD_le (f : Nat) (bs : List Bool) (sil : Nat → Bool) (mask : Int) (n : Nat) (ms : List Int) : (allD f bs sil mask n ms).length ≤ n * ms.length := by
  induction ms with
  | nil => simp [allD]
  | cons m ms ih =>
    have := rowD_le f bs sil mask m n
    simp only [allD, List.flatMap_cons, List.length_append, List.length_cons] at ih ⊢
    rw [Nat.mul_add]
    omega
theorem allD_snoc (f : Nat) (bs : List Bool) (sil : Nat → Bool) (mask : Int) (n : Nat) (ms : List Int) (m : Int) : allD f bs sil mask n (ms ++ [m]) = allD f bs sil mask n ms ++ rowD f bs sil mask m n := by
  unfold allD
  rw [List.flatMap_append]
  simp
theorem rndD_snoc (r : Int) (ms : List Int) (m : Int) : rndD r (ms ++ [m]) = rnd1 (rndD r ms) m := by
  unfold rndD
  rw [List.foldl_append]
  rfl
end Go.Proofs.Ybulkaygg.A
