/-
  THE WALKS of the wider reads: uint24, uint16.
-/
import Derived.Test.YbulkaxzgWalksE
import Derived.Laws.BitsAllLaws
namespace Go.Proofs.Ybulkaxzg.W
open Go.RowKit
set_option linter.unusedVariables false

/-- Two numbers whose bits do not meet: 'or' is the sum. -/
theorem or_sum (a b k : Nat) (hb : b < 2 ^ k) : (a * 2 ^ k) ||| b = a * 2 ^ k + b := by
  rw [← Nat.shiftLeft_eq, Nat.shiftLeft_add_eq_or_of_lt hb]

theorem i64_or_nat (a b : Nat) (ha : a < 9223372036854775808) (hb : b < 9223372036854775808) : bits .or .i64 (a : Int) (b : Int) = ((a ||| b : Nat) : Int) := by
  have hx : a ||| b < 2 ^ 63 := Nat.or_lt_two_pow (by omega) (by omega)
  show IntKind.i64.wrap ((BitVec.ofInt 64 (a : Int) ||| BitVec.ofInt 64 (b : Int)).toNat : Int) = _
  rw [BitVec.toNat_or, ofInt_u64 a (by omega), ofInt_u64 b (by omega)]
  simp [IntKind.wrap, IntKind.bits, IntKind.signed]
  omega

theorem i64_or_sum (a b : Int) (k : Nat) (ha : 0 ≤ a) (hb0 : 0 ≤ b) (hb : b < 2 ^ k) (hs : a * 2 ^ k + b < 9223372036854775808) : bits .or .i64 (a * 2 ^ k) b = a * 2 ^ k + b := by
  obtain ⟨a, rfl⟩ := Int.eq_ofNat_of_zero_le ha
  obtain ⟨b, rfl⟩ := Int.eq_ofNat_of_zero_le hb0
  have hb' : b < 2 ^ k := by exact_mod_cast hb
  have hk : (2 : Int) ^ k = ((2 ^ k : Nat) : Int) := by simp
  rw [hk] at hs ⊢
  have e : ((a : Int) * ((2 ^ k : Nat) : Int)) = ((a * 2 ^ k : Nat) : Int) := by simp
  rw [e] at hs ⊢
  rw [i64_or_nat _ _ (by omega) (by omega), or_sum a b k hb']
  simp

theorem u24_sum (x y z : Int) (hx0 : 0 ≤ x) (hx1 : x ≤ 255) (hy0 : 0 ≤ y) (hy1 : y ≤ 255) (hz0 : 0 ≤ z) (hz1 : z ≤ 255) :
    bits .or .i64 (bits .or .i64 (x * 65536) (y * 256)) z = x * 65536 + y * 256 + z := by
  have h1 := i64_or_sum x (y * 256) 16 hx0 (by omega) (by omega) (by omega)
  have h2 := i64_or_sum (x * 256 + y) z 8 (by omega) (by omega) (by omega) (by omega)
  rw [show (2 : Int) ^ 16 = 65536 from rfl] at h1
  rw [show (2 : Int) ^ 8 = 256 from rfl, show (x * 256 + y) * 256 = x * 65536 + y * 256 by omega] at h2
  rw [h1, h2]

theorem be16_sum (x y : Int) (hx0 : 0 ≤ x) (hx1 : x ≤ 255) (hy0 : 0 ≤ y) (hy1 : y ≤ 255) : bits .or .u16 y (x * 256) = x * 256 + y := by
  obtain ⟨x, rfl⟩ := Int.eq_ofNat_of_zero_le hx0
  obtain ⟨y, rfl⟩ := Int.eq_ofNat_of_zero_le hy0
  rw [show ((x : Int) * 256) = ((x * 256 : Nat) : Int) by simp, u16_or_nat _ _ (by omega) (by omega), Nat.or_comm]
  have := or_sum x y 8 (by omega)
  rw [show 2 ^ 8 = 256 from rfl] at this
  rw [this]
  simp

/-- 'int(hi)<<16 | int(lo)' -/
theorem u24_join (x y z : Int) (hx0 : 0 ≤ x) (hx1 : x ≤ 255) (hy0 : 0 ≤ y) (hy1 : y ≤ 255) (hz0 : 0 ≤ z) (hz1 : z ≤ 255) :
    bits .or .i64 (x * 65536) (y * 256 + z) = x * 65536 + y * 256 + z := by
  have h1 := i64_or_sum x (y * 256 + z) 16 hx0 (by omega) (by omega) (by omega)
  rw [show (2 : Int) ^ 16 = 65536 from rfl] at h1
  rw [h1]
  omega

theorem u24fn (g o n c : Nat) (x y z : Int) (w : World) (hn : 3 ≤ n) (hx0 : 0 ≤ x) (hx1 : x ≤ 255) (hy0 : 0 ≤ y) (hy1 : y ≤ 255) (hz0 : 0 ≤ z) (hz1 : z ≤ 255)
    (hx : w.cell? ⟨g, o, none⟩ = some (.int .u8 x)) (hy : w.cell? ⟨g, o + 1, none⟩ = some (.int .u8 y)) (hz : w.cell? ⟨g, o + 2, none⟩ = some (.int .u8 z)) :
    Calls Yba.prog 16 #[.slice (some ⟨g, o, none⟩) n c] w fun e w' => e = .returned (.int .i64 (x * 65536 + y * 256 + z)) ∧ ∃ m, w' = w.drewN m := by
  have h0 : (0 : Int) < (n : Int) := by omega
  have h1 : (1 : Int) < (n : Int) := by omega
  have h2 : (2 : Int) < (n : Int) := by omega
  go_enter Yba.func16, Yba.ntmps16
  go_wp2
  go_quiet (fail)
  go_wp2
  go_ret
  refine ⟨?_, nq, rfl⟩
  show Ending.returned (.int .i64 (bits .or .i64 (bits .or .i64 (x * 65536) (y * 256)) z)) = _
  rw [u24_sum x y z hx0 hx1 hy0 hy1 hz0 hz1]

theorem be16 (g o n c : Nat) (x y : Int) (w : World) (hn : 2 ≤ n) (hx0 : 0 ≤ x) (hx1 : x ≤ 255) (hy0 : 0 ≤ y) (hy1 : y ≤ 255)
    (hx : w.cell? ⟨g, o, none⟩ = some (.int .u8 x)) (hy : w.cell? ⟨g, o + 1, none⟩ = some (.int .u8 y)) :
    Calls Yba.prog 17 #[.agg #[], .slice (some ⟨g, o, none⟩) n c] w fun e w' => e = .returned (.int .u16 (x * 256 + y)) ∧ w.grownBy w' none := by
  have h0 : (0 : Int) < (n : Int) := by omega
  have h1 : (1 : Int) < (n : Int) := by omega
  have hx' : ∀ o', (w.alloc o').cell? ⟨g, o, none⟩ = some (.int .u8 x) := fun o' => by rw [((Below.refl _ w).alloc (Nat.le_refl _) o').cell (lt_of_cell hx)]; exact hx
  have hy' : ∀ o', (w.alloc o').cell? ⟨g, o + 1, none⟩ = some (.int .u8 y) := fun o' => by rw [((Below.refl _ w).alloc (Nat.le_refl _) o').cell (lt_of_cell hy)]; exact hy
  go_enter Yba.func17, Yba.ntmps17
  go_wp2
  go_quiet (fail)
  go_wp2
  go_ret
  refine ⟨?_, ⟨rfl, rfl, rfl, by simp, fun k hk _ => Below.heap_alloc _ _ _ hk⟩⟩
  show Ending.returned (.int .u16 (bits .or .u16 y (x * 256))) = _
  rw [be16_sum x y hx0 hx1 hy0 hy1]

end Go.Proofs.Ybulkaxzg.W
