/-
  THE PLAIN FUNCTION that the first loop of Element.OID computes, and the facts on bits that its walk asks.
-/
import Derived.Test.YbulkayaiFmtSets
namespace Go.Proofs.YbulkayaiFmt.A
open Go.RowKit
set_option linter.unusedVariables false

def oidStep (st : List Int × Int) (o : Int) : List Int × Int :=
  if 128 ≤ o then (st.1, st.2 * 128 + o % 128) else (st.1 ++ [st.2 * 128 + o % 128], 0)
def oidSt (zs : List Int) (k : Nat) : List Int × Int := (zs.take k).foldl oidStep ([], 0)
theorem oidSt_succ (zs : List Int) (k : Nat) (h : k < zs.length) : oidSt zs (k + 1) = oidStep (oidSt zs k) (zs.getD k 0) := by
  unfold oidSt
  rw [List.take_succ_eq_append_getElem h, List.foldl_append]
  simp [h]

/-- What the text asks of the octets: each is one; no arc is too large; none opens with 0x80; the last ends an arc. -/
def OidOk (zs : List Int) : Prop := ∀ k, k < zs.length → 0 ≤ zs.getD k 0 ∧ zs.getD k 0 ≤ 255 ∧ 0 ≤ (oidSt zs k).2 ∧ (oidSt zs k).2 ≤ 1000000000 ∧ ((oidSt zs k).2 == 0 && zs.getD k 0 == 128) = false ∧ (128 ≤ zs.getD k 0 → k + 1 < zs.length)

theorem and127 (o : Int) (h0 : 0 ≤ o) (h1 : o ≤ 255) : bits .and .u8 o 127 = o % 128 := by
  obtain ⟨n, rfl⟩ := Int.eq_ofNat_of_zero_le h0
  have := u8_and_nat n 127 (by omega) (by omega)
  rw [show ((127 : Nat) : Int) = 127 from rfl] at this
  rw [this, show (127 : Nat) = 2 ^ 7 - 1 from rfl, Nat.and_two_pow_sub_one_eq_mod]
  omega

theorem and128_hi : ∀ n : Fin 256, 128 ≤ n.val → bits .and .u8 (n.val : Int) 128 = 128 := by decide +kernel
theorem and128_lo : ∀ n : Fin 256, n.val < 128 → bits .and .u8 (n.val : Int) 128 = 0 := by decide +kernel
theorem and128_ge (o : Int) (h0 : 128 ≤ o) (h1 : o ≤ 255) : bits .and .u8 o 128 = 128 := by
  obtain ⟨n, rfl⟩ := Int.eq_ofNat_of_zero_le (show 0 ≤ o by omega)
  exact and128_hi ⟨n, by omega⟩ (by simp; omega)
theorem and128_lt (o : Int) (h0 : 0 ≤ o) (h1 : o < 128) : bits .and .u8 o 128 = 0 := by
  obtain ⟨n, rfl⟩ := Int.eq_ofNat_of_zero_le h0
  exact and128_lo ⟨n, by omega⟩ (by simp; omega)

theorem or7 (v r : Int) (h0 : 0 ≤ v) (h1 : v ≤ 1000000000) (h2 : 0 ≤ r) (h3 : r < 128) : bits .or .u64 (v * 128) r = v * 128 + r := by
  obtain ⟨v, rfl⟩ := Int.eq_ofNat_of_zero_le h0
  obtain ⟨r, rfl⟩ := Int.eq_ofNat_of_zero_le h2
  have e := u64_or_nat (v * 128) r (by omega) (by omega)
  have : v * 2 ^ 7 ||| r = v * 2 ^ 7 + r := by rw [← Nat.shiftLeft_eq, Nat.shiftLeft_add_eq_or_of_lt (by omega)]
  rw [show (2 : Nat) ^ 7 = 128 from rfl] at this
  rw [this] at e
  simpa using e

theorem ok_aspa : OidOk (oidB 49) := by unfold OidOk; decide +kernel
theorem ok_roa : OidOk (oidB 24) := by unfold OidOk; decide +kernel
theorem ok_mft : OidOk (oidB 26) := by unfold OidOk; decide +kernel
theorem ok_sd : OidOk sdOID := by unfold OidOk; decide +kernel
theorem st_aspa : oidSt (oidB 49) 11 = ([42, 840, 113549, 1, 9, 16, 1, 49], 0) := by decide +kernel
theorem st_roa : oidSt (oidB 24) 11 = ([42, 840, 113549, 1, 9, 16, 1, 24], 0) := by decide +kernel
theorem st_mft : oidSt (oidB 26) 11 = ([42, 840, 113549, 1, 9, 16, 1, 26], 0) := by decide +kernel
theorem st_sd : oidSt sdOID 9 = ([42, 840, 113549, 1, 7, 2], 0) := by decide +kernel

end Go.Proofs.YbulkayaiFmt.A
