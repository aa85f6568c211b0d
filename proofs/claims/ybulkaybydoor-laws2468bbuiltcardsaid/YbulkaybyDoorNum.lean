/-
  NUMERALS: what strconv.Atoi and strconv.Itoa say of an attempt, and what the model says, are one. No Go in sight.
-/
import Derived.Test.YbulkaybyDoorAtt
import Derived.Lib.AtoiAllCases
import Derived.Lib.ItoaNum
import Derived.Lib.ItoaMem
namespace Go.Proofs.YbulkaybyDoor.A
open Go.Lib

def dv (c : UInt8) : Nat := c.toNat - 48
def val : List UInt8 → Nat
  | [] => 0
  | c :: r => dv c * 10 ^ r.length + val r

theorem digC_iff {c : UInt8} : digC c = true ↔ 48 ≤ c.toNat ∧ c.toNat ≤ 57 := by
  unfold digC
  simp only [Bool.and_eq_true, decide_eq_true_eq]

theorem val_snoc (c : UInt8) : ∀ l : List UInt8, val (l ++ [c]) = val l * 10 + dv c
  | [] => by simp [val]
  | x :: r => by
    simp only [List.cons_append, val, val_snoc c r, List.length_append, List.length_singleton, Nat.pow_succ]
    rw [Nat.add_mul, Nat.mul_assoc, Nat.add_assoc]

theorem val_lt : ∀ l : List UInt8, (∀ c ∈ l, digC c = true) → val l < 10 ^ l.length
  | [], _ => by simp [val]
  | c :: r, h => by
    have h1 := val_lt r (fun x hx => h x (List.mem_cons_of_mem _ hx))
    have h2 := digC_iff.1 (h c List.mem_cons_self)
    have h3 : dv c ≤ 9 := by unfold dv; omega
    have h4 : dv c * 10 ^ r.length ≤ 9 * 10 ^ r.length := Nat.mul_le_mul_right _ h3
    simp only [val, List.length_cons, Nat.pow_succ]
    omega

theorem val_ge {c : UInt8} {r : List UInt8} (hc : digC c = true) (h0 : c.toNat ≠ 48) : 10 ^ r.length ≤ val (c :: r) := by
  have h2 := digC_iff.1 hc
  have h3 : 1 ≤ dv c := by unfold dv; omega
  have h4 : 1 * 10 ^ r.length ≤ dv c * 10 ^ r.length := Nat.mul_le_mul_right _ h3
  simp only [val]
  omega

theorem ofNat_dv {c : UInt8} (h : digC c = true) : UInt8.ofNat (48 + dv c) = c := by
  have h2 := digC_iff.1 h
  have e : 48 + dv c = c.toNat := by unfold dv; omega
  rw [e]
  exact UInt8.ofNat_toNat

/-- A numeral without leading zeros is the numeral of its value. -/
theorem decDigits_val : ∀ n : Nat, ∀ l : List UInt8, l.length = n → l ≠ [] → (∀ c ∈ l, digC c = true) → (∀ c r, l = c :: r → c.toNat ≠ 48) → decDigits (val l) = l
  | 0, l, hn, h0, _, _ => absurd (List.length_eq_zero_iff.1 hn) h0
  | n + 1, l, hn, h0, hd, hh => by
    obtain ⟨p, c, rfl⟩ : ∃ p c, l = p ++ [c] := ⟨l.dropLast, l.getLast h0, (List.dropLast_concat_getLast h0).symm⟩
    have hc : digC c = true := hd c (by simp)
    have hc2 := digC_iff.1 hc
    have hv := val_snoc c p
    by_cases hp : p = []
    · subst hp
      have e : val ([] ++ [c]) = dv c := by simp [val]
      rw [e, decDigits, dif_pos (by unfold dv; omega), ofNat_dv hc]
      rfl
    · have hp' : ∀ x r, p = x :: r → x.toNat ≠ 48 := fun x r e => hh x (r ++ [c]) (by rw [e]; rfl)
      have hpd : ∀ x ∈ p, digC x = true := fun x hx => hd x (by simp [hx])
      have ih := decDigits_val n p (by simpa using hn) hp hpd hp'
      obtain ⟨x, r, rfl⟩ := List.exists_cons_of_ne_nil hp
      have hge := val_ge (r := r) (hpd x List.mem_cons_self) (hp' x r rfl)
      have hpos : 0 < 10 ^ r.length := Nat.pow_pos (by omega)
      have hdv : dv c < 10 := by unfold dv; omega
      rw [hv, decDigits, dif_neg (by omega), show (val (x :: r) * 10 + dv c) / 10 = val (x :: r) by omega, show (val (x :: r) * 10 + dv c) % 10 = dv c by omega, ih, ofNat_dv hc]

/-- What a numeral is. -/
theorem decDigits_props : ∀ u : Nat, 1 ≤ u → decDigits u ≠ [] ∧ (∀ c ∈ decDigits u, digC c = true) ∧ (∀ c r, decDigits u = c :: r → c.toNat ≠ 48) ∧ val (decDigits u) = u := by
  intro u
  induction u using Nat.strongRecOn with
  | ind u ih =>
    intro hu
    by_cases h : u < 10
    · rw [decDigits, dif_pos h]
      have e : (UInt8.ofNat (48 + u)).toNat = 48 + u := by simp; omega
      refine ⟨by simp, ?_, ?_, ?_⟩
      · intro c hc
        obtain rfl := List.mem_singleton.1 hc
        rw [digC_iff, e]; omega
      · intro c r hc
        obtain ⟨rfl, rfl⟩ : UInt8.ofNat (48 + u) = c ∧ [] = r := by simpa using hc
        rw [e]; omega
      · simp only [val, dv, e]; simp
    · rw [decDigits, dif_neg h]
      obtain ⟨i1, i2, i3, i4⟩ := ih (u / 10) (by omega) (by omega)
      have e : (UInt8.ofNat (48 + u % 10)).toNat = 48 + u % 10 := by simp; omega
      refine ⟨by simp, ?_, ?_, ?_⟩
      · intro c hc
        rcases List.mem_append.1 hc with hc | hc
        · exact i2 c hc
        · obtain rfl := List.mem_singleton.1 hc
          rw [digC_iff, e]; omega
      · intro c r hc
        obtain ⟨x, q, hx⟩ := List.exists_cons_of_ne_nil i1
        rw [hx] at hc
        obtain ⟨rfl, _⟩ : x = c ∧ q ++ [UInt8.ofNat (48 + u % 10)] = r := by simpa using hc
        exact i3 x q hx
      · rw [val_snoc, i4]
        simp only [dv, e]
        omega

theorem parse_ok : ∀ (l : List UInt8) (acc : Nat), (∀ c ∈ l, digC c = true) → acc * 10 ^ l.length + val l < 18446744073709551616 → parseUint10 acc l = .ok (acc * 10 ^ l.length + val l)
  | [], acc, _, _ => by simp [parseUint10, val]
  | c :: r, acc, h, hlt => by
    have h2 := digC_iff.1 (h c List.mem_cons_self)
    have hpos : 1 ≤ 10 ^ r.length := Nat.pow_pos (by omega)
    have e : acc * 10 ^ (c :: r).length + val (c :: r) = (acc * 10 + (c.toNat - 48)) * 10 ^ r.length + val r := by
      simp only [val, List.length_cons, Nat.pow_succ, dv]
      rw [Nat.add_mul, Nat.mul_assoc, Nat.mul_comm 10]
      omega
    rw [e] at hlt ⊢
    have hb : (acc * 10 + (c.toNat - 48)) * 1 ≤ (acc * 10 + (c.toNat - 48)) * 10 ^ r.length := Nat.mul_le_mul_left _ hpos
    rw [parseUint10, if_pos h2, if_neg (by omega), if_neg (by omega)]
    exact parse_ok r _ (fun x hx => h x (List.mem_cons_of_mem _ hx)) hlt

/-- Among numerals of one length the order of the bytes is the order of the values. -/
theorem less_val : ∀ (a b : List UInt8), a.length = b.length → (∀ c ∈ a, digC c = true) → (∀ c ∈ b, digC c = true) → (Op.bytesLess a b = true ↔ val a < val b)
  | [], [], _, _, _ => by simp [Op.bytesLess, val]
  | x :: a, y :: b, hl, ha, hb => by
    have hl' : a.length = b.length := by simpa using hl
    have ih := less_val a b hl' (fun c hc => ha c (List.mem_cons_of_mem _ hc)) (fun c hc => hb c (List.mem_cons_of_mem _ hc))
    have l1 := val_lt a (fun c hc => ha c (List.mem_cons_of_mem _ hc))
    have l2 := val_lt b (fun c hc => hb c (List.mem_cons_of_mem _ hc))
    have hx := digC_iff.1 (ha x List.mem_cons_self)
    have hy := digC_iff.1 (hb y List.mem_cons_self)
    have ex : x.toNat = 48 + dv x := by unfold dv; omega
    have ey : y.toNat = 48 + dv y := by unfold dv; omega
    simp only [Op.bytesLess, Bool.or_eq_true, Bool.and_eq_true, decide_eq_true_eq, beq_iff_eq, UInt8.lt_iff_toNat_lt, ← UInt8.toNat_inj, ih, val, hl']
    rw [hl'] at l1
    rw [ex, ey]
    generalize 10 ^ b.length = N at *
    generalize dv x = p at *
    generalize dv y = q at *
    generalize val a = u at *
    generalize val b = v at *
    constructor
    · rintro (h | ⟨h1, h2⟩)
      · have : (p + 1) * N ≤ q * N := Nat.mul_le_mul_right _ (by omega)
        rw [Nat.add_mul] at this
        omega
      · have : p = q := by omega
        subst this
        omega
    · intro h
      rcases Nat.lt_trichotomy p q with h1 | h1 | h1
      · left; omega
      · subst h1
        right
        exact ⟨rfl, by omega⟩
      · have : (q + 1) * N ≤ p * N := Nat.mul_le_mul_right _ (by omega)
        rw [Nat.add_mul] at this
        omega

theorem val_inj {a b : List UInt8} (hl : a.length = b.length) (ha : ∀ c ∈ a, digC c = true) (hb : ∀ c ∈ b, digC c = true) (h : val a = val b) : a = b := by
  induction a generalizing b with
  | nil => cases b with
    | nil => rfl
    | cons => simp at hl
  | cons x a ih =>
    cases b with
    | nil => simp at hl
    | cons y b =>
      have hl' : a.length = b.length := by simpa using hl
      have l1 := val_lt a (fun c hc => ha c (List.mem_cons_of_mem _ hc))
      have l2 := val_lt b (fun c hc => hb c (List.mem_cons_of_mem _ hc))
      have hx := ofNat_dv (ha x List.mem_cons_self)
      have hy := ofNat_dv (hb y List.mem_cons_self)
      simp only [val] at h
      rw [hl'] at h l1
      have e : dv x = dv y := by
        generalize 10 ^ b.length = N at *
        rcases Nat.lt_trichotomy (dv x) (dv y) with h1 | h1 | h1
        · have : (dv x + 1) * N ≤ dv y * N := Nat.mul_le_mul_right _ (by omega)
          rw [Nat.add_mul] at this
          omega
        · exact h1
        · have : (dv y + 1) * N ≤ dv x * N := Nat.mul_le_mul_right _ (by omega)
          rw [Nat.add_mul] at this
          omega
      rw [e] at h hx
      rw [hx] at hy
      rw [hy, ih hl' (fun c hc => ha c (List.mem_cons_of_mem _ hc)) (fun c hc => hb c (List.mem_cons_of_mem _ hc)) (by omega)]

/-- What ValidWorkerID asks of an attempt. -/
def wAtt (s : ByteArray) : Bool := match atoiAll s.data.toList with
  | .ok v => decide (1 ≤ v) && decide (s = ⟨(itoa v).toArray⟩)
  | _ => false

theorem bang_iff (s : ByteArray) (p : UInt8 → Bool) : (∀ j, j < s.size → p (s.data[j]!) = true) ↔ ∀ c ∈ s.data.toList, p c = true := by
  obtain ⟨⟨l⟩⟩ := s
  show (∀ j, j < l.length → p (l.toArray[j]!) = true) ↔ ∀ c ∈ l, p c = true
  constructor
  · intro h c hc
    obtain ⟨j, hj, rfl⟩ := List.getElem_of_mem hc
    have := h j hj
    simpa [hj] using this
  · intro h j hj
    have := h l[j] (List.getElem_mem hj)
    simpa [hj] using this

theorem over_iff {s : ByteArray} (hl : s.size = 19) (hd : ∀ c ∈ s.data.toList, digC c = true) : over s = false ↔ val s.data.toList ≤ 9223372036854775807 := by
  unfold over
  rw [Lib.toList_data, Lib.toList_data, Bool.not_eq_false', Bool.or_eq_true, beq_iff_eq]
  have hm : ∀ c ∈ maxS.data.toList, digC c = true := by decide
  have hlen : s.data.toList.length = maxS.data.toList.length := by rw [← Lib.size_eq, hl]; rfl
  have hv : val maxS.data.toList = 9223372036854775807 := by decide
  rw [less_val _ _ hlen hd hm, hv]
  constructor
  · rintro (h | h)
    · omega
    · rw [h, hv]; exact Nat.le_refl _
  · intro h
    by_cases he : val s.data.toList = 9223372036854775807
    · exact .inr (val_inj hlen hd hm (by rw [he, hv]))
    · left; omega

theorem att_iff (s : ByteArray) : att s = true ↔ s.data.toList ≠ [] ∧ (∀ c ∈ s.data.toList, digC c = true) ∧ (∀ c r, s.data.toList = c :: r → c.toNat ≠ 48) ∧ val s.data.toList ≤ 9223372036854775807 := by
  have hsz := Lib.size_eq s
  unfold att
  simp only [Bool.and_eq_true, decide_eq_true_eq, bang_iff]
  have hd0 : s.size ≠ 0 → ∀ c r, s.data.toList = c :: r → s.data[0]! = c := by
    intro _ c r h
    obtain ⟨⟨l⟩⟩ := s
    have h' : l = c :: r := h
    subst h'
    rfl
  constructor
  · rintro ⟨⟨⟨⟨h1, h2⟩, h3⟩, h4⟩, h5⟩
    refine ⟨?_, h4, ?_, ?_⟩
    · intro h; rw [h] at hsz; exact h1 hsz
    · intro c r h; rw [← hd0 h1 c r h]; exact h3
    · by_cases h19 : s.size = 19
      · rw [h19] at h5
        have : over s = false := by simpa using h5
        exact (over_iff h19 h4).1 this
      · have := val_lt _ h4
        have hle : 10 ^ s.data.toList.length ≤ 10 ^ 18 := Nat.pow_le_pow_right (by omega) (by omega)
        omega
  · rintro ⟨h1, h2, h3, h4⟩
    obtain ⟨c, r, hcr⟩ := List.exists_cons_of_ne_nil h1
    have hs0 : s.size ≠ 0 := by rw [hsz, hcr]; simp
    have hlen : s.size = r.length + 1 := by rw [hsz, hcr]; simp
    have h19 : s.size ≤ 19 := by
      by_cases h : s.size ≤ 19
      · exact h
      · have hge := val_ge (c := c) (r := r) (h2 c (by rw [hcr]; simp)) (h3 c r hcr)
        rw [← hcr] at hge
        have hle : 10 ^ 19 ≤ 10 ^ r.length := Nat.pow_le_pow_right (by omega) (by omega)
        omega
    refine ⟨⟨⟨⟨hs0, h19⟩, ?_⟩, h2⟩, ?_⟩
    · rw [hd0 hs0 c r hcr]; exact h3 c r hcr
    · by_cases h : s.size = 19
      · rw [(over_iff h h2).2 h4]; simp
      · simp [h]

/-- THE TWO TESTS ARE ONE. -/
theorem wAtt_eq (s : ByteArray) : wAtt s = att s := by
  rw [Bool.eq_iff_iff, att_iff]
  constructor
  · intro h
    unfold wAtt at h
    split at h
    · rename_i v hv
      simp only [Bool.and_eq_true, decide_eq_true_eq] at h
      obtain ⟨h1, h2⟩ := h
      obtain ⟨b1, b2⟩ := atoiAll_bounds hv
      have e : itoa v = decDigits v.toNat := by unfold itoa; rw [if_neg (by omega)]
      have hl : s.data.toList = decDigits v.toNat := by rw [h2, e]
      obtain ⟨p1, p2, p3, p4⟩ := decDigits_props v.toNat (by omega)
      rw [hl]
      exact ⟨p1, p2, p3, by rw [p4]; omega⟩
    · cases h
  · rintro ⟨h1, h2, h3, h4⟩
    obtain ⟨c, r, hcr⟩ := List.exists_cons_of_ne_nil h1
    have hc := digC_iff.1 (h2 c (by rw [hcr]; simp))
    have hge := val_ge (c := c) (r := r) (h2 c (by rw [hcr]; simp)) (h3 c r hcr)
    have hpos : 0 < 10 ^ r.length := Nat.pow_pos (by omega)
    have hp := parse_ok s.data.toList 0 h2 (by omega)
    have hdec := decDigits_val _ s.data.toList rfl h1 h2 h3
    generalize hv : val s.data.toList = v at *
    have ha : atoiAll s.data.toList = .ok (v : Int) := by
      rw [hcr] at hp hv ⊢
      rw [atoiAll_plain c r (by omega) (by omega), parseMag, if_neg (by simp), hp]
      simp only [Nat.zero_mul, Nat.zero_add, signless]
      rw [if_neg (by omega)]
    unfold wAtt
    rw [ha]
    simp only [Bool.and_eq_true, decide_eq_true_eq]
    refine ⟨by rw [hcr] at hv; omega, ?_⟩
    rw [itoa_nonneg, hdec, Lib.mk_data]

end Go.Proofs.YbulkaybyDoor.A
