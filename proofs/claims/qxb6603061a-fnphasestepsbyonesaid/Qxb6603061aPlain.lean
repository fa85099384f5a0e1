namespace Go.Proofs.Qxb6603061a.Plain

/-- 'a ^ 2^63' on 64 bits: the top bit turned. -/
theorem xor63 (a : Nat) (ha : a < 18446744073709551616) :
    a ^^^ 9223372036854775808 = if a < 9223372036854775808 then a + 9223372036854775808 else a - 9223372036854775808 := by
  have e : (9223372036854775808 : Nat) = 2 ^ 63 := by decide
  have hm : (a ^^^ 9223372036854775808) % 9223372036854775808 = a % 9223372036854775808 := by
    rw [e, Nat.xor_mod_two_pow]; simp
  have hd : (a ^^^ 9223372036854775808) / 9223372036854775808 = (a / 9223372036854775808) ^^^ 1 := by
    rw [e, Nat.xor_div_two_pow]
  have hq : a / 9223372036854775808 = 0 ∨ a / 9223372036854775808 = 1 := by omega
  rcases hq with h | h
  · rw [h] at hd
    have h1 : (0 : Nat) ^^^ 1 = 1 := by decide
    rw [h1] at hd
    split <;> omega
  · rw [h] at hd
    have h1 : (1 : Nat) ^^^ 1 = 0 := by decide
    rw [h1] at hd
    split <;> omega

/-- The floor residue, by the shifted road: 'u = t + 2^63'. -/
theorem shifted (t m a b : Int) (hm : 0 < m) (ha : a = (t + 9223372036854775808) % m) (hb : b = 9223372036854775808 % m) :
    (b ≤ a → a - b = t % m) ∧ (¬ b ≤ a → a + m - b = t % m) := by
  have e : t % m = (a - b) % m := by
    rw [ha, hb, ← Int.sub_emod]
    congr 1; omega
  have a0 : 0 ≤ a := by rw [ha]; exact Int.emod_nonneg _ (by omega)
  have a1 : a < m := by rw [ha]; exact Int.emod_lt_of_pos _ hm
  have b0 : 0 ≤ b := by rw [hb]; exact Int.emod_nonneg _ (by omega)
  have b1 : b < m := by rw [hb]; exact Int.emod_lt_of_pos _ hm
  constructor
  · intro h
    rw [e, Int.emod_eq_of_lt (by omega) (by omega)]
  · intro h
    rw [e, ← Int.add_emod_right, Int.emod_eq_of_lt (by omega) (by omega)]
    omega

/-- Go's '%' with the negative remainder lifted by the modulus: the floor residue. -/
theorem lifted (t m : Int) (hm : 0 < m) :
    (t.tmod m < 0 → t.tmod m + m = t % m) ∧ (¬ t.tmod m < 0 → t.tmod m = t % m) := by
  have h := Int.tmod_eq_emod (a := t) (b := m)
  have e0 : 0 ≤ t % m := Int.emod_nonneg _ (by omega)
  have e1 : t % m < m := Int.emod_lt_of_pos _ hm
  have hn : (m.natAbs : Int) = m := by omega
  rw [h]
  split
  · constructor <;> intro h <;> omega
  · constructor <;> intro h <;> omega

theorem range (t m : Int) (hm : 0 < m) : 0 ≤ t % m ∧ t % m < m :=
  ⟨Int.emod_nonneg _ (by omega), Int.emod_lt_of_pos _ hm⟩

theorem step (t m : Int) (hm : 0 < m) :
    (t % m = m - 1 → (t + 1) % m = 0) ∧ (¬ t % m = m - 1 → (t + 1) % m = t % m + 1) := by
  have h := range t m hm
  have e : (t + 1) % m = (t % m + 1) % m := by rw [Int.emod_add_emod]
  constructor
  · intro h1
    rw [e, h1, Int.sub_add_cancel, Int.emod_self]
  · intro h1
    rw [e, Int.emod_eq_of_lt (by omega) (by omega)]

end Go.Proofs.Qxb6603061a.Plain
