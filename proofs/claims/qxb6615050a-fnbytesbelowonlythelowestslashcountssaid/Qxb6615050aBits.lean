/-
  Plain facts on words of 64 bits: the lowest set bit; what x ^ (x - 1) is; masks of ones. No Go in sight.
-/
namespace HalyBits
/-- s has its lowest set bit at p. -/
theorem low_form (s : Nat) (h : 0 < s) : ∃ p q, s = 2 ^ (p + 1) * q + 2 ^ p := by
  induction s using Nat.strongRecOn with
  | _ s ih =>
    by_cases h2 : s % 2 = 1
    · exact ⟨0, s / 2, by simp; omega⟩
    · obtain ⟨p, q, e⟩ := ih (s / 2) (by omega) (by omega)
      refine ⟨p + 1, q, ?_⟩
      have : s = 2 * (s / 2) := by omega
      rw [this, e, Nat.pow_succ 2 (p + 1), Nat.pow_succ 2 p]
      rw [Nat.mul_add]
      congr 1
      · rw [← Nat.mul_assoc]; congr 1; omega
      · omega
theorem tb_ones (k j : Nat) : (2 ^ k - 1).testBit j = decide (j < k) := by
  simp
theorem xor_low (p q : Nat) : (2 ^ (p + 1) * q + 2 ^ p) ^^^ (2 ^ (p + 1) * q + 2 ^ p - 1) = 2 ^ (p + 1) - 1 := by
  have hp : 0 < 2 ^ p := Nat.two_pow_pos _
  have e : 2 ^ (p + 1) * q + 2 ^ p - 1 = 2 ^ (p + 1) * q + (2 ^ p - 1) := by omega
  rw [e]
  apply Nat.eq_of_testBit_eq
  intro j
  have h1 : 2 ^ p < 2 ^ (p + 1) := by rw [Nat.pow_succ]; omega
  have h2 : 2 ^ p - 1 < 2 ^ (p + 1) := by omega
  rw [Nat.testBit_xor, Nat.testBit_two_pow_mul_add _ h1, Nat.testBit_two_pow_mul_add _ h2, tb_ones, tb_ones, Nat.testBit_two_pow]
  by_cases hj : j < p + 1
  · rw [if_pos hj, if_pos hj]
    by_cases h3 : p = j
    · subst h3; simp
    · simp [h3]; constructor <;> intro <;> omega
  · simp [hj]
theorem and_low (p k q : Nat) (h : k ≤ p) : (2 ^ k - 1) &&& (2 ^ (p + 1) * q + 2 ^ p) = 0 := by
  apply Nat.eq_of_testBit_eq
  intro j
  rw [Nat.testBit_and, tb_ones]
  by_cases hj : j < k
  · have e : 2 ^ (p + 1) * q + 2 ^ p = 2 ^ p * (2 * q + 1) := by rw [Nat.pow_succ, Nat.mul_add, Nat.mul_assoc]; omega
    rw [e, Nat.testBit_two_pow_mul]
    have : ¬ (j ≥ p) := by omega
    simp [this]
  · simp [hj]
theorem ones_div (n k : Nat) (h : k ≤ n) : (2 ^ n - 1) / 2 ^ k = 2 ^ (n - k) - 1 := by
  apply Nat.eq_of_testBit_eq
  intro j
  rw [Nat.testBit_div_two_pow, tb_ones, tb_ones]
  simp; omega
theorem ones_shl_or (n k : Nat) : ((2 ^ n - 1) * 2 ^ k) ||| (2 ^ k - 1) = 2 ^ (n + k) - 1 := by
  apply Nat.eq_of_testBit_eq
  intro j
  rw [Nat.testBit_or, Nat.mul_comm, Nat.testBit_two_pow_mul, tb_ones, tb_ones, tb_ones]
  by_cases h1 : j < k
  · simp [h1]; omega
  · rw [Bool.eq_iff_iff]; simp [h1]; omega
end HalyBits
namespace HalyBits
/-- One byte higher: the lowest bit moves up by eight. -/
theorem shl8_form (p q : Nat) (hp : p ≤ 55) : (2 ^ (p + 1) * q + 2 ^ p) * 256 % 18446744073709551616 = 2 ^ (p + 8 + 1) * (q % 2 ^ (55 - p)) + 2 ^ (p + 8) := by
  have e : (2 ^ (p + 1) * q + 2 ^ p) * 256 = 2 ^ (p + 8 + 1) * q + 2 ^ (p + 8) := by
    rw [Nat.add_mul, show p + 8 + 1 = (p + 1) + 8 by omega, Nat.pow_add 2 (p + 1) 8, Nat.pow_add 2 p 8, Nat.mul_right_comm]
  have e2 : (18446744073709551616 : Nat) = 2 ^ (p + 8 + 1) * 2 ^ (55 - p) := by
    rw [← Nat.pow_add, show p + 8 + 1 + (55 - p) = 64 by omega]
  have hlt : 2 ^ (p + 8) < 2 ^ (p + 8 + 1) := Nat.pow_lt_pow_right (by decide) (Nat.lt_succ_self _)
  rw [e, e2, Nat.mod_mul]
  have h1 : (2 ^ (p + 8 + 1) * q + 2 ^ (p + 8)) % 2 ^ (p + 8 + 1) = 2 ^ (p + 8) := by
    rw [Nat.mul_add_mod, Nat.mod_eq_of_lt hlt]
  have h2 : (2 ^ (p + 8 + 1) * q + 2 ^ (p + 8)) / 2 ^ (p + 8 + 1) = q := by
    rw [Nat.mul_add_div (Nat.two_pow_pos _), Nat.div_eq_of_lt hlt]; simp
  rw [h1, h2]; omega
end HalyBits
namespace HalyBits
theorem mask_div (p : Nat) (hp : 7 ≤ p) : (2 ^ (p + 1) - 1) / 256 = 2 ^ (p - 7) - 1 := by
  have := ones_div (p + 1) 8 (by omega)
  rw [show p + 1 - 8 = p - 7 by omega] at this
  exact this
theorem mask_lt (k : Nat) (h : k ≤ 64) : 2 ^ k - 1 < 18446744073709551616 := by
  have h1 : 2 ^ k ≤ 2 ^ 64 := Nat.pow_le_pow_right (by decide) h
  have h2 : 0 < 2 ^ k := Nat.two_pow_pos _
  have h3 : (2 : Nat) ^ 64 = 18446744073709551616 := by decide
  omega
theorem mask_up (p : Nat) (hp : 7 ≤ p) (hp' : p ≤ 55) : (2 ^ (p - 7) - 1) * 256 < 18446744073709551616 ∧ ((2 ^ (p - 7) - 1) * 256 ||| 255) = 2 ^ (p + 1) - 1 := by
  have h := ones_shl_or (p - 7) 8
  rw [show p - 7 + 8 = p + 1 by omega] at h
  refine ⟨?_, h⟩
  have h1 := mask_lt (p - 7) (by omega)
  have h2 : 2 ^ (p - 7) ≤ 2 ^ 48 := Nat.pow_le_pow_right (by decide) (by omega)
  have h3 : (2 : Nat) ^ 48 = 281474976710656 := by decide
  omega
end HalyBits
namespace HalyBits
theorem low_lt (p q s : Nat) (e : 2 ^ (p + 1) * q + 2 ^ p = s) (hs : s < 18446744073709551616) : p < 64 := by
  rcases Nat.lt_or_ge p 64 with h | h
  · exact h
  · have h1 : 2 ^ 64 ≤ 2 ^ p := Nat.pow_le_pow_right (by decide) h
    have h3 : (2 : Nat) ^ 64 = 18446744073709551616 := by decide
    omega
end HalyBits
namespace HalyBits
/-- Bits set above p leave the lowest set bit at p. -/
theorem or_above (p q r : Nat) : (2 ^ (p + 1) * q + 2 ^ p) ||| 2 ^ (p + 1) * r = 2 ^ (p + 1) * (q ||| r) + 2 ^ p := by
  have h1 : 2 ^ p < 2 ^ (p + 1) := Nat.pow_lt_pow_right (by decide) (Nat.lt_succ_self _)
  apply Nat.eq_of_testBit_eq
  intro j
  rw [Nat.testBit_or, Nat.testBit_two_pow_mul_add _ h1, Nat.testBit_two_pow_mul_add _ h1, Nat.testBit_two_pow_mul]
  by_cases hj : j < p + 1
  · have : ¬ (j ≥ p + 1) := by omega
    simp [hj, this]
  · have : j ≥ p + 1 := by omega
    simp [hj, this, Nat.testBit_or]
theorem shl_form (p t : Nat) (hp : p < 63) : t * 2 ^ (p + 1) % 18446744073709551616 = 2 ^ (p + 1) * (t % 2 ^ (63 - p)) := by
  have e2 : (18446744073709551616 : Nat) = 2 ^ (p + 1) * 2 ^ (63 - p) := by
    rw [← Nat.pow_add, show p + 1 + (63 - p) = 64 by omega]
  rw [e2, Nat.mul_comm t, Nat.mul_mod_mul_left]
theorem ones_succ (j : Nat) : (2 ^ j - 1) ||| 2 ^ j = 2 ^ (j + 1) - 1 := by
  apply Nat.eq_of_testBit_eq
  intro i
  rw [Nat.testBit_or, tb_ones, tb_ones, Nat.testBit_two_pow, Bool.eq_iff_iff]
  simp; omega
/-- the mask below p's byte, for every p -/
theorem mask_any (p : Nat) : (2 ^ (p + 1) - 1) / 256 = 2 ^ (p - 7) - 1 := by
  by_cases hp : 7 ≤ p
  · exact mask_div p hp
  · have h1 : 2 ^ (p + 1) ≤ 2 ^ 7 := Nat.pow_le_pow_right (by decide) (by omega)
    have h3 : (2 : Nat) ^ 7 = 128 := by decide
    rw [show p - 7 = 0 by omega]; simp; omega
end HalyBits
