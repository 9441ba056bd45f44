/-
  THE DIVISION OF TWO WORDS BY ONE, DIGIT BY DIGIT: plain numbers, no Go in sight.
-/
import Derived.Lib.BitFns
import Derived.Lib.ItoaNum
namespace Go.Proofs.Qxb6613426a

/-- One digit: 'q' is an estimate from above, 'r' what it leaves of 'u' by the divisor's upper half. -/
def Dig (v1 v0 u d q r : Nat) : Prop := q * v1 + r = u ∧ (u * 4294967296 + d) / (v1 * 4294967296 + v0) ≤ q ∧ q ≤ 4294967297 ∧ r < 4294967296

theorem dig_test {v1 v0 u d q r : Nat} (h : q * v1 + r = u) : q * v0 > 4294967296 * r + d ↔ u * 4294967296 + d < q * (v1 * 4294967296 + v0) := by
  subst h
  have e1 : q * (v1 * 4294967296 + v0) = q * v1 * 4294967296 + q * v0 := by rw [Nat.mul_add, Nat.mul_assoc]
  rw [e1]
  omega

theorem dig_start {v1 v0 u d : Nat} (h1 : 2147483648 ≤ v1) (h2 : v1 < 4294967296) (h3 : v0 < 4294967296) (hu : u < v1 * 4294967296 + v0) (hd : d < 4294967296) : Dig v1 v0 u d (u / v1) (u - u / v1 * v1) := by
  have hle : u / v1 * v1 ≤ u := Nat.div_mul_le_self u v1
  refine ⟨by omega, ?_, ?_, ?_⟩
  · have hq := Nat.div_mul_le_self (u * 4294967296 + d) (v1 * 4294967296 + v0)
    rw [Nat.le_div_iff_mul_le (by omega)]
    generalize (u * 4294967296 + d) / (v1 * 4294967296 + v0) = Q at hq
    have e1 : Q * (v1 * 4294967296 + v0) = Q * v1 * 4294967296 + Q * v0 := by rw [Nat.mul_add, Nat.mul_assoc]
    rw [e1] at hq
    omega
  · have : u / v1 < 4294967298 := by
      rw [Nat.div_lt_iff_lt_mul (by omega)]
      omega
    omega
  · have e : u - u / v1 * v1 = u % v1 := by have := Nat.div_add_mod u v1; rw [Nat.mul_comm] at this; omega
    rw [e]
    have := Nat.mod_lt u (show 0 < v1 by omega)
    omega

theorem dig_lt {v1 v0 u d : Nat} (hu : u < v1 * 4294967296 + v0) (hd : d < 4294967296) : (u * 4294967296 + d) / (v1 * 4294967296 + v0) < 4294967296 := by
  rw [Nat.div_lt_iff_lt_mul (by omega)]
  omega

/-- The test says no: the digit is the true one. -/
theorem dig_done {v1 v0 u d q r : Nat} (hv : 0 < v1) (h : Dig v1 v0 u d q r) (ht : ¬ q * v0 > 4294967296 * r + d) : q = (u * 4294967296 + d) / (v1 * 4294967296 + v0) := by
  obtain ⟨h1, h2, _, _⟩ := h
  rw [dig_test h1] at ht
  have : q ≤ (u * 4294967296 + d) / (v1 * 4294967296 + v0) := by
    rw [Nat.le_div_iff_mul_le (by omega)]
    omega
  omega

/-- The test says yes: the estimate is above the true digit. -/
theorem dig_above {v1 v0 u d q r : Nat} (hu : u < v1 * 4294967296 + v0) (hd : d < 4294967296) (h : q * v1 + r = u) (ht : 4294967296 ≤ q ∨ q * v0 > 4294967296 * r + d) : (u * 4294967296 + d) / (v1 * 4294967296 + v0) < q := by
  rcases ht with ht | ht
  · have := dig_lt hu hd
    omega
  · rw [dig_test h] at ht
    rw [Nat.div_lt_iff_lt_mul (by omega)]
    exact ht

theorem dig_move {v1 u q r : Nat} (hq : 0 < q) (h : q * v1 + r = u) : (q - 1) * v1 + (r + v1) = u := by
  obtain ⟨k, rfl⟩ : ∃ k, q = k + 1 := ⟨q - 1, by omega⟩
  rw [Nat.add_sub_cancel]
  rw [Nat.add_mul] at h
  omega

theorem dig_more {v1 v0 u d q r : Nat} (hu : u < v1 * 4294967296 + v0) (hd : d < 4294967296) (h : Dig v1 v0 u d q r) (ht : 4294967296 ≤ q ∨ q * v0 > 4294967296 * r + d) (hr : r + v1 < 4294967296) : Dig v1 v0 u d (q - 1) (r + v1) := by
  have ha := dig_above hu hd h.1 ht
  exact ⟨dig_move (Nat.zero_lt_of_lt ha) h.1, by omega, by have := h.2.2.1; omega, hr⟩

theorem dig_break {v1 v0 u d q r : Nat} (h3 : v0 < 4294967296) (hu : u < v1 * 4294967296 + v0) (hd : d < 4294967296) (h : Dig v1 v0 u d q r) (ht : 4294967296 ≤ q ∨ q * v0 > 4294967296 * r + d) (hr : 4294967296 ≤ r + v1) : q - 1 = (u * 4294967296 + d) / (v1 * 4294967296 + v0) := by
  have ha := dig_above hu hd h.1 ht
  have hm := dig_move (Nat.zero_lt_of_lt ha) h.1
  have hle := h.2.2.1
  have : q - 1 ≤ (u * 4294967296 + d) / (v1 * 4294967296 + v0) := by
    rw [Nat.le_div_iff_mul_le (by omega)]
    have hn : ¬ (q - 1) * v0 > 4294967296 * (r + v1) + d := by
      have : (q - 1) * v0 ≤ 4294967296 * v0 := Nat.mul_le_mul_right _ (by omega)
      omega
    rw [dig_test hm] at hn
    omega
  omega

/-- Two digits make the quotient. -/
theorem two_digits0 (v x b : Nat) (hv : 0 < v) : x / v * 4294967296 + (x % v * 4294967296 + b) / v = (x * 4294967296 + b) / v := by
  have h := Nat.div_add_mod x v
  have e : x * 4294967296 + b = v * (x / v * 4294967296) + (x % v * 4294967296 + b) := by
    rw [← Nat.mul_assoc]
    omega
  rw [e, Nat.mul_add_div hv]

theorem two_digits (v u a b : Nat) (hv : 0 < v) : (u * 4294967296 + a) / v * 4294967296 + ((u * 4294967296 + a) % v * 4294967296 + b) / v = (u * 18446744073709551616 + (a * 4294967296 + b)) / v := by
  rw [two_digits0 v _ b hv, show (u * 4294967296 + a) * 4294967296 + b = u * 18446744073709551616 + (a * 4294967296 + b) by omega]

/-- The shift that makes the divisor's upper bit 1. -/
theorem shift_top (y : Nat) (h0 : y ≠ 0) (h1 : y < 18446744073709551616) : ∃ s : Nat, s ≤ 63 ∧ Lib.bitLen y = 64 - s ∧ 9223372036854775808 ≤ y * 2 ^ s ∧ y * 2 ^ s < 18446744073709551616 := by
  obtain ⟨b1, b2, b3⟩ := Lib.bitLenAux_bounds 64 y h1 h0
  have hb : Lib.bitLenAux 64 y ≤ 64 := by
    refine Nat.le_of_not_lt fun hc => ?_
    have : 2 ^ 64 ≤ 2 ^ (Lib.bitLenAux 64 y - 1) := Nat.pow_le_pow_right (by omega) (by omega)
    have : (2 : Nat) ^ 64 = 18446744073709551616 := by decide
    omega
  refine ⟨64 - Lib.bitLen y, ?_, ?_, ?_, ?_⟩ <;> (show _; unfold Lib.bitLen)
  · omega
  · omega
  · have e : 2 ^ (Lib.bitLenAux 64 y - 1) * 2 ^ (64 - Lib.bitLenAux 64 y) = 9223372036854775808 := by
      rw [← Nat.pow_add, show Lib.bitLenAux 64 y - 1 + (64 - Lib.bitLenAux 64 y) = 63 by omega]
    rw [← e]
    exact Nat.mul_le_mul_right _ b2
  · have e : 2 ^ Lib.bitLenAux 64 y * 2 ^ (64 - Lib.bitLenAux 64 y) = 18446744073709551616 := by
      rw [← Nat.pow_add, show Lib.bitLenAux 64 y + (64 - Lib.bitLenAux 64 y) = 64 by omega]
    rw [← e]
    exact Nat.mul_lt_mul_of_pos_right b3 (Nat.two_pow_pos _)

/-- The upper word of the dividend, moved up. -/
theorem shift_up (hi lo y s : Nat) (hs : s ≤ 63) (hlo : lo < 18446744073709551616) (hy : hi < y) :
    hi * 2 ^ s + lo / 2 ^ (64 - s) < y * 2 ^ s ∧ lo / 2 ^ (64 - s) < 2 ^ s ∧ (hi * 2 ^ s + lo / 2 ^ (64 - s)) * 18446744073709551616 + lo * 2 ^ s % 18446744073709551616 = (hi * 18446744073709551616 + lo) * 2 ^ s := by
  have e64 : 2 ^ s * 2 ^ (64 - s) = 18446744073709551616 := by
    rw [← Nat.pow_add, show s + (64 - s) = 64 by omega]
  have hdiv : lo / 2 ^ (64 - s) < 2 ^ s := by
    rw [Nat.div_lt_iff_lt_mul (Nat.two_pow_pos _), e64]
    exact hlo
  have hle : (hi + 1) * 2 ^ s ≤ y * 2 ^ s := Nat.mul_le_mul_right _ (by omega)
  rw [Nat.add_mul, Nat.one_mul] at hle
  refine ⟨by omega, hdiv, ?_⟩
  have hq : lo * 2 ^ s / 18446744073709551616 = lo / 2 ^ (64 - s) := by
    rw [← e64, Nat.mul_comm (2 ^ s) (2 ^ (64 - s)), Nat.mul_div_mul_right _ _ (Nat.two_pow_pos _)]
  have := Nat.div_add_mod (lo * 2 ^ s) 18446744073709551616
  rw [hq] at this
  rw [Nat.add_mul (hi * 18446744073709551616) lo, Nat.mul_assoc hi, Nat.mul_comm 18446744073709551616 (2 ^ s), ← Nat.mul_assoc]
  omega

end Go.Proofs.Qxb6613426a
