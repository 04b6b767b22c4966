import Derived.Test.YtbpggopjiogimaaFRound3
set_option linter.unusedVariables false
namespace Go.Proofs.Ytbpggopjiogimaa.Plain
open Go Go.RowKit
/-- what is added before the low bits are cleared -/
def evenC (b j : Nat) : Nat := 2 ^ j - 1 + b / 2 ^ (j + 1) % 2
/-- the word that RoundToEven gives -/
def evenW (b : Nat) : Nat := if ef b < 1022 then signW (negB b) else if ef b = 1022 then (if mf b = 0 then signW (negB b) else wordD (negB b) 4607182418800017408)
  else if ef b < 1075 then (b + evenC b (1074 - ef b)) / 2 ^ (1074 - ef b + 1) * 2 ^ (1074 - ef b + 1) else b
/-- whether the nearest integer (of two the even one) is the greater magnitude -/
def moreE (M k : Nat) : Bool := decide (2 ^ (k - 1) < M % 2 ^ k) || (decide (M % 2 ^ k = 2 ^ (k - 1)) && decide (M / 2 ^ k % 2 = 1))
theorem div_even (M j : Nat) : (M + (2 ^ j - 1 + M / 2 ^ (j + 1) % 2)) / 2 ^ (j + 1) = M / 2 ^ (j + 1) + (if moreE M (j + 1) then 1 else 0) := by
  have hp : (2 : Nat) ^ (j + 1) = 2 * 2 ^ j := by rw [Nat.pow_succ, Nat.mul_comm]
  have h0 : 0 < (2 : Nat) ^ j := Nat.pow_pos (by decide)
  unfold moreE
  rw [show j + 1 - 1 = j by omega, hp]
  generalize (2 : Nat) ^ j = h at h0
  have e := Nat.div_add_mod M (2 * h)
  have l := Nat.mod_lt M (show 0 < 2 * h by omega)
  generalize M / (2 * h) = q at e ⊢
  generalize M % (2 * h) = r at e l ⊢
  have o := Nat.mod_two_eq_zero_or_one q
  by_cases c : h < r ∨ (r = h ∧ q % 2 = 1)
  · have : (decide (h < r) || (decide (r = h) && decide (q % 2 = 1))) = true := by simpa using c
    rw [this, if_pos rfl]
    rw [show M + (h - 1 + q % 2) = 2 * h * (q + 1) + (r + q % 2 - h - 1) by rw [Nat.mul_add]; omega, Nat.mul_add_div (by omega), Nat.div_eq_of_lt (by omega)]
  · have : (decide (h < r) || (decide (r = h) && decide (q % 2 = 1))) = false := by
      rw [← Bool.not_eq_true]; simpa using c
    rw [this, if_neg (by simp)]
    rw [show M + (h - 1 + q % 2) = 2 * h * q + (r + (h - 1 + q % 2)) by omega, Nat.mul_add_div (by omega), Nat.div_eq_of_lt (by omega)]
theorem odd_same (b k : Nat) (hb : b < 18446744073709551616) (hk : k ≤ 52) (hE : ef b = 1075 - k) : b / 2 ^ k % 2 = mantW b / 2 ^ k % 2 := by
  have hz : ef b ≠ 0 := by omega
  have hM := mantW_norm b hz
  have hf := fields_word b hb
  have hs := signW_field (negB b)
  have hkp : 0 < (2 : Nat) ^ k := Nat.pow_pos (by decide)
  have hd : 2 ^ k * 2 ^ (52 - k) = 4503599627370496 := by rw [← Nat.pow_add, show k + (52 - k) = 52 by omega]
  have e8 : b = 2 ^ k * (2 ^ (52 - k) * (signW (negB b) / 4503599627370496 + ef b)) + mf b := by
    rw [← Nat.mul_assoc, hd, Nat.mul_add]; omega
  have e9 : b / 2 ^ k = 2 ^ (52 - k) * (signW (negB b) / 4503599627370496 + ef b) + mf b / 2 ^ k := by
    conv => lhs; rw [e8]
    rw [Nat.mul_add_div hkp]
  have e1 : mantW b / 2 ^ k = 2 ^ (52 - k) + mf b / 2 ^ k := by rw [hM, ← hd, Nat.mul_add_div hkp]
  rw [e9, e1]
  have hse : signW (negB b) / 4503599627370496 % 2 = 0 := by unfold signW; cases negB b <;> rfl
  by_cases h : k = 52
  · subst h
    have : ef b = 1023 := by omega
    omega
  · have : (2 : Nat) ^ (52 - k) = 2 * 2 ^ (51 - k) := by rw [show 52 - k = (51 - k) + 1 by omega, Nat.pow_succ, Nat.mul_comm]
    rw [this, Nat.mul_assoc]; omega
theorem even_near (b : Nat) (hb : b < 18446744073709551616) (h : expW b < 0) :
    evenW b = near (negB b) (mantW b / 2 ^ cutK b + (if moreE (mantW b) (cutK b) then 1 else 0)) 0 := by
  have hm := mantW_lt b
  unfold evenW
  have hsw : signW (negB b) = wordD (negB b) 0 := by unfold signW wordD; cases negB b <;> rfl
  by_cases h1 : ef b < 1022
  · rw [if_pos h1]
    have hk : 54 ≤ cutK b := by
      unfold cutK
      by_cases hz : ef b = 0
      · rw [expW_sub b hz]; omega
      · rw [expW_norm b hz]; omega
    have hp : (2 : Nat) ^ 53 ≤ 2 ^ (cutK b - 1) := Nat.pow_le_pow_right (by decide) (by omega)
    have hp2 : (2 : Nat) ^ 53 ≤ 2 ^ cutK b := Nat.pow_le_pow_right (by decide) (by omega)
    have hmo : moreE (mantW b) (cutK b) = false := by
      unfold moreE
      rw [Nat.div_eq_of_lt (by omega), Nat.mod_eq_of_lt (by omega)]
      simp; omega
    rw [hmo, Nat.div_eq_of_lt (by omega), if_neg (by simp), near_zero, hsw]
  · rw [if_neg h1]
    have hz : ef b ≠ 0 := by omega
    have he := expW_norm b hz
    have hM := mantW_norm b hz
    by_cases h2 : ef b = 1022
    · rw [if_pos h2]
      have hk : cutK b = 53 := by unfold cutK; omega
      rw [hk, Nat.div_eq_of_lt (by omega)]
      by_cases h3 : mf b = 0
      · have hmo : moreE (mantW b) 53 = false := by
          unfold moreE
          rw [Nat.div_eq_of_lt (by omega), Nat.mod_eq_of_lt (by omega)]
          simp; omega
        rw [hmo, if_pos h3, if_neg (by simp), near_zero, hsw]
      · have hmo : moreE (mantW b) 53 = true := by
          unfold moreE
          rw [Nat.div_eq_of_lt (by omega), Nat.mod_eq_of_lt (by omega)]
          simp; omega
        rw [hmo, if_neg h3, if_pos rfl, near_one]
    · rw [if_neg h2, if_pos (by omega)]
      have hk : cutK b = 1074 - ef b + 1 := by unfold cutK; omega
      have ho := odd_same b (1074 - ef b + 1) hb (by omega) (by omega)
      have hj := Nat.pow_succ 2 (1074 - ef b)
      have hj0 : 0 < (2 : Nat) ^ (1074 - ef b) := Nat.pow_pos (by decide)
      rw [hk, ← div_even, ← ho, ← carry_word b _ (1074 - ef b + 1) hb (by omega) (by omega) (by omega) _ rfl]
      rfl
end Go.Proofs.Ytbpggopjiogimaa.Plain
