import Derived.Test.YtbpggopjiogimaaFRound2
set_option linter.unusedVariables false
namespace Go.Proofs.Ytbpggopjiogimaa.Plain
open Go Go.RowKit
/-- the word that Round gives -/
def roundW (b : Nat) : Nat := if ef b < 1022 then signW (negB b) else if ef b = 1022 then wordD (negB b) 4607182418800017408
  else if ef b < 1075 then (b + 2 ^ (1074 - ef b)) / 2 ^ (1074 - ef b + 1) * 2 ^ (1074 - ef b + 1) else b
theorem near_one (n : Bool) : near n 1 0 = wordD n 4607182418800017408 := by
  have h := near_scale n 1 52 0
  rw [← h, Nat.one_mul, show (2 ^ 52 : Nat) = 4503599627370496 by decide, near_fit n _ _ (by omega) (by omega) (Or.inl (by omega))]
  congr 1
theorem round_near (b : Nat) (hb : b < 18446744073709551616) (h : expW b < 0) :
    roundW b = near (negB b) (mantW b / 2 ^ cutK b + (if 2 ^ (cutK b - 1) ≤ mantW b % 2 ^ cutK b then 1 else 0)) 0 := by
  have hm := mantW_lt b
  unfold roundW
  by_cases h1 : ef b < 1022
  · rw [if_pos h1]
    have hk : 54 ≤ cutK b := by
      unfold cutK
      by_cases hz : ef b = 0
      · rw [expW_sub b hz]; omega
      · rw [expW_norm b hz]; omega
    have hp : (2 : Nat) ^ 53 ≤ 2 ^ (cutK b - 1) := Nat.pow_le_pow_right (by decide) (by omega)
    have hp2 : (2 : Nat) ^ 53 ≤ 2 ^ cutK b := Nat.pow_le_pow_right (by decide) (by omega)
    rw [Nat.div_eq_of_lt (by omega), Nat.mod_eq_of_lt (by omega), if_neg (by omega), near_zero]
    unfold signW wordD; cases negB b <;> rfl
  · rw [if_neg h1]
    have hz : ef b ≠ 0 := by omega
    have he := expW_norm b hz
    have hM := mantW_norm b hz
    by_cases h2 : ef b = 1022
    · rw [if_pos h2]
      have hk : cutK b = 53 := by unfold cutK; omega
      rw [hk, Nat.div_eq_of_lt (by omega), Nat.mod_eq_of_lt (by omega), if_pos (by omega), near_one]
    · rw [if_neg h2, if_pos (by omega)]
      have hk : cutK b = 1074 - ef b + 1 := by unfold cutK; omega
      rw [hk, show 1074 - ef b + 1 - 1 = 1074 - ef b by omega, ← div_half, ← carry_word b (2 ^ (1074 - ef b)) (1074 - ef b + 1) hb (by omega) (by omega) (Nat.pow_lt_pow_right (by decide) (by omega)) _ rfl]
end Go.Proofs.Ytbpggopjiogimaa.Plain
