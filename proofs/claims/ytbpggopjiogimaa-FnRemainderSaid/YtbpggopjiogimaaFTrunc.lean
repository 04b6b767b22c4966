import Derived.Test.YtbpggopjiogimaaFSpec
import Derived.Test.YtbpggopjiogimaaFOrd
set_option linter.unusedVariables false
namespace Go.Proofs.Ytbpggopjiogimaa.Plain
open Go Go.RowKit
theorem clear_low (b k : Nat) (hb : b < 18446744073709551616) (hk : k ≤ 64) : b &&& ((2 ^ (64 - k) - 1) * 2 ^ k) = b / 2 ^ k * 2 ^ k := by
  apply Nat.eq_of_testBit_eq
  intro i
  rw [Nat.testBit_and, Nat.testBit_mul_two_pow, Nat.testBit_mul_two_pow, Nat.testBit_two_pow_sub_one, Nat.testBit_div_two_pow]
  by_cases h : k ≤ i
  · rw [show i - k + k = i by omega]
    by_cases g : i < 64
    · have : decide (i - k < 64 - k) = true := by simp; omega
      rw [this]; simp [h]
    · have : b.testBit i = false := Nat.testBit_lt_two_pow (Nat.lt_of_lt_of_le hb (by rw [show (18446744073709551616 : Nat) = 2 ^ 64 by decide]; exact Nat.pow_le_pow_right (by decide) (by omega)))
      rw [this]; simp
  · simp [h]
theorem andNot_low (b k : Nat) (hb : b < 18446744073709551616) (hk : k ≤ 63) : bits .andNot .u64 (b : Int) ((2 ^ k - 1 : Nat) : Int) = ((b / 2 ^ k * 2 ^ k : Nat) : Int) := by
  rw [andNot64N]
  have h1 : (2 : Nat) ^ k ≤ 2 ^ 63 := Nat.pow_le_pow_right (by decide) hk
  have h0 : 0 < (2 : Nat) ^ k := Nat.pow_pos (by decide)
  have h2 : 18446744073709551615 - (2 ^ k - 1) % 18446744073709551616 = (2 ^ (64 - k) - 1) * 2 ^ k := by
    rw [Nat.sub_mul, ← Nat.pow_add, show 64 - k + k = 64 by omega, Nat.one_mul, Nat.mod_eq_of_lt (by omega)]; omega
  rw [h2, Nat.mod_eq_of_lt hb, clear_low b k hb (by omega)]
theorem abs_lt_one (b : Nat) : (FloatKind.f64.format.order (rung b) 4607182418800017408 == some Ordering.lt) = decide (ef b < 1023) := by
  cases h : isNan b
  · rw [ord_lt _ _ (by rw [nan_rung]; exact h) (by decide)]
    have hp : place 4607182418800017408 = 4607182418800017408 := by decide
    have hq : place (rung b) = (rung b : Int) := by unfold place; rw [neg_rung, rung_rung]; rfl
    rw [hp, hq]
    have h1 := rung_fields b; have h2 := mf_lt b
    rw [Bool.eq_iff_iff]; simp; omega
  · show (Ieee.double.order (rung b) 4607182418800017408 == some Ordering.lt) = _
    rw [order_nan_left _ _ (by rw [nan_rung]; exact h)]
    have h1 := rung_fields b; have h2 := mf_lt b
    unfold isNan at h; simp at h
    have : ¬ ef b < 1023 := by omega
    simp [this]
/-- the word that trunc gives -/
def truncW (b : Nat) : Nat := if ef b < 1023 then wordD (negB b) 0 else if ef b < 1075 then b / 2 ^ (1075 - ef b) * 2 ^ (1075 - ef b) else b
/-- the word of the number cut to an integer, as the reference makes it -/
def cutK (b : Nat) : Nat := min (-expW b).toNat 60
theorem trunc_near (b : Nat) (hb : b < 18446744073709551616) (h : expW b < 0) : truncW b = near (negB b) (mantW b / 2 ^ cutK b) 0 := by
  have h0 := rung_fields b; have h2 := mf_lt b; have h3 := mantW_lt b
  unfold truncW cutK
  by_cases h1 : ef b < 1023
  · rw [if_pos h1]
    have hk : 53 ≤ min (-expW b).toNat 60 := by
      by_cases hz : ef b = 0
      · rw [expW_sub b hz]; omega
      · rw [expW_norm b hz]; omega
    have hp : (2 : Nat) ^ 53 ≤ 2 ^ min (-expW b).toNat 60 := Nat.pow_le_pow_right (by decide) hk
    rw [Nat.div_eq_of_lt (Nat.lt_of_lt_of_le h3 (by rw [show (9007199254740992 : Nat) = 2 ^ 53 by decide]; exact hp)), near_zero]
  · have hz : ef b ≠ 0 := by omega
    have he := expW_norm b hz
    have h4 : ef b < 1075 := by omega
    rw [if_neg h1, if_pos h4]
    have hk : min (-expW b).toNat 60 = 1075 - ef b := by omega
    rw [hk]
    obtain ⟨k, hkk⟩ : ∃ k, k = 1075 - ef b := ⟨_, rfl⟩
    rw [← hkk]
    have hk52 : k ≤ 52 := by omega
    have hs := near_scale (negB b) (mantW b / 2 ^ k) k 0
    rw [← hs]
    have hd : 2 ^ k * 2 ^ (52 - k) = 4503599627370496 := by rw [← Nat.pow_add, show k + (52 - k) = 52 by omega]
    have hM := mantW_norm b hz
    have hkp : 0 < (2 : Nat) ^ k := Nat.pow_pos (by decide)
    -- the cut mantissa
    have e1 : mantW b / 2 ^ k * 2 ^ k = 4503599627370496 + mf b / 2 ^ k * 2 ^ k := by
      rw [hM, ← hd, Nat.mul_add_div hkp, Nat.add_mul, Nat.mul_comm (2 ^ (52 - k)) (2 ^ k)]
    have e2 : mf b / 2 ^ k * 2 ^ k ≤ mf b := Nat.div_mul_le_self _ _
    rw [e1, near_mid (negB b) _ _ (by omega) (by omega) (by omega) (by omega)]
    have e3 : (0 - (k : Int) + 1075).toNat = ef b := by omega
    have e4 : (4503599627370496 + mf b / 2 ^ k * 2 ^ k) % 4503599627370496 = mf b / 2 ^ k * 2 ^ k := by omega
    rw [e3, e4]
    -- the cut word
    have e5 := word_of b hb
    have e6 : b = (if negB b then 9223372036854775808 else 0) + ef b * 4503599627370496 + mf b := by
      unfold wordD at e5; split at e5 <;> simp [*] <;> omega
    have e7 : b / 2 ^ k * 2 ^ k = (if negB b then 9223372036854775808 else 0) + ef b * 4503599627370496 + mf b / 2 ^ k * 2 ^ k := by
      generalize hS : (if negB b then 9223372036854775808 else 0) = S at e6 ⊢
      have hS2 : S = (S / 4503599627370496) * 4503599627370496 := by
        rw [← hS]; split <;> rfl
      have e8 : b = 2 ^ k * (2 ^ (52 - k) * (S / 4503599627370496 + ef b)) + mf b := by
        rw [← Nat.mul_assoc, hd, Nat.mul_add]; omega
      have e9 : b / 2 ^ k = 2 ^ (52 - k) * (S / 4503599627370496 + ef b) + mf b / 2 ^ k := by
        conv => lhs; rw [e8]
        rw [Nat.mul_add_div hkp]
      rw [e9, Nat.add_mul, Nat.mul_right_comm, Nat.mul_comm (2 ^ (52 - k)) (2 ^ k), hd, Nat.mul_add]
      omega
    rw [e7]; unfold wordD; split <;> omega
end Go.Proofs.Ytbpggopjiogimaa.Plain
