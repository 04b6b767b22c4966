import Derived.Test.YtbpggopjiogimaaFTrunc
set_option linter.unusedVariables false
namespace Go.Proofs.Ytbpggopjiogimaa.Plain
open Go Go.RowKit
theorem fields_word (b : Nat) (hb : b < 18446744073709551616) : b = (signW (negB b)) + ef b * 4503599627370496 + mf b := by
  have e := word_of b hb
  have h := rung_fields b
  unfold wordD at e; unfold signW; split at e <;> simp [*] <;> omega
theorem signW_field (n : Bool) : signW n = (signW n / 4503599627370496) * 4503599627370496 := by cases n <;> rfl
/-- a number of the form (2^52 + something below 2^53 that is a multiple of 2^k) * 2^-k is the word that its parts add up to, also where the fraction overflows into the power -/
theorem near_carry (n : Bool) (E k t : Nat) (hk : k ≤ 52) (hE : E = 1075 - k) (ht : t * 2 ^ k ≤ 9007199254740992) (ht1 : 4503599627370496 ≤ t * 2 ^ k) :
    near n t 0 = wordD n (E * 4503599627370496 + (t * 2 ^ k - 4503599627370496)) := by
  rw [← near_scale n t k 0]
  generalize t * 2 ^ k = T at ht ht1 ⊢
  by_cases h : T < 9007199254740992
  · rw [near_fit n _ _ (by omega) h (Or.inl ht1)]
    have e : min ((0 - (k : Int) + 1074).toNat * 4503599627370496 + T) 9218868437227405312 = E * 4503599627370496 + (T - 4503599627370496) := by omega
    rw [e]
  · obtain rfl : T = 2 * 4503599627370496 := by omega
    rw [show (0 - (k : Int)) = (1 - (k : Int)) - 1 by omega, near_double, near_fit n _ _ (by omega) (by omega) (Or.inl (by omega))]
    have e : min ((1 - (k : Int) + 1074).toNat * 4503599627370496 + 4503599627370496) 9218868437227405312 = E * 4503599627370496 + (2 * 4503599627370496 - 4503599627370496) := by omega
    rw [e]
end Go.Proofs.Ytbpggopjiogimaa.Plain
