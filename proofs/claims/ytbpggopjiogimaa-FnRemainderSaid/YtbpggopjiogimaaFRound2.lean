import Derived.Test.YtbpggopjiogimaaFRound
set_option linter.unusedVariables false
namespace Go.Proofs.Ytbpggopjiogimaa.Plain
open Go Go.RowKit
/-- adding a carry c below 2^k to a word and clearing its low k bits: what the parts become -/
theorem carry_word (b c k : Nat) (hb : b < 18446744073709551616) (hk : k ≤ 52) (hE : ef b = 1075 - k) (hc : c < 2 ^ k) (n : Bool) (hn : negB b = n) :
    (b + c) / 2 ^ k * 2 ^ k = near n ((mantW b + c) / 2 ^ k) 0 := by
  have hz : ef b ≠ 0 := by omega
  have hM := mantW_norm b hz
  have hm := mf_lt b
  have hf := fields_word b hb
  rw [hn] at hf
  have hs := signW_field n
  have hd : 2 ^ k * 2 ^ (52 - k) = 4503599627370496 := by rw [← Nat.pow_add, show k + (52 - k) = 52 by omega]
  have hkp : 0 < (2 : Nat) ^ k := Nat.pow_pos (by decide)
  have hk52 : (2 : Nat) ^ k ≤ 2 ^ 52 := Nat.pow_le_pow_right (by decide) hk
  -- the mantissa
  have e1 : (mantW b + c) / 2 ^ k = 2 ^ (52 - k) + (mf b + c) / 2 ^ k := by
    rw [hM, Nat.add_assoc, ← hd, Nat.mul_add_div hkp]
  have e2 : (mantW b + c) / 2 ^ k * 2 ^ k = 4503599627370496 + (mf b + c) / 2 ^ k * 2 ^ k := by
    rw [e1, Nat.add_mul, Nat.mul_comm (2 ^ (52 - k)) (2 ^ k), hd]
  have e3 : (mf b + c) / 2 ^ k ≤ 2 ^ (52 - k) := by
    have : mf b + c < 2 ^ k * (2 ^ (52 - k) + 1) := by rw [Nat.mul_add, hd]; omega
    have := Nat.div_lt_of_lt_mul this
    omega
  have e4 : (mf b + c) / 2 ^ k * 2 ^ k ≤ 4503599627370496 := by
    rw [← hd, Nat.mul_comm (2 ^ k) (2 ^ (52 - k))]; exact Nat.mul_le_mul_right _ e3
  rw [near_carry n (ef b) k _ hk hE (by rw [e2]; omega) (by rw [e2]; omega), e2]
  -- the word
  have e8 : b + c = 2 ^ k * (2 ^ (52 - k) * (signW n / 4503599627370496 + ef b)) + (mf b + c) := by
    rw [← Nat.mul_assoc, hd, Nat.mul_add]; omega
  have e9 : (b + c) / 2 ^ k = 2 ^ (52 - k) * (signW n / 4503599627370496 + ef b) + (mf b + c) / 2 ^ k := by
    conv => lhs; rw [e8]
    rw [Nat.mul_add_div hkp]
  rw [e9, Nat.add_mul, Nat.mul_right_comm, Nat.mul_comm (2 ^ (52 - k)) (2 ^ k), hd, Nat.mul_add]
  have hw : ∀ r, wordD n r = signW n + r := fun r => by unfold wordD signW; cases n <;> simp
  rw [hw]
  omega
theorem div_half (M j : Nat) : (M + 2 ^ j) / 2 ^ (j + 1) = M / 2 ^ (j + 1) + (if 2 ^ j ≤ M % 2 ^ (j + 1) then 1 else 0) := by
  have hp : (2 : Nat) ^ (j + 1) = 2 * 2 ^ j := by rw [Nat.pow_succ, Nat.mul_comm]
  have h0 : 0 < (2 : Nat) ^ j := Nat.pow_pos (by decide)
  rw [hp]
  generalize (2 : Nat) ^ j = h at h0
  have e := Nat.div_add_mod M (2 * h)
  have l := Nat.mod_lt M (show 0 < 2 * h by omega)
  generalize M / (2 * h) = q at e ⊢
  generalize M % (2 * h) = r at e l ⊢
  split
  · rw [show M + h = 2 * h * (q + 1) + (r - h) by rw [Nat.mul_add]; omega, Nat.mul_add_div (by omega), Nat.div_eq_of_lt (by omega)]
  · rw [show M + h = 2 * h * q + (r + h) by omega, Nat.mul_add_div (by omega), Nat.div_eq_of_lt (by omega)]
end Go.Proofs.Ytbpggopjiogimaa.Plain
