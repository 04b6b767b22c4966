import Derived.Test.YtbpggopjiogimaaFMod2
import Derived.Test.YtbpggopjiogimaaFFloor
import Derived.Test.YtbpggopjiogimaaFNext
set_option linter.unusedVariables false
namespace Go.Proofs.Ytbpggopjiogimaa.Plain
open Go Go.RowKit Ieee
theorem val_units (r c : Nat) (h1 : mant r = c * 2 ^ 51) (h2 : expo r = 1023) : val r = c * oneU := by
  obtain ⟨k, hk⟩ : ∃ k : Nat, k = expo r := ⟨_, rfl⟩
  rw [val_eq, h1, ← hk, oneU_add 51 k (by omega), Nat.mul_assoc]
theorem val_three : val 4613937818241073152 = 3 * oneU := val_units _ _ (by decide) (by decide)
theorem val_two : val 4611686018427387904 = 2 * oneU := val_units _ _ (by decide) (by decide)
theorem mod_three_two : modW 4613937818241073152 4611686018427387904 = 4607182418800017408 := by
  have r1 : rung 4613937818241073152 = 4613937818241073152 := by decide
  have r2 : rung 4611686018427387904 = 4611686018427387904 := by decide
  have n1 : negB 4613937818241073152 = false := by decide
  obtain ⟨R, h1, h2, h3⟩ := mod_word 4613937818241073152 4611686018427387904 (by rw [r1]; omega) (by rw [r2]; omega) (by rw [r2]; omega)
  rw [r1, r2, val_three, val_two] at h2
  have h5 : ∀ u : Nat, 3 * u % (2 * u) = u := fun u => by rw [Nat.mul_mod_mul_right]; exact Nat.one_mul _
  rw [h5, ← val_one] at h2
  rw [h3, n1]
  have h4 : R = 4607182418800017408 := val_inj h2
  rw [h4]; rfl
def topBit (n : Bool) : Nat := if n then 1 else 0
theorem top_bit (b : Nat) (hb : b < 18446744073709551616) : (b : Int) / 9223372036854775808 = (topBit (negB b) : Int) := by
  rw [negB_iff b hb]; unfold topBit
  by_cases h : 9223372036854775808 ≤ b <;> simp [h] <;> omega
end Go.Proofs.Ytbpggopjiogimaa.Plain
