import Derived.Test.YtbpggopjiogimaaFRem2
set_option linter.unusedVariables false
namespace Go.Proofs.Ytbpggopjiogimaa.Plain
open Go Go.RowKit Ieee
/-- the divisor in units of the lesser place -/
def remY (x y : Nat) : Nat := mantW y * 2 ^ (expW y - remE x y).toNat
theorem rem_parts (x y : Nat) (h0 : mantW y ≠ 0) : ∃ P, 0 < P ∧ val (rung y) = remY x y * P ∧ val (rung x) % val (rung y) = remM x y * P ∧ decide (val (rung x) / val (rung y) % 2 = 1) = remO x y ∧ (∀ n m, near n (m * P) (-1074) = near n m (remE x y)) ∧ remM x y < remY x y := by
  obtain ⟨h1, h2⟩ := rem_scale x y
  have lo := remE_lo x y
  have hp : 0 < (2 : Nat) ^ (remE x y + 1074).toNat := Nat.two_pow_pos _
  refine ⟨2 ^ (remE x y + 1074).toNat, hp, h2, ?_, ?_, ?_, ?_⟩
  · rw [h1, h2, Nat.mul_mod_mul_right]; rfl
  · rw [h1, h2, Nat.mul_div_mul_right _ _ hp]; rfl
  · intro n m
    have := near_scale n m (remE x y + 1074).toNat (remE x y)
    rw [show remE x y - ((remE x y + 1074).toNat : Int) = -1074 by omega] at this
    exact this
  · unfold remM remY
    exact Nat.mod_lt _ (Nat.mul_pos (by omega) (Nat.two_pow_pos _))
theorem rem_spec_up (x y : Nat) (h0 : mantW y ≠ 0) (h : remY x y < 2 * remM x y ∨ (remY x y = 2 * remM x y ∧ remO x y = true)) : remW x y = near (!negB x) (remY x y - remM x y) (remE x y) := by
  obtain ⟨P, hP, e1, e2, e3, e4, e5⟩ := rem_parts x y h0
  unfold remW
  rw [if_pos, e2, e1, ← Nat.sub_mul, e4]
  rw [e2, e1, ← Nat.mul_assoc]
  rcases h with h | ⟨h, ho⟩
  · exact Or.inl (Nat.mul_lt_mul_of_pos_right h hP)
  · right
    refine ⟨by rw [h], ?_⟩
    rw [ho] at e3
    rw [← e1]
    simpa using e3
theorem rem_spec_dn (x y : Nat) (h0 : mantW y ≠ 0) (h : 2 * remM x y < remY x y ∨ (remY x y = 2 * remM x y ∧ remO x y = false)) : remW x y = near (negB x) (remM x y) (remE x y) := by
  obtain ⟨P, hP, e1, e2, e3, e4, e5⟩ := rem_parts x y h0
  unfold remW
  rw [if_neg, e2, e4]
  rw [e2, ← Nat.mul_assoc]
  rintro (g | ⟨g, go⟩)
  · rw [e1] at g
    have g2 := Nat.lt_of_mul_lt_mul_right g
    omega
  · rw [e1] at g
    have g2 := Nat.eq_of_mul_eq_mul_right hP g
    rcases h with h | ⟨h, ho⟩
    · omega
    · rw [ho] at e3; simp at e3; omega
end Go.Proofs.Ytbpggopjiogimaa.Plain
