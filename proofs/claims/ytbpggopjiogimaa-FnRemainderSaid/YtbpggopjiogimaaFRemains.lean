import Derived.Test.YtbpggopjiogimaaFMod2
set_option linter.unusedVariables false
namespace Go.Proofs.Ytbpggopjiogimaa.Plain
open Go Go.RowKit Ieee
/-- one more bit of a division -/
theorem rem_step (a y : Nat) (hy : 0 < y) : (2 * a) % y = (if y ≤ 2 * (a % y) then 2 * (a % y) - y else 2 * (a % y)) ∧ decide (2 * a / y % 2 = 1) = decide (y ≤ 2 * (a % y)) := by
  have h := Nat.div_add_mod a y
  have hl := Nat.mod_lt a hy
  generalize a / y = q at *
  generalize a % y = r at *
  by_cases c : y ≤ 2 * r
  · have e : 2 * a = y * (2 * q + 1) + (2 * r - y) := by
      have h5 : y * (2 * q + 1) = 2 * (y * q) + y := by
        rw [Nat.mul_add, Nat.mul_one, Nat.mul_left_comm]
      rw [h5]; omega
    rw [if_pos c, e, Nat.mul_add_mod, Nat.mod_eq_of_lt (by omega), Nat.mul_add_div hy, Nat.div_eq_of_lt (by omega)]
    refine ⟨rfl, ?_⟩
    have : (2 * q + 1 + 0) % 2 = 1 := by omega
    rw [this]; simp [c]
  · have e : 2 * a = y * (2 * q) + 2 * r := by
      have h5 : y * (2 * q) = 2 * (y * q) := Nat.mul_left_comm _ _ _
      rw [h5]; omega
    rw [if_neg c, e, Nat.mul_add_mod, Nat.mod_eq_of_lt (by omega), Nat.mul_add_div hy, Nat.div_eq_of_lt (by omega)]
    refine ⟨rfl, ?_⟩
    have : (2 * q + 0) % 2 = 0 := by omega
    rw [this]; simp [c]
/-- what is left, in units of the lesser place -/
def remE (x y : Nat) : Int := min (expW x) (expW y)
def remM (x y : Nat) : Nat := (mantW x * 2 ^ (expW x - remE x y).toNat) % (mantW y * 2 ^ (expW y - remE x y).toNat)
def remO (x y : Nat) : Bool := decide ((mantW x * 2 ^ (expW x - remE x y).toNat) / (mantW y * 2 ^ (expW y - remE x y).toNat) % 2 = 1)
theorem rem_scale (x y : Nat) : val (rung x) = (mantW x * 2 ^ (expW x - remE x y).toNat) * 2 ^ (remE x y + 1074).toNat ∧ val (rung y) = (mantW y * 2 ^ (expW y - remE x y).toNat) * 2 ^ (remE x y + 1074).toNat := by
  have hx := expo_exp x
  have hy := expo_exp y
  have lx := expW_lo x
  have ly := expW_lo y
  rw [val_word, val_word, Nat.mul_assoc, Nat.mul_assoc, ← Nat.pow_add, ← Nat.pow_add]
  have e1 : (expW x - remE x y).toNat + (remE x y + 1074).toNat = expo (rung x) := by unfold remE; omega
  have e2 : (expW y - remE x y).toNat + (remE x y + 1074).toNat = expo (rung y) := by unfold remE; omega
  rw [e1, e2]; exact ⟨rfl, rfl⟩
theorem remM_lt (x y : Nat) (h : mantW y ≠ 0) : remM x y < 9007199254740992 := by
  have hx := mantW_lt x
  have hy := mantW_lt y
  unfold remM remE
  by_cases c : expW x ≤ expW y
  · have e : (expW x - min (expW x) (expW y)).toNat = 0 := by omega
    rw [e, Nat.pow_zero, Nat.mul_one]
    exact Nat.lt_of_le_of_lt (Nat.mod_le _ _) hx
  · have e : (expW y - min (expW x) (expW y)).toNat = 0 := by omega
    rw [e, Nat.pow_zero, Nat.mul_one]
    exact Nat.lt_trans (Nat.mod_lt _ (by omega)) hy
theorem rem_mod (x y : Nat) (n : Bool) : near n (remM x y) (remE x y) = near n (val (rung x) % val (rung y)) (-1074) := by
  obtain ⟨h1, h2⟩ := rem_scale x y
  have lx := expW_lo x
  have ly := expW_lo y
  rw [h1, h2, Nat.mul_mod_mul_right]
  have := near_scale n (remM x y) (remE x y + 1074).toNat (remE x y)
  rw [show remE x y - ((remE x y + 1074).toNat : Int) = -1074 by unfold remE; omega] at this
  rw [← this]; rfl
theorem remE_lo (x y : Nat) : -1074 ≤ remE x y ∧ remE x y ≤ 972 := by
  have lx := expW_lo x
  have ly := expW_lo y
  unfold remE; omega
end Go.Proofs.Ytbpggopjiogimaa.Plain
