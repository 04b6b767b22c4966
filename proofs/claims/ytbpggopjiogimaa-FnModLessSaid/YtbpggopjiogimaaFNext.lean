import Derived.Test.YtbpggopjiogimaaFOrd
set_option linter.unusedVariables false
namespace Go.Proofs.Ytbpggopjiogimaa.Plain
open Go Go.RowKit

theorem nan_next (x y : Nat) (h : (isNan x || isNan y) = true) : isNan (nextW x y) = true := by
  unfold nextW; rw [if_pos h]; decide
theorem next_up (x : Nat) (hx : x < 18446744073709551616) (hf : rung x < 9218868437227405312) (h2 : 2 ≤ rung x) :
    nextW x 9218868437227405312 < 18446744073709551616 ∧ isNan (nextW x 9218868437227405312) = false ∧ place (nextW x 9218868437227405312) = place x + 1 ∧ nextW (nextW x 9218868437227405312) 18442240474082181120 = x := by
  have nx : isNan x = false := by unfold isNan; simp; omega
  have ni : isNan 9218868437227405312 = false := by decide
  have nj : isNan 18442240474082181120 = false := by decide
  have pi : place 9218868437227405312 = 9218868437227405312 := by decide
  have pj : place 18442240474082181120 = -9218868437227405312 := by decide
  have px := place_num x hx
  have hn := negB_iff x hx
  have hr : rung x = x % 9223372036854775808 := rfl
  by_cases g : 9223372036854775808 ≤ x
  · have e : nextW x 9218868437227405312 = x - 1 := by
      unfold nextW; rw [nx, ni, pi, hn]; simp only [Bool.or_self, Bool.false_eq_true, if_false]
      rw [if_pos g] at px
      rw [if_neg (by omega), if_neg (by omega), if_neg]
      simp [g]; omega
    rw [e]
    have hx1 : x - 1 < 18446744073709551616 := by omega
    have p1 := place_num (x - 1) hx1
    have n1 := negB_iff (x - 1) hx1
    have nn : isNan (x - 1) = false := by unfold isNan rung; simp; omega
    have hr1 : rung (x - 1) = (x - 1) % 9223372036854775808 := rfl
    rw [if_pos g] at px
    rw [if_pos (by omega)] at p1
    refine ⟨hx1, nn, by omega, ?_⟩
    unfold nextW; rw [nn, nj, pj, n1]; simp only [Bool.or_self, Bool.false_eq_true, if_false]
    rw [if_neg (by omega), if_neg (by omega), if_pos]
    · omega
    · have a : decide (place (x - 1) < -9218868437227405312) = false := by simp; omega
      have b : decide (9223372036854775808 ≤ x - 1) = true := by simp; omega
      rw [a, b]; rfl
  · have e : nextW x 9218868437227405312 = x + 1 := by
      unfold nextW; rw [nx, ni, pi, hn]; simp only [Bool.or_self, Bool.false_eq_true, if_false]
      rw [if_neg g] at px
      rw [if_neg (by omega), if_neg (by omega), if_pos]
      simp [g]; omega
    rw [e]
    have hx1 : x + 1 < 18446744073709551616 := by omega
    have p1 := place_num (x + 1) hx1
    have n1 := negB_iff (x + 1) hx1
    have nn : isNan (x + 1) = false := by unfold isNan rung; simp; omega
    have hr1 : rung (x + 1) = (x + 1) % 9223372036854775808 := rfl
    rw [if_neg g] at px
    rw [if_neg (by omega)] at p1
    refine ⟨hx1, nn, by omega, ?_⟩
    unfold nextW; rw [nn, nj, pj, n1]; simp only [Bool.or_self, Bool.false_eq_true, if_false]
    rw [if_neg (by omega), if_neg (by omega), if_neg]
    · omega
    · have a : decide (place (x + 1) < -9218868437227405312) = false := by simp; omega
      have b : decide (9223372036854775808 ≤ x + 1) = false := by simp; omega
      rw [a, b]; simp
theorem next_dn (x : Nat) (hx : x < 18446744073709551616) (hf : rung x < 9218868437227405312) (h2 : 2 ≤ rung x) :
    nextW x 18442240474082181120 < 18446744073709551616 ∧ isNan (nextW x 18442240474082181120) = false ∧ place (nextW x 18442240474082181120) = place x - 1 ∧ nextW (nextW x 18442240474082181120) 9218868437227405312 = x := by
  have nx : isNan x = false := by unfold isNan; simp; omega
  have ni : isNan 9218868437227405312 = false := by decide
  have nj : isNan 18442240474082181120 = false := by decide
  have pi : place 9218868437227405312 = 9218868437227405312 := by decide
  have pj : place 18442240474082181120 = -9218868437227405312 := by decide
  have px := place_num x hx
  have hn := negB_iff x hx
  have hr : rung x = x % 9223372036854775808 := rfl
  by_cases g : 9223372036854775808 ≤ x
  · have e : nextW x 18442240474082181120 = x + 1 := by
      unfold nextW; rw [nx, nj, pj, hn]; simp only [Bool.or_self, Bool.false_eq_true, if_false]
      rw [if_pos g] at px
      rw [if_neg (by omega), if_neg (by omega), if_pos]
      simp [g]; omega
    rw [e]
    have hx1 : x + 1 < 18446744073709551616 := by omega
    have p1 := place_num (x + 1) hx1
    have n1 := negB_iff (x + 1) hx1
    have nn : isNan (x + 1) = false := by unfold isNan rung; simp; omega
    have hr1 : rung (x + 1) = (x + 1) % 9223372036854775808 := rfl
    rw [if_pos g] at px
    rw [if_pos (by omega)] at p1
    refine ⟨hx1, nn, by omega, ?_⟩
    unfold nextW; rw [nn, ni, pi, n1]; simp only [Bool.or_self, Bool.false_eq_true, if_false]
    rw [if_neg (by omega), if_neg (by omega), if_neg]
    · omega
    · have a : decide (place (x + 1) < 9218868437227405312) = true := by simp; omega
      have b : decide (9223372036854775808 ≤ x + 1) = true := by simp; omega
      rw [a, b]; simp
  · have e : nextW x 18442240474082181120 = x - 1 := by
      unfold nextW; rw [nx, nj, pj, hn]; simp only [Bool.or_self, Bool.false_eq_true, if_false]
      rw [if_neg g] at px
      rw [if_neg (by omega), if_neg (by omega), if_neg]
      simp [g]; omega
    rw [e]
    have hx1 : x - 1 < 18446744073709551616 := by omega
    have p1 := place_num (x - 1) hx1
    have n1 := negB_iff (x - 1) hx1
    have nn : isNan (x - 1) = false := by unfold isNan rung; simp; omega
    have hr1 : rung (x - 1) = (x - 1) % 9223372036854775808 := rfl
    rw [if_neg g] at px
    rw [if_neg (by omega)] at p1
    refine ⟨hx1, nn, by omega, ?_⟩
    unfold nextW; rw [nn, ni, pi, n1]; simp only [Bool.or_self, Bool.false_eq_true, if_false]
    rw [if_neg (by omega), if_neg (by omega), if_pos]
    · omega
    · have a : decide (place (x - 1) < 9218868437227405312) = true := by simp; omega
      have b : decide (9223372036854775808 ≤ x - 1) = false := by simp; omega
      rw [a, b]; rfl
/-- the field of the power in its place -/
theorem exp_and (b : Nat) : bits .and .u64 (b : Int) 9218868437227405312 = ((ef b * 4503599627370496 : Nat) : Int) := by
  rw [show (9218868437227405312 : Int) = ((9218868437227405312 : Nat) : Int) from rfl, and64N]
  have h1 : b &&& 9218868437227405312 = ef b * 4503599627370496 := by
    apply Nat.eq_of_testBit_eq
    intro i
    rw [Nat.testBit_and, show (9218868437227405312 : Nat) = (2 ^ 11 - 1) * 2 ^ 52 by decide, show (4503599627370496 : Nat) = 2 ^ 52 by decide, Nat.testBit_mul_two_pow, Nat.testBit_mul_two_pow, Nat.testBit_two_pow_sub_one]
    unfold ef
    rw [show (2048 : Nat) = 2 ^ 11 by decide, show (4503599627370496 : Nat) = 2 ^ 52 by decide, Nat.testBit_mod_two_pow, Nat.testBit_div_two_pow]
    by_cases h : 52 ≤ i
    · simp [h]
      by_cases h' : i - 52 < 11
      · simp [h']
      · simp [h']
    · simp [h]
  rw [h1]; have := ef_lt b; congr 1; omega
end Go.Proofs.Ytbpggopjiogimaa.Plain
