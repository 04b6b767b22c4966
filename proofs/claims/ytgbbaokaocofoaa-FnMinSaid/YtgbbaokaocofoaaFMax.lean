import Derived.Test.YtgbbaokaocofoaaFOrd
set_option linter.unusedVariables false
namespace Go.Proofs.Ytgbbaokaocofoaa.Plain
open Go Go.RowKit
theorem isInfS_one (x : Nat) (hx : x < 18446744073709551616) : isInfS x 1 = decide (x = 9218868437227405312) := by
  unfold isInfS isInf; rw [negB_iff x hx]; unfold rung
  rw [Bool.eq_iff_iff]; simp; omega
theorem isInfS_minus (x : Nat) (hx : x < 18446744073709551616) : isInfS x (-1) = decide (x = 18442240474082181120) := by
  unfold isInfS isInf; rw [negB_iff x hx]; unfold rung
  rw [Bool.eq_iff_iff]; simp; omega
theorem zero_word (x : Nat) (hx : x < 18446744073709551616) (h : rung x = 0) : x = 0 ∨ x = 9223372036854775808 := by
  unfold rung at h; omega
theorem or_abs (x y : Nat) (hx : x < 18446744073709551616) (hy : y < 18446744073709551616) : bits .andNot .u64 (bits .or .u64 (x : Int) (y : Int)) 9223372036854775808 = (rung (x ||| y) : Int) := by
  have h : x ||| y < 18446744073709551616 := Nat.or_lt_two_pow (n := 64) hx hy
  rw [or64N, Nat.mod_eq_of_lt h, abs_num _ h]
theorem rung_or (x y : Nat) : rung (x ||| y) = rung x ||| rung y := by
  unfold rung; rw [show (9223372036854775808 : Nat) = 2 ^ 63 by decide, ← Nat.and_two_pow_sub_one_eq_mod, ← Nat.and_two_pow_sub_one_eq_mod, ← Nat.and_two_pow_sub_one_eq_mod, Nat.and_or_distrib_right]
theorem rung_or_zero (x y : Nat) : ((rung (x ||| y) : Int) == 0) = decide (rung x = 0 ∧ rung y = 0) := by
  rw [beq0, rung_or, Bool.eq_iff_iff]; simp
end Go.Proofs.Ytgbbaokaocofoaa.Plain
