import Derived.Test.YtbpggopjiogimaaFBits
set_option linter.unusedVariables false
namespace Go.Proofs.Ytbpggopjiogimaa.Plain
open Go Go.RowKit

theorem ord_eq (x y : Nat) (hx : isNan x = false) (hy : isNan y = false) : (FloatKind.f64.format.order x y == some Ordering.eq) = decide (place x = place y) := by
  show (Ieee.double.order x y == some Ordering.eq) = _
  rw [order_eq x y hx hy]
  rcases Int.lt_trichotomy (place x) (place y) with g | g | g
  · rw [compare_int_lt g]; have : ¬ place x = place y := by omega
    simp [this]
  · rw [g, compare_int_eq]; simp
  · rw [compare_int_gt g]; have : ¬ place x = place y := by omega
    simp [this]
theorem ord_lt (x y : Nat) (hx : isNan x = false) (hy : isNan y = false) : (FloatKind.f64.format.order x y == some Ordering.lt) = decide (place x < place y) := by
  show (Ieee.double.order x y == some Ordering.lt) = _
  rw [order_eq x y hx hy]
  rcases Int.lt_trichotomy (place x) (place y) with g | g | g
  · rw [compare_int_lt g]; simp [g]
  · rw [g, compare_int_eq]; simp
  · rw [compare_int_gt g]; have : ¬ place x < place y := by omega
    simp [this]
theorem ord_gt (x y : Nat) (hx : isNan x = false) (hy : isNan y = false) : (FloatKind.f64.format.order x y == some Ordering.gt) = decide (place y < place x) := by
  show (Ieee.double.order x y == some Ordering.gt) = _
  rw [order_eq x y hx hy]
  rcases Int.lt_trichotomy (place x) (place y) with g | g | g
  · rw [compare_int_lt g]; have : ¬ place y < place x := by omega
    simp [this]
  · rw [g, compare_int_eq]; simp
  · rw [compare_int_gt g]; simp [g]
theorem place_zero : place 0 = 0 := by decide
theorem nan_zero : isNan 0 = false := by decide
theorem place_eq_zero (x : Nat) : place x = 0 ↔ rung x = 0 := by unfold place; split <;> omega
theorem place_pos (x : Nat) (h : rung x ≠ 0) : decide (0 < place x) = !negB x := by
  unfold place; cases negB x <;> simp <;> omega
theorem place_num (x : Nat) (hx : x < 18446744073709551616) : place x = if 9223372036854775808 ≤ x then -(x - 9223372036854775808 : Int) else (x : Int) := by
  unfold place; rw [negB_iff x hx]; unfold rung
  by_cases h : 9223372036854775808 ≤ x <;> simp [h] <;> omega
/-- the word of the next number -/
def nextW (x y : Nat) : Nat := if isNan x || isNan y then 9221120237041090561 else if place x = place y then x else if rung x = 0 then wordD (negB y) 1
  else if decide (place x < place y) = !negB x then x + 1 else x - 1
theorem low63 (b : Nat) : bits .and .u64 (b : Int) 9223372036854775807 = (rung b : Int) := by
  rw [show (9223372036854775807 : Int) = ((9223372036854775807 : Nat) : Int) from rfl, and64N]
  congr 1
  rw [show (9223372036854775807 : Nat) = 2 ^ 63 - 1 by decide, Nat.and_two_pow_sub_one_eq_mod]
  unfold rung; omega
theorem next_lt (x : Nat) (hx : x < 18446744073709551616) (hn : isNan x = false) : x + 1 < 18446744073709551616 := by
  unfold isNan rung at hn; simp at hn; omega
theorem sub_topN (b : Nat) (hb : b < 18446744073709551616) (h : 9223372036854775808 ≤ b) : IntKind.u64.wrap ((b : Int) - 9223372036854775808) = ((b - 9223372036854775808 : Nat) : Int) := by
  have e := sub64N b 9223372036854775808
  rw [show (((9223372036854775808 : Nat) : Int)) = 9223372036854775808 from rfl] at e
  rw [e]; omega
theorem sub_oneN (b : Nat) (hb : b < 18446744073709551616) (h : 1 ≤ b) : IntKind.u64.wrap ((b : Int) - 1) = ((b - 1 : Nat) : Int) := by
  have e := sub64N b 1
  rw [show (((1 : Nat) : Int)) = 1 from rfl] at e
  rw [e]; omega
theorem add_oneN (b : Nat) (h : b + 1 < 18446744073709551616) : IntKind.u64.wrap ((b : Int) + 1) = ((b + 1 : Nat) : Int) := by
  rw [show (b : Int) + 1 = ((b + 1 : Nat) : Int) from rfl, wrap64N, Nat.mod_eq_of_lt h]
end Go.Proofs.Ytbpggopjiogimaa.Plain
