import Ieee.Arith
import Derived.Laws.FloatBits
set_option linter.unusedVariables false
namespace Go.Proofs.Ytbpggopjiogimaa.Plain
open Ieee

/-- the magnitude of a rung of float64, in units of 2^-1074 -/
def val (r : Nat) : Nat := if r < 4503599627370496 then r else (4503599627370496 + r % 4503599627370496) * 2 ^ (r / 4503599627370496 - 1)

theorem val_succ (r : Nat) : val r < val (r + 1) := by
  unfold val
  by_cases h1 : r + 1 < 4503599627370496
  · rw [if_pos (by omega), if_pos h1]; omega
  · rw [if_neg h1]
    by_cases h2 : r < 4503599627370496
    · rw [if_pos h2]
      have e : r + 1 = 4503599627370496 := by omega
      rw [e]; simp; omega
    · rw [if_neg h2]
      by_cases h3 : (r + 1) % 4503599627370496 = 0
      · have e1 : r % 4503599627370496 = 4503599627370495 := by omega
        have e2 : (r + 1) / 4503599627370496 = r / 4503599627370496 + 1 := by omega
        have e3 : r / 4503599627370496 + 1 - 1 = (r / 4503599627370496 - 1) + 1 := by omega
        rw [h3, e1, e2, e3, Nat.pow_succ]
        have hp : 0 < 2 ^ (r / 4503599627370496 - 1) := Nat.two_pow_pos _
        generalize 2 ^ (r / 4503599627370496 - 1) = P at *
        omega
      · have e1 : (r + 1) % 4503599627370496 = r % 4503599627370496 + 1 := by omega
        have e2 : (r + 1) / 4503599627370496 = r / 4503599627370496 := by omega
        rw [e1, e2]
        have hp : 0 < 2 ^ (r / 4503599627370496 - 1) := Nat.two_pow_pos _
        exact Nat.mul_lt_mul_of_pos_right (by omega) hp

theorem val_lt {r s : Nat} (h : r < s) : val r < val s := by
  induction s with
  | zero => omega
  | succ s ih =>
    rcases Nat.lt_or_ge r s with h1 | h1
    · exact Nat.lt_trans (ih h1) (val_succ s)
    · have : r = s := by omega
      subst this; exact val_succ r

theorem val_lt_iff {r s : Nat} : val r < val s ↔ r < s :=
  ⟨fun h => by
    rcases Nat.lt_trichotomy r s with h1 | h1 | h1
    · exact h1
    · subst h1; omega
    · have := val_lt h1; omega, val_lt⟩

theorem val_inj {r s : Nat} (h : val r = val s) : r = s := by
  rcases Nat.lt_trichotomy r s with h1 | h1 | h1
  · have := val_lt h1; omega
  · exact h1
  · have := val_lt h1; omega

theorem val_zero : val 0 = 0 := by simp [val]
theorem val_small {r : Nat} (h : r < 4503599627370496) : val r = r := by simp [val, h]

def rung (w : Nat) : Nat := w % 9223372036854775808
def negB (w : Nat) : Bool := w / 9223372036854775808 % 2 == 1
def isNan (w : Nat) : Bool := decide (9218868437227405312 < rung w)
def isInf (w : Nat) : Bool := decide (rung w = 9218868437227405312)
/-- the place of a number among the floats, 0 at both zeros -/
def place (w : Nat) : Int := if negB w then -(rung w : Int) else (rung w : Int)

def mant (r : Nat) : Nat := if r < 4503599627370496 then r else 4503599627370496 + r % 4503599627370496
def expo (r : Nat) : Nat := if r < 4503599627370496 then 0 else r / 4503599627370496 - 1

theorem val_eq (r : Nat) : val r = mant r * 2 ^ expo r := by
  unfold val mant expo; split <;> simp

theorem read_num (w : Nat) (h : rung w < 9218868437227405312) : double.read w = .number (negB w) (mant (rung w)) (-1074 + (expo (rung w) : Int)) := by
  unfold Format.read
  have e1 : double.signWeight = 9223372036854775808 := by decide
  have e2 : double.binade = 4503599627370496 := by decide
  have e3 : double.infRung = 9218868437227405312 := by decide
  have e4 : double.leastPlace = -1074 := by decide
  simp only [e1, e2, e3, e4]
  unfold rung at h
  unfold mant expo rung negB
  by_cases h1 : w % 9223372036854775808 < 4503599627370496
  · simp [h1]
  · simp [h1, h]

theorem read_inf (w : Nat) (h : rung w = 9218868437227405312) : double.read w = .infinity (negB w) := by
  unfold Format.read
  have e1 : double.signWeight = 9223372036854775808 := by decide
  have e2 : double.binade = 4503599627370496 := by decide
  have e3 : double.infRung = 9218868437227405312 := by decide
  simp only [e1, e2, e3]
  unfold rung at h
  unfold negB
  simp [h]

theorem read_nan (w : Nat) (h : 9218868437227405312 < rung w) : double.read w = .nan (negB w) (rung w - 9218868437227405312) := by
  unfold Format.read
  have e1 : double.signWeight = 9223372036854775808 := by decide
  have e2 : double.binade = 4503599627370496 := by decide
  have e3 : double.infRung = 9218868437227405312 := by decide
  simp only [e1, e2, e3]
  unfold rung at h
  unfold negB rung
  have h1 : ¬ w % 9223372036854775808 < 4503599627370496 := by omega
  have h2 : ¬ w % 9223372036854775808 < 9218868437227405312 := by omega
  have h3 : ¬ w % 9223372036854775808 = 9218868437227405312 := by omega
  simp [h1, h2, h3]

theorem compare_int_lt {a b : Int} (h : a < b) : compare a b = .lt := by
  simp [compare, compareOfLessAndEq, h]
theorem compare_int_eq (a : Int) : compare a a = .eq := by
  simp [compare, compareOfLessAndEq]
theorem compare_int_gt {a b : Int} (h : b < a) : compare a b = .gt := by
  have h1 : ¬ a < b := by omega
  have h2 : ¬ a = b := by omega
  simp [compare, compareOfLessAndEq, h1, h2]

theorem compare_of_iff {a b c d : Int} (h1 : a < b ↔ c < d) (h2 : b < a ↔ d < c) : compare a b = compare c d := by
  rcases Int.lt_trichotomy c d with h | h | h
  · rw [compare_int_lt h, compare_int_lt (h1.2 h)]
  · subst h
    have : a = b := by omega
    subst this; rw [compare_int_eq, compare_int_eq]
  · rw [compare_int_gt h, compare_int_gt (h2.2 h)]

/-- a signed number of the format, times a common power of two, in units of 2^-1074 -/
theorem signed_scale (s : Bool) (m E B : Nat) (h : B ≤ E) : signed s m (E - B) * (2 ^ B : Nat) = if s then -((m * 2 ^ E : Nat) : Int) else ((m * 2 ^ E : Nat) : Int) := by
  have e : m <<< (E - B) * 2 ^ B = m * 2 ^ E := by
    rw [Nat.shiftLeft_eq, Nat.mul_assoc, ← Nat.pow_add]; congr 2; omega
  unfold signed
  cases s
  · simp only [Bool.false_eq_true, if_false]; rw [← Int.natCast_mul, e]
  · simp only [if_true]; rw [Int.neg_mul, ← Int.natCast_mul, e]

theorem signed_val_lt (s t : Bool) (r q : Nat) : ((if s then -(val r : Int) else (val r : Int)) < (if t then -(val q : Int) else (val q : Int))) ↔ ((if s then -(r : Int) else (r : Int)) < (if t then -(q : Int) else (q : Int))) := by
  have a1 := @val_lt_iff r q
  have a2 := @val_lt_iff q r
  have z1 := @val_lt_iff 0 r
  have z2 := @val_lt_iff 0 q
  rw [val_zero] at z1 z2
  cases s <;> cases t <;> simp <;> omega

theorem order_eq (x y : Nat) (hx : isNan x = false) (hy : isNan y = false) : double.order x y = some (compare (place x) (place y)) := by
  unfold isNan at hx hy
  simp only [decide_eq_false_iff_not] at hx hy
  unfold Format.order
  have rx : rung x < 9223372036854775808 := Nat.mod_lt _ (by decide)
  have ry : rung y < 9223372036854775808 := Nat.mod_lt _ (by decide)
  by_cases ix : rung x = 9218868437227405312
  · by_cases iy : rung y = 9218868437227405312
    · rw [read_inf x ix, read_inf y iy]
      simp only [Datum.order, place, ix, iy]
      cases negB x <;> cases negB y <;> simp <;> decide
    · rw [read_inf x ix, read_num y (by omega)]
      simp only [Datum.order, place, ix]
      congr 1
      cases negB x <;> cases negB y <;> simp <;> first | (rw [compare_int_lt (by omega)]) | (rw [compare_int_gt (by omega)])
  · by_cases iy : rung y = 9218868437227405312
    · rw [read_num x (by omega), read_inf y iy]
      simp only [Datum.order, place, iy]
      congr 1
      cases negB x <;> cases negB y <;> simp <;> first | (rw [compare_int_lt (by omega)]) | (rw [compare_int_gt (by omega)])
    · rw [read_num x (by omega), read_num y (by omega)]
      simp only [Datum.order, place]
      congr 1
      generalize hE : expo (rung x) = E
      generalize hF : expo (rung y) = F
      have eb : min (-1074 + (E : Int)) (-1074 + (F : Int)) = -1074 + ((min E F : Nat) : Int) := by omega
      rw [eb]
      have e1 : (-1074 + (E : Int) - (-1074 + ((min E F : Nat) : Int))).toNat = E - min E F := by omega
      have e2 : (-1074 + (F : Int) - (-1074 + ((min E F : Nat) : Int))).toNat = F - min E F := by omega
      rw [e1, e2]
      have s1 := signed_scale (negB x) (mant (rung x)) E (min E F) (Nat.min_le_left _ _)
      have s2 := signed_scale (negB y) (mant (rung y)) F (min E F) (Nat.min_le_right _ _)
      rw [← hE] at s1; rw [← hF] at s2
      rw [← val_eq] at s1 s2
      rw [hE] at s1; rw [hF] at s2
      have hp : (0 : Int) < ((2 ^ min E F : Nat) : Int) := by exact_mod_cast Nat.two_pow_pos _
      have v1 := signed_val_lt (negB x) (negB y) (rung x) (rung y)
      have v2 := signed_val_lt (negB y) (negB x) (rung y) (rung x)
      refine compare_of_iff ?_ ?_
      · rw [← v1, ← s1, ← s2]; exact (Int.mul_lt_mul_right hp).symm
      · rw [← v2, ← s1, ← s2]; exact (Int.mul_lt_mul_right hp).symm

theorem order_nan_left (x y : Nat) (hx : isNan x = true) : double.order x y = none := by
  unfold isNan at hx; simp only [decide_eq_true_eq] at hx
  unfold Format.order
  rw [read_nan x hx]; simp [Datum.order]
theorem order_nan_right (x y : Nat) (hy : isNan y = true) : double.order x y = none := by
  unfold isNan at hy; simp only [decide_eq_true_eq] at hy
  unfold Format.order
  rw [read_nan y hy]; cases double.read x <;> simp [Datum.order]

end Go.Proofs.Ytbpggopjiogimaa.Plain
