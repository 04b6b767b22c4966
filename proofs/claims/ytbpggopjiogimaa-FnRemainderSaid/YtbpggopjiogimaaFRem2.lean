import Derived.Test.YtbpggopjiogimaaFRem
set_option linter.unusedVariables false
namespace Go.Proofs.Ytbpggopjiogimaa.Plain
open Go Go.RowKit Ieee
theorem ord_ge (x y : Nat) (hx : isNan x = false) (hy : isNan y = false) : (FloatKind.f64.format.order x y == some Ordering.gt || FloatKind.f64.format.order x y == some Ordering.eq) = decide (place y ≤ place x) := by
  rw [ord_gt x y hx hy, ord_eq x y hx hy, Bool.eq_iff_iff]; simp; omega
theorem ord_le (x y : Nat) (hx : isNan x = false) (hy : isNan y = false) : (FloatKind.f64.format.order x y == some Ordering.lt || FloatKind.f64.format.order x y == some Ordering.eq) = decide (place x ≤ place y) := by
  rw [ord_lt x y hx hy, ord_eq x y hx hy, Bool.eq_iff_iff]; simp; omega
theorem place_word (n : Bool) (d : Nat) (h : d < 9218868437227405312) : isNan (wordD n d) = false ∧ place (wordD n d) = (if n then -(d : Int) else (d : Int)) := by
  refine ⟨?_, ?_⟩
  · unfold isNan; rw [rung_word _ _ (by omega)]; simp; omega
  · unfold place; rw [rung_word _ _ (by omega), neg_word _ _ (by omega)]
theorem neg_wordX (s : Bool) (d : Nat) (h : d < 9218868437227405312) : wordD s d ^^^ 9223372036854775808 = wordD (!s) d := by
  rw [neg_num _ (wordD_lt _ _ (by omega)), neg_word _ _ (by omega), rung_word _ _ (by omega)]
theorem topU_big : 1000 ≤ topU := by
  obtain ⟨k, hk⟩ : ∃ k : Nat, k = 2045 := ⟨_, rfl⟩
  rw [← topU_toNat k hk]
  have : (2 : Nat) ^ 10 ≤ 2 ^ k := Nat.pow_le_pow_right (by decide) (by omega)
  omega
theorem val_tiny (b : Nat) (h : b < 9007199254740992) : val b < 9007199254740992 := by
  have h1 := val_lt h
  have h2 : val 9007199254740992 = 9007199254740992 := by decide
  omega
theorem val_pos' (b : Nat) (h : b ≠ 0) : 0 < val b := by
  have := @val_lt_iff 0 b; rw [val_zero] at this; omega
/-- twice a number that is at most half of the greatest one -/
theorem double_ok (b : Nat) (h : b ≤ 9214364837600034815) : 2 * val b < 9007199254740992 * topU := by
  have h1 : val b < val 9214364837600034816 := val_lt (by omega)
  rw [val_half_top] at h1
  have h3 : 9007199254740992 * topU = 2 * (4503599627370496 * topU) := by rw [← Nat.mul_assoc]
  omega
theorem half_big (x b : Nat) (hx : x < 9218868437227405312) (h : 9214364837600034815 < b) : val x < 2 * val b := by
  have h1 : val 9214364837600034816 ≤ val b := by
    rcases Nat.lt_or_ge 9214364837600034816 b with c | c
    · exact Nat.le_of_lt (val_lt c)
    · have : b = 9214364837600034816 := by omega
      rw [this]; exact Nat.le_refl _
  rw [val_half_top] at h1
  have h2 := val_lt_top x hx
  have h3 : 9007199254740992 * topU = 2 * (4503599627370496 * topU) := by rw [← Nat.mul_assoc]
  omega
/-- the dividend is brought below twice the divisor -/
theorem rem_first (X Y : Nat) (hX : X < 9218868437227405312) (hY : Y < 9218868437227405312) (h0 : Y ≠ 0) (h : Y ≤ 9214364837600034815) :
    ∃ yy a, yy < 9218868437227405312 ∧ yy ≠ 0 ∧ double.add Y Y = some yy ∧ a < 9218868437227405312 ∧ val a = val X % (2 * val Y) ∧ modW X yy = a := by
  obtain ⟨yy, y1, y2, y3⟩ := add_self Y hY false (double_ok Y h)
  have hp := val_pos' Y h0
  have hy0 : yy ≠ 0 := fun g => by rw [g, val_zero] at y2; omega
  obtain ⟨a1, a2, _, _⟩ := pos_rung X hX
  obtain ⟨b1, b2, _, _⟩ := pos_rung yy y1
  obtain ⟨a, c1, c2, c3⟩ := mod_word X yy (by omega) (by omega) (by omega)
  rw [a1, b1, y2] at c2
  rw [a2] at c3
  exact ⟨yy, a, y1, hy0, y3, by omega, c2, c3⟩
end Go.Proofs.Ytbpggopjiogimaa.Plain
