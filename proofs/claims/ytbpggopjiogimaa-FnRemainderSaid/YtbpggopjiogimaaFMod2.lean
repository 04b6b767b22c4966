import Derived.Test.YtbpggopjiogimaaFMod
import Derived.Test.YtbpggopjiogimaaFOrd
set_option linter.unusedVariables false
namespace Go.Proofs.Ytbpggopjiogimaa.Plain
open Go Go.RowKit Ieee
theorem pos_rung (r : Nat) (h : r < 9218868437227405312) : rung r = r ∧ negB r = false ∧ isNan r = false ∧ place r = (r : Int) := by
  have h1 : rung r = r := by unfold rung; omega
  have h2 : negB r = false := by unfold negB; simp; omega
  refine ⟨h1, h2, ?_, ?_⟩
  · unfold isNan; rw [h1]; simp; omega
  · unfold place; rw [h2, h1]; rfl
theorem place_bounds (b : Nat) : -(rung b : Int) ≤ place b ∧ place b ≤ (rung b : Int) := by
  unfold place; split <;> omega
theorem place_nonneg (b : Nat) (h : negB b = false ∨ rung b = 0) : 0 ≤ place b := by
  unfold place; rcases h with g | g
  · rw [g]; simp
  · rw [g]; split <;> omega
theorem fr_place (r : Nat) (hr : r < 9218868437227405312) (h0 : r ≠ 0) : isNan (frW r) = false ∧ place (frW r) = (nMant r : Int) + 4598175219545276416 ∧ frE r = nExp r + 53 ∧ frW r < 18446744073709551616 := by
  obtain ⟨h1, h2, h3, h4⟩ := pos_rung r hr
  have hf := (fin_ef r).1 (by omega)
  have m1 : mantW r ≠ 0 := fun g => by have := (mantW_zero r).1 g; omega
  obtain ⟨p1, p2, p3, p4, p5, p6⟩ := norm_parts r (by omega) (by omega) m1
  have hm := mantW_norm (normW r) p2
  have hl := mf_lt (normW r)
  have hw : frW r = 1022 * 4503599627370496 + mf (normW r) := by
    unfold frW setE; rw [if_neg (by omega), p4, h2]; rfl
  have he : frE r = nExp r + 53 := by unfold frE; rw [if_neg (by omega)]
  obtain ⟨k1, k2, k3, k4⟩ := pos_rung (frW r) (by rw [hw]; omega)
  refine ⟨k3, ?_, he, by rw [hw]; omega⟩
  rw [k4, hw]; omega
theorem fr_lt (r y : Nat) (hr : r < 9218868437227405312) (h0 : r ≠ 0) (hy : y < 9218868437227405312) (hy0 : y ≠ 0) : (FloatKind.f64.format.order (frW r) (frW y) == some Ordering.lt) = decide (nMant r < nMant y) := by
  obtain ⟨a1, a2, _, _⟩ := fr_place r hr h0
  obtain ⟨b1, b2, _, _⟩ := fr_place y hy hy0
  rw [ord_lt _ _ a1 b1, a2, b2]
  rw [Bool.eq_iff_iff]; simp
def fBits : Value → Nat
  | .float _ b => b
  | _ => 0
theorem mod_exit (x y r : Nat) (hx : rung x < 9218868437227405312) (hy : rung y < 9218868437227405312) (h0 : rung y ≠ 0) (hr : r < rung y) (h : val r % val (rung y) = val (rung x) % val (rung y)) : modW x y = wordD (negB x) r := by
  obtain ⟨R, h1, h2, h3⟩ := mod_word x y hx hy h0
  rw [Nat.mod_eq_of_lt (val_lt hr)] at h
  have : R = r := val_inj (by rw [h2, h])
  rw [h3, this]
theorem modJ_bounds (r y : Nat) : -3000 ≤ nExp r ∧ nExp r ≤ 3000 := by
  have e := expW_lo r
  have hl : lgW r ≤ 52 := by
    by_cases h : mantW r = 0
    · unfold lgW; rw [h]; simp
    · exact lgW_le r h
  unfold nExp; omega
end Go.Proofs.Ytbpggopjiogimaa.Plain
