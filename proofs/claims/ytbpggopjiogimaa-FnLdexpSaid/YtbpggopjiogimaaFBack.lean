import Derived.Test.YtbpggopjiogimaaFLdexp
set_option linter.unusedVariables false
namespace Go.Proofs.Ytbpggopjiogimaa.Plain
open Go Go.RowKit Ieee
theorem fr_bounds (x : Nat) (hx : x < 18446744073709551616) : frW x < 18446744073709551616 ∧ -1099511627776 ≤ frE x ∧ frE x ≤ 1099511627776 := by
  unfold frW frE
  by_cases h : rung x = 0 ∨ 2047 ≤ ef x
  · rw [if_pos h, if_pos h]; exact ⟨hx, by omega, by omega⟩
  · rw [if_neg h, if_neg h]
    have hz : rung x ≠ 0 := by omega
    have hf : rung x < 9218868437227405312 := (fin_ef x).2 (by omega)
    have h0 : mantW x ≠ 0 := fun g => hz ((mantW_zero x).1 g)
    obtain ⟨p1, p2, p3, p4, p5, p6⟩ := norm_parts x hx hf h0
    obtain ⟨v1, v2, v3, v4, v5⟩ := setE_parts (normW x) 1022 (by omega) (by omega) p2
    have hl := lgW_le x h0
    have hE := expW_lo x
    exact ⟨v1, by unfold nExp; omega, by unfold nExp; omega⟩
theorem fr_back (x : Nat) (hx : x < 18446744073709551616) : ldW (frW x) (frE x) = x := by
  unfold frW frE
  by_cases h : rung x = 0 ∨ 2047 ≤ ef x
  · rw [if_pos h, if_pos h]; unfold ldW; rw [if_pos h]
  · rw [if_neg h, if_neg h]
    have hz : rung x ≠ 0 := by omega
    have hf : rung x < 9218868437227405312 := (fin_ef x).2 (by omega)
    have h0 : mantW x ≠ 0 := fun g => hz ((mantW_zero x).1 g)
    obtain ⟨p1, p2, p3, p4, p5, p6⟩ := norm_parts x hx hf h0
    obtain ⟨v1, v2, v3, v4, v5⟩ := setE_parts (normW x) 1022 (by omega) (by omega) p2
    unfold ldW
    have hr : ¬ (rung (setE (normW x) 1022) = 0 ∨ 2047 ≤ ef (setE (normW x) 1022)) := by
      have := rung_fields (setE (normW x) 1022)
      omega
    rw [if_neg hr, v3, v4, v5, p4, p5, show ((1022 : Nat) : Int) - 1075 + (nExp x + 53) = nExp x + 0 by omega, near_norm (negB x) x 0 h0, Int.add_zero]
    unfold mantW expW
    rw [near_rung _ _ (by omega), word_of x hx]
theorem ld_two : ldW 4607182418800017408 1 = 4611686018427387904 := by
  unfold ldW
  have h1 : mantW 4607182418800017408 = 4503599627370496 := by decide
  have h2 : expW 4607182418800017408 = -52 := by decide
  have h3 : negB 4607182418800017408 = false := by decide
  rw [if_neg (by decide), h1, h2, h3, near_mid false 4503599627370496 (-52 + 1) (by omega) (by omega) (by omega) (by omega)]
  decide
/-- great powers -/
theorem ld_clamp (x : Nat) (hx : x < 18446744073709551616) (e : Int) (c : Int) (hc : c = max (-5000) (min 5000 e)) (hz : rung x ≠ 0) (hf : rung x < 9218868437227405312) : ldW x e = near (negB x) (mantW x) (expW x + c) := by
  have hfe := (fin_ef x).1 hf
  unfold ldW; rw [if_neg (by omega)]
  have h0 : mantW x ≠ 0 := fun g => hz ((mantW_zero x).1 g)
  have hl := lgW_le x h0
  have hE := expW_lo x
  have hr := nMant_range x h0
  have hn : nExp x = expW x - 52 + lgW x := rfl
  rw [← near_norm (negB x) x e h0, ← near_norm (negB x) x c h0]
  rcases (by omega : e < -5000 ∨ 5000 < e ∨ c = e) with g | g | g
  · rw [near_gone _ _ _ hr.2 (by omega), near_gone _ _ _ hr.2 (by omega)]
  · rw [near_over _ _ _ (by omega) hr.2 hr.1, near_over _ _ _ (by omega) hr.2 hr.1]
  · rw [g]
end Go.Proofs.Ytbpggopjiogimaa.Plain
