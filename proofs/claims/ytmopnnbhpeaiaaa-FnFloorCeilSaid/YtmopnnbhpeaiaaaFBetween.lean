import Derived.Test.YtmopnnbhpeaiaaaFFloor
import Derived.Test.YtmopnnbhpeaiaaaFEven
set_option linter.unusedVariables false
namespace Go.Proofs.Ytmopnnbhpeaiaaa.Plain
open Go Go.RowKit Ieee
theorem place_opp (b : Nat) : place (oppW b) = -place b := by
  unfold place; rw [neg_opp, rung_opp]; cases negB b <;> simp
theorem rest_lt (b : Nat) (h : expW b < 0) : mantW b % 2 ^ cutK b * 2 ^ expo (rung b) < oneU := by
  have he := expo_exp b
  have hc : cutK b + expo (rung b) ≤ 1074 := by unfold cutK; omega
  have h1 : mantW b % 2 ^ cutK b < 2 ^ cutK b := Nat.mod_lt _ (Nat.two_pow_pos _)
  have h2 : mantW b % 2 ^ cutK b * 2 ^ expo (rung b) < 2 ^ cutK b * 2 ^ expo (rung b) := Nat.mul_lt_mul_of_pos_right h1 (Nat.two_pow_pos _)
  rw [← Nat.pow_add] at h2
  rw [oneU_add (cutK b + expo (rung b)) (1074 - (cutK b + expo (rung b))) (by omega)]
  exact Nat.lt_of_lt_of_le h2 (Nat.le_mul_of_pos_right _ (Nat.two_pow_pos _))
theorem floor_le (b : Nat) (hb : b < 18446744073709551616) : place (floorW b) ≤ place b := by
  by_cases he : expW b < 0
  · have hv := val_split b he
    have hr := rest_lt b he
    have hq := cut_quot_lt b he
    rw [floor_near b he]
    generalize hm : mantW b / 2 ^ cutK b + (if 0 < mantW b % 2 ^ cutK b ∧ negB b = true then 1 else 0) = m
    have hm2 : m < 9007199254740992 := by rw [← hm]; split <;> omega
    obtain ⟨r, h1, h2, h3⟩ := near_val_fit m 0 hm2 (by omega) (by omega)
    rw [oneU_toNat (((0 : Int) + 1074).toNat) rfl] at h2
    rw [h3]
    unfold place
    rw [neg_word _ _ (by omega), rung_word _ _ (by omega)]
    have hl := @val_lt_iff r (rung b)
    have hl2 := @val_lt_iff (rung b) r
    rw [h2] at hl hl2
    cases hn : negB b
    · rw [hn] at hm
      have : m = mantW b / 2 ^ cutK b := by rw [← hm]; simp
      rw [← this] at hv
      simp; omega
    · rw [hn] at hm
      by_cases g : 0 < mantW b % 2 ^ cutK b
      · have hm3 : m = mantW b / 2 ^ cutK b + 1 := by rw [← hm]; simp [g]
        have : m * oneU = mantW b / 2 ^ cutK b * oneU + oneU := by rw [hm3, Nat.add_mul, Nat.one_mul]
        simp; omega
      · have hm3 : m = mantW b / 2 ^ cutK b := by rw [← hm]; simp [g]
        have g0 : mantW b % 2 ^ cutK b = 0 := by omega
        rw [← hm3, g0, Nat.zero_mul, Nat.add_zero] at hv
        simp; omega
  · unfold floorW; rw [if_neg he]; omega
theorem ceil_ge (b : Nat) : place b ≤ place (ceilW b) := by
  have h := floor_le (oppW b) (oppW_lt b)
  unfold ceilW; rw [place_opp] at h ⊢; omega
theorem ceilW_lt (b : Nat) : ceilW b < 18446744073709551616 := oppW_lt _
theorem opp_ceil (b : Nat) : oppW (ceilW b) = floorW (oppW b) := opp_opp _ (floorW_lt _ (oppW_lt b))
theorem floor_one : floorW 4607182418800017408 = 4607182418800017408 := by
  rw [floor_pos _ (by decide) (by decide)]; decide
theorem round_one : roundW 4607182418800017408 = 4607182418800017408 := by decide
/-- each is the integer part or one more -/
theorem floor_ceil_set (b : Nat) (he : expW b < 0) (h : 0 < mantW b % 2 ^ cutK b) (n : Nat) (hn : n = mantW b / 2 ^ cutK b ∨ n = mantW b / 2 ^ cutK b + 1) : near (negB b) n 0 = floorW b ∨ near (negB b) n 0 = ceilW b := by
  rw [floor_near b he, ceil_near b he]
  cases hb : negB b <;> rcases hn with rfl | rfl <;> simp [h]
theorem floor_same (b : Nat) (he : expW b < 0) (h : mantW b % 2 ^ cutK b = 0) : near (negB b) (mantW b / 2 ^ cutK b) 0 = floorW b := by
  rw [floor_near b he, h, if_neg (by omega)]; rfl
theorem exp_big (b : Nat) (h : ¬ expW b < 0) : 1075 ≤ ef b := by
  by_cases hz : ef b = 0
  · rw [expW_sub b hz] at h; omega
  · rw [expW_norm b hz] at h; omega
theorem round_between (b : Nat) (hb : b < 18446744073709551616) : roundW b = floorW b ∨ roundW b = ceilW b := by
  by_cases he : expW b < 0
  · rw [round_near b hb he]
    have hp : 0 < (2 : Nat) ^ (cutK b - 1) := Nat.two_pow_pos _
    by_cases h : 0 < mantW b % 2 ^ cutK b
    · refine floor_ceil_set b he h _ ?_
      split
      · exact Or.inr rfl
      · exact Or.inl rfl
    · rw [if_neg (by omega)]; exact Or.inl (floor_same b he (by omega))
  · have h := exp_big b he
    left; rw [floor_big b h]; unfold roundW; rw [if_neg (by omega), if_neg (by omega), if_neg (by omega)]
theorem even_between (b : Nat) (hb : b < 18446744073709551616) : evenW b = floorW b ∨ evenW b = ceilW b := by
  by_cases he : expW b < 0
  · rw [even_near b hb he]
    have hp : 0 < (2 : Nat) ^ (cutK b - 1) := Nat.two_pow_pos _
    by_cases h : 0 < mantW b % 2 ^ cutK b
    · refine floor_ceil_set b he h _ ?_
      split
      · exact Or.inr rfl
      · exact Or.inl rfl
    · rw [if_neg (by unfold moreE; simp; omega)]; exact Or.inl (floor_same b he (by omega))
  · have h := exp_big b he
    left; rw [floor_big b h]; unfold evenW; rw [if_neg (by omega), if_neg (by omega), if_neg (by omega)]
end Go.Proofs.Ytmopnnbhpeaiaaa.Plain
