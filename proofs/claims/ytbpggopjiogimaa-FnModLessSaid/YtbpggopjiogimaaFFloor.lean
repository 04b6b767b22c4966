import Derived.Test.YtbpggopjiogimaaFModf
set_option linter.unusedVariables false
namespace Go.Proofs.Ytbpggopjiogimaa.Plain
open Go Go.RowKit Ieee
/-- the word that Floor gives -/
def floorW (b : Nat) : Nat := if expW b < 0 then near (negB b) (mantW b / 2 ^ cutK b + (if 0 < mantW b % 2 ^ cutK b ∧ negB b = true then 1 else 0)) 0 else b
def ceilW (b : Nat) : Nat := oppW (floorW (oppW b))
theorem mantW_opp (b : Nat) : mantW (oppW b) = mantW b := by unfold mantW; rw [rung_opp]
theorem expW_opp (b : Nat) : expW (oppW b) = expW b := by unfold expW; rw [rung_opp]
theorem cutK_opp (b : Nat) : cutK (oppW b) = cutK b := by unfold cutK; rw [expW_opp]
theorem opp_near (n : Bool) (m : Nat) (e : Int) : oppW (near n m e) = near (!n) m e := by
  unfold oppW; rw [neg_near, rung_near, ← near_sign]
theorem big_exp (b : Nat) (h : 1075 ≤ ef b) : ¬ expW b < 0 := by rw [expW_norm b (by omega)]; omega
theorem floor_big (b : Nat) (h : 1075 ≤ ef b) : floorW b = b := by unfold floorW; rw [if_neg (big_exp b h)]
theorem floor_zero (b : Nat) (hb : b < 18446744073709551616) (h : rung b = 0) : floorW b = b := by
  have hm : mantW b = 0 := by unfold mantW; rw [h]; rfl
  have he : expW b = -1074 := by unfold expW; rw [h]; rfl
  unfold floorW; rw [if_pos (by omega), hm, Nat.zero_div, Nat.zero_mod, if_neg (by omega), near_zero]
  have := word_of b hb
  rw [h] at this; exact this
theorem floor_pos (b : Nat) (hb : b < 18446744073709551616) (h : negB b = false) : floorW b = truncW b := by
  unfold floorW
  by_cases he : expW b < 0
  · rw [if_pos he, trunc_near b hb he, if_neg (by rw [h]; simp)]; rfl
  · rw [if_neg he, trunc_whole b (by omega)]
theorem near_fit_zero (m : Nat) (e : Int) (hm : m < 9007199254740992) (he : -1074 ≤ e) (he2 : e ≤ 971) : near false m e = 0 ↔ m = 0 := by
  obtain ⟨r, h1, h2, h3⟩ := near_val_fit m e hm he he2
  have h4 := h3 false
  rw [h4]; unfold wordD; simp only [Bool.false_eq_true, if_false]
  constructor
  · intro h; rw [h, val_zero] at h2
    rcases Nat.mul_eq_zero.1 h2.symm with g | g
    · exact g
    · exact absurd g (Nat.pos_iff_ne_zero.1 (Nat.two_pow_pos _))
  · intro h; rw [h, Nat.zero_mul, ← val_zero] at h2; exact val_inj h2
theorem expW_range (b : Nat) (hf : rung b < 9218868437227405312) : -1074 ≤ expW b ∧ expW b ≤ 971 := by
  have h := (fin_ef b).1 hf
  by_cases hz : ef b = 0
  · rw [expW_sub b hz]; omega
  · rw [expW_norm b hz]; omega
theorem frac_zero (b : Nat) (hf : rung b < 9218868437227405312) (h : expW b < 0) : rung (fracW b) = 0 ↔ mantW b % 2 ^ cutK b = 0 := by
  have hr := expW_range b hf
  have hm := mantW_lt b
  have hl : mantW b % 2 ^ cutK b ≤ mantW b := Nat.mod_le _ _
  unfold fracW; rw [if_pos h, rung_near, near_fit_zero _ _ (by omega) hr.1 hr.2]
theorem val_one : val 4607182418800017408 = oneU := by
  obtain ⟨r, h1, h2, h3⟩ := near_val_fit 1 0 (by omega) (by omega) (by omega)
  have h4 := h3 false
  rw [near_one] at h4
  have : (4607182418800017408 : Nat) = r := h4
  rw [this, h2, oneU_toNat (((0 : Int) + 1074).toNat) rfl, Nat.one_mul]
theorem near_whole (n : Bool) (q : Nat) : near n (q * oneU) (-1074) = near n q 0 := by
  have := near_scale n q 1074 0
  unfold oneU
  rw [← this]; rfl
theorem neg_opp_true (b : Nat) (h : negB b = true) : negB (oppW b) = false := by rw [neg_opp, h]; rfl
theorem floor_neg0 (b : Nat) (hb : b < 18446744073709551616) (hf : rung b < 9218868437227405312) (h : negB b = true) (h0 : rung (fracW (oppW b)) = 0) : oppW (truncW (oppW b)) = floorW b := by
  unfold floorW
  by_cases he : expW b < 0
  · have hz := (frac_zero (oppW b) (by rw [rung_opp]; exact hf) (by rw [expW_opp]; exact he)).1 h0
    rw [mantW_opp, cutK_opp] at hz
    rw [if_pos he, if_neg (by omega), trunc_near (oppW b) (oppW_lt b) (by rw [expW_opp]; exact he), opp_near, neg_opp, Bool.not_not, mantW_opp, cutK_opp]; rfl
  · rw [if_neg he, trunc_whole (oppW b) (by rw [expW_opp]; omega), opp_opp b hb]
theorem floor_neg1 (b : Nat) (hb : b < 18446744073709551616) (hf : rung b < 9218868437227405312) (h : negB b = true) (h0 : rung (fracW (oppW b)) ≠ 0) :
    ∃ v, v < 18446744073709551616 ∧ double.add (truncW (oppW b)) 4607182418800017408 = some v ∧ oppW v = floorW b := by
  have he : expW b < 0 := by
    rcases Classical.em (expW b < 0) with g | g
    · exact g
    · exfalso; apply h0; unfold fracW; rw [expW_opp, if_neg (by omega)]; exact rung_word _ _ (by omega)
  have hz : mantW b % 2 ^ cutK b ≠ 0 := fun g => h0 ((frac_zero (oppW b) (by rw [rung_opp]; exact hf) (by rw [expW_opp]; exact he)).2 (by rw [mantW_opp, cutK_opp]; exact g))
  obtain ⟨r, h1, h2, h3⟩ := trunc_parts (oppW b) (oppW_lt b) (by rw [expW_opp]; exact he)
  rw [neg_opp_true b h] at h3
  rw [mantW_opp, cutK_opp] at h2
  have hr : rung (truncW (oppW b)) = r := by rw [h3]; exact rung_word _ _ (by omega)
  have hn : negB (truncW (oppW b)) = false := by rw [h3]; exact neg_word _ _ (by omega)
  have h1r : rung 4607182418800017408 = 4607182418800017408 := by decide
  have h1n : negB 4607182418800017408 = false := by decide
  have ha := add_fin (truncW (oppW b)) 4607182418800017408 (by omega) (by omega)
  rw [sv_pos _ hn, sv_pos _ h1n, hr, h1r, h2, val_one] at ha
  have hs : ((mantW b / 2 ^ cutK b * oneU : Nat) : Int) + (oneU : Int) = (((mantW b / 2 ^ cutK b + 1) * oneU : Nat) : Int) := by rw [Nat.add_mul, Nat.one_mul]; omega
  rw [hs, hn, Bool.false_and] at ha
  have hp : ∀ a : Nat, (if (a : Int) = 0 then false else decide ((a : Int) < 0)) = false := fun a => by
    split
    · rfl
    · simp
  rw [hp, Int.natAbs_natCast, near_whole] at ha
  refine ⟨_, near_lt _ _ _, ha, ?_⟩
  unfold floorW
  rw [if_pos he, if_pos ⟨by omega, h⟩, opp_near, h]; rfl
theorem ceil_big (b : Nat) (hb : b < 18446744073709551616) (h : 1075 ≤ ef b) : ceilW b = b := by
  unfold ceilW floorW; rw [expW_opp, if_neg (big_exp b h), opp_opp b hb]
theorem ceil_near (b : Nat) (h : expW b < 0) : ceilW b = near (negB b) (mantW b / 2 ^ cutK b + (if 0 < mantW b % 2 ^ cutK b ∧ negB b = false then 1 else 0)) 0 := by
  unfold ceilW floorW
  rw [expW_opp, if_pos h, opp_near, neg_opp, Bool.not_not, mantW_opp, cutK_opp]
  have : (0 < mantW b % 2 ^ cutK b ∧ (!negB b) = true) = (0 < mantW b % 2 ^ cutK b ∧ negB b = false) := by cases negB b <;> simp
  simp only [this]
theorem floor_near (b : Nat) (h : expW b < 0) : floorW b = near (negB b) (mantW b / 2 ^ cutK b + (if 0 < mantW b % 2 ^ cutK b ∧ negB b = true then 1 else 0)) 0 := by
  unfold floorW; rw [if_pos h]
theorem floorW_lt (b : Nat) (hb : b < 18446744073709551616) : floorW b < 18446744073709551616 := by
  unfold floorW; split
  · exact near_lt _ _ _
  · exact hb
end Go.Proofs.Ytbpggopjiogimaa.Plain
