import Derived.Test.YtbpggopjiogimaaFArith
import Derived.Test.YtbpggopjiogimaaFTrunc
import Derived.Test.YtbpggopjiogimaaFRound3
set_option linter.unusedVariables false
namespace Go.Proofs.Ytbpggopjiogimaa.Plain
open Go Go.RowKit Ieee
/-- the number 1 in units of 2^-1074 -/
def oneU : Nat := 2 ^ 1074
theorem oneU_add (a b : Nat) (h : a + b = 1074) : oneU = 2 ^ a * 2 ^ b := by unfold oneU; rw [← h, Nat.pow_add]
theorem oneU_toNat : ∀ k : Nat, k = 1074 → 2 ^ k = oneU := fun k h => by unfold oneU; rw [h]
theorem fin_ef (b : Nat) : rung b < 9218868437227405312 ↔ ef b < 2047 := by
  have h1 := rung_fields b; have h2 := mf_lt b; have h3 := ef_lt b; omega
theorem cut_quot_lt (b : Nat) (h : expW b < 0) : mantW b / 2 ^ cutK b < 4503599627370496 := by
  have hM := mantW_lt b
  have hk : 1 ≤ cutK b := by unfold cutK; omega
  have : (2 : Nat) ^ 1 ≤ 2 ^ cutK b := Nat.pow_le_pow_right (by decide) hk
  exact Nat.lt_of_le_of_lt (Nat.div_le_div_left this (by decide)) (by omega)
/-- a number is its integer part and what is left -/
theorem val_split (b : Nat) (h : expW b < 0) : val (rung b) = mantW b / 2 ^ cutK b * oneU + mantW b % 2 ^ cutK b * 2 ^ expo (rung b) := by
  rw [val_word]
  have hM := mantW_lt b
  have he := expo_exp b
  have hk : cutK b = min (-expW b).toNat 60 := rfl
  generalize mantW b = M at *
  by_cases g : (-expW b).toNat ≤ 60
  · have hs : cutK b + expo (rung b) = 1074 := by omega
    rw [oneU_add _ _ hs, ← Nat.mul_assoc, ← Nat.add_mul, Nat.mul_comm _ (2 ^ cutK b), Nat.div_add_mod]
  · have hc : cutK b = 60 := by omega
    have h60 : (2 : Nat) ^ 60 = 1152921504606846976 := by decide
    rw [hc, Nat.div_eq_of_lt (by omega), Nat.mod_eq_of_lt (by omega), Nat.zero_mul, Nat.zero_add]
theorem trunc_parts (b : Nat) (hb : b < 18446744073709551616) (h : expW b < 0) :
    ∃ r, r < 9218868437227405312 ∧ val r = mantW b / 2 ^ cutK b * oneU ∧ truncW b = wordD (negB b) r := by
  obtain ⟨r, h1, h2, h3⟩ := near_val_fit (mantW b / 2 ^ cutK b) 0 (by have := cut_quot_lt b h; omega) (by omega) (by omega)
  rw [oneU_toNat (((0 : Int) + 1074).toNat) rfl] at h2
  exact ⟨r, h1, h2, by rw [trunc_near b hb h, h3]⟩
theorem trunc_whole (b : Nat) (h : 0 ≤ expW b) : truncW b = b := by
  have : 1075 ≤ ef b := by
    by_cases hz : ef b = 0
    · rw [expW_sub b hz] at h; omega
    · rw [expW_norm b hz] at h; omega
  unfold truncW; rw [if_neg (by omega), if_neg (by omega)]
/-- the word of what is left without the integer part -/
def fracW (b : Nat) : Nat := if expW b < 0 then near (negB b) (mantW b % 2 ^ cutK b) (expW b) else wordD (negB b) 0
theorem trunc_lt (b : Nat) (hb : b < 18446744073709551616) : truncW b < 18446744073709551616 := by
  by_cases h : expW b < 0
  · obtain ⟨r, h1, h2, h3⟩ := trunc_parts b hb h
    rw [h3]; exact wordD_lt _ _ (by omega)
  · rw [trunc_whole b (by omega)]; exact hb
theorem near_lt (n : Bool) (m : Nat) (e : Int) : near n m e < 18446744073709551616 := by
  rw [near_sign]; exact wordD_lt _ _ (by have := near_le m e; omega)
theorem frac_lt (b : Nat) : fracW b < 18446744073709551616 := by
  unfold fracW; split
  · exact near_lt _ _ _
  · exact wordD_lt _ _ (by omega)
theorem neg_near (n : Bool) (m : Nat) (e : Int) : negB (near n m e) = n := by
  rw [near_sign]; exact neg_word _ _ (by have := near_le m e; omega)
theorem rung_near (n : Bool) (m : Nat) (e : Int) : rung (near n m e) = near false m e := by
  rw [near_sign]; exact rung_word _ _ (by have := near_le m e; omega)
theorem neg_frac (b : Nat) : negB (fracW b) = negB b := by
  unfold fracW; split
  · exact neg_near _ _ _
  · exact neg_word _ _ (by omega)
theorem sub_trunc (b : Nat) (hb : b < 18446744073709551616) (hf : rung b < 9218868437227405312) :
    ∃ v, v < 18446744073709551616 ∧ double.sub b (truncW b) = some v ∧ wordD (negB b) (rung v) = fracW b := by
  by_cases h : expW b < 0
  · obtain ⟨r, h1, h2, h3⟩ := trunc_parts b hb h
    have hr : rung (truncW b) = r := by rw [h3]; exact rung_word _ _ (by omega)
    have hn : negB (truncW b) = negB b := by rw [h3]; exact neg_word _ _ (by omega)
    have hv := val_split b h
    have hd : val (rung b) - val (rung (truncW b)) = mantW b % 2 ^ cutK b * 2 ^ expo (rung b) := by rw [hr, h2]; omega
    refine ⟨_, ?_, sub_same b (truncW b) hf (by rw [hr]; exact h1) hn (by rw [hr, h2]; omega), ?_⟩
    · exact wordD_lt _ _ (by have := near_le (val (rung b) - val (rung (truncW b))) (-1074); omega)
    · rw [rung_word _ _ (by have := near_le (val (rung b) - val (rung (truncW b))) (-1074); omega), hd, ← near_sign]
      unfold fracW; rw [if_pos h, ← near_scale (negB b) (mantW b % 2 ^ cutK b) (expo (rung b)) (expW b)]
      congr 1; have := expo_exp b; omega
  · rw [trunc_whole b (by omega)]
    refine ⟨_, ?_, sub_same b b hf hf rfl (Nat.le_refl _), ?_⟩
    · exact wordD_lt _ _ (by have := near_le (val (rung b) - val (rung b)) (-1074); omega)
    · rw [rung_word _ _ (by have := near_le (val (rung b) - val (rung b)) (-1074); omega), Nat.sub_self, near_zero]
      unfold fracW; rw [if_neg h]; rfl
theorem sub_inf (b : Nat) (h : ¬ rung b < 9218868437227405312) : double.sub b b = none := by
  unfold Format.sub
  by_cases g : rung b = 9218868437227405312
  · rw [read_inf b g]; simp [Datum.opposite, Datum.sum]
  · rw [read_nan b (by omega)]; simp [Datum.sum]
/-- what an operation without an answer gives -/
def nanD (w : World) (q : Question) : Nat := q.cut (w.tape w.drawn q)
theorem nan_drawn (w : World) (x y : Nat) : isNan (nanD w (.nanBits .f64 x y)) = true ∧ nanD w (.nanBits .f64 x y) < 18446744073709551616 := by
  unfold nanD isNan rung
  generalize w.tape w.drawn (.nanBits .f64 x y) = t
  show decide _ = true ∧ (t % 2) * 2 ^ 63 + 0x7ff0000000000000 + 1 + (t / 2) % (2 ^ 52 - 1) < _
  have e : Question.cut (.nanBits .f64 x y) t = (t % 2) * 2 ^ 63 + 0x7ff0000000000000 + 1 + (t / 2) % (2 ^ 52 - 1) := rfl
  rw [e]
  simp only [decide_eq_true_eq, Nat.reducePow, Nat.reduceSub]
  have h1 : t / 2 % 4503599627370495 < 4503599627370495 := Nat.mod_lt _ (by decide)
  generalize t / 2 % 4503599627370495 = u at h1 ⊢
  rcases Nat.mod_two_eq_zero_or_one t with g | g <;> rw [g] <;> omega
end Go.Proofs.Ytbpggopjiogimaa.Plain
