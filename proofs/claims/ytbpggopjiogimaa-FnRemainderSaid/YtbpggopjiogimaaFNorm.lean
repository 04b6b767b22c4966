import Derived.Test.YtbpggopjiogimaaFModf
set_option linter.unusedVariables false
namespace Go.Proofs.Ytbpggopjiogimaa.Plain
open Go Go.RowKit Ieee
/-- the mantissa with all of its bits, and its power -/
def lgW (b : Nat) : Nat := (mantW b).log2
def nMant (b : Nat) : Nat := mantW b * 2 ^ (52 - lgW b)
def nExp (b : Nat) : Int := expW b - 52 + lgW b
theorem mantW_zero (b : Nat) : mantW b = 0 ↔ rung b = 0 := by
  have := rung_fields b
  by_cases h : ef b = 0
  · rw [mantW_sub b h]; omega
  · rw [mantW_norm b h]; omega
theorem lgW_le (b : Nat) (h : mantW b ≠ 0) : lgW b ≤ 52 := by
  have h2 : lgW b < 53 := (Nat.log2_lt h).2 (by have := mantW_lt b; simpa using this)
  omega
theorem lgW_norm (b : Nat) (h : ef b ≠ 0) : lgW b = 52 := by
  have h1 := mantW_norm b h
  have hm := mantW_lt b
  exact (Nat.log2_eq_iff (by omega)).2 ⟨by simpa using (by omega : 4503599627370496 ≤ mantW b), by simpa using hm⟩
theorem nMant_norm (b : Nat) (h : ef b ≠ 0) : nMant b = mantW b ∧ nExp b = expW b := by
  unfold nMant nExp; rw [lgW_norm b h]; exact ⟨by simp, by omega⟩
theorem nMant_range (b : Nat) (h : mantW b ≠ 0) : 4503599627370496 ≤ nMant b ∧ nMant b < 9007199254740992 := by
  have hl := lgW_le b h
  have h1 : 2 ^ lgW b ≤ mantW b := Nat.log2_self_le h
  have h2 : mantW b < 2 ^ (lgW b + 1) := Nat.lt_log2_self
  unfold nMant
  have e1 : (4503599627370496 : Nat) = 2 ^ lgW b * 2 ^ (52 - lgW b) := by rw [← Nat.pow_add, show lgW b + (52 - lgW b) = 52 by omega]
  have e2 : (9007199254740992 : Nat) = 2 ^ (lgW b + 1) * 2 ^ (52 - lgW b) := by rw [← Nat.pow_add, show lgW b + 1 + (52 - lgW b) = 53 by omega]
  rw [e1, e2]
  exact ⟨Nat.mul_le_mul_right _ h1, Nat.mul_lt_mul_of_pos_right h2 (Nat.two_pow_pos _)⟩
theorem near_norm (n : Bool) (b : Nat) (e : Int) (h : mantW b ≠ 0) : near n (nMant b) (nExp b + e) = near n (mantW b) (expW b + e) := by
  have hl := lgW_le b h
  rw [← near_scale n (mantW b) (52 - lgW b) (expW b + e)]
  unfold nMant nExp
  congr 1; omega
/-- the word that normalize gives, and the power -/
def normW (b : Nat) : Nat := if ef b = 0 then near (negB b) (mantW b) (expW b + 52) else b
def normE (b : Nat) : Int := if ef b = 0 then -52 else 0
theorem word_fields (n : Bool) (E m : Nat) (hE : E < 2048) (hm : m < 4503599627370496) : ef (wordD n (E * 4503599627370496 + m)) = E ∧ mf (wordD n (E * 4503599627370496 + m)) = m := by
  unfold ef mf wordD; cases n <;> simp <;> omega
theorem norm_parts (b : Nat) (hb : b < 18446744073709551616) (hf : rung b < 9218868437227405312) (h : mantW b ≠ 0) :
    normW b < 18446744073709551616 ∧ ef (normW b) ≠ 0 ∧ ef (normW b) < 2047 ∧ negB (normW b) = negB b ∧ mantW (normW b) = nMant b ∧ expW (normW b) = nExp b - normE b := by
  unfold normW normE
  by_cases hz : ef b = 0
  · rw [if_pos hz, if_pos hz]
    have hr := nMant_range b h
    have hl := lgW_le b h
    have he := expW_sub b hz
    have hM := mantW_sub b hz
    have hm := mf_lt b
    have hl2 : lgW b < 52 := (Nat.log2_lt h).2 (by rw [hM]; simpa using hm)
    have hN : near (negB b) (mantW b) (expW b + 52) = wordD (negB b) ((lgW b + 1) * 4503599627370496 + nMant b % 4503599627370496) := by
      rw [← near_norm (negB b) b 52 h, near_mid (negB b) (nMant b) (nExp b + 52) (by unfold nExp; omega) (by unfold nExp; omega) hr.2 hr.1]
      have e : (nExp b + 52 + 1075).toNat = lgW b + 1 := by unfold nExp; omega
      rw [e]
    have hw := word_fields (negB b) (lgW b + 1) (nMant b % 4503599627370496) (by omega) (by omega)
    rw [hN]
    have hlt : (lgW b + 1) * 4503599627370496 + nMant b % 4503599627370496 < 9223372036854775808 := by omega
    refine ⟨wordD_lt _ _ hlt, by rw [hw.1]; omega, by rw [hw.1]; omega, neg_word _ _ hlt, ?_, ?_⟩
    · rw [mantW_norm _ (by rw [hw.1]; omega), hw.2]; omega
    · rw [expW_norm _ (by rw [hw.1]; omega), hw.1]; unfold nExp; omega
  · rw [if_neg hz, if_neg hz]
    have hn := nMant_norm b hz
    exact ⟨hb, hz, (fin_ef b).1 hf, rfl, hn.1.symm, by rw [hn.2]; omega⟩
theorem mul_two52 (b : Nat) (hf : rung b < 9218868437227405312) : double.mul b 4841369599423283200 = some (near (negB b) (mantW b) (expW b + 52)) := by
  rw [mul_fin b _ hf (by decide)]
  have e1 : negB 4841369599423283200 = false := by decide
  have e2 : mant (rung 4841369599423283200) = 2 ^ 52 := by decide
  have e3 : expo (rung 4841369599423283200) = 1074 := by decide
  rw [e1, e2, e3, Bool.xor_false]
  have := near_scale (negB b) (mantW b) 52 (expW b + 52)
  rw [← this]
  unfold mantW expW
  congr 2; omega
theorem clr_exp (y : Nat) (hy : y < 18446744073709551616) : bits .andNot .u64 (y : Int) 9218868437227405312 = (wordD (negB y) (mf y) : Int) := by
  rw [show (9218868437227405312 : Int) = ((9218868437227405312 : Nat) : Int) from rfl, andNot64N, Nat.mod_eq_of_lt hy]
  congr 1
  have hs : y &&& 9223372036854775808 = signW (negB y) := by
    have h := sgn_num y hy
    rw [show (9223372036854775808 : Int) = ((9223372036854775808 : Nat) : Int) from rfl, and64N] at h
    have h2 : (y &&& 9223372036854775808) % 18446744073709551616 = signW (negB y) := by exact_mod_cast h
    rw [← h2, Nat.mod_eq_of_lt]
    exact Nat.lt_of_le_of_lt Nat.and_le_left hy
  have hm : y &&& 4503599627370495 = mf y := by
    rw [show (4503599627370495 : Nat) = 2 ^ 52 - 1 by decide, Nat.and_two_pow_sub_one_eq_mod]; rfl
  have e : (18446744073709551615 - 9218868437227405312 % 18446744073709551616 : Nat) = 9223372036854775808 ||| 4503599627370495 := by decide
  rw [e, Nat.and_or_distrib_left, hs, hm]
  have := sgn_or (mf y) (negB y) (by have := mf_lt y; omega)
  rw [or64N] at this
  have h3 : (mf y ||| signW (negB y)) % 18446744073709551616 = wordD (negB y) (mf y) := by exact_mod_cast this
  rw [Nat.or_comm, ← h3, Nat.mod_eq_of_lt]
  exact Nat.or_lt_two_pow (n := 64) (by have := mf_lt y; omega) (by unfold signW; split <;> omega)
theorem or_exp (n : Bool) (E m : Nat) (hE : E < 2048) (hm : m < 4503599627370496) : bits .or .u64 (wordD n m : Int) ((E * 4503599627370496 : Nat) : Int) = (wordD n (E * 4503599627370496 + m) : Int) := by
  have h := or_field n E m hE hm
  rw [← h, or64N, or64N]
  congr 2
  have e1 : wordD n m = m ||| signW n := by
    have := sgn_or m n (by omega)
    rw [or64N] at this
    have h3 : (m ||| signW n) % 18446744073709551616 = wordD n m := by exact_mod_cast this
    rw [← h3, Nat.mod_eq_of_lt]
    exact Nat.or_lt_two_pow (n := 64) (by omega) (by unfold signW; split <;> omega)
  have e2 : wordD n (E * 4503599627370496) = (E * 4503599627370496) ||| signW n := by
    have := sgn_or (E * 4503599627370496) n (by omega)
    rw [or64N] at this
    have h3 : ((E * 4503599627370496) ||| signW n) % 18446744073709551616 = wordD n (E * 4503599627370496) := by exact_mod_cast this
    rw [← h3, Nat.mod_eq_of_lt]
    exact Nat.or_lt_two_pow (n := 64) (by omega) (by unfold signW; split <;> omega)
  rw [e1, e2]
  generalize E * 4503599627370496 = X
  generalize signW n = Y
  rw [Nat.or_assoc, Nat.or_comm Y X, ← Nat.or_assoc, Nat.or_comm m X, Nat.or_assoc, Nat.or_comm m Y, ← Nat.or_assoc]
/-- a word with another field of the power -/
def setE (y E : Nat) : Nat := wordD (negB y) (E * 4503599627370496 + mf y)
theorem setE_parts (y E : Nat) (h0 : E ≠ 0) (hE : E < 2048) (hy : ef y ≠ 0) : setE y E < 18446744073709551616 ∧ ef (setE y E) = E ∧ negB (setE y E) = negB y ∧ mantW (setE y E) = mantW y ∧ expW (setE y E) = (E : Int) - 1075 := by
  have hm := mf_lt y
  have hw := word_fields (negB y) E (mf y) hE hm
  unfold setE
  have hlt : E * 4503599627370496 + mf y < 9223372036854775808 := by omega
  refine ⟨wordD_lt _ _ hlt, hw.1, neg_word _ _ hlt, ?_, ?_⟩
  · rw [mantW_norm _ (by rw [hw.1]; exact h0), hw.2, mantW_norm y hy]
  · rw [expW_norm _ (by rw [hw.1]; exact h0), hw.1]
theorem expW_lo (b : Nat) : -1074 ≤ expW b ∧ expW b ≤ 972 := by
  have h := ef_lt b
  by_cases hz : ef b = 0
  · rw [expW_sub b hz]; omega
  · rw [expW_norm b hz]; omega
/-- the parts that Frexp gives -/
def frW (b : Nat) : Nat := if rung b = 0 ∨ 2047 ≤ ef b then b else setE (normW b) 1022
def frE (b : Nat) : Int := if rung b = 0 ∨ 2047 ≤ ef b then 0 else nExp b + 53
theorem fr_near (b : Nat) (hb : b < 18446744073709551616) (hf : rung b < 9218868437227405312) (h : mantW b ≠ 0) : setE (normW b) 1022 = near (negB b) (mantW b) (-(lgW b + 1 : Int)) := by
  obtain ⟨p1, p2, p3, p4, p5, p6⟩ := norm_parts b hb hf h
  have hr := nMant_range b h
  have hl := lgW_le b h
  have e := near_norm (negB b) b (-(lgW b + 1 : Int) - expW b) h
  rw [show expW b + (-(lgW b + 1 : Int) - expW b) = -(lgW b + 1 : Int) by omega] at e
  rw [← e, near_mid _ (nMant b) _ (by unfold nExp; omega) (by unfold nExp; omega) hr.2 hr.1]
  unfold setE
  rw [p4]
  have e2 : (nExp b + (-(lgW b + 1 : Int) - expW b) + 1075).toNat = 1022 := by unfold nExp; omega
  have e3 : mf (normW b) = nMant b % 4503599627370496 := by
    have := mantW_norm (normW b) p2
    have := mf_lt (normW b)
    omega
  rw [e2, e3]
end Go.Proofs.Ytbpggopjiogimaa.Plain
