import Derived.Test.YtmopnnbhpeaiaaaFFloor
set_option linter.unusedVariables false
namespace Go.Proofs.Ytmopnnbhpeaiaaa.Plain
open Go Go.RowKit Ieee
/-- whether a word is that of an odd integer -/
def oddW (b : Nat) : Bool := decide (expW b ≤ 0) && decide (mantW b % 2 ^ cutK b = 0) && decide (mantW b / 2 ^ cutK b % 2 = 1)
theorem oneU_pos : 0 < oneU := by
  obtain ⟨k, hk⟩ : ∃ k : Nat, k = 1074 := ⟨_, rfl⟩
  rw [← oneU_toNat k hk]; exact Nat.two_pow_pos _
theorem pow_oneU (E : Nat) (h : 1074 ≤ E) : (2 : Nat) ^ E = 2 ^ (E - 1074) * oneU := by
  obtain ⟨k, hk⟩ : ∃ k : Nat, k = 1074 := ⟨_, rfl⟩
  rw [← oneU_toNat k hk, ← hk, ← Nat.pow_add]; congr 1; omega
theorem cut_zero (s : Bool) (n d : Nat) : Toward.zero.cut s n d = n / 2 ^ min d (n.log2 + 2) := by
  unfold Toward.cut; simp [Nat.shiftLeft_eq]
theorem toInt_whole (t Q : Nat) (hf : rung t < 9218868437227405312) (h : val (rung t) = Q * oneU) : (double.read t).toInt .zero = some (if negB t then -(Q : Int) else (Q : Int)) := by
  rw [read_num t hf]
  rw [val_eq] at h
  generalize mant (rung t) = m at *
  generalize expo (rung t) = E at *
  unfold Datum.toInt Datum.integral
  simp only []
  rw [cut_zero]
  have hQ : (m <<< (-1074 + (E : Int)).toNat) / 2 ^ min (-(-1074 + (E : Int))).toNat ((m <<< (-1074 + (E : Int)).toNat).log2 + 2) = Q := by
    by_cases g : 1074 ≤ E
    · have e1 : (-1074 + (E : Int)).toNat = E - 1074 := by omega
      have e2 : (-(-1074 + (E : Int))).toNat = 0 := by omega
      rw [e1, e2, Nat.zero_min, Nat.pow_zero, Nat.div_one, Nat.shiftLeft_eq]
      have e3 := pow_oneU E g
      rw [e3, ← Nat.mul_assoc] at h
      exact Nat.eq_of_mul_eq_mul_right oneU_pos h
    · have e1 : (-1074 + (E : Int)).toNat = 0 := by omega
      have e2 : (-(-1074 + (E : Int))).toNat = 1074 - E := by omega
      rw [e1, e2, Nat.shiftLeft_zero]
      rw [oneU_add (1074 - E) E (by omega), ← Nat.mul_assoc] at h
      have hm : m = Q * 2 ^ (1074 - E) := Nat.eq_of_mul_eq_mul_right (Nat.two_pow_pos _) h
      by_cases hq : Q = 0
      · rw [hm, hq, Nat.zero_mul, Nat.zero_div]
      · have hm0 : m ≠ 0 := by
          rw [hm]; exact Nat.mul_ne_zero hq (Nat.pos_iff_ne_zero.1 (Nat.two_pow_pos _))
        have hl : 1074 - E ≤ m.log2 := (Nat.le_log2 hm0).2 (by rw [hm]; exact Nat.le_mul_of_pos_left _ (by omega))
        rw [Nat.min_eq_left (by omega), hm, Nat.mul_div_cancel _ (Nat.two_pow_pos _)]
  rw [hQ]
  unfold signed; simp [Nat.shiftLeft_eq]
theorem and_one_i64 (n : Int) : bits .and .i64 n 1 = n % 2 := by
  simp only [bits]
  have h : (BitVec.ofInt 64 n &&& BitVec.ofInt 64 1).toNat = (n % 2).toNat := by
    rw [BitVec.toNat_and, BitVec.toNat_ofInt]
    have : (BitVec.ofInt 64 1).toNat = 1 := by decide
    rw [this, Nat.and_one_is_mod]
    omega
  have h2 : IntKind.i64.bits = 64 := rfl
  show IntKind.i64.wrap ((BitVec.ofInt 64 n &&& BitVec.ofInt 64 1).toNat : Int) = n % 2
  rw [h]
  rcases (by omega : n % 2 = 0 ∨ n % 2 = 1) with g | g <;> rw [g] <;> rfl
theorem odd_sign (n : Bool) (Q : Nat) : ((if n then -(Q : Int) else (Q : Int)) % 2 == 1) = decide (Q % 2 = 1) := by
  rw [Bool.eq_iff_iff]; cases n <;> simp <;> omega
/-- the integer part as an integer -/
theorem trunc_int (b : Nat) (hb : b < 18446744073709551616) (he : expW b ≤ 0) :
    rung (truncW b) < 9218868437227405312 ∧ negB (truncW b) = negB b ∧ val (rung (truncW b)) = mantW b / 2 ^ cutK b * oneU := by
  by_cases h : expW b < 0
  · obtain ⟨r, h1, h2, h3⟩ := trunc_parts b hb h
    rw [h3, rung_word _ _ (by omega), neg_word _ _ (by omega)]
    exact ⟨h1, rfl, h2⟩
  · have h0 : expW b = 0 := by omega
    have hk : cutK b = 0 := by unfold cutK; rw [h0]; rfl
    have hE : expo (rung b) = 1074 := by have := expo_exp b; omega
    have hz : ef b ≠ 0 := fun g => by rw [expW_sub b g] at h0; omega
    have hf : ef b < 2047 := by rw [expW_norm b hz] at h0; omega
    rw [trunc_whole b (by omega), hk, Nat.pow_zero, Nat.div_one]
    refine ⟨(fin_ef b).2 hf, rfl, ?_⟩
    rw [val_word, oneU_toNat _ hE]
theorem frac_zero2 (b : Nat) (hf : rung b < 9218868437227405312) (he : expW b ≤ 0) : rung (fracW b) = 0 ↔ mantW b % 2 ^ cutK b = 0 := by
  by_cases h : expW b < 0
  · exact frac_zero b hf h
  · have h0 : expW b = 0 := by omega
    have hk : cutK b = 0 := by unfold cutK; rw [h0]; rfl
    rw [hk, Nat.pow_zero, Nat.mod_one]
    unfold fracW; rw [if_neg h, rung_word _ _ (by omega)]
theorem nan_frac (b : Nat) : isNan (fracW b) = false := by
  unfold isNan fracW
  split
  · rw [rung_near]; have := near_le (mantW b % 2 ^ cutK b) (expW b); simp; omega
  · rw [rung_word _ _ (by omega)]; simp
theorem place_rung (b : Nat) : place (rung b) = (rung b : Int) := by unfold place; rw [neg_rung, rung_rung]; rfl
end Go.Proofs.Ytmopnnbhpeaiaaa.Plain
