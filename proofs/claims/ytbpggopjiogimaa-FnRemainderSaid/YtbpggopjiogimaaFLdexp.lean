import Derived.Test.YtbpggopjiogimaaFNorm
import Derived.Test.YtbpggopjiogimaaFEven
set_option linter.unusedVariables false
namespace Go.Proofs.Ytbpggopjiogimaa.Plain
open Go Go.RowKit Ieee
theorem cutE_eq (m K : Nat) (hm : m ≠ 0) (hK : 1 ≤ K) : cutE m K = m / 2 ^ K + (if moreE m K then 1 else 0) := by
  have hb : ∀ b : Bool, b.toNat = if b then 1 else 0 := fun b => by cases b <;> rfl
  unfold cutE Toward.cut
  simp only [Nat.shiftLeft_eq, Nat.one_mul, hb]
  by_cases h : K ≤ m.log2 + 2
  · rw [Nat.min_eq_left h]
    congr 2
    unfold moreE
    have hp : (2 : Nat) ^ K = 2 * 2 ^ (K - 1) := by rw [Nat.mul_comm, ← Nat.pow_succ]; congr 1; omega
    have e1 : decide (2 ^ K < 2 * (m % 2 ^ K)) = decide (2 ^ (K - 1) < m % 2 ^ K) := by
      congr 1; apply propext; constructor <;> intro h <;> omega
    have e2 : (2 ^ K == 2 * (m % 2 ^ K)) = decide (m % 2 ^ K = 2 ^ (K - 1)) := by
      rw [Bool.eq_iff_iff]; simp; omega
    have e3 : (m / 2 ^ K % 2 == 1) = decide (m / 2 ^ K % 2 = 1) := by rw [Bool.eq_iff_iff]; simp
    rw [e1, e2, e3]
  · rw [Nat.min_eq_right (by omega)]
    have h1 : m < 2 ^ (m.log2 + 1) := Nat.lt_log2_self
    have h2 : (2 : Nat) ^ (m.log2 + 1) ≤ 2 ^ (K - 1) := Nat.pow_le_pow_right (by decide) (by omega)
    have h3 : (2 : Nat) ^ (m.log2 + 2) = 2 * 2 ^ (m.log2 + 1) := by rw [Nat.mul_comm, ← Nat.pow_succ]
    have h4 : (2 : Nat) ^ (K - 1) ≤ 2 ^ K := Nat.pow_le_pow_right (by decide) (by omega)
    have hmo : moreE m K = false := by
      unfold moreE
      rw [Nat.mod_eq_of_lt (by omega)]
      simp; omega
    rw [hmo, Nat.div_eq_of_lt (by omega), Nat.div_eq_of_lt (by omega), Nat.mod_eq_of_lt (by omega)]
    have e1 : decide (2 ^ (m.log2 + 2) < 2 * m) = false := by simp; omega
    have e2 : (2 ^ (m.log2 + 2) == 2 * m) = false := by simp; omega
    rw [e1, e2]; rfl
theorem near_low_cut (n : Bool) (m : Nat) (e : Int) (hm0 : m ≠ 0) (hm : m < 9007199254740992) (he : e < -1074) (K : Nat) (hK : (K : Int) = -1074 - e) :
    near n m e = wordD n (m / 2 ^ K + (if moreE m K then 1 else 0)) := by
  have h53 : m.log2 < 53 := (Nat.log2_lt hm0).2 (by simpa using hm)
  have hl : lastP m e = -1074 := by unfold lastP; omega
  rw [near_eq n m e hm0, hl]
  have e1 : (e - -1074).toNat = 0 := by omega
  have e2 : (-1074 - e).toNat = K := by omega
  rw [e1, e2, Nat.shiftLeft_zero, cutE_eq m K hm0 (by omega)]
  have hq : m / 2 ^ K ≤ m := Nat.div_le_self _ _
  congr 1
  have : (if moreE m K = true then 1 else 0) ≤ 1 := by split <;> omega
  omega
theorem near_gone (n : Bool) (m : Nat) (e : Int) (hm : m < 9007199254740992) (he : e ≤ -1128) : near n m e = wordD n 0 := by
  by_cases hm0 : m = 0
  · subst hm0; exact near_zero _ _
  · rw [near_low_cut n m e hm0 hm (by omega) (-1074 - e).toNat (by omega)]
    obtain ⟨K, hK⟩ : ∃ K : Nat, K = (-1074 - e).toNat := ⟨_, rfl⟩
    rw [← hK]
    have h1 : (2 : Nat) ^ 53 ≤ 2 ^ (K - 1) := Nat.pow_le_pow_right (by decide) (by omega)
    have h2 : (2 : Nat) ^ 53 ≤ 2 ^ K := Nat.pow_le_pow_right (by decide) (by omega)
    have hmo : moreE m K = false := by
      unfold moreE
      rw [Nat.mod_eq_of_lt (by omega)]
      simp; omega
    rw [hmo, Nat.div_eq_of_lt (by omega)]; rfl
/-- the word that Ldexp gives -/
def ldW (b : Nat) (e : Int) : Nat := if rung b = 0 ∨ 2047 ≤ ef b then b else near (negB b) (mantW b) (expW b + e)
theorem and2047_i64 (t : Nat) (h : t < 4096) : bits .and .i64 (t : Int) 2047 = ((t % 2048 : Nat) : Int) := by
  have h1 : (BitVec.ofInt 64 (t : Int) &&& BitVec.ofInt 64 2047).toNat = t % 2048 := by
    rw [BitVec.ofInt_natCast, BitVec.toNat_and, BitVec.toNat_ofNat]
    have : (BitVec.ofInt 64 2047).toNat = 2 ^ 11 - 1 := by decide
    rw [this, Nat.and_two_pow_sub_one_eq_mod, Nat.mod_eq_of_lt (by omega : t < 2 ^ 64)]
  show IntKind.i64.wrap ((BitVec.ofInt 64 (t : Int) &&& BitVec.ofInt 64 2047).toNat : Int) = _
  rw [h1]
  have h2 : t % 2048 < 2048 := Nat.mod_lt _ (by decide)
  generalize t % 2048 = u at h2
  unfold IntKind.wrap
  simp [IntKind.signed, IntKind.bits]
  omega
theorem mul_one_w (v : Nat) (hf : rung v < 9218868437227405312) : double.mul 4607182418800017408 v = some (near (negB v) (mantW v) (expW v)) := by
  rw [mul_fin _ v (by decide) hf]
  have e1 : negB 4607182418800017408 = false := by decide
  have e2 : mant (rung 4607182418800017408) = 2 ^ 52 := by decide
  have e3 : expo (rung 4607182418800017408) = 1022 := by decide
  rw [e1, e2, e3, Bool.false_xor, Nat.mul_comm]
  have := near_scale (negB v) (mantW v) 52 (expW v)
  rw [← this]
  unfold mantW expW
  congr 2; omega
theorem mul_m53 (v : Nat) (hf : rung v < 9218868437227405312) : double.mul 4368491638549381120 v = some (near (negB v) (mantW v) (expW v - 53)) := by
  rw [mul_fin _ v (by decide) hf]
  have e1 : negB 4368491638549381120 = false := by decide
  have e2 : mant (rung 4368491638549381120) = 2 ^ 52 := by decide
  have e3 : expo (rung 4368491638549381120) = 969 := by decide
  rw [e1, e2, e3, Bool.false_xor, Nat.mul_comm]
  have := near_scale (negB v) (mantW v) 52 (expW v - 53)
  rw [← this]
  unfold mantW expW
  congr 2; omega
end Go.Proofs.Ytbpggopjiogimaa.Plain
