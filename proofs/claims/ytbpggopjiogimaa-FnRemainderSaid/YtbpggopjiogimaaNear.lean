import Derived.Test.YtbpggopjiogimaaFloatPlain
set_option linter.unusedVariables false
namespace Go.Proofs.Ytbpggopjiogimaa.Plain
open Ieee

/-- the word of float64 nearest to m * 2^e -/
def near (neg : Bool) (m : Nat) (e : Int) : Nat := double.nearest neg m e
def wordD (neg : Bool) (r : Nat) : Nat := if neg then 9223372036854775808 + r else r

theorem word_eq (neg : Bool) (r : Nat) : double.word neg r = wordD neg r := by
  have e1 : double.signWeight = 9223372036854775808 := by decide
  unfold Format.word wordD; rw [e1]

/-- n / 2^d, to the nearest, of two the even one -/
def cutE (n d : Nat) : Nat := Toward.even.cut false n d

theorem cut_neg (neg : Bool) (n d : Nat) : Toward.even.cut neg n d = cutE n d := by
  unfold cutE Toward.cut; rfl

def lastP (m : Nat) (e : Int) : Int := max (e + m.log2 - 52) (-1074)

theorem near_eq (neg : Bool) (m : Nat) (e : Int) (hm : m ≠ 0) :
    near neg m e = wordD neg (min ((lastP m e + 1074).toNat * 4503599627370496 + cutE (m <<< (e - lastP m e).toNat) (lastP m e - e).toNat) 9218868437227405312) := by
  unfold near Format.nearest
  have e2 : double.binade = 4503599627370496 := by decide
  have e3 : double.infRung = 9218868437227405312 := by decide
  have e4 : double.leastPlace = -1074 := by decide
  have e5 : (double.fractionBits : Int) = 52 := by decide
  rw [if_neg hm]
  simp only [e2, e3, e4, e5, word_eq, cut_neg]
  unfold lastP
  simp only [show ∀ a : Int, a - -1074 = a + 1074 from fun a => by omega]

theorem near_zero (neg : Bool) (e : Int) : near neg 0 e = wordD neg 0 := by
  unfold near Format.nearest; rw [if_pos rfl, word_eq]

theorem cutE_zero (n : Nat) : cutE n 0 = n := by
  unfold cutE Toward.cut
  simp [Nat.mod_one]

theorem log2_double (m : Nat) (hm : m ≠ 0) : (2 * m).log2 = m.log2 + 1 := Nat.log2_two_mul hm

theorem cutE_double (m d : Nat) (hm : m ≠ 0) : cutE (2 * m) (d + 1) = cutE m d := by
  unfold cutE Toward.cut
  have e : min (d + 1) ((2 * m).log2 + 2) = min d (m.log2 + 2) + 1 := by rw [log2_double m hm]; omega
  simp only [e]
  have g : 1 <<< (min d (m.log2 + 2) + 1) = 2 * (1 <<< min d (m.log2 + 2)) := by
    rw [Nat.shiftLeft_eq, Nat.shiftLeft_eq, Nat.pow_succ]; omega
  rw [g]
  generalize 1 <<< min d (m.log2 + 2) = G
  rw [Nat.mul_div_mul_left _ _ (by decide : 0 < 2), Nat.mul_mod_mul_left]
  congr 2
  have a1 : decide (2 * G < 2 * (2 * (m % G))) = decide (G < 2 * (m % G)) := by
    congr 1; exact propext ⟨fun h => by omega, fun h => by omega⟩
  have a2 : (2 * G == 2 * (2 * (m % G))) = (G == 2 * (m % G)) := by
    rw [Bool.eq_iff_iff]; simp only [beq_iff_eq]; omega
  rw [a1, a2]

theorem near_double (neg : Bool) (m : Nat) (e : Int) : near neg (2 * m) (e - 1) = near neg m e := by
  by_cases hm : m = 0
  · subst hm; rw [Nat.mul_zero, near_zero, near_zero]
  have hm2 : 2 * m ≠ 0 := by omega
  rw [near_eq neg (2 * m) (e - 1) hm2, near_eq neg m e hm]
  have el : lastP (2 * m) (e - 1) = lastP m e := by
    unfold lastP; rw [log2_double m hm]; simp only [Int.natCast_add]; congr 1; omega
  rw [el]
  generalize lastP m e = L
  congr 3
  by_cases h : L < e
  · have e1 : (e - L).toNat = (e - 1 - L).toNat + 1 := by omega
    have e2 : (L - (e - 1)).toNat = 0 := by omega
    have e3 : (L - e).toNat = 0 := by omega
    rw [e1, e2, e3]
    congr 1
  · have e1 : (e - 1 - L).toNat = 0 := by omega
    have e2 : (e - L).toNat = 0 := by omega
    have e3 : (L - (e - 1)).toNat = (L - e).toNat + 1 := by omega
    rw [e1, e2, e3]
    simp only [Nat.shiftLeft_zero]
    exact cutE_double m _ hm

theorem near_scale (neg : Bool) (m k : Nat) (e : Int) : near neg (m * 2 ^ k) (e - k) = near neg m e := by
  induction k with
  | zero => simp
  | succ k ih =>
    rw [← ih, ← near_double neg (m * 2 ^ k)]
    congr 1
    · rw [Nat.pow_succ]; generalize 2 ^ k = P; rw [← Nat.mul_assoc, Nat.mul_comm]
    · omega

/-- a number with 53 bits, or in the lowest place: no rounding -/
theorem near_fit (neg : Bool) (m : Nat) (e : Int) (he : -1074 ≤ e) (hm : m < 9007199254740992) (h : 4503599627370496 ≤ m ∨ e = -1074) :
    near neg m e = wordD neg (min ((e + 1074).toNat * 4503599627370496 + m) 9218868437227405312) := by
  by_cases h0 : m = 0
  · subst h0
    have : e = -1074 := by omega
    subst this
    rw [near_zero]; simp
  rw [near_eq neg m e h0]
  have hl : lastP m e = e := by
    unfold lastP
    have h53 : m.log2 < 53 := (Nat.log2_lt h0).2 (by simpa using hm)
    rcases h with h | h
    · have h52 : 52 ≤ m.log2 := (Nat.le_log2 h0).2 (by simpa using h)
      omega
    · omega
  rw [hl]
  have e0 : (e - e).toNat = 0 := by omega
  rw [e0, Nat.shiftLeft_zero, cutE_zero]

theorem mant_lt (r : Nat) : mant r < 9007199254740992 := by unfold mant; split <;> omega

theorem near_rung (neg : Bool) (r : Nat) (h : r ≤ 9218868437227405312) : near neg (mant r) (-1074 + (expo r : Int)) = wordD neg r := by
  rw [near_fit neg (mant r) _ (by omega) (mant_lt r) (by unfold mant expo; split <;> omega)]
  congr 1
  have e : (-1074 + (expo r : Int) + 1074).toNat = expo r := by omega
  rw [e]
  unfold mant expo
  split <;> omega

theorem near_val (neg : Bool) (r : Nat) (h : r ≤ 9218868437227405312) : near neg (val r) (-1074) = wordD neg r := by
  rw [val_eq]
  have := near_scale neg (mant r) (expo r) (-1074 + (expo r : Int))
  rw [near_rung neg r h] at this
  rw [← this]; congr 1; omega

end Go.Proofs.Ytbpggopjiogimaa.Plain
