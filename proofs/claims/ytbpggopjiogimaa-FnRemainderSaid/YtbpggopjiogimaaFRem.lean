import Derived.Test.YtbpggopjiogimaaFMod2
import Derived.Test.YtbpggopjiogimaaFRemains
set_option linter.unusedVariables false
namespace Go.Proofs.Ytbpggopjiogimaa.Plain
open Go Go.RowKit Ieee
/-- the word that Remainder gives, of finite numbers -/
def remW (x y : Nat) : Nat :=
  if val (rung y) < 2 * (val (rung x) % val (rung y)) ∨ (2 * (val (rung x) % val (rung y)) = val (rung y) ∧ val (rung x) / val (rung y) % 2 = 1)
  then near (!negB x) (val (rung y) - val (rung x) % val (rung y)) (-1074) else near (negB x) (val (rung x) % val (rung y)) (-1074)
theorem mod_two (X Y : Nat) (hY : 0 < Y) : (X % (2 * Y) < Y → X % Y = X % (2 * Y) ∧ X / Y % 2 = 0) ∧ (Y ≤ X % (2 * Y) → X % Y = X % (2 * Y) - Y ∧ X / Y % 2 = 1) := by
  have h := Nat.div_add_mod X (2 * Y)
  have hl := Nat.mod_lt X (show 0 < 2 * Y by omega)
  generalize X % (2 * Y) = Z at *
  generalize X / (2 * Y) = k at *
  have h2 : 2 * Y * k = Y * (2 * k) := by rw [Nat.mul_comm 2 Y, Nat.mul_assoc]
  constructor
  · intro c
    have e : X = Y * (2 * k) + Z := by omega
    rw [e, Nat.mul_add_mod, Nat.mod_eq_of_lt c, Nat.mul_add_div hY, Nat.div_eq_of_lt c]
    exact ⟨rfl, by omega⟩
  · intro c
    have e : X = Y * (2 * k + 1) + (Z - Y) := by rw [Nat.mul_add, Nat.mul_one]; omega
    rw [e, Nat.mul_add_mod, Nat.mod_eq_of_lt (by omega), Nat.mul_add_div hY, Nat.div_eq_of_lt (by omega)]
    exact ⟨rfl, by omega⟩
theorem rem_out (x y Z : Nat) (hY : 0 < val (rung y)) (hZ : Z = val (rung x) % (2 * val (rung y))) :
    (¬ val (rung y) < 2 * Z → remW x y = near (negB x) Z (-1074)) ∧
    (val (rung y) < 2 * Z → Z < val (rung y) → remW x y = near (!negB x) (val (rung y) - Z) (-1074)) ∧
    (val (rung y) ≤ Z → 2 * (Z - val (rung y)) < val (rung y) → remW x y = near (negB x) (Z - val (rung y)) (-1074)) ∧
    (val (rung y) ≤ Z → val (rung y) ≤ 2 * (Z - val (rung y)) → remW x y = near (!negB x) (val (rung y) - (Z - val (rung y))) (-1074)) := by
  obtain ⟨a, b⟩ := mod_two (val (rung x)) (val (rung y)) hY
  rw [← hZ] at a b
  unfold remW
  generalize val (rung x) % val (rung y) = R at *
  generalize val (rung x) / val (rung y) % 2 = o at *
  generalize val (rung y) = Y at *
  refine ⟨fun c => ?_, fun c c2 => ?_, fun c c2 => ?_, fun c c2 => ?_⟩
  · obtain ⟨e1, e2⟩ := a (by omega)
    rw [if_neg (by omega), e1]
  · obtain ⟨e1, e2⟩ := a c2
    rw [if_pos (by omega), e1]
  · obtain ⟨e1, e2⟩ := b c
    rw [if_neg (by omega), e1]
  · obtain ⟨e1, e2⟩ := b c
    rw [if_pos (by omega), e1]
theorem sub_fit2 (r z : Nat) (hr : r < 9218868437227405312) (h1 : val z ≤ val r) (h2 : val r ≤ 2 * val z) : ∃ d, d < 9218868437227405312 ∧ val d = val r - val z := by
  rcases Nat.lt_or_ge (val r) (2 * val z) with c | c
  · obtain ⟨d, h3, h4⟩ := sub_fit r z hr h1 c
    exact ⟨d, by omega, h4⟩
  · have hzr : z ≤ r := by have := @val_lt_iff r z; omega
    exact ⟨z, by omega, by omega⟩
/-- the double -/
theorem add_self (a : Nat) (ha : a < 9218868437227405312) (n : Bool) (h : 2 * val a < 9007199254740992 * topU) :
    ∃ aa, aa < 9218868437227405312 ∧ val aa = 2 * val a ∧ double.add (wordD n a) (wordD n a) = some (wordD n aa) := by
  have e : 2 * val a = mant a * 2 ^ (expo a + 1) := by rw [val_eq, Nat.pow_succ, Nat.mul_comm (2 ^ expo a) 2, Nat.mul_left_comm]
  obtain ⟨aa, h1, h2⟩ := val_fit2 (expo a + 1) (mant a) (mant_lt a) (by rw [← e]; exact h)
  rw [← e] at h2
  refine ⟨aa, h1, h2, ?_⟩
  have ra : rung (wordD n a) = a := rung_word _ _ (by omega)
  have na : negB (wordD n a) = n := neg_word _ _ (by omega)
  rw [add_fin _ _ (by rw [ra]; exact ha) (by rw [ra]; exact ha)]
  have hs : sv (wordD n a) = if n then -(val a : Int) else (val a : Int) := by unfold sv sval; rw [ra, na]
  rw [hs, na, Bool.and_self]
  cases n
  · simp only [Bool.false_eq_true, if_false]
    have h3 : ((val a : Int) + (val a : Int)).natAbs = val aa := by omega
    have h4 : (if (val a : Int) + (val a : Int) = 0 then false else decide ((val a : Int) + (val a : Int) < 0)) = false := by
      split
      · rfl
      · simp; omega
    rw [h3, h4, near_val false aa (by omega)]
  · simp only [if_true]
    have h3 : (-(val a : Int) + -(val a : Int)).natAbs = val aa := by omega
    have h4 : (if -(val a : Int) + -(val a : Int) = 0 then true else decide (-(val a : Int) + -(val a : Int) < 0)) = true := by
      split
      · rfl
      · simp; omega
    rw [h3, h4, near_val true aa (by omega)]
/-- the difference of two magnitudes, none of them more than twice the other -/
theorem sub_near (a b : Nat) (ha : a < 9218868437227405312) (hb : b < 9218868437227405312) (h1 : val a ≤ 2 * val b) (h2 : val b ≤ 2 * val a) :
    ∃ d, d < 9218868437227405312 ∧ double.sub a b = some (wordD (decide (val a < val b)) d) ∧ (val b ≤ val a → val d = val a - val b) ∧ (val a < val b → val d = val b - val a) := by
  obtain ⟨a1, a2, _, _⟩ := pos_rung a ha
  obtain ⟨b1, b2, _, _⟩ := pos_rung b hb
  have hs := sub_fin a b (by omega) (by omega)
  have ea : sv a = (val a : Int) := by rw [sv_pos a a2, a1]
  have eb : sv b = (val b : Int) := by rw [sv_pos b b2, b1]
  rw [ea, eb, a2, b2] at hs
  rcases Nat.lt_or_ge (val a) (val b) with c | c
  · obtain ⟨d, h3, h4⟩ := sub_fit2 b a hb (by omega) h2
    refine ⟨d, h3, ?_, fun g => by omega, fun _ => h4⟩
    have e1 : ((val a : Int) - (val b : Int)).natAbs = val d := by omega
    have e2 : (if (val a : Int) - (val b : Int) = 0 then false && !false else decide ((val a : Int) - (val b : Int) < 0)) = true := by
      rw [if_neg (by omega)]; simp; omega
    have e3 : decide (val a < val b) = true := by simpa using c
    rw [hs, e1, e2, e3, near_val true d (by omega)]
  · obtain ⟨d, h3, h4⟩ := sub_fit2 a b ha c h1
    refine ⟨d, h3, ?_, fun _ => h4, fun g => by omega⟩
    have e1 : ((val a : Int) - (val b : Int)).natAbs = val d := by omega
    have e2 : (if (val a : Int) - (val b : Int) = 0 then false && !false else decide ((val a : Int) - (val b : Int) < 0)) = false := by
      split
      · rfl
      · simp; omega
    have e3 : decide (val a < val b) = false := by simp; omega
    rw [hs, e1, e2, e3, near_val false d (by omega)]
theorem half_fit (b : Nat) (hb : b < 9218868437227405312) (h : 9007199254740992 ≤ b) : ∃ h', h' < 9218868437227405312 ∧ 2 * val h' = val b ∧ double.mul 4602678819172646912 b = some h' := by
  obtain ⟨b1, b2, _, _⟩ := pos_rung b hb
  have he : 1 ≤ expo b := by unfold expo; split <;> omega
  have hle := expo_le b hb
  obtain ⟨r, h1, h2⟩ := val_fit (expo b - 1) (mant b) (mant_lt b) (by omega)
  have e : 2 * val r = val b := by
    rw [h2, val_eq b]
    have : (2 : Nat) ^ expo b = 2 * 2 ^ (expo b - 1) := by rw [Nat.mul_comm, ← Nat.pow_succ]; congr 1; omega
    rw [this, Nat.mul_left_comm]
  refine ⟨r, h1, e, ?_⟩
  rw [mul_fin _ b (by decide) (by omega)]
  have e1 : negB 4602678819172646912 = false := by decide
  have e2 : mant (rung 4602678819172646912) = 2 ^ 52 := by decide
  have e3 : expo (rung 4602678819172646912) = 1021 := by decide
  rw [e1, e2, e3, b1, b2, Nat.mul_comm]
  have h5 := near_scale false (mant b) (52 + (expo b - 1)) (-1074 + (expo b : Int) - 1)
  have h6 := near_scale false (mant b) 52 (-1074 + (expo b : Int) - 1)
  rw [h6.symm] at h5
  have h7 : -1074 + (expo b : Int) - 1 - (52 : Nat) = -1074 + ((1021 : Nat) : Int) + (-1074 + (expo b : Int)) := by omega
  rw [h7] at h6
  show some (near (false ^^ false) _ _) = _
  rw [Bool.false_xor, h6]
  have h8 := near_scale false (mant b) (expo b - 1) (-1074 + (expo b : Int) - 1)
  rw [← h2, show -1074 + (expo b : Int) - 1 - ((expo b - 1 : Nat) : Int) = -1074 by omega, near_val false r (by omega)] at h8
  rw [← h8]; rfl
theorem val_half_top : val 9214364837600034816 = 4503599627370496 * topU := by
  have h1 : mant 9214364837600034816 = 4503599627370496 := by decide
  have h2 : expo 9214364837600034816 = 2045 := by decide
  obtain ⟨k, hk⟩ : ∃ k, k = expo 9214364837600034816 := ⟨_, rfl⟩
  rw [val_eq, h1, ← hk, topU_toNat k (by omega)]
end Go.Proofs.Ytbpggopjiogimaa.Plain
