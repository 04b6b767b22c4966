import Derived.Test.YtbpggopjiogimaaFLdexp
set_option linter.unusedVariables false
namespace Go.Proofs.Ytbpggopjiogimaa.Plain
open Go Go.RowKit Ieee
/-- the place above all numbers, in units of 2^-1074, less 53 bits -/
def topU : Nat := 2 ^ 2045
theorem topU_toNat : ∀ k : Nat, k = 2045 → 2 ^ k = topU := fun k h => by unfold topU; rw [h]
theorem topU_pos : 0 < topU := by
  obtain ⟨k, hk⟩ : ∃ k : Nat, k = 2045 := ⟨_, rfl⟩
  rw [← topU_toNat k hk]; exact Nat.two_pow_pos _
theorem expo_le (r : Nat) (h : r < 9218868437227405312) : expo r ≤ 2045 := by unfold expo; split <;> omega
theorem expo_mono (r q : Nat) (h : r ≤ q) : expo r ≤ expo q := by
  unfold expo
  have : r / 4503599627370496 ≤ q / 4503599627370496 := Nat.div_le_div_right h
  split <;> split <;> omega
theorem val_lt_top (r : Nat) (h : r < 9218868437227405312) : val r < 9007199254740992 * topU := by
  obtain ⟨k, hk⟩ : ∃ k : Nat, k = 2045 := ⟨_, rfl⟩
  rw [val_eq, ← topU_toNat k hk]
  have h1 := mant_lt r
  have h2 : (2 : Nat) ^ expo r ≤ 2 ^ k := Nat.pow_le_pow_right (by decide) (by have := expo_le r h; omega)
  exact Nat.lt_of_lt_of_le (Nat.mul_lt_mul_of_pos_right h1 (Nat.two_pow_pos _)) (Nat.mul_le_mul_left _ h2)
theorem val_fit2 (e m : Nat) (hm : m < 9007199254740992) (h : m * 2 ^ e < 9007199254740992 * topU) : ∃ r, r < 9218868437227405312 ∧ val r = m * 2 ^ e := by
  by_cases he : e ≤ 2045
  · exact val_fit e m hm he
  · obtain ⟨k, hk⟩ : ∃ k : Nat, k = 2045 := ⟨_, rfl⟩
    have e1 : m * 2 ^ e = m * 2 ^ (e - k) * 2 ^ k := by rw [Nat.mul_assoc, ← Nat.pow_add, show e - k + k = e by omega]
    rw [e1, ← topU_toNat k hk] at h
    have h2 : m * 2 ^ (e - k) < 9007199254740992 := Nat.lt_of_mul_lt_mul_right h
    obtain ⟨r, h3, h4⟩ := val_fit k _ h2 (by omega)
    exact ⟨r, h3, by rw [h4, e1]⟩
/-- what is left is a number of the format -/
theorem mod_fit (x y : Nat) (hx : x < 9218868437227405312) (hy : y < 9218868437227405312) (h0 : y ≠ 0) : ∃ r, r < y ∧ val r = val x % val y := by
  have hlt : val x % val y < val y := Nat.mod_lt _ (by have := @val_lt_iff 0 y; rw [val_zero] at this; omega)
  suffices h : ∃ r, r < 9218868437227405312 ∧ val r = val x % val y by
    obtain ⟨r, h1, h2⟩ := h
    exact ⟨r, val_lt_iff.1 (by rw [h2]; exact hlt), h2⟩
  rw [val_eq x, val_eq y]
  have hmx := mant_lt x
  have hmy := mant_lt y
  have hex := expo_le x hx
  have hey := expo_le y hy
  have hmy0 : 0 < mant y := by unfold mant; split <;> omega
  by_cases h : expo x ≤ expo y
  · have e1 : mant y * 2 ^ expo y = mant y * 2 ^ (expo y - expo x) * 2 ^ expo x := by rw [Nat.mul_assoc, ← Nat.pow_add, show expo y - expo x + expo x = expo y by omega]
    rw [e1, Nat.mul_mod_mul_right]
    exact val_fit _ _ (Nat.lt_of_le_of_lt (Nat.mod_le _ _) hmx) hex
  · have e1 : mant x * 2 ^ expo x = mant x * 2 ^ (expo x - expo y) * 2 ^ expo y := by rw [Nat.mul_assoc, ← Nat.pow_add, show expo x - expo y + expo y = expo x by omega]
    rw [e1, Nat.mul_mod_mul_right]
    exact val_fit _ _ (Nat.lt_trans (Nat.mod_lt _ hmy0) hmy) hey
/-- the difference of two magnitudes of which one is at most twice the other is exact -/
theorem sub_fit (r z : Nat) (hr : r < 9218868437227405312) (h1 : val z ≤ val r) (h2 : val r < 2 * val z) : ∃ d, d < r ∧ val d = val r - val z := by
  have hzr : z ≤ r := by
    have := @val_lt_iff r z; omega
  have hz0 : 0 < val z := by omega
  suffices h : ∃ d, d < 9218868437227405312 ∧ val d = val r - val z by
    obtain ⟨d, h3, h4⟩ := h
    exact ⟨d, val_lt_iff.1 (by rw [h4]; omega), h4⟩
  have he := expo_mono z r hzr
  have hez := expo_le z (by omega)
  have hmz := mant_lt z
  have e1 : val r = mant r * 2 ^ (expo r - expo z) * 2 ^ expo z := by rw [val_eq, Nat.mul_assoc, ← Nat.pow_add, show expo r - expo z + expo z = expo r by omega]
  have e2 : val r - val z = (mant r * 2 ^ (expo r - expo z) - mant z) * 2 ^ expo z := by rw [Nat.sub_mul, ← e1, ← val_eq]
  have h3 : mant r * 2 ^ (expo r - expo z) < 2 * mant z := by
    have h4 := h2
    rw [e1, val_eq z, ← Nat.mul_assoc] at h4
    exact Nat.lt_of_mul_lt_mul_right h4
  rw [e2]
  exact val_fit _ _ (by omega) hez
/-- a number by its mantissa with all of its bits -/
theorem val_norm (b : Nat) (h : mantW b ≠ 0) : val (rung b) * 2 ^ 52 = nMant b * 2 ^ (nExp b + 1126).toNat := by
  have hl := lgW_le b h
  have he := expo_exp b
  rw [val_word]
  unfold nMant
  have e1 : (nExp b + 1126).toNat = expo (rung b) + lgW b := by unfold nExp; omega
  rw [e1, Nat.mul_assoc, Nat.mul_assoc, ← Nat.pow_add, ← Nat.pow_add]
  congr 2; omega
theorem pow_gap (a b A B : Nat) (ha : a < 9007199254740992) (hb : 4503599627370496 ≤ b) (h : b * 2 ^ B ≤ a * 2 ^ A) : B ≤ A := by
  rcases Nat.lt_or_ge A B with g | g
  · exfalso
    have h1 : (2 : Nat) ^ (A + 1) ≤ 2 ^ B := Nat.pow_le_pow_right (by decide) g
    rw [Nat.pow_succ] at h1
    have h2 : 4503599627370496 * 2 ^ B ≤ b * 2 ^ B := Nat.mul_le_mul_right _ hb
    have h3 : a * 2 ^ A < 9007199254740992 * 2 ^ A := Nat.mul_lt_mul_of_pos_right ha (Nat.two_pow_pos _)
    generalize (2 : Nat) ^ A = P at *
    generalize (2 : Nat) ^ B = R at *
    omega
  · exact g
/-- how far the divisor is turned up -/
def modJ (r y : Nat) : Int := nExp r - nExp y - (if nMant r < nMant y then 1 else 0)
theorem mod_turn (r y : Nat) (hr : mantW r ≠ 0) (hy : mantW y ≠ 0) (h : val (rung y) ≤ val (rung r)) :
    0 ≤ modJ r y ∧ modJ r y ≤ 3000 ∧ val (rung y) * 2 ^ (modJ r y).toNat ≤ val (rung r) ∧ val (rung r) < 2 * (val (rung y) * 2 ^ (modJ r y).toNat) := by
  have nr := val_norm r hr
  have ny := val_norm y hy
  have rr := nMant_range r hr
  have ry := nMant_range y hy
  have lr := lgW_le r hr
  have ly := lgW_le y hy
  have er := expW_lo r
  have ey := expW_lo y
  have hR : nExp r = expW r - 52 + lgW r := rfl
  have hY : nExp y = expW y - 52 + lgW y := rfl
  obtain ⟨A, hA⟩ : ∃ A : Nat, A = (nExp r + 1126).toNat := ⟨_, rfl⟩
  obtain ⟨B, hB⟩ : ∃ B : Nat, B = (nExp y + 1126).toNat := ⟨_, rfl⟩
  rw [← hA] at nr
  rw [← hB] at ny
  have h52 : (0 : Nat) < 2 ^ 52 := Nat.two_pow_pos _
  have h' : nMant y * 2 ^ B ≤ nMant r * 2 ^ A := by rw [← nr, ← ny]; exact Nat.mul_le_mul_right _ h
  have hBA := pow_gap _ _ A B rr.2 ry.1 h'
  have scale : ∀ j : Nat, (val (rung y) * 2 ^ j) * 2 ^ 52 = nMant y * 2 ^ (B + j) := fun j => by
    rw [Nat.mul_right_comm, ny, Nat.mul_assoc, ← Nat.pow_add]
  unfold modJ
  by_cases c : nMant r < nMant y
  · rw [if_pos c]
    have hlt : B < A := by
      rcases Nat.lt_or_ge B A with g | g
      · exact g
      · exfalso
        have : A = B := by omega
        rw [this] at h'
        have := Nat.mul_lt_mul_of_pos_right c (Nat.two_pow_pos B)
        omega
    have hj : (nExp r - nExp y - 1).toNat = A - B - 1 := by omega
    rw [hj]
    have hs := scale (A - B - 1)
    rw [show B + (A - B - 1) = A - 1 by omega] at hs
    have hp : (2 : Nat) ^ A = 2 * 2 ^ (A - 1) := by rw [Nat.mul_comm, ← Nat.pow_succ]; congr 1; omega
    rw [hp] at nr
    refine ⟨by omega, by omega, ?_, ?_⟩
    · refine Nat.le_of_mul_le_mul_right ?_ h52
      rw [hs, nr, ← Nat.mul_assoc]
      exact Nat.mul_le_mul_right _ (by omega)
    · refine Nat.lt_of_mul_lt_mul_right (a := 2 ^ 52) ?_
      rw [nr, Nat.mul_assoc 2, hs, ← Nat.mul_assoc, ← Nat.mul_assoc, Nat.mul_comm (nMant r) 2]
      exact Nat.mul_lt_mul_of_pos_right (by omega) (Nat.two_pow_pos _)
  · rw [if_neg c]
    have hj : (nExp r - nExp y - 0).toNat = A - B := by omega
    rw [hj]
    have hs := scale (A - B)
    rw [show B + (A - B) = A by omega] at hs
    refine ⟨by omega, by omega, ?_, ?_⟩
    · refine Nat.le_of_mul_le_mul_right ?_ h52
      rw [hs, nr]
      exact Nat.mul_le_mul_right _ (by omega)
    · refine Nat.lt_of_mul_lt_mul_right (a := 2 ^ 52) ?_
      rw [nr, Nat.mul_assoc 2, hs, ← Nat.mul_assoc]
      exact Nat.mul_lt_mul_of_pos_right (by omega) (Nat.two_pow_pos _)
/-- one round of Mod's loop -/
theorem mod_round (r y : Nat) (hr : r < 9218868437227405312) (hy : y < 9218868437227405312) (hy0 : y ≠ 0) (h : y ≤ r) :
    ∃ z d, ldW y (modJ r y) = z ∧ z < 18446744073709551616 ∧ double.sub r z = some d ∧ d < r ∧ val d % val y = val r % val y ∧ -3000 ≤ modJ r y ∧ modJ r y ≤ 3000 := by
  have rr : rung r = r := by unfold rung; omega
  have ry : rung y = y := by unfold rung; omega
  have nr : negB r = false := by unfold negB; simp; omega
  have ny : negB y = false := by unfold negB; simp; omega
  have m0 : mantW y ≠ 0 := fun g => hy0 (by rw [← ry]; exact (mantW_zero y).1 g)
  have m1 : mantW r ≠ 0 := fun g => by have := (mantW_zero r).1 g; omega
  have hv : val y ≤ val r := by have := @val_lt_iff r y; omega
  obtain ⟨j0, j1, k1, k2⟩ := mod_turn r y m1 m0 (by rw [rr, ry]; exact hv)
  rw [rr, ry] at k1 k2
  obtain ⟨j, hj⟩ : ∃ j : Nat, j = (modJ r y).toNat := ⟨_, rfl⟩
  rw [← hj] at k1 k2
  have hjz : modJ r y = (j : Int) := by omega
  have e1 : val y * 2 ^ j = mantW y * 2 ^ (expo y + j) := by
    have := val_word y
    rw [ry] at this
    rw [this, Nat.mul_assoc, ← Nat.pow_add]
  obtain ⟨z, z1, z2⟩ := val_fit2 (expo y + j) (mantW y) (mantW_lt y) (by rw [← e1]; exact Nat.lt_of_le_of_lt k1 (val_lt_top r hr))
  rw [← e1] at z2
  have hz : ldW y (modJ r y) = z := by
    unfold ldW
    have hfe := (fin_ef y).1 (by omega)
    rw [if_neg (by omega), ny, hjz]
    have h1 := near_scale false (mantW y) (expo y + j) (expW y + (j : Int))
    have h2 := expo_exp y
    rw [ry] at h2
    rw [show expW y + (j : Int) - ((expo y + j : Nat) : Int) = -1074 by omega, ← e1, ← z2, near_val false z (by omega)] at h1
    rw [← h1]; rfl
  rw [← z2] at k1 k2
  obtain ⟨d, d1, d2⟩ := sub_fit r z hr k1 k2
  have rz : rung z = z := by unfold rung; omega
  have nz : negB z = false := by unfold negB; simp; omega
  have hs := sub_same r z (by omega) (by omega) (by rw [nz, nr]) (by rw [rr, rz]; exact k1)
  rw [nr, Bool.false_and, rr, rz, ← d2, near_val false d (by omega)] at hs
  refine ⟨z, d, hz, by omega, hs, d1, ?_, by omega, by omega⟩
  rw [d2, z2]
  exact Nat.sub_mul_mod (by rw [← z2]; exact k1)
/-- the word that Mod gives, of finite numbers -/
def modW (x y : Nat) : Nat := near (negB x) (val (rung x) % val (rung y)) (-1074)
theorem mod_word (x y : Nat) (hx : rung x < 9218868437227405312) (hy : rung y < 9218868437227405312) (h0 : rung y ≠ 0) : ∃ r, r < rung y ∧ val r = val (rung x) % val (rung y) ∧ modW x y = wordD (negB x) r := by
  obtain ⟨r, h1, h2⟩ := mod_fit (rung x) (rung y) hx hy h0
  exact ⟨r, h1, h2, by unfold modW; rw [← h2, near_val _ r (by omega)]⟩
end Go.Proofs.Ytbpggopjiogimaa.Plain
