import Derived.Laws.MathBits
import Derived.Lib.TrailingZeros
set_option linter.unusedVariables false
namespace Go.Proofs.Ytbpggopjiogimaa.Plain

/-- the reference's Len: one more than the place of the highest 1 among n bits -/
def lenB (x : Nat) : Nat → Nat
  | 0 => 0
  | n + 1 => if x.testBit n then n + 1 else lenB x n

theorem lenB_le (x n : Nat) : lenB x n ≤ n := by
  induction n with
  | zero => simp [lenB]
  | succ n ih => unfold lenB; split <;> omega

theorem lenB_eq (x n : Nat) (h : x < 2 ^ n) : lenB x n = bitLen x := by
  induction n with
  | zero => have : x = 0 := by simpa using h
            subst this; simp [lenB, bitLen]
  | succ n ih =>
    unfold lenB
    split
    · rename_i ht
      have h1 : 2 ^ n ≤ x := Nat.ge_two_pow_of_testBit ht
      have h0 : x ≠ 0 := by have := Nat.two_pow_pos n; omega
      have e : x.log2 = n := (Nat.log2_eq_iff h0).2 ⟨h1, h⟩
      simp [bitLen, h0, e]
    · rename_i ht
      refine ih ?_
      rcases Nat.lt_or_ge x (2 ^ n) with h1 | h1
      · exact h1
      · exfalso; apply ht
        have : x / 2 ^ n = 1 := by
          have h2 : x < 2 * 2 ^ n := by rw [Nat.pow_succ] at h; omega
          exact Nat.div_eq_of_lt_le (by omega) (by omega)
        simp [Nat.testBit, Nat.shiftRight_eq_div_pow, this]

/-- how many of n bits are 1 -/
def onesB (x : Nat) : Nat → Nat
  | 0 => 0
  | n + 1 => onesB x n + (x.testBit n).toNat

theorem onesB_le (x n : Nat) : onesB x n ≤ n := by
  induction n with
  | zero => simp [onesB]
  | succ n ih => unfold onesB; have := Bool.toNat_le (x.testBit n); omega

theorem onesB_add (x m n : Nat) : onesB x (m + n) = onesB x m + onesB (x / 2 ^ m) n := by
  induction n with
  | zero => simp [onesB]
  | succ n ih =>
    rw [show m + (n + 1) = (m + n) + 1 from by omega]
    simp only [onesB]
    rw [ih, Nat.testBit_div_two_pow, Nat.add_assoc, Nat.add_comm n m]

theorem onesB_mod (x m n : Nat) (h : n ≤ m) : onesB (x % 2 ^ m) n = onesB x n := by
  induction n with
  | zero => simp [onesB]
  | succ n ih =>
    simp only [onesB]
    rw [ih (by omega), Nat.testBit_mod_two_pow]
    have : n < m := by omega
    simp [this]

/-- the number of n bits whose bit i is the bit (f i) of x -/
def placedB (x : Nat) (f : Nat → Nat) : Nat → Nat
  | 0 => 0
  | n + 1 => placedB x f n + (x.testBit (f n)).toNat * 2 ^ n

theorem placedB_lt (x : Nat) (f : Nat → Nat) (n : Nat) : placedB x f n < 2 ^ n := by
  induction n with
  | zero => simp [placedB]
  | succ n ih =>
    unfold placedB
    have := Bool.toNat_le (x.testBit (f n))
    have h2 : (x.testBit (f n)).toNat * 2 ^ n ≤ 1 * 2 ^ n := Nat.mul_le_mul_right _ this
    rw [Nat.pow_succ]; omega

theorem testBit_placedB (x : Nat) (f : Nat → Nat) (n i : Nat) : (placedB x f n).testBit i = (decide (i < n) && x.testBit (f i)) := by
  induction n with
  | zero => simp [placedB]
  | succ n ih =>
    unfold placedB
    rw [Nat.add_comm, Nat.mul_comm, Nat.testBit_two_pow_mul_add _ (placedB_lt x f n)]
    by_cases h : i < n
    · rw [if_pos h, ih]; simp [h]; omega
    · rw [if_neg h]
      by_cases h2 : i = n
      · subst h2; cases x.testBit (f i) <;> simp
      · have : 0 < i - n := by omega
        have h3 : ¬ i < n + 1 := by omega
        simp only [h3, decide_false, Bool.false_and]
        have hle := Bool.toNat_le (x.testBit (f n))
        exact Nat.testBit_lt_two_pow (Nat.lt_of_le_of_lt hle (by
          calc 1 < 2 ^ 1 := by decide
            _ ≤ 2 ^ (i - n) := Nat.pow_le_pow_right (by decide) this))

theorem eq_placedB (x : Nat) (f : Nat → Nat) (n r : Nat) (hr : r < 2 ^ n) (h : ∀ i, i < n → r.testBit i = x.testBit (f i)) : r = placedB x f n := by
  apply Nat.eq_of_testBit_eq
  intro i
  rw [testBit_placedB]
  by_cases hi : i < n
  · simp [hi, h i hi]
  · simp only [hi, decide_false, Bool.false_and]
    exact Nat.testBit_lt_two_pow (Nat.lt_of_lt_of_le hr (Nat.pow_le_pow_right (by decide) (by omega)))

theorem placedB_congr (x : Nat) (f g : Nat → Nat) (n : Nat) (h : ∀ i, i < n → f i = g i) : placedB x f n = placedB x g n := by
  apply eq_placedB _ _ _ _ (placedB_lt x f n)
  intro i hi
  rw [testBit_placedB]; simp [hi, h i hi]

/-- where the lowest 1 is -/
theorem ctz_of (n x k : Nat) (h : x < 2 ^ n) (hk : x.testBit k = true) (hlo : ∀ j, j < k → x.testBit j = false) : Lib.ctz n x = k := by
  have h0 : x ≠ 0 := by intro h0; subst h0; simp at hk
  obtain ⟨m, hm, _⟩ := Lib.ctzFrom_spec n x (by omega) h
  have e : Lib.ctz n x = Lib.ctzFrom n x := by simp [Lib.ctz, h0]
  rw [e]
  generalize Lib.ctzFrom n x = c at hm
  have hc : x.testBit c = true := by
    rw [hm, Nat.testBit_two_pow_mul]; simp
  have hb : ∀ j, j < c → x.testBit j = false := by
    intro j hj; rw [hm, Nat.testBit_two_pow_mul]; simp; omega
  rcases Nat.lt_trichotomy c k with hlt | heq | hgt
  · have := hlo c hlt; rw [hc] at this; cases this
  · exact heq
  · have := hb k hgt; rw [hk] at this; cases this

theorem zero_of_low (n x : Nat) (h : x < 2 ^ n) (hlo : ∀ j, j < n → x.testBit j = false) : x = 0 := by
  apply Nat.eq_of_testBit_eq
  intro i
  by_cases hi : i < n
  · simp [hlo i hi]
  · rw [Nat.zero_testBit]; exact Nat.testBit_lt_two_pow (Nat.lt_of_lt_of_le h (Nat.pow_le_pow_right (by decide) (by omega)))

end Go.Proofs.Ytbpggopjiogimaa.Plain
