import Derived.Test.YtjcjnldnlgiloaaDoorBitsPlain
set_option linter.unusedVariables false
namespace Go.Proofs.YtjcjnldnlgiloaaDoor.Plain

theorem rev_rev (x n : Nat) (hx : x < 2 ^ n) : placedB (placedB x (fun i => n - 1 - i) n) (fun i => n - 1 - i) n = x := by
  symm
  apply eq_placedB _ _ _ _ hx
  intro i hi
  rw [testBit_placedB]
  have h1 : n - 1 - i < n := by omega
  have h2 : n - 1 - (n - 1 - i) = i := by omega
  simp [h1, h2]

def sumF (f : Nat → Nat) : Nat → Nat
  | 0 => 0
  | n + 1 => sumF f n + f n
theorem sumF_succ' (f : Nat → Nat) (n : Nat) : sumF f (n + 1) = f 0 + sumF (fun i => f (i + 1)) n := by
  induction n with
  | zero => simp [sumF]
  | succ n ih =>
    show sumF f (n + 1) + f (n + 1) = f 0 + (sumF (fun i => f (i + 1)) n + f (n + 1))
    rw [ih]; omega
theorem sumF_congr (f g : Nat → Nat) (n : Nat) (h : ∀ i, i < n → f i = g i) : sumF f n = sumF g n := by
  induction n with
  | zero => rfl
  | succ n ih =>
    show sumF f n + f n = sumF g n + g n
    rw [ih fun i hi => h i (by omega), h n (by omega)]
theorem sumF_rev (f : Nat → Nat) (n : Nat) : sumF (fun i => f (n - 1 - i)) n = sumF f n := by
  induction n with
  | zero => rfl
  | succ n ih =>
    rw [sumF_succ']
    show f (n + 1 - 1 - 0) + _ = sumF f n + f n
    rw [← ih]
    have : sumF (fun i => f (n + 1 - 1 - (i + 1))) n = sumF (fun i => f (n - 1 - i)) n := sumF_congr _ _ _ fun i hi => by
      congr 1; omega
    rw [this]; simp; omega
theorem onesB_sum (x n : Nat) : onesB x n = sumF (fun i => (x.testBit i).toNat) n := by
  induction n with
  | zero => rfl
  | succ n ih => show onesB x n + _ = sumF _ n + _; rw [ih]

theorem ones_rev (x n : Nat) : onesB (placedB x (fun i => n - 1 - i) n) n = onesB x n := by
  rw [onesB_sum, onesB_sum, ← sumF_rev (fun i => (x.testBit i).toNat) n]
  apply sumF_congr
  intro i hi
  rw [testBit_placedB]; simp [hi]

theorem bit_top (x : Nat) (h : x ≠ 0) : x.testBit (bitLen x - 1) = true := by
  have e : bitLen x = x.log2 + 1 := by simp [bitLen, h]
  rw [e, Nat.add_sub_cancel]
  exact Nat.testBit_log2 h
theorem bit_above (x i : Nat) (h : bitLen x ≤ i) : x.testBit i = false :=
  Nat.testBit_lt_two_pow (Nat.lt_of_lt_of_le (bitLen_spec x).1 (Nat.pow_le_pow_right (by decide) h))
theorem bitLen_le (x n : Nat) (h : x < 2 ^ n) : bitLen x ≤ n := by rw [← lenB_eq x n h]; exact lenB_le x n
theorem bitLen_pos (x : Nat) (h : x ≠ 0) : 0 < bitLen x := by simp [bitLen, h]

theorem ctz_rev (x n : Nat) (hx : x < 2 ^ n) : Lib.ctz n (placedB x (fun i => n - 1 - i) n) = n - bitLen x := by
  by_cases h : x = 0
  · subst h
    have e : placedB 0 (fun i => n - 1 - i) n = 0 := by
      apply zero_of_low n _ (placedB_lt _ _ _)
      intro j _; rw [testBit_placedB]; simp
    rw [e]; simp [Lib.ctz, bitLen]
  · have hl := bitLen_le x n hx
    have hp := bitLen_pos x h
    apply ctz_of n _ _ (placedB_lt _ _ _)
    · rw [testBit_placedB]
      have h1 : n - bitLen x < n := by omega
      have h2 : n - 1 - (n - bitLen x) = bitLen x - 1 := by omega
      simp [h1, h2, bit_top x h]
    · intro j hj
      rw [testBit_placedB, bit_above x (n - 1 - j) (by omega)]; simp

theorem ones_high (x m n : Nat) (h : bitLen x ≤ m) : onesB x (m + n) = onesB x m := by
  induction n with
  | zero => rfl
  | succ n ih =>
    show onesB x (m + n) + (x.testBit (m + n)).toNat = _
    rw [ih, bit_above x (m + n) (by omega)]; simp
theorem ones_le_len (x n : Nat) (hx : x < 2 ^ n) : onesB x n ≤ bitLen x := by
  have hl := bitLen_le x n hx
  have := ones_high x (bitLen x) (n - bitLen x) (Nat.le_refl _)
  rw [show bitLen x + (n - bitLen x) = n by omega] at this
  rw [this]; exact onesB_le _ _
theorem ctz_lt_len (x n : Nat) (hx : x < 2 ^ n) (h : x ≠ 0) : Lib.ctz n x < bitLen x := by
  obtain ⟨m, hm, hk⟩ := Lib.ctzFrom_spec n x (by omega) hx
  have e : Lib.ctz n x = Lib.ctzFrom n x := by simp [Lib.ctz, h]
  rw [e]
  have h1 : 2 ^ Lib.ctzFrom n x ≤ x := by
    have : 2 ^ Lib.ctzFrom n x * 1 ≤ 2 ^ Lib.ctzFrom n x * (2 * m + 1) := Nat.mul_le_mul_left _ (by omega)
    rw [← hm] at this; omega
  have h2 := (bitLen_spec x).1
  exact (Nat.pow_lt_pow_iff_right (by decide : 1 < 2)).1 (Nat.lt_of_le_of_lt h1 h2)
theorem ctz_le (x n : Nat) (hx : x < 2 ^ n) : Lib.ctz n x ≤ n := by
  by_cases h : x = 0
  · subst h; simp [Lib.ctz]
  · have := ctz_lt_len x n hx h; have := bitLen_le x n hx; omega

end Go.Proofs.YtjcjnldnlgiloaaDoor.Plain
