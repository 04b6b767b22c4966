import Derived.Laws.MathBits
set_option linter.unusedVariables false
namespace Go.Proofs.Ytpoadogiganibaa.Plain

theorem mod_succ (x k : Nat) : x % 2 ^ (k + 1) = x % 2 ^ k + 2 ^ k * (x / 2 ^ k % 2) := by
  rw [Nat.pow_succ, Nat.mod_mul]

theorem or_shl (out b k : Nat) (h : out < 2 ^ k) : out ||| b * 2 ^ k = out + b * 2 ^ k := by
  rw [Nat.or_comm, Nat.mul_comm, ← Nat.two_pow_add_eq_or_of_lt h, Nat.add_comm]

/-- one round of an addition bit by bit -/
theorem sum_step (x y c k out carry : Nat) (hc : carry ≤ 1) (ho : out < 2 ^ k) (h : out + 2 ^ k * carry = x % 2 ^ k + y % 2 ^ k + c) :
    (x / 2 ^ k % 2 + y / 2 ^ k % 2 + carry) / 2 ≤ 1 ∧ out + (x / 2 ^ k % 2 + y / 2 ^ k % 2 + carry) % 2 * 2 ^ k < 2 ^ (k + 1) ∧
    out + (x / 2 ^ k % 2 + y / 2 ^ k % 2 + carry) % 2 * 2 ^ k + 2 ^ (k + 1) * ((x / 2 ^ k % 2 + y / 2 ^ k % 2 + carry) / 2) = x % 2 ^ (k + 1) + y % 2 ^ (k + 1) + c := by
  rw [mod_succ x k, mod_succ y k, Nat.pow_succ]
  have hx : x / 2 ^ k % 2 = 0 ∨ x / 2 ^ k % 2 = 1 := by omega
  have hy : y / 2 ^ k % 2 = 0 ∨ y / 2 ^ k % 2 = 1 := by omega
  have hcc : carry = 0 ∨ carry = 1 := by omega
  generalize 2 ^ k = P at *
  rcases hx with hx | hx <;> rcases hy with hy | hy <;> rcases hcc with hcc | hcc <;> subst hcc <;> rw [hx, hy] <;> simp <;> omega

/-- one round of a subtraction bit by bit -/
theorem diff_step (x y c k out b : Nat) (hc : b ≤ 1) (ho : out < 2 ^ k) (h : out + y % 2 ^ k + c = x % 2 ^ k + 2 ^ k * b) :
    out + (x / 2 ^ k % 2 + (y / 2 ^ k % 2 + b)) % 2 * 2 ^ k < 2 ^ (k + 1) ∧
    out + (x / 2 ^ k % 2 + (y / 2 ^ k % 2 + b)) % 2 * 2 ^ k + y % 2 ^ (k + 1) + c = x % 2 ^ (k + 1) + 2 ^ (k + 1) * (if x / 2 ^ k % 2 < y / 2 ^ k % 2 + b then 1 else 0) := by
  rw [mod_succ x k, mod_succ y k, Nat.pow_succ]
  have hx : x / 2 ^ k % 2 = 0 ∨ x / 2 ^ k % 2 = 1 := by omega
  have hy : y / 2 ^ k % 2 = 0 ∨ y / 2 ^ k % 2 = 1 := by omega
  have hcc : b = 0 ∨ b = 1 := by omega
  generalize 2 ^ k = P at *
  rcases hx with hx | hx <;> rcases hy with hy | hy <;> rcases hcc with hcc | hcc <;> subst hcc <;> rw [hx, hy] <;> simp <;> omega

/-! Knuth's division step: the quotient of (u * 2^32 + v) by y = a * 2^32 + b -/



theorem kn_lt (u v y a b q r : Nat) (hu : u < y) (hv : v < 4294967296) : (u * 4294967296 + v) / y < 4294967296 := by
  rw [Nat.div_lt_iff_lt_mul (by omega)]
  have : (u + 1) * 4294967296 ≤ y * 4294967296 := Nat.mul_le_mul_right _ (by omega)
  rw [Nat.mul_comm 4294967296 y]; omega

theorem kn_guess (u v y a b q r : Nat) (hy : y = a * 4294967296 + b) (h1 : 2147483648 ≤ a) (hb : b < 4294967296) (hu : u < y) : u / a ≤ 4294967297 := by
  have : u / a < 4294967298 := by
    rw [Nat.div_lt_iff_lt_mul (by omega), Nat.mul_comm]
    omega
  omega

theorem kn_ge (u v y a b q r : Nat) (hy : y = a * 4294967296 + b) (h1 : 2147483648 ≤ a) (hv : v < 4294967296) : (u * 4294967296 + v) / y ≤ u / a := by
  rw [Nat.le_div_iff_mul_le (by omega)]
  have h := Nat.div_mul_le_self (u * 4294967296 + v) y
  generalize (u * 4294967296 + v) / y = Q at *
  rw [hy, Nat.mul_add, ← Nat.mul_assoc] at h
  generalize Q * a = A at *
  generalize Q * b = B at *
  omega

theorem kn_down (u v y a b q r : Nat) (hy : y = a * 4294967296 + b) (hy0 : 0 < y) (hr : q * a + r = u) (ht : 4294967296 * r + v < q * b) : (u * 4294967296 + v) / y < q := by
  rw [Nat.div_lt_iff_lt_mul hy0, hy, Nat.mul_add, ← Nat.mul_assoc, ← hr]
  generalize q * a = A at *
  generalize q * b = B at *
  omega

theorem kn_done (u v y a b q r : Nat) (hy : y = a * 4294967296 + b) (hy0 : 0 < y) (hr : q * a + r = u) (ht : q * b ≤ 4294967296 * r + v) : q ≤ (u * 4294967296 + v) / y := by
  rw [Nat.le_div_iff_mul_le hy0, hy, Nat.mul_add, ← Nat.mul_assoc, ← hr]
  generalize q * a = A at *
  generalize q * b = B at *
  omega

theorem kn_break (u v y a b q r : Nat) (hb : b < 4294967296) (hq : q ≤ 4294967296) (hr : 4294967296 ≤ r) : q * b ≤ 4294967296 * r + v := by
  have h1 : q * b ≤ 4294967296 * 4294967295 := Nat.mul_le_mul hq (by omega)
  omega


/-- the sum of the lowest k bits, and what is carried -/
def sO (x y c k : Nat) : Nat := (x % 2 ^ k + y % 2 ^ k + c) % 2 ^ k
def sC (x y c k : Nat) : Nat := (x % 2 ^ k + y % 2 ^ k + c) / 2 ^ k
theorem sO_lt (x y c k : Nat) : sO x y c k < 2 ^ k := Nat.mod_lt _ (Nat.two_pow_pos k)
theorem sC_le (x y c k : Nat) (hc : c ≤ 1) : sC x y c k ≤ 1 := by
  unfold sC
  have h1 : x % 2 ^ k < 2 ^ k := Nat.mod_lt _ (Nat.two_pow_pos k)
  have h2 : y % 2 ^ k < 2 ^ k := Nat.mod_lt _ (Nat.two_pow_pos k)
  have : (x % 2 ^ k + y % 2 ^ k + c) / 2 ^ k < 2 := by
    rw [Nat.div_lt_iff_lt_mul (Nat.two_pow_pos k)]; omega
  omega
theorem divmod_of (S P o q : Nat) (ho : o < P) (h : o + P * q = S) : o = S % P ∧ q = S / P := by
  subst h
  refine ⟨?_, ?_⟩
  · rw [Nat.add_mul_mod_self_left, Nat.mod_eq_of_lt ho]
  · rw [Nat.add_mul_div_left _ _ (by omega), Nat.div_eq_of_lt ho, Nat.zero_add]
theorem s_step (x y c k : Nat) (hc : c ≤ 1) :
    sO x y c (k + 1) = sO x y c k + (x / 2 ^ k % 2 + y / 2 ^ k % 2 + sC x y c k) % 2 * 2 ^ k ∧
    sC x y c (k + 1) = (x / 2 ^ k % 2 + y / 2 ^ k % 2 + sC x y c k) / 2 := by
  have h0 : sO x y c k + 2 ^ k * sC x y c k = x % 2 ^ k + y % 2 ^ k + c := by
    unfold sO sC; rw [Nat.mod_add_div]
  obtain ⟨_, h2, h3⟩ := sum_step x y c k (sO x y c k) (sC x y c k) (sC_le x y c k hc) (sO_lt x y c k) h0
  obtain ⟨e1, e2⟩ := divmod_of _ _ _ _ h2 h3
  exact ⟨e1.symm, e2.symm⟩

/-- the difference of the lowest k bits, and what is borrowed -/
def dB (x y c k : Nat) : Nat := if x % 2 ^ k < y % 2 ^ k + c then 1 else 0
def dO (x y c k : Nat) : Nat := x % 2 ^ k + 2 ^ k * dB x y c k - (y % 2 ^ k + c)
theorem dB_le (x y c k : Nat) : dB x y c k ≤ 1 := by unfold dB; split <;> omega
theorem d_inv (x y c k : Nat) (hc : c ≤ 1) : dO x y c k < 2 ^ k ∧ dO x y c k + y % 2 ^ k + c = x % 2 ^ k + 2 ^ k * dB x y c k := by
  have h1 : x % 2 ^ k < 2 ^ k := Nat.mod_lt _ (Nat.two_pow_pos k)
  have h2 : y % 2 ^ k < 2 ^ k := Nat.mod_lt _ (Nat.two_pow_pos k)
  unfold dO dB
  generalize 2 ^ k = P at *
  split <;> simp <;> omega
theorem diff_of (P o b X Y : Nat) (hX : X < P) (ho : o < P) (hb : b ≤ 1) (h : o + Y = X + P * b) : b = (if X < Y then 1 else 0) ∧ o = X + P * b - Y := by
  rcases (by omega : b = 0 ∨ b = 1) with h0 | h0 <;> subst h0 <;> simp at h ⊢
  · omega
  · omega
theorem d_step (x y c k : Nat) (hc : c ≤ 1) :
    dO x y c (k + 1) = dO x y c k + (x / 2 ^ k % 2 + (y / 2 ^ k % 2 + dB x y c k)) % 2 * 2 ^ k ∧
    dB x y c (k + 1) = if x / 2 ^ k % 2 < y / 2 ^ k % 2 + dB x y c k then 1 else 0 := by
  obtain ⟨h1, h2⟩ := d_inv x y c k hc
  obtain ⟨h3, h4⟩ := diff_step x y c k (dO x y c k) (dB x y c k) (dB_le x y c k) h1 h2
  have hX : x % 2 ^ (k + 1) < 2 ^ (k + 1) := Nat.mod_lt _ (Nat.two_pow_pos _)
  have hbb : (if x / 2 ^ k % 2 < y / 2 ^ k % 2 + dB x y c k then 1 else 0) ≤ 1 := by split <;> omega
  obtain ⟨e1, e2⟩ := diff_of (2 ^ (k + 1)) _ _ (x % 2 ^ (k + 1)) (y % 2 ^ (k + 1) + c) hX h3 hbb (by rw [← h4]; omega)
  refine ⟨?_, ?_⟩
  · rw [e2]; unfold dO
    rw [show dB x y c (k + 1) = _ from e1.symm]
  · exact e1.symm


def addS (M x y c : Nat) : Nat := (x + y + c) % M
def addO (M x y c : Nat) : Nat := (x + y + c) / M
def subD (M x y c : Nat) : Nat := (x + (M - y) + (M - c)) % M
def borB (x y c : Nat) : Nat := if x < y + c then 1 else 0
def mulH (M x y : Nat) : Nat := x * y / M
def mulL (M x y : Nat) : Nat := x * y % M
def divQ (M hi lo y : Nat) : Nat := (hi * M + lo) / y
def divR (M hi lo y : Nat) : Nat := (hi * M + lo) % y

/-- the number that has been brought down so far in a long division: hi and the bits of lo from k on -/
def qA (hi lo k : Nat) : Nat := hi * 2 ^ (64 - k) + lo / 2 ^ k
theorem qA_step (hi lo j : Nat) (hj : j < 64) : qA hi lo j = 2 * qA hi lo (j + 1) + lo / 2 ^ j % 2 := by
  unfold qA
  rw [show 64 - j = (64 - (j + 1)) + 1 by omega, Nat.pow_succ, Nat.pow_succ, ← Nat.div_div_eq_div_mul]
  generalize 2 ^ (64 - (j + 1)) = P
  generalize lo / 2 ^ j = m
  rw [← Nat.mul_assoc]
  generalize hi * P = t
  omega
theorem div_dbl (A b y : Nat) (hy : 0 < y) (hb : b ≤ 1) :
    (2 * (A % y) + b < y → (2 * A + b) / y = 2 * (A / y) ∧ (2 * A + b) % y = 2 * (A % y) + b) ∧
    (y ≤ 2 * (A % y) + b → (2 * A + b) / y = 2 * (A / y) + 1 ∧ (2 * A + b) % y = 2 * (A % y) + b - y) := by
  have hr : A % y < y := Nat.mod_lt _ hy
  have e : 2 * A + b = y * (2 * (A / y)) + (2 * (A % y) + b) := by
    have h := Nat.div_add_mod A y
    have h2 : y * (2 * (A / y)) = 2 * (y * (A / y)) := by rw [← Nat.mul_assoc, Nat.mul_comm y 2, Nat.mul_assoc]
    rw [h2]
    generalize y * (A / y) = t at *
    omega
  rw [e]
  generalize A % y = r at *
  generalize A / y = q at *
  refine ⟨fun h => ?_, fun h => ?_⟩
  · rw [Nat.mul_add_div hy, Nat.mul_add_mod, Nat.div_eq_of_lt h, Nat.mod_eq_of_lt h]; exact ⟨by omega, rfl⟩
  · rw [Nat.mul_add_div hy, Nat.mul_add_mod]
    have h1 : (2 * r + b) / y = 1 := Nat.div_eq_of_lt_le (by omega) (by omega)
    have h2 : (2 * r + b) % y = 2 * r + b - y := by
      rw [Nat.mod_eq_sub_mod h, Nat.mod_eq_of_lt (by omega)]
    rw [h1, h2]; exact ⟨rfl, rfl⟩
theorem qA_lt (hi lo y k : Nat) (hk : k ≤ 64) (hh : hi < y) (hl : lo < 2 ^ 64) : qA hi lo k / y < 2 ^ (64 - k) := by
  unfold qA
  rw [Nat.div_lt_iff_lt_mul (by omega)]
  have h1 : lo / 2 ^ k < 2 ^ (64 - k) := by
    rw [Nat.div_lt_iff_lt_mul (Nat.two_pow_pos _), ← Nat.pow_add, show 64 - k + k = 64 by omega]; exact hl
  have h2 : (hi + 1) * 2 ^ (64 - k) ≤ y * 2 ^ (64 - k) := Nat.mul_le_mul_right _ hh
  rw [Nat.mul_comm (2 ^ (64 - k)) y]
  rw [Nat.add_mul] at h2; omega
theorem qA_zero (hi lo : Nat) : qA hi lo 0 = hi * 18446744073709551616 + lo := by unfold qA; simp
theorem qA_top (hi lo : Nat) (hl : lo < 2 ^ 64) : qA hi lo 64 = hi := by unfold qA; rw [Nat.div_eq_of_lt hl]; simp

/-- a product from the highest bit down -/
def pV (x y k : Nat) : Nat := x * (y / 2 ^ k)
theorem pV_step (x y j : Nat) : pV x y j = 2 * pV x y (j + 1) + (y.testBit j).toNat * x := by
  unfold pV
  rw [Nat.pow_succ, ← Nat.div_div_eq_div_mul, Nat.toNat_testBit]
  generalize y / 2 ^ j = m
  have h := Nat.div_add_mod m 2
  generalize m / 2 = q at *
  generalize m % 2 = b at *
  rw [← h, Nat.mul_add, Nat.mul_comm b x, ← Nat.mul_assoc, ← Nat.mul_assoc, Nat.mul_comm x 2]
theorem pV_lt (x y k : Nat) (hx : x < 18446744073709551616) (hy : y < 18446744073709551616) : pV x y k < 340282366920938463463374607431768211456 := by
  unfold pV
  have h1 : y / 2 ^ k ≤ y := Nat.div_le_self _ _
  have : x * (y / 2 ^ k) ≤ 18446744073709551615 * 18446744073709551615 := Nat.mul_le_mul (by omega) (by omega)
  omega

end Go.Proofs.Ytpoadogiganibaa.Plain
