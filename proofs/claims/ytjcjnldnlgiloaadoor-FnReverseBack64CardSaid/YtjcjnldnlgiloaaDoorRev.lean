import Derived.Test.YtjcjnldnlgiloaaDoorBitsPlain
set_option linter.unusedVariables false
namespace Go.Proofs.YtjcjnldnlgiloaaDoor.Plain

/-- one step of a reversal: the halves of each group of 2 s bits change places -/
def swp (s m x : Nat) : Nat := (x / 2 ^ s &&& m) ||| ((x &&& m) * 2 ^ s)
def gs (s i : Nat) : Nat := if i / s % 2 = 0 then i + s else i - s

theorem testBit_swp (s m x N i : Nat) (hm : ∀ j, j < N → m.testBit j = decide (j / s % 2 = 0)) (hi : i < N) (hs : 0 < s) :
    (swp s m x).testBit i = x.testBit (gs s i) := by
  unfold swp gs
  rw [Nat.testBit_or, Nat.testBit_and, Nat.testBit_div_two_pow, hm i hi, Nat.mul_comm, Nat.testBit_two_pow_mul, Nat.testBit_and]
  by_cases h : i / s % 2 = 0
  · simp only [h, decide_true, Bool.and_true, if_true]
    by_cases hge : i ≥ s
    · rw [hm (i - s) (by omega)]
      have h1 : (i - s) / s % 2 = 1 := by
        have := Nat.div_eq_sub_div hs hge
        omega
      simp [h1, Nat.add_comm]
    · simp [hge, Nat.add_comm]
  · have h1 : i / s % 2 = 1 := by omega
    have hge : i ≥ s := by
      rcases Nat.lt_or_ge i s with h2 | h2
      · rw [Nat.div_eq_of_lt h2] at h1; simp at h1
      · exact h2
    rw [hm (i - s) (by omega)]
    have h3 : (i - s) / s % 2 = 0 := by
      have := Nat.div_eq_sub_div hs hge
      omega
    simp [h, hge, h3]

theorem mask64_1 : ∀ j, j < 64 → (0x5555555555555555 : Nat).testBit j = decide (j / 1 % 2 = 0) := by decide +kernel
theorem mask64_2 : ∀ j, j < 64 → (0x3333333333333333 : Nat).testBit j = decide (j / 2 % 2 = 0) := by decide +kernel
theorem mask64_4 : ∀ j, j < 64 → (0x0f0f0f0f0f0f0f0f : Nat).testBit j = decide (j / 4 % 2 = 0) := by decide +kernel
theorem mask64_8 : ∀ j, j < 64 → (0x00ff00ff00ff00ff : Nat).testBit j = decide (j / 8 % 2 = 0) := by decide +kernel
theorem mask64_16 : ∀ j, j < 64 → (0x0000ffff0000ffff : Nat).testBit j = decide (j / 16 % 2 = 0) := by decide +kernel
theorem mask32_1 : ∀ j, j < 32 → (0x55555555 : Nat).testBit j = decide (j / 1 % 2 = 0) := by decide +kernel
theorem mask32_2 : ∀ j, j < 32 → (0x33333333 : Nat).testBit j = decide (j / 2 % 2 = 0) := by decide +kernel
theorem mask32_4 : ∀ j, j < 32 → (0x0f0f0f0f : Nat).testBit j = decide (j / 4 % 2 = 0) := by decide +kernel
theorem mask32_8 : ∀ j, j < 32 → (0x00ff00ff : Nat).testBit j = decide (j / 8 % 2 = 0) := by decide +kernel

theorem rot_half (n x i : Nat) (hx : x < 2 ^ (n + n)) (hi : i < n + n) : ((x / 2 ^ n) ||| (x * 2 ^ n % 2 ^ (n + n))).testBit i = x.testBit (gs n i) := by
  unfold gs
  rw [Nat.testBit_or, Nat.testBit_div_two_pow, Nat.testBit_mod_two_pow, Nat.mul_comm, Nat.testBit_two_pow_mul]
  by_cases h : i < n
  · have : ¬ i ≥ n := by omega
    rw [Nat.div_eq_of_lt h]
    simp [this, Nat.add_comm]
  · have h1 : i ≥ n := by omega
    have h2 : i / n = 1 := Nat.div_eq_of_lt_le (by omega) (by omega)
    have h3 : x.testBit (n + i) = false := Nat.testBit_lt_two_pow (Nat.lt_of_lt_of_le hx (Nat.pow_le_pow_right (by decide) (by omega)))
    rw [h2, Nat.add_comm i n, h3]
    simp [h1, hi]

/-- ReverseBytes64 -/
def rb64 (x : Nat) : Nat :=
  let x1 := swp 8 0x00ff00ff00ff00ff x
  let x2 := swp 16 0x0000ffff0000ffff x1
  (x2 / 2 ^ 32) ||| (x2 * 2 ^ 32 % 2 ^ 64)
def rb32 (x : Nat) : Nat :=
  let x1 := swp 8 0x00ff00ff x
  (x1 / 2 ^ 16) ||| (x1 * 2 ^ 16 % 2 ^ 32)
def rv64 (x : Nat) : Nat := rb64 (swp 4 0x0f0f0f0f0f0f0f0f (swp 2 0x3333333333333333 (swp 1 0x5555555555555555 x)))
def rv32 (x : Nat) : Nat := rb32 (swp 4 0x0f0f0f0f (swp 2 0x33333333 (swp 1 0x55555555 x)))

theorem or_lt (a b n : Nat) (ha : a < 2 ^ n) (hb : b < 2 ^ n) : a ||| b < 2 ^ n := Nat.or_lt_two_pow ha hb

theorem swp_lt (s m x N : Nat) (hx : x < 2 ^ N) (hm : m * 2 ^ s < 2 ^ N) : swp s m x < 2 ^ N := by
  unfold swp
  refine Nat.or_lt_two_pow ?_ ?_
  · exact Nat.lt_of_le_of_lt (Nat.le_trans Nat.and_le_left (Nat.div_le_self _ _)) hx
  · exact Nat.lt_of_le_of_lt (Nat.mul_le_mul_right _ Nat.and_le_right) hm

theorem gs_lt64 (s i : Nat) (hi : i < 64) (hs : s = 1 ∨ s = 2 ∨ s = 4 ∨ s = 8 ∨ s = 16 ∨ s = 32) : gs s i < 64 := by
  unfold gs; rcases hs with h | h | h | h | h | h <;> subst h <;> split <;> omega
theorem gs_lt32 (s i : Nat) (hi : i < 32) (hs : s = 1 ∨ s = 2 ∨ s = 4 ∨ s = 8 ∨ s = 16) : gs s i < 32 := by
  unfold gs; rcases hs with h | h | h | h | h <;> subst h <;> split <;> omega

theorem rb64_bit (x i : Nat) (hx : x < 2 ^ 64) (hi : i < 64) : (rb64 x).testBit i = x.testBit (gs 8 (gs 16 (gs 32 i))) := by
  unfold rb64
  simp only []
  have h1 : swp 8 0x00ff00ff00ff00ff x < 2 ^ 64 := swp_lt _ _ _ _ hx (by decide)
  have h2 : swp 16 0x0000ffff0000ffff (swp 8 0x00ff00ff00ff00ff x) < 2 ^ 64 := swp_lt _ _ _ _ h1 (by decide)
  rw [rot_half 32 _ i h2 hi]
  have g1 := gs_lt64 32 i hi (by omega)
  rw [testBit_swp 16 _ _ 64 _ mask64_16 g1 (by decide)]
  have g2 := gs_lt64 16 _ g1 (by omega)
  rw [testBit_swp 8 _ _ 64 _ mask64_8 g2 (by decide)]

theorem rb32_bit (x i : Nat) (hx : x < 2 ^ 32) (hi : i < 32) : (rb32 x).testBit i = x.testBit (gs 8 (gs 16 i)) := by
  unfold rb32
  simp only []
  have h1 : swp 8 0x00ff00ff x < 2 ^ 32 := swp_lt _ _ _ _ hx (by decide)
  rw [rot_half 16 _ i h1 hi]
  have g1 := gs_lt32 16 i hi (by omega)
  rw [testBit_swp 8 _ _ 32 _ mask32_8 g1 (by decide)]

theorem rb64_lt (x : Nat) (hx : x < 2 ^ 64) : rb64 x < 2 ^ 64 := by
  unfold rb64
  simp only []
  have h1 : swp 8 0x00ff00ff00ff00ff x < 2 ^ 64 := swp_lt _ _ _ _ hx (by decide)
  have h2 : swp 16 0x0000ffff0000ffff (swp 8 0x00ff00ff00ff00ff x) < 2 ^ 64 := swp_lt _ _ _ _ h1 (by decide)
  exact Nat.or_lt_two_pow (Nat.lt_of_le_of_lt (Nat.div_le_self _ _) h2) (Nat.mod_lt _ (by decide))
theorem rb32_lt (x : Nat) (hx : x < 2 ^ 32) : rb32 x < 2 ^ 32 := by
  unfold rb32
  simp only []
  have h1 : swp 8 0x00ff00ff x < 2 ^ 32 := swp_lt _ _ _ _ hx (by decide)
  exact Nat.or_lt_two_pow (Nat.lt_of_le_of_lt (Nat.div_le_self _ _) h1) (Nat.mod_lt _ (by decide))

theorem swp3_lt64 (x : Nat) (hx : x < 2 ^ 64) : swp 1 0x5555555555555555 x < 2 ^ 64 ∧ swp 2 0x3333333333333333 (swp 1 0x5555555555555555 x) < 2 ^ 64 ∧ swp 4 0x0f0f0f0f0f0f0f0f (swp 2 0x3333333333333333 (swp 1 0x5555555555555555 x)) < 2 ^ 64 := by
  have h1 := swp_lt 1 0x5555555555555555 x 64 hx (by decide)
  have h2 := swp_lt 2 0x3333333333333333 _ 64 h1 (by decide)
  exact ⟨h1, h2, swp_lt 4 0x0f0f0f0f0f0f0f0f _ 64 h2 (by decide)⟩
theorem swp3_lt32 (x : Nat) (hx : x < 2 ^ 32) : swp 1 0x55555555 x < 2 ^ 32 ∧ swp 2 0x33333333 (swp 1 0x55555555 x) < 2 ^ 32 ∧ swp 4 0x0f0f0f0f (swp 2 0x33333333 (swp 1 0x55555555 x)) < 2 ^ 32 := by
  have h1 := swp_lt 1 0x55555555 x 32 hx (by decide)
  have h2 := swp_lt 2 0x33333333 _ 32 h1 (by decide)
  exact ⟨h1, h2, swp_lt 4 0x0f0f0f0f _ 32 h2 (by decide)⟩

theorem rv64_eq (x : Nat) (hx : x < 2 ^ 64) : rv64 x = placedB x (fun i => 63 - i) 64 := by
  obtain ⟨h1, h2, h3⟩ := swp3_lt64 x hx
  apply eq_placedB
  · exact rb64_lt _ h3
  · intro i hi
    unfold rv64
    rw [rb64_bit _ i h3 hi]
    have g1 := gs_lt64 32 i hi (by omega)
    have g2 := gs_lt64 16 _ g1 (by omega)
    have g3 := gs_lt64 8 _ g2 (by omega)
    rw [testBit_swp 4 _ _ 64 _ mask64_4 g3 (by decide)]
    have g4 := gs_lt64 4 _ g3 (by omega)
    rw [testBit_swp 2 _ _ 64 _ mask64_2 g4 (by decide)]
    have g5 := gs_lt64 2 _ g4 (by omega)
    rw [testBit_swp 1 _ _ 64 _ mask64_1 g5 (by decide)]
    have all : ∀ j : Fin 64, gs 1 (gs 2 (gs 4 (gs 8 (gs 16 (gs 32 j.val))))) = 63 - j.val := by decide +kernel
    rw [all ⟨i, hi⟩]

theorem rv32_eq (x : Nat) (hx : x < 2 ^ 32) : rv32 x = placedB x (fun i => 31 - i) 32 := by
  obtain ⟨h1, h2, h3⟩ := swp3_lt32 x hx
  apply eq_placedB
  · exact rb32_lt _ h3
  · intro i hi
    unfold rv32
    rw [rb32_bit _ i h3 hi]
    have g2 := gs_lt32 16 i hi (by omega)
    have g3 := gs_lt32 8 _ g2 (by omega)
    rw [testBit_swp 4 _ _ 32 _ mask32_4 g3 (by decide)]
    have g4 := gs_lt32 4 _ g3 (by omega)
    rw [testBit_swp 2 _ _ 32 _ mask32_2 g4 (by decide)]
    have g5 := gs_lt32 2 _ g4 (by omega)
    rw [testBit_swp 1 _ _ 32 _ mask32_1 g5 (by decide)]
    have all : ∀ j : Fin 32, gs 1 (gs 2 (gs 4 (gs 8 (gs 16 j.val)))) = 31 - j.val := by decide +kernel
    rw [all ⟨i, hi⟩]

theorem rb64_eq (x : Nat) (hx : x < 2 ^ 64) : rb64 x = placedB x (fun i => 56 - i / 8 * 8 + i % 8) 64 := by
  apply eq_placedB _ _ _ _ (rb64_lt x hx)
  intro i hi
  rw [rb64_bit x i hx hi]
  have all : ∀ j : Fin 64, gs 8 (gs 16 (gs 32 j.val)) = 56 - j.val / 8 * 8 + j.val % 8 := by decide +kernel
  rw [all ⟨i, hi⟩]
theorem rb32_eq (x : Nat) (hx : x < 2 ^ 32) : rb32 x = placedB x (fun i => 24 - i / 8 * 8 + i % 8) 32 := by
  apply eq_placedB _ _ _ _ (rb32_lt x hx)
  intro i hi
  rw [rb32_bit x i hx hi]
  have all : ∀ j : Fin 32, gs 8 (gs 16 j.val) = 24 - j.val / 8 * 8 + j.val % 8 := by decide +kernel
  rw [all ⟨i, hi⟩]
theorem rb16_eq (x : Nat) (hx : x < 2 ^ 16) : (x / 2 ^ 8) ||| (x * 2 ^ 8 % 2 ^ 16) = placedB x (fun i => 8 - i / 8 * 8 + i % 8) 16 := by
  apply eq_placedB
  · exact Nat.or_lt_two_pow (Nat.lt_of_le_of_lt (Nat.div_le_self _ _) hx) (Nat.mod_lt _ (by decide))
  · intro i hi
    rw [rot_half 8 x i hx hi]
    have all : ∀ j : Fin 16, gs 8 j.val = 8 - j.val / 8 * 8 + j.val % 8 := by decide +kernel
    rw [all ⟨i, hi⟩]

/-- rotation by s places -/
def rotB (n x s : Nat) : Nat := (x * 2 ^ s % 2 ^ n) ||| (x / 2 ^ (n - s))
theorem rotB_lt (n x s : Nat) (hx : x < 2 ^ n) : rotB n x s < 2 ^ n :=
  Nat.or_lt_two_pow (Nat.mod_lt _ (Nat.two_pow_pos _)) (Nat.lt_of_le_of_lt (Nat.div_le_self _ _) hx)
theorem testBit_rotB (n x s i : Nat) (hx : x < 2 ^ n) (hs : s < n) (hi : i < n) : (rotB n x s).testBit i = x.testBit (if s ≤ i then i - s else i + n - s) := by
  unfold rotB
  rw [Nat.testBit_or, Nat.testBit_mod_two_pow, Nat.mul_comm, Nat.testBit_two_pow_mul, Nat.testBit_div_two_pow]
  by_cases h : s ≤ i
  · have h3 : x.testBit (n - s + i) = false := Nat.testBit_lt_two_pow (Nat.lt_of_lt_of_le hx (Nat.pow_le_pow_right (by decide) (by omega)))
    rw [Nat.add_comm i (n - s), h3]
    simp [h, hi]
  · have e : i + (n - s) = i + n - s := by omega
    rw [e]
    simp [h]
theorem rotB_eq (n x s : Nat) (hx : x < 2 ^ n) (hs : s < n) (f : Nat → Nat) (hf : ∀ i, i < n → f i = if s ≤ i then i - s else i + n - s) : rotB n x s = placedB x f n := by
  apply eq_placedB _ _ _ _ (rotB_lt n x s hx)
  intro i hi
  rw [testBit_rotB n x s i hx hs hi, hf i hi]
theorem rotB_back (n x s t : Nat) (hx : x < 2 ^ n) (hs : s < n) (ht : t < n) (h : s + t = 0 ∨ s + t = n) : rotB n (rotB n x s) t = x := by
  have hr := rotB_lt n x s hx
  apply Nat.eq_of_testBit_eq
  intro i
  by_cases hi : i < n
  · rw [testBit_rotB n _ t i hr ht hi, testBit_rotB n x s _ hx hs (by split <;> omega)]
    congr 1
    split <;> split <;> omega
  · have e1 : 2 ^ n ≤ 2 ^ i := Nat.pow_le_pow_right (by decide) (by omega)
    rw [Nat.testBit_lt_two_pow (Nat.lt_of_lt_of_le hx e1), Nat.testBit_lt_two_pow (Nat.lt_of_lt_of_le (rotB_lt n _ t hr) e1)]

end Go.Proofs.YtjcjnldnlgiloaaDoor.Plain
