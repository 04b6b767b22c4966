import Derived.Test.YtbpggopjiogimaaFSpec
set_option linter.unusedVariables false
namespace Go.Proofs.Ytbpggopjiogimaa.Plain
open Go Go.RowKit Ieee

/-- the signed value of a word, in units of 2^-1074 -/
def sval (s : Bool) (r : Nat) : Int := if s then -(val r : Int) else (val r : Int)
def sv (b : Nat) : Int := sval (negB b) (rung b)

theorem sum_words (s t : Bool) (r q : Nat) :
    ((Datum.number s (mant r) (-1074 + (expo r : Int))).sum (.number t (mant q) (-1074 + (expo q : Int)))).map double.write
      = some (near (if sval s r + sval t q = 0 then s && t else decide (sval s r + sval t q < 0)) (sval s r + sval t q).natAbs (-1074)) := by
  have s1 := signed_scale s (mant r) (expo r) (min (expo r) (expo q)) (Nat.min_le_left _ _)
  have s2 := signed_scale t (mant q) (expo q) (min (expo r) (expo q)) (Nat.min_le_right _ _)
  rw [← val_eq] at s1 s2
  rw [show (if s then -(val r : Int) else (val r : Int)) = sval s r from rfl] at s1
  rw [show (if t then -(val q : Int) else (val q : Int)) = sval t q from rfl] at s2
  generalize mant r = m at *
  generalize mant q = n at *
  generalize expo r = E at *
  generalize expo q = F at *
  generalize sval s r = X at *
  generalize sval t q = Y at *
  have eb : min (-1074 + (E : Int)) (-1074 + (F : Int)) = -1074 + ((min E F : Nat) : Int) := by omega
  have e1 : (-1074 + (E : Int) - (-1074 + ((min E F : Nat) : Int))).toNat = E - min E F := by omega
  have e2 : (-1074 + (F : Int) - (-1074 + ((min E F : Nat) : Int))).toNat = F - min E F := by omega
  simp only [Datum.sum, eb, e1, e2, Option.map_some, Format.write]
  generalize min E F = B at *
  have st : (signed s m (E - B) + signed t n (F - B)) * ((2 ^ B : Nat) : Int) = X + Y := by rw [Int.add_mul, s1, s2]
  generalize signed s m (E - B) + signed t n (F - B) = U at *
  generalize X + Y = V at *
  have hp : (0 : Int) < ((2 ^ B : Nat) : Int) := by exact_mod_cast Nat.two_pow_pos _
  have hs : (if U = 0 then s && t else decide (U < 0)) = (if V = 0 then s && t else decide (V < 0)) := by
    by_cases h0 : U = 0
    · subst h0
      have : V = 0 := by rw [← st]; simp
      rw [if_pos rfl, if_pos this]
    · have hV : V ≠ 0 := by rw [← st]; exact Int.mul_ne_zero h0 (by omega)
      rw [if_neg h0, if_neg hV, ← st]
      congr 1
      apply propext
      constructor
      · intro h; exact Int.mul_neg_of_neg_of_pos h hp
      · intro h
        rcases Int.lt_trichotomy U 0 with g | g | g
        · exact g
        · exact absurd g h0
        · have := Int.mul_pos g hp; omega
  have hn : V.natAbs = U.natAbs * 2 ^ B := by rw [← st, Int.natAbs_mul, Int.natAbs_natCast]
  have h3 := near_scale (if V = 0 then s && t else decide (V < 0)) U.natAbs B (-1074 + (B : Int))
  rw [hs, hn, show (-1074 + (B : Int)) - (B : Int) = -1074 by omega] at *
  rw [h3]; rfl

theorem add_fin (x y : Nat) (hx : rung x < 9218868437227405312) (hy : rung y < 9218868437227405312) :
    double.add x y = some (near (if sv x + sv y = 0 then negB x && negB y else decide (sv x + sv y < 0)) (sv x + sv y).natAbs (-1074)) := by
  unfold Format.add; rw [read_num x hx, read_num y hy]; exact sum_words _ _ _ _
theorem sval_not (s : Bool) (r : Nat) : sval (!s) r = -(sval s r) := by unfold sval; cases s <;> simp
theorem sub_fin (x y : Nat) (hx : rung x < 9218868437227405312) (hy : rung y < 9218868437227405312) :
    double.sub x y = some (near (if sv x - sv y = 0 then negB x && !negB y else decide (sv x - sv y < 0)) (sv x - sv y).natAbs (-1074)) := by
  unfold Format.sub; rw [read_num x hx, read_num y hy]
  have h := sum_words (negB x) (!negB y) (rung x) (rung y)
  rw [sval_not, ← Int.sub_eq_add_neg] at h
  exact h
theorem mul_fin (x y : Nat) (hx : rung x < 9218868437227405312) (hy : rung y < 9218868437227405312) :
    double.mul x y = some (near (negB x ^^ negB y) (mant (rung x) * mant (rung y)) (-1074 + (expo (rung x) : Int) + (-1074 + (expo (rung y) : Int)))) := by
  unfold Format.mul; rw [read_num x hx, read_num y hy]; rfl

theorem val_fit (e : Nat) : ∀ m : Nat, m < 9007199254740992 → e ≤ 2045 → ∃ r, r < 9218868437227405312 ∧ val r = m * 2 ^ e := by
  induction e with
  | zero =>
    intro m hm _
    refine ⟨m, by omega, ?_⟩
    by_cases h : m < 4503599627370496
    · rw [val_small h]; simp
    · unfold val; rw [if_neg h]
      have e1 : m / 4503599627370496 = 1 := by omega
      have e2 : m % 4503599627370496 = m - 4503599627370496 := by omega
      rw [e1, e2]; simp; omega
  | succ e ih =>
    intro m hm he
    by_cases h : m < 4503599627370496
    · obtain ⟨r, h1, h2⟩ := ih (2 * m) (by omega) (by omega)
      refine ⟨r, h1, ?_⟩
      rw [h2, Nat.pow_succ]; generalize 2 ^ e = P; rw [Nat.mul_comm P 2, ← Nat.mul_assoc, Nat.mul_comm m 2]
    · refine ⟨(e + 1) * 4503599627370496 + m, by omega, ?_⟩
      unfold val
      rw [if_neg (by omega)]
      have e1 : ((e + 1) * 4503599627370496 + m) / 4503599627370496 = e + 2 := by omega
      have e2 : ((e + 1) * 4503599627370496 + m) % 4503599627370496 = m - 4503599627370496 := by omega
      rw [e1, e2, show e + 2 - 1 = e + 1 by omega, show 4503599627370496 + (m - 4503599627370496) = m by omega]

theorem near_val_fit (m : Nat) (e : Int) (hm : m < 9007199254740992) (he : -1074 ≤ e) (he2 : e ≤ 971) :
    ∃ r, r < 9218868437227405312 ∧ val r = m * 2 ^ (e + 1074).toNat ∧ ∀ n, near n m e = wordD n r := by
  obtain ⟨r, h1, h2⟩ := val_fit (e + 1074).toNat m hm (by omega)
  refine ⟨r, h1, h2, fun n => ?_⟩
  rw [← near_val n r (by omega), h2, ← near_scale n m (e + 1074).toNat e]
  congr 1; omega

theorem near_sign (n : Bool) (m : Nat) (e : Int) : near n m e = wordD n (near false m e) := by
  by_cases h : m = 0
  · subst h; rw [near_zero, near_zero]; unfold wordD; simp
  · rw [near_eq n m e h, near_eq false m e h]
    generalize min ((lastP m e + 1074).toNat * 4503599627370496 + cutE (m <<< (e - lastP m e).toNat) (lastP m e - e).toNat) 9218868437227405312 = R
    unfold wordD; simp
theorem near_le (m : Nat) (e : Int) : near false m e ≤ 9218868437227405312 := by
  by_cases h : m = 0
  · subst h; rw [near_zero]; unfold wordD; simp
  · rw [near_eq false m e h]; unfold wordD; simp only [Bool.false_eq_true, if_false]; exact Nat.min_le_right _ _
theorem sv_neg (b : Nat) (h : negB b = true) : sv b = -(val (rung b) : Int) := by unfold sv sval; rw [h]; rfl
theorem sv_pos (b : Nat) (h : negB b = false) : sv b = (val (rung b) : Int) := by unfold sv sval; rw [h]; rfl
theorem val_word (b : Nat) : val (rung b) = mantW b * 2 ^ expo (rung b) := val_eq _
theorem expo_exp (b : Nat) : (expo (rung b) : Int) = expW b + 1074 := by unfold expW; omega
theorem sval_sub (n : Bool) (r q : Nat) (h : val q ≤ val r) :
    (sval n r - sval n q).natAbs = val r - val q ∧ (if sval n r - sval n q = 0 then n && !n else decide (sval n r - sval n q < 0)) = (n && decide (val q < val r)) := by
  unfold sval
  cases n
  · refine ⟨by simp; omega, ?_⟩
    simp; omega
  · refine ⟨by simp; omega, ?_⟩
    simp only [if_true]
    by_cases g : val q < val r
    · rw [if_neg (by omega)]; simp [g]; omega
    · rw [if_pos (by omega)]; simp [g]
/-- the difference of two numbers of the same sign, the second one the lesser -/
theorem sub_same (x y : Nat) (hx : rung x < 9218868437227405312) (hy : rung y < 9218868437227405312) (hs : negB y = negB x) (hl : val (rung y) ≤ val (rung x)) :
    double.sub x y = some (wordD (negB x && decide (val (rung y) < val (rung x))) (near false (val (rung x) - val (rung y)) (-1074))) := by
  rw [sub_fin x y hx hy, ← near_sign]
  have hx2 : sv x = sval (negB x) (rung x) := rfl
  have hy2 : sv y = sval (negB x) (rung y) := by rw [← hs]; rfl
  rw [hx2, hy2, hs, (sval_sub (negB x) _ _ hl).1, (sval_sub (negB x) _ _ hl).2]
end Go.Proofs.Ytbpggopjiogimaa.Plain
