import Derived.Test.YtgbbaokaocofoaaFP32
import Derived.Test.YtgbbaokaocofoaaFModf
import Derived.Laws.FloatArith
set_option linter.unusedVariables false
namespace Go.Proofs.Ytgbbaokaocofoaa.Plain.S32
open Go Go.RowKit Ieee
theorem ord_eq (x y : Nat) (hx : isNan x = false) (hy : isNan y = false) : (FloatKind.f32.format.order x y == some Ordering.eq) = decide (place x = place y) := by
  show (Ieee.single.order x y == some Ordering.eq) = _
  rw [order_eq x y hx hy]
  rcases Int.lt_trichotomy (place x) (place y) with g | g | g
  · rw [compare_int_lt g]; have : ¬ place x = place y := by omega
    simp [this]
  · rw [g, compare_int_eq]; simp
  · rw [compare_int_gt g]; have : ¬ place x = place y := by omega
    simp [this]
theorem ord_gt (x y : Nat) (hx : isNan x = false) (hy : isNan y = false) : (FloatKind.f32.format.order x y == some Ordering.gt) = decide (place y < place x) := by
  show (Ieee.single.order x y == some Ordering.gt) = _
  rw [order_eq x y hx hy]
  rcases Int.lt_trichotomy (place x) (place y) with g | g | g
  · rw [compare_int_lt g]; have : ¬ place y < place x := by omega
    simp [this]
  · rw [g, compare_int_eq]; simp
  · rw [compare_int_gt g]; simp [g]
theorem place_zero : place 0 = 0 := by decide
theorem nan_zero : isNan 0 = false := by decide
theorem place_eq_zero (x : Nat) : place x = 0 ↔ rung x = 0 := by unfold place; split <;> omega
theorem place_pos (x : Nat) (h : rung x ≠ 0) : decide (0 < place x) = !negB x := by
  unfold place; cases negB x <;> simp <;> omega
theorem negB_iff (b : Nat) (hb : b < 4294967296) : negB b = decide (2147483648 ≤ b) := by
  unfold negB; rw [Bool.eq_iff_iff]; simp; omega
theorem place_num (x : Nat) (hx : x < 4294967296) : place x = if 2147483648 ≤ x then -(x - 2147483648 : Int) else (x : Int) := by
  unfold place; rw [negB_iff x hx]; unfold rung
  by_cases h : 2147483648 ≤ x <;> simp [h] <;> omega
def wordD (neg : Bool) (r : Nat) : Nat := if neg then 2147483648 + r else r
/-- the word of the next number -/
def nextW (x y : Nat) : Nat := if place x = place y then x else if rung x = 0 then wordD (negB y) 1
  else if decide (place x < place y) = !negB x then x + 1 else x - 1
theorem low31 (b : Nat) (hb : b < 4294967296) : bits .and .u64 (b : Int) 2147483647 = (rung b : Int) := by
  rw [show (2147483647 : Int) = ((2147483647 : Nat) : Int) from rfl, and64N]
  congr 1
  rw [show (2147483647 : Nat) = 2 ^ 31 - 1 by decide, Nat.and_two_pow_sub_one_eq_mod]
  unfold rung; omega
theorem next_lt (x : Nat) (hx : x < 4294967296) (hn : isNan x = false) : x + 1 < 4294967296 := by
  unfold isNan rung at hn; simp at hn; omega
def ef (b : Nat) : Nat := b / 8388608 % 256
def mf (b : Nat) : Nat := b % 8388608
theorem ef_num (b : Nat) : bits .and .u32 ((b : Int) / 8388608) 255 = (ef b : Int) := by
  rw [show (8388608 : Int) = ((8388608 : Nat) : Int) from rfl, fdivC, show (255 : Int) = ((255 : Nat) : Int) from rfl, and32N]
  congr 1
  rw [show (255 : Nat) = 2 ^ 8 - 1 by decide, Nat.and_two_pow_sub_one_eq_mod]
  unfold ef; omega
theorem mf_num (b : Nat) : bits .and .u32 (b : Int) 8388607 = (mf b : Int) := by
  rw [show (8388607 : Int) = ((8388607 : Nat) : Int) from rfl, and32N]
  congr 1
  rw [show (8388607 : Nat) = 2 ^ 23 - 1 by decide, Nat.and_two_pow_sub_one_eq_mod]
  unfold mf; omega
theorem nan_fields (b : Nat) : isNan b = (decide (ef b = 255) && decide (mf b ≠ 0)) := by
  unfold isNan rung ef mf
  rw [Bool.eq_iff_iff]; simp; omega
/-- a number of 32 bits as one of 64 -/
theorem widen (b : Nat) (hb : b < 4294967296) (hn : isNan b = false) :
    ∃ r, floatToFloatBits .f32 b .f64 = some r ∧ r < 18446744073709551616 ∧ Plain.isNan r = false ∧ Plain.negB r = negB b := by
  unfold floatToFloatBits
  rw [if_neg (by decide)]
  have hr : rung b < 2147483648 := Nat.mod_lt _ (by decide)
  unfold isNan at hn
  simp only [decide_eq_false_iff_not] at hn
  have hd : FloatKind.f32.decode b = single.read b := rfl
  rw [hd]
  by_cases hi : rung b = 2139095040
  · rw [read_inf b hi]
    refine ⟨_, rfl, ?_⟩
    have he : FloatKind.f64.encode (.infinity (negB b)) = Plain.wordD (negB b) 9218868437227405312 := by
      show double.write (.infinity (negB b)) = _
      unfold Format.write; exact word_eq _ _
    rw [he]
    refine ⟨Plain.wordD_lt _ _ (by omega), ?_, Plain.neg_word _ _ (by omega)⟩
    unfold Plain.isNan; rw [Plain.rung_word _ _ (by omega)]; decide
  · rw [read_num b (by omega)]
    have hm : mant (rung b) < 9007199254740992 := by unfold mant; split <;> omega
    have he : expo (rung b) ≤ 300 := by unfold expo; split <;> omega
    obtain ⟨r, h1, h2, h3⟩ := Plain.near_val_fit (mant (rung b)) (-149 + (expo (rung b) : Int)) hm (by omega) (by omega)
    have hen : FloatKind.f64.encode (.number (negB b) (mant (rung b)) (-149 + (expo (rung b) : Int))) = Plain.wordD (negB b) r := by
      rw [← h3]; rfl
    have hfin : (FloatKind.f64.decode (Plain.wordD (negB b) r)).isInfinity = false := by
      show (double.read (Plain.wordD (negB b) r)).isInfinity = false
      rw [Plain.read_num _ (by rw [Plain.rung_word _ _ (by omega)]; exact h1)]; rfl
    refine ⟨Plain.wordD (negB b) r, ?_, Plain.wordD_lt _ _ (by omega), ?_, Plain.neg_word _ _ (by omega)⟩
    · simp only [hen, hfin]; rfl
    · unfold Plain.isNan; rw [Plain.rung_word _ _ (by omega)]; simp; omega
theorem nan_conv64 (w : World) (b : Nat) : Plain.isNan (Plain.nanD w (.nanConv .f64 b)) = true ∧ Plain.nanD w (.nanConv .f64 b) < 18446744073709551616 := by
  unfold Plain.nanD Plain.isNan Plain.rung
  generalize w.tape w.drawn (.nanConv .f64 b) = t
  have e : Question.cut (.nanConv .f64 b) t = (t % 2) * 2 ^ 63 + 0x7ff0000000000000 + 1 + (t / 2) % (2 ^ 52 - 1) := rfl
  rw [e]
  simp only [decide_eq_true_eq, Nat.reducePow, Nat.reduceSub]
  have h1 : t / 2 % 4503599627370495 < 4503599627370495 := Nat.mod_lt _ (by decide)
  generalize t / 2 % 4503599627370495 = u at h1 ⊢
  rcases Nat.mod_two_eq_zero_or_one t with g | g <;> rw [g] <;> omega
theorem nan_conv32 (w : World) (b : Nat) : isNan (Plain.nanD w (.nanConv .f32 b)) = true ∧ Plain.nanD w (.nanConv .f32 b) < 4294967296 := by
  unfold Plain.nanD isNan rung
  generalize w.tape w.drawn (.nanConv .f32 b) = t
  have e : Question.cut (.nanConv .f32 b) t = (t % 2) * 2 ^ 31 + 0x7f800000 + 1 + (t / 2) % (2 ^ 23 - 1) := rfl
  rw [e]
  simp only [decide_eq_true_eq, Nat.reducePow, Nat.reduceSub]
  have h1 : t / 2 % 8388607 < 8388607 := Nat.mod_lt _ (by decide)
  generalize t / 2 % 8388607 = u at h1 ⊢
  rcases Nat.mod_two_eq_zero_or_one t with g | g <;> rw [g] <;> omega
theorem widen_one : floatToFloatBits .f32 1 .f64 = some 3936146074321813504 := by decide +kernel
theorem narrow_one (n : Bool) : floatToFloatBits .f64 (Plain.wordD n 3936146074321813504) .f32 = some (wordD n 1) := by
  cases n <;> decide +kernel
theorem decode_nan (b : Nat) (h : isNan b = true) : FloatKind.f32.decode b = .nan (negB b) (rung b - 2139095040) := by
  unfold isNan at h; simp only [decide_eq_true_eq] at h
  exact read_nan b h
theorem decode_nan64 : ∃ s f, FloatKind.f64.decode 9221120237041090561 = .nan s f := ⟨_, _, Plain.read_nan 9221120237041090561 (by decide)⟩
end Go.Proofs.Ytgbbaokaocofoaa.Plain.S32
