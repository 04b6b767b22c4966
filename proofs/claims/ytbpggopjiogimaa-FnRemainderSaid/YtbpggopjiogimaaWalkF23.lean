/- The contracts of the package's remainder and of what calls it: by the bits. -/
import Derived.Test.YtbpggopjiogimaaWalkF22
import Derived.Test.YtbpggopjiogimaaFRem2
set_option linter.unusedVariables false
namespace Go.Proofs.Ytbpggopjiogimaa
open Go.RowKit Go.Proofs.Ytbpggopjiogimaa.Plain

theorem rm_any (x y : Nat) (hx : x < 18446744073709551616) (hy : y < 18446744073709551616) (h0y : rung y ≠ 0) (hfx : rung x < 9218868437227405312) (hfy : rung y < 9218868437227405312) (w : World) :
    Calls Try.prog 43 #[.float .f64 x, .float .f64 y] w fun e w' => e = .returned (.float .f64 (remW x y)) ∧ w = w' := by
  have hY := val_pos' _ h0y
  by_cases h0x : rung x = 0
  · have hr : remW x y = x := by
      have hw := word_of x hx
      rw [h0x] at hw
      unfold remW
      rw [h0x, val_zero, Nat.zero_mod, if_neg (by omega), near_zero]; exact hw
    rw [hr]
    rcases Bool.eq_false_or_eq_true (negB y) with m | m
    · exact rm_x0_t x y hx hy hfy h0x h0y m w
    · exact rm_x0_f x y hx hy hfy h0x h0y m w
  by_cases heq : rung x = rung y
  · have hr : remW x y = wordD (negB x) 0 := by
      unfold remW
      rw [heq, Nat.mod_self, if_neg (by omega), near_zero]
    rcases Bool.eq_false_or_eq_true (negB x) with n | n <;> rcases Bool.eq_false_or_eq_true (negB y) with m | m <;> rw [hr, n]
    · exact rm_eq_tt x y hx hy hfx hfy h0x h0y n m heq w
    · exact rm_eq_tf x y hx hy hfx hfy h0x h0y n m heq w
    · exact rm_eq_ft x y hx hy hfx hfy h0x h0y n m heq w
    · exact rm_eq_ff x y hx hy hfx hfy h0x h0y n m heq w
  obtain ⟨Z, hZ⟩ : ∃ Z, Z = val (rung x) % (2 * val (rung y)) := ⟨_, rfl⟩
  have hZ2 : Z < 2 * val (rung y) := by rw [hZ]; exact Nat.mod_lt _ (by omega)
  have oc : ¬ val (rung y) < 2 * Z ∨ (val (rung y) < 2 * Z ∧ Z < val (rung y)) ∨ (val (rung y) ≤ Z ∧ 2 * (Z - val (rung y)) < val (rung y)) ∨ (val (rung y) ≤ Z ∧ val (rung y) ≤ 2 * (Z - val (rung y))) := by omega
  have bc : rung y < 9007199254740992 ∨ (9007199254740992 ≤ rung y ∧ rung y ≤ 9214364837600034815) ∨ 9214364837600034815 < rung y := by omega
  rcases Bool.eq_false_or_eq_true (negB x) with n | n <;> rcases Bool.eq_false_or_eq_true (negB y) with m | m <;> rcases bc with b | b | b <;> rcases oc with c | c | c | c
  · exact rm_tt_T1 x y hx hy hfx hfy h0x h0y n m heq b Z hZ c w
  · exact rm_tt_T2 x y hx hy hfx hfy h0x h0y n m heq b Z hZ c w
  · exact rm_tt_T3 x y hx hy hfx hfy h0x h0y n m heq b Z hZ c w
  · exact rm_tt_T4 x y hx hy hfx hfy h0x h0y n m heq b Z hZ c w
  · exact rm_tt_M1 x y hx hy hfx hfy h0x h0y n m heq b Z hZ c w
  · exact rm_tt_M2 x y hx hy hfx hfy h0x h0y n m heq b Z hZ c w
  · exact rm_tt_M3 x y hx hy hfx hfy h0x h0y n m heq b Z hZ c w
  · exact rm_tt_M4 x y hx hy hfx hfy h0x h0y n m heq b Z hZ c w
  · exact rm_tt_B1 x y hx hy hfx hfy h0x h0y n m heq b Z hZ c w
  · exact rm_tt_B2 x y hx hy hfx hfy h0x h0y n m heq b Z hZ c w
  · exact rm_tt_B3 x y hx hy hfx hfy h0x h0y n m heq b Z hZ c w
  · exact rm_tt_B4 x y hx hy hfx hfy h0x h0y n m heq b Z hZ c w
  · exact rm_tf_T1 x y hx hy hfx hfy h0x h0y n m heq b Z hZ c w
  · exact rm_tf_T2 x y hx hy hfx hfy h0x h0y n m heq b Z hZ c w
  · exact rm_tf_T3 x y hx hy hfx hfy h0x h0y n m heq b Z hZ c w
  · exact rm_tf_T4 x y hx hy hfx hfy h0x h0y n m heq b Z hZ c w
  · exact rm_tf_M1 x y hx hy hfx hfy h0x h0y n m heq b Z hZ c w
  · exact rm_tf_M2 x y hx hy hfx hfy h0x h0y n m heq b Z hZ c w
  · exact rm_tf_M3 x y hx hy hfx hfy h0x h0y n m heq b Z hZ c w
  · exact rm_tf_M4 x y hx hy hfx hfy h0x h0y n m heq b Z hZ c w
  · exact rm_tf_B1 x y hx hy hfx hfy h0x h0y n m heq b Z hZ c w
  · exact rm_tf_B2 x y hx hy hfx hfy h0x h0y n m heq b Z hZ c w
  · exact rm_tf_B3 x y hx hy hfx hfy h0x h0y n m heq b Z hZ c w
  · exact rm_tf_B4 x y hx hy hfx hfy h0x h0y n m heq b Z hZ c w
  · exact rm_ft_T1 x y hx hy hfx hfy h0x h0y n m heq b Z hZ c w
  · exact rm_ft_T2 x y hx hy hfx hfy h0x h0y n m heq b Z hZ c w
  · exact rm_ft_T3 x y hx hy hfx hfy h0x h0y n m heq b Z hZ c w
  · exact rm_ft_T4 x y hx hy hfx hfy h0x h0y n m heq b Z hZ c w
  · exact rm_ft_M1 x y hx hy hfx hfy h0x h0y n m heq b Z hZ c w
  · exact rm_ft_M2 x y hx hy hfx hfy h0x h0y n m heq b Z hZ c w
  · exact rm_ft_M3 x y hx hy hfx hfy h0x h0y n m heq b Z hZ c w
  · exact rm_ft_M4 x y hx hy hfx hfy h0x h0y n m heq b Z hZ c w
  · exact rm_ft_B1 x y hx hy hfx hfy h0x h0y n m heq b Z hZ c w
  · exact rm_ft_B2 x y hx hy hfx hfy h0x h0y n m heq b Z hZ c w
  · exact rm_ft_B3 x y hx hy hfx hfy h0x h0y n m heq b Z hZ c w
  · exact rm_ft_B4 x y hx hy hfx hfy h0x h0y n m heq b Z hZ c w
  · exact rm_ff_T1 x y hx hy hfx hfy h0x h0y n m heq b Z hZ c w
  · exact rm_ff_T2 x y hx hy hfx hfy h0x h0y n m heq b Z hZ c w
  · exact rm_ff_T3 x y hx hy hfx hfy h0x h0y n m heq b Z hZ c w
  · exact rm_ff_T4 x y hx hy hfx hfy h0x h0y n m heq b Z hZ c w
  · exact rm_ff_M1 x y hx hy hfx hfy h0x h0y n m heq b Z hZ c w
  · exact rm_ff_M2 x y hx hy hfx hfy h0x h0y n m heq b Z hZ c w
  · exact rm_ff_M3 x y hx hy hfx hfy h0x h0y n m heq b Z hZ c w
  · exact rm_ff_M4 x y hx hy hfx hfy h0x h0y n m heq b Z hZ c w
  · exact rm_ff_B1 x y hx hy hfx hfy h0x h0y n m heq b Z hZ c w
  · exact rm_ff_B2 x y hx hy hfx hfy h0x h0y n m heq b Z hZ c w
  · exact rm_ff_B3 x y hx hy hfx hfy h0x h0y n m heq b Z hZ c w
  · exact rm_ff_B4 x y hx hy hfx hfy h0x h0y n m heq b Z hZ c w

theorem rm_none (x y : Nat) (hx : x < 18446744073709551616) (hy : y < 18446744073709551616) (h : rung y = 0 ∨ isInf x = true ∨ isNan x = true ∨ isNan y = true) (w : World) :
    Calls Try.prog 43 #[.float .f64 x, .float .f64 y] w fun e w' => e = .returned (.float .f64 9221120237041090561) ∧ w = w' := by
  rcases Bool.eq_false_or_eq_true (isNan x) with h3 | h3
  · exact rm_xnan x y hx hy h3 w
  · rcases Bool.eq_false_or_eq_true (isNan y) with h4 | h4
    · exact rm_ynan x y hx hy h3 h4 w
    · rcases Bool.eq_false_or_eq_true (isInf x) with h2 | h2
      · exact rm_xinf x y hx hy h3 h4 h2 w
      · rw [h2, h3, h4] at h; simp at h
        exact rm_y0 x y hx hy h3 h4 h2 h w
theorem rm_inf (x y : Nat) (hx : x < 18446744073709551616) (hy : y < 18446744073709551616) (hyi : rung y = 9218868437227405312) (hfx : rung x < 9218868437227405312) (w : World) :
    Calls Try.prog 43 #[.float .f64 x, .float .f64 y] w fun e w' => e = .returned (.float .f64 x) ∧ w = w' :=
  rm_yinf x y hx hy (by unfold isNan; simp; omega) (by unfold isNan; simp; omega) (by unfold isInf; simp; omega) (by unfold isInf; simpa using hyi) (by omega) w

set_option maxHeartbeats 400000 in
theorem Rm_any (x y : Nat) (hx : x < 18446744073709551616) (hy : y < 18446744073709551616) (h : rung y ≠ 0) (hfx : rung x < 9218868437227405312) (hfy : rung y < 9218868437227405312) (w : World) :
    Calls Try.prog 31 #[.float .f64 x, .float .f64 y] w fun e w' => e = .returned (.float .f64 (remW x y)) ∧ w = w' := by
  have c := fun w => rm_any x y hx hy h hfx hfy w
  generalize remW x y = m at *
  clear h hfx hfy
  go_enter Try.func31, Try.ntmps31
  go_wp2_with (first | (go_at_call 43; refine (c _).mono ?_; rintro e w' ⟨rfl, rfl⟩))
  go_ret
  exact ⟨rfl, rfl⟩

set_option maxHeartbeats 400000 in
theorem i_rm_any (x y : Nat) (hx : x < 18446744073709551616) (hy : y < 18446744073709551616) (h : rung y ≠ 0) (hfx : rung x < 9218868437227405312) (hfy : rung y < 9218868437227405312) (w : World) :
    Calls Try.prog 16 #[.int .u64 (x : Int), .int .u64 (y : Int)] w fun e w' => e = .returned (.int .u64 (remW x y : Int)) ∧ w = w' := by
  have c := fun w => Rm_any x y hx hy h hfx hfy w
  generalize remW x y = m at *
  clear h hfx hfy
  go_enter Try.func16, Try.ntmps16
  go_wp2_with (first | (go_at_call 29; refine (float_any _ _).mono ?_; rintro e w' ⟨rfl, rfl⟩) | (go_at_call 27; refine (bitsOf_any _ _).mono ?_; rintro e w' ⟨rfl, rfl⟩) | (go_at_call 31; refine (c _).mono ?_; rintro e w' ⟨rfl, rfl⟩))
  go_ret
  exact ⟨rfl, rfl⟩

set_option maxHeartbeats 400000 in
theorem Rm_none (x y : Nat) (hx : x < 18446744073709551616) (hy : y < 18446744073709551616) (h : rung y = 0 ∨ isInf x = true ∨ isNan x = true ∨ isNan y = true) (w : World) :
    Calls Try.prog 31 #[.float .f64 x, .float .f64 y] w fun e w' => e = .returned (.float .f64 9221120237041090561) ∧ w = w' := by
  have c := fun w => rm_none x y hx hy h w
  clear h
  go_enter Try.func31, Try.ntmps31
  go_wp2_with (first | (go_at_call 43; refine (c _).mono ?_; rintro e w' ⟨rfl, rfl⟩))
  go_ret
  exact ⟨rfl, rfl⟩

set_option maxHeartbeats 400000 in
theorem i_rm_none (x y : Nat) (hx : x < 18446744073709551616) (hy : y < 18446744073709551616) (h : rung y = 0 ∨ isInf x = true ∨ isNan x = true ∨ isNan y = true) (w : World) :
    Calls Try.prog 16 #[.int .u64 (x : Int), .int .u64 (y : Int)] w fun e w' => e = .returned (.int .u64 9221120237041090561) ∧ w = w' := by
  have c := fun w => Rm_none x y hx hy h w
  clear h
  go_enter Try.func16, Try.ntmps16
  go_wp2_with (first | (go_at_call 29; refine (float_any _ _).mono ?_; rintro e w' ⟨rfl, rfl⟩) | (go_at_call 27; refine (bitsOf_any _ _).mono ?_; rintro e w' ⟨rfl, rfl⟩) | (go_at_call 31; refine (c _).mono ?_; rintro e w' ⟨rfl, rfl⟩))
  go_ret
  exact ⟨rfl, rfl⟩

set_option maxHeartbeats 400000 in
theorem Rm_inf (x y : Nat) (hx : x < 18446744073709551616) (hy : y < 18446744073709551616) (hyi : rung y = 9218868437227405312) (hfx : rung x < 9218868437227405312) (w : World) :
    Calls Try.prog 31 #[.float .f64 x, .float .f64 y] w fun e w' => e = .returned (.float .f64 x) ∧ w = w' := by
  have c := fun w => rm_inf x y hx hy hyi hfx w
  clear hyi hfx
  go_enter Try.func31, Try.ntmps31
  go_wp2_with (first | (go_at_call 43; refine (c _).mono ?_; rintro e w' ⟨rfl, rfl⟩))
  go_ret
  exact ⟨rfl, rfl⟩

set_option maxHeartbeats 400000 in
theorem i_rm_inf (x y : Nat) (hx : x < 18446744073709551616) (hy : y < 18446744073709551616) (hyi : rung y = 9218868437227405312) (hfx : rung x < 9218868437227405312) (w : World) :
    Calls Try.prog 16 #[.int .u64 (x : Int), .int .u64 (y : Int)] w fun e w' => e = .returned (.int .u64 (x : Int)) ∧ w = w' := by
  have c := fun w => Rm_inf x y hx hy hyi hfx w
  clear hyi hfx
  go_enter Try.func16, Try.ntmps16
  go_wp2_with (first | (go_at_call 29; refine (float_any _ _).mono ?_; rintro e w' ⟨rfl, rfl⟩) | (go_at_call 27; refine (bitsOf_any _ _).mono ?_; rintro e w' ⟨rfl, rfl⟩) | (go_at_call 31; refine (c _).mono ?_; rintro e w' ⟨rfl, rfl⟩))
  go_ret
  exact ⟨rfl, rfl⟩

end Go.Proofs.Ytbpggopjiogimaa
