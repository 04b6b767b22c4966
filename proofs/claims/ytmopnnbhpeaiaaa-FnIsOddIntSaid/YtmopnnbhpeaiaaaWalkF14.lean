/- The contracts of the package's isOddInt and of what calls it, and of the reference's Odd: by the bits. -/
import Derived.Test.YtmopnnbhpeaiaaaWalkF12
import Derived.Test.YtmopnnbhpeaiaaaFOdd
set_option linter.unusedVariables false
namespace Go.Proofs.Ytmopnnbhpeaiaaa
open Go.RowKit Go.Proofs.Ytmopnnbhpeaiaaa.Plain

set_option maxHeartbeats 400000 in
theorem odd_big (b : Nat) (hb : b < 18446744073709551616) (nb : isNan b = false) (h : 1076 ≤ ef b) (w : World) :
    Calls Try.prog 51 #[.float .f64 b] w fun e w' => e = .returned (.bool (oddW b)) ∧ Grown w w' := by
  have ca := fun w => abs_any b hb w
  have hO : oddW b = false := by
    unfold oddW; rw [expW_norm b (by omega)]
    have : decide ((ef b : Int) - 1075 ≤ 0) = false := by simp; omega
    rw [this]; simp
  rw [hO]
  have hr : 4845873199050653696 ≤ rung b := by have := rung_fields b; omega
  have nr : isNan (rung b) = false := by rw [nan_rung]; exact nb
  have hp : place 4845873199050653696 = 4845873199050653696 := by decide
  have hq := place_rung b
  by_cases he : rung b = 4845873199050653696
  · have t1 : ∀ _ : True, (FloatKind.f64.format.order (rung b) 4845873199050653696 == some Ordering.gt) = false := fun _ => (ord_gt _ _ nr (by decide)).trans (by rw [hp, hq]; simp; omega)
    have t2 : ∀ _ : True, (FloatKind.f64.format.order (rung b) 4845873199050653696 == some Ordering.eq) = true := fun _ => (ord_eq _ _ nr (by decide)).trans (by rw [hp, hq]; simp; omega)
    generalize rung b = r at ca t1 t2
    clear hO hr nr hp hq he h
    go_enter Try.func51, Try.ntmps51
    go_wp2_with (first | (go_at_call 43; refine (ca _).mono ?_; rintro e w' ⟨rfl, rfl⟩))
    go_ret
    exact ⟨rfl, Grown.refl _⟩
  have t1 : ∀ _ : True, (FloatKind.f64.format.order (rung b) 4845873199050653696 == some Ordering.gt) = true := fun _ => (ord_gt _ _ nr (by decide)).trans (by rw [hp, hq]; simp; omega)
  generalize rung b = r at ca t1
  clear hO hr nr hp hq he h
  go_enter Try.func51, Try.ntmps51
  go_wp2_with (first | (go_at_call 43; refine (ca _).mono ?_; rintro e w' ⟨rfl, rfl⟩))
  go_ret
  exact ⟨rfl, Grown.refl _⟩

set_option maxHeartbeats 400000 in
theorem odd_nan (b : Nat) (hb : b < 18446744073709551616) (nb : isNan b = true) (w : World) :
    Calls Try.prog 51 #[.float .f64 b] w fun e w' => e = .returned (.bool (oddW b)) ∧ Grown w w' := by
  have ca := fun w => abs_any b hb w
  have hO : oddW b = false := by
    have hE : ef b = 2047 := by rw [nan_fields] at nb; simp at nb; exact nb.1
    unfold oddW; rw [expW_norm b (by omega)]
    have : decide ((ef b : Int) - 1075 ≤ 0) = false := by simp; omega
    rw [this]; simp
  rw [hO]
  have t1 : ∀ _ : True, (FloatKind.f64.format.order (rung b) 4845873199050653696 == some Ordering.gt) = false := fun _ => show (Ieee.double.order (rung b) 4845873199050653696 == _) = false by rw [order_nan_left _ _ (by rw [nan_rung]; exact nb)]; rfl
  have t2 : ∀ _ : True, (FloatKind.f64.format.order (rung b) 4845873199050653696 == some Ordering.eq) = false := fun _ => show (Ieee.double.order (rung b) 4845873199050653696 == _) = false by rw [order_nan_left _ _ (by rw [nan_rung]; exact nb)]; rfl
  have hf : ¬ rung b < 9218868437227405312 := by unfold isNan at nb; simp at nb; omega
  have c := fun w => modf_bad b hb hf w
  generalize rung b = r at ca t1 t2
  clear hO hf
  go_enter Try.func51, Try.ntmps51
  go_wp2_with fail
  refine (ca _).mono ?_
  rintro e w' ⟨rfl, rfl⟩
  go_wp2_with fail
  refine (c _).mono ?_
  rintro e w1 ⟨⟨v, hv, hn, rfl⟩, hg⟩
  have t3 : ∀ _ : True, (FloatKind.f64.format.order v 0 == some Ordering.eq) = false := fun _ => show (Ieee.double.order v 0 == _) = false by rw [order_nan_left _ _ hn]; rfl
  go_wp2
  go_ret
  exact ⟨rfl, hg⟩

set_option maxHeartbeats 400000 in
theorem odd_frac (b : Nat) (hb : b < 18446744073709551616) (h : ef b < 1076) (hz : rung (fracW b) ≠ 0) (w : World) :
    Calls Try.prog 51 #[.float .f64 b] w fun e w' => e = .returned (.bool (oddW b)) ∧ Grown w w' := by
  have ca := fun w => abs_any b hb w
  have hr : rung b < 4845873199050653696 := by have := rung_fields b; have := mf_lt b; omega
  have hf : rung b < 9218868437227405312 := by omega
  have t1 : ∀ _ : True, (FloatKind.f64.format.order (rung b) 4845873199050653696 == some Ordering.gt) = false := fun _ => (ord_gt _ _ (by rw [nan_rung]; unfold isNan; simp; omega) (by decide)).trans (by rw [show place 4845873199050653696 = 4845873199050653696 by decide, place_rung]; simp; omega)
  have t2 : ∀ _ : True, (FloatKind.f64.format.order (rung b) 4845873199050653696 == some Ordering.eq) = false := fun _ => (ord_eq _ _ (by rw [nan_rung]; unfold isNan; simp; omega) (by decide)).trans (by rw [show place 4845873199050653696 = 4845873199050653696 by decide, place_rung]; simp; omega)
  have he : expW b ≤ 0 := by
    by_cases hz : ef b = 0
    · rw [expW_sub b hz]; omega
    · rw [expW_norm b hz]; omega
  have c := fun w => modf_fin b hb hf w
  have hO : oddW b = false := by
    unfold oddW
    have : decide (mantW b % 2 ^ cutK b = 0) = false := by
      have := frac_zero2 b hf he
      simp; omega
    rw [this]; simp
  rw [hO]
  have t3 : ∀ _ : True, (FloatKind.f64.format.order (fracW b) 0 == some Ordering.eq) = false := fun _ => (ord_eq _ 0 (nan_frac b) nan_zero).trans (by rw [place_zero]; have := place_eq_zero (fracW b); simp; omega)
  generalize fracW b = f at *
  generalize truncW b = t at *
  generalize rung b = r at ca t1 t2
  clear hO hf he hr h hz
  go_enter Try.func51, Try.ntmps51
  go_wp2_with (first | (go_at_call 43; refine (ca _).mono ?_; rintro e w' ⟨rfl, rfl⟩) | (go_at_call 40; refine (c _).mono ?_; rintro e w' ⟨rfl, rfl⟩))
  go_ret
  exact ⟨rfl, Grown.refl _⟩

set_option maxHeartbeats 400000 in
theorem odd_whole (b : Nat) (hb : b < 18446744073709551616) (h : ef b < 1076) (hz : rung (fracW b) = 0) (w : World) :
    Calls Try.prog 51 #[.float .f64 b] w fun e w' => e = .returned (.bool (oddW b)) ∧ Grown w w' := by
  have ca := fun w => abs_any b hb w
  have hr : rung b < 4845873199050653696 := by have := rung_fields b; have := mf_lt b; omega
  have hf : rung b < 9218868437227405312 := by omega
  have t1 : ∀ _ : True, (FloatKind.f64.format.order (rung b) 4845873199050653696 == some Ordering.gt) = false := fun _ => (ord_gt _ _ (by rw [nan_rung]; unfold isNan; simp; omega) (by decide)).trans (by rw [show place 4845873199050653696 = 4845873199050653696 by decide, place_rung]; simp; omega)
  have t2 : ∀ _ : True, (FloatKind.f64.format.order (rung b) 4845873199050653696 == some Ordering.eq) = false := fun _ => (ord_eq _ _ (by rw [nan_rung]; unfold isNan; simp; omega) (by decide)).trans (by rw [show place 4845873199050653696 = 4845873199050653696 by decide, place_rung]; simp; omega)
  have he : expW b ≤ 0 := by
    by_cases hz : ef b = 0
    · rw [expW_sub b hz]; omega
    · rw [expW_norm b hz]; omega
  have c := fun w => modf_fin b hb hf w
  have hO : oddW b = decide (mantW b / 2 ^ cutK b % 2 = 1) := by
    have h0 := (frac_zero2 b hf he).1 hz
    unfold oddW
    have h1 : decide (mantW b % 2 ^ cutK b = 0) = true := by simpa using h0
    have h2 : decide (expW b ≤ 0) = true := by simpa using he
    rw [h1, h2]; rfl
  rw [hO]
  have t3 : ∀ _ : True, (FloatKind.f64.format.order (fracW b) 0 == some Ordering.eq) = true := fun _ => (ord_eq _ 0 (nan_frac b) nan_zero).trans (by rw [place_zero]; simpa using (place_eq_zero _).2 hz)
  obtain ⟨k1, k2, k3⟩ := trunc_int b hb he
  have hv := toInt_whole (truncW b) _ k1 k3
  have hq : mantW b / 2 ^ cutK b < 9007199254740992 := Nat.lt_of_le_of_lt (Nat.div_le_self _ _) (mantW_lt b)
  generalize mantW b / 2 ^ cutK b = Q at *
  obtain ⟨z, hzz⟩ : ∃ z : Int, z = if negB (truncW b) then -(Q : Int) else (Q : Int) := ⟨_, rfl⟩
  have hb2 : -9007199254740992 < z ∧ z < 9007199254740992 := by rw [hzz]; split <;> omega
  have e5 := odd_sign (negB (truncW b)) Q
  rw [← hzz] at hv e5
  have hfi : floatToIntVal .f64 (truncW b) .i64 = some z := by
    unfold floatToIntVal
    have : (FloatKind.f64.decode (truncW b)).toInt .zero = some z := hv
    rw [this]
    simp only [IntKind.min, IntKind.max, IntKind.signed, IntKind.bits]
    rw [if_pos (by simp; omega)]
  rw [← e5]
  have r5 : ∀ _ : True, _ = _ := fun _ => and_one_i64 z
  generalize fracW b = f at *
  generalize truncW b = t at *
  generalize rung b = r at ca t1 t2
  have r4 : ∀ w, (convert 32 2 (.float .f64 t)).run Try.prog w = .ok (.int .i64 z) w := fun w => run_convert_float_int w 32 2 .f64 .i64 t z (by rw [Try.underlying32]; rfl) Try.underlying2 hfi
  clear hO hf he hr h hz k1 k2 k3 hv hq hzz hb2 e5 hfi
  go_enter Try.func51, Try.ntmps51
  go_wp2_with (first | (go_at_call 43; refine (ca _).mono ?_; rintro e w' ⟨rfl, rfl⟩) | (go_at_call 40; refine (c _).mono ?_; rintro e w' ⟨rfl, rfl⟩))
  go_ret
  exact ⟨rfl, Grown.refl _⟩

theorem isOdd_any (b : Nat) (hb : b < 18446744073709551616) (w : World) :
    Calls Try.prog 51 #[.float .f64 b] w fun e w' => e = .returned (.bool (oddW b)) ∧ Grown w w' := by
  cases nb : isNan b
  · by_cases h : ef b < 1076
    · by_cases hz : rung (fracW b) = 0
      · exact odd_whole b hb h hz w
      · exact odd_frac b hb h hz w
    · exact odd_big b hb nb (by omega) w
  · exact odd_nan b hb nb w

set_option maxHeartbeats 400000 in
theorem IsOdd_any (b : Nat) (hb : b < 18446744073709551616) (w : World) :
    Calls Try.prog 42 #[.float .f64 b] w fun e w' => e = .returned (.bool (oddW b)) ∧ Grown w w' := by
  have c := fun w => isOdd_any b hb w
  generalize oddW b = o at *
  go_enter Try.func42, Try.ntmps42
  go_wp2_with (first | (go_at_call 51; refine (c _).mono ?_; rintro e w1 ⟨rfl, hg⟩))
  go_ret
  exact ⟨rfl, hg⟩

set_option maxHeartbeats 400000 in
theorem i_odd (b : Nat) (hb : b < 18446744073709551616) (w : World) :
    Calls Try.prog 26 #[.int .u64 (b : Int)] w fun e w' => e = .returned (.bool (oddW b)) ∧ Grown w w' := by
  have c := fun w => IsOdd_any b hb w
  generalize oddW b = o at *
  go_enter Try.func26, Try.ntmps26
  go_wp2_with (first | (go_at_call 33; refine (float_any _ _).mono ?_; rintro e w' ⟨rfl, rfl⟩) | (go_at_call 42; refine (c _).mono ?_; rintro e w1 ⟨rfl, hg⟩))
  go_ret
  exact ⟨rfl, hg⟩

set_option maxHeartbeats 400000 in
theorem sodd_nan (b : Nat) (hb : b < 18446744073709551616) (nb : isNan b = true) (w : World) :
    Calls Try.prog 27 #[.int .u64 (b : Int)] w fun e w' => e = .returned (.bool false) ∧ Grown w w' := by
  have c := fun w => of_any b hb w
  generalize expW b = E at *
  generalize mantW b = M at *
  generalize negB b = n at *
  go_enter Try.func27, Try.ntmps27
  go_wp2_with fail
  refine (c _).mono ?_
  rintro e w1 ⟨rfl, hg⟩
  go_wp2_with fail
  refine (nan_any b true nb _).mono ?_
  rintro e w' ⟨rfl, rfl⟩
  go_wp2
  go_ret
  exact ⟨rfl, hg.alloc _ _⟩

set_option maxHeartbeats 400000 in
theorem sodd_inf (b : Nat) (hb : b < 18446744073709551616) (nb : isNan b = false) (ib : isInf b = true) (w : World) :
    Calls Try.prog 27 #[.int .u64 (b : Int)] w fun e w' => e = .returned (.bool false) ∧ Grown w w' := by
  have c := fun w => of_any b hb w
  generalize expW b = E at *
  generalize mantW b = M at *
  generalize negB b = n at *
  go_enter Try.func27, Try.ntmps27
  go_wp2_with fail
  refine (c _).mono ?_
  rintro e w1 ⟨rfl, hg⟩
  go_wp2_with fail
  refine (nan_any b false nb _).mono ?_
  rintro e w' ⟨rfl, rfl⟩
  go_wp2_with fail
  refine (infinite_any b true ib _).mono ?_
  rintro e w' ⟨rfl, rfl⟩
  go_wp2
  go_ret
  exact ⟨rfl, hg.alloc _ _⟩

set_option maxHeartbeats 400000 in
theorem sodd_pos (b : Nat) (hb : b < 18446744073709551616) (nb : isNan b = false) (ib : isInf b = false) (h : 0 < expW b) (w : World) :
    Calls Try.prog 27 #[.int .u64 (b : Int)] w fun e w' => e = .returned (.bool false) ∧ Grown w w' := by
  have c := fun w => of_any b hb w
  have t1 : ∀ _ : True, decide (0 < expW b) = true := fun _ => by simpa using h
  clear h
  generalize expW b = E at *
  generalize mantW b = M at *
  generalize negB b = n at *
  go_enter Try.func27, Try.ntmps27
  go_wp2_with fail
  refine (c _).mono ?_
  rintro e w1 ⟨rfl, hg⟩
  go_wp2_with fail
  refine (nan_any b false nb _).mono ?_
  rintro e w' ⟨rfl, rfl⟩
  go_wp2_with fail
  refine (infinite_any b false ib _).mono ?_
  rintro e w' ⟨rfl, rfl⟩
  go_wp2
  go_ret
  exact ⟨rfl, hg.alloc _ _⟩

set_option maxHeartbeats 400000 in
theorem sodd_low (b : Nat) (hb : b < 18446744073709551616) (nb : isNan b = false) (ib : isInf b = false) (h : expW b < -52) (w : World) :
    Calls Try.prog 27 #[.int .u64 (b : Int)] w fun e w' => e = .returned (.bool false) ∧ Grown w w' := by
  have c := fun w => of_any b hb w
  have t1 : ∀ _ : True, decide (0 < expW b) = false := fun _ => by simp; omega
  have t2 : ∀ _ : True, decide (expW b < -52) = true := fun _ => by simpa using h
  clear h
  generalize expW b = E at *
  generalize mantW b = M at *
  generalize negB b = n at *
  go_enter Try.func27, Try.ntmps27
  go_wp2_with fail
  refine (c _).mono ?_
  rintro e w1 ⟨rfl, hg⟩
  go_wp2_with fail
  refine (nan_any b false nb _).mono ?_
  rintro e w' ⟨rfl, rfl⟩
  go_wp2_with fail
  refine (infinite_any b false ib _).mono ?_
  rintro e w' ⟨rfl, rfl⟩
  go_wp2
  go_ret
  exact ⟨rfl, hg.alloc _ _⟩

set_option maxHeartbeats 400000 in
theorem sodd_even (b : Nat) (hb : b < 18446744073709551616) (nb : isNan b = false) (ib : isInf b = false) (h1 : expW b ≤ 0) (h2 : -52 ≤ expW b) (hq : mantW b / 2 ^ cutK b % 2 ≠ 1) (w : World) :
    Calls Try.prog 27 #[.int .u64 (b : Int)] w fun e w' => e = .returned (.bool false) ∧ Grown w w' := by
  have c := fun w => of_any b hb w
  have t1 : ∀ _ : True, decide (0 < expW b) = false := fun _ => by simp; omega
  have t2 : ∀ _ : True, decide (expW b < -52) = false := fun _ => by simp; omega
  have hM := mantW_lt b
  obtain ⟨k, hk⟩ : ∃ k, k = cutK b := ⟨_, rfl⟩
  rw [← hk] at hq
  try rw [← hk] at hr
  have hk2 : k = (-expW b).toNat := by rw [hk]; unfold cutK; omega
  clear hk
  generalize expW b = E at *
  generalize mantW b = M at *
  generalize negB b = n at *
  have k2 : k ≤ 60 := by omega
  have r1 : ∀ _ : True, IntKind.i64.wrap (-E) = (k : Int) := fun _ => by rw [IntKind.wrap_i64]; omega
  have r1b : ∀ _ : True, IntKind.i64.wrap (0 - E) = (k : Int) := fun _ => by rw [IntKind.wrap_i64]; omega
  have r1c : ∀ _ : True, wrap64 (-E) = (k : Int) := fun _ => by unfold wrap64; omega
  have hp1 : (2 : Nat) ^ k ≤ 2 ^ 60 := Nat.pow_le_pow_right (by decide) k2
  have hp0 : 0 < (2 : Nat) ^ k := Nat.pow_pos (by decide)
  obtain ⟨p, hp⟩ : ∃ p : Nat, p = 2 ^ k := ⟨_, rfl⟩
  obtain ⟨p', hp'⟩ : ∃ p' : Nat, p' = 2 ^ k - 1 := ⟨_, rfl⟩
  obtain ⟨q, hqq⟩ : ∃ q : Nat, q = M / 2 ^ k := ⟨_, rfl⟩
  obtain ⟨o, ho⟩ : ∃ o : Nat, o = q % 2 := ⟨_, rfl⟩
  obtain ⟨rs, hrs⟩ : ∃ rs : Nat, rs = M % 2 ^ k := ⟨_, rfl⟩
  have hpi : ((2 : Int) ^ k) = (p : Int) := by rw [hp]; simp
  have r2 : ∀ _ : True, IntKind.u64.wrap ((2 : Int) ^ k) = (p : Int) := fun _ => by rw [hpi, IntKind.wrap_u64]; omega
  have r3 : ∀ _ : True, IntKind.u64.wrap ((p : Int) - 1) = (p' : Int) := fun _ => by rw [IntKind.wrap_u64]; omega
  have r6 : ∀ _ : True, min k 64 = k := fun _ => by omega
  have r8 : ∀ _ : True, (M : Int) / (2 : Int) ^ k = (q : Int) := fun _ => by rw [hpi, hp, fdivC, hqq]
  have r9 : ∀ _ : True, bits .and .u64 (M : Int) (p' : Int) = (rs : Int) := fun _ => by
    rw [and64N, hp', Nat.and_two_pow_sub_one_eq_mod, hrs, Nat.mod_eq_of_lt]
    exact Nat.lt_of_le_of_lt (Nat.mod_le _ _) (by omega)
  have r10 : ∀ _ : True, bits .and .u64 (q : Int) 1 = (o : Int) := fun _ => by
    rw [show (1 : Int) = ((1 : Nat) : Int) from rfl, and64N, Nat.and_one_is_mod, ho]; congr 1; omega
  rw [← hqq, ← ho] at hq
  have t3 : ∀ _ : True, ((o : Int) == 1) = false := fun _ => by simp; omega
  clear h1 h2 hM hk2 k2 hp1 hp0 hp hp' hrs hpi hqq ho hq
  go_enter Try.func27, Try.ntmps27
  go_wp2_with fail
  refine (c _).mono ?_
  rintro e w1 ⟨rfl, hg⟩
  go_wp2_with fail
  refine (nan_any b false nb _).mono ?_
  rintro e w' ⟨rfl, rfl⟩
  go_wp2_with fail
  refine (infinite_any b false ib _).mono ?_
  rintro e w' ⟨rfl, rfl⟩
  go_wp2
  go_quiet (fail)
  go_wp2
  go_ret
  exact ⟨rfl, fgrownT (hg.alloc _ _) (fgrownD ⟨_, rfl⟩)⟩

set_option maxHeartbeats 400000 in
theorem sodd_frac (b : Nat) (hb : b < 18446744073709551616) (nb : isNan b = false) (ib : isInf b = false) (h1 : expW b ≤ 0) (h2 : -52 ≤ expW b) (hq : mantW b / 2 ^ cutK b % 2 = 1) (hr : mantW b % 2 ^ cutK b ≠ 0) (w : World) :
    Calls Try.prog 27 #[.int .u64 (b : Int)] w fun e w' => e = .returned (.bool false) ∧ Grown w w' := by
  have c := fun w => of_any b hb w
  have t1 : ∀ _ : True, decide (0 < expW b) = false := fun _ => by simp; omega
  have t2 : ∀ _ : True, decide (expW b < -52) = false := fun _ => by simp; omega
  have hM := mantW_lt b
  obtain ⟨k, hk⟩ : ∃ k, k = cutK b := ⟨_, rfl⟩
  rw [← hk] at hq
  try rw [← hk] at hr
  have hk2 : k = (-expW b).toNat := by rw [hk]; unfold cutK; omega
  clear hk
  generalize expW b = E at *
  generalize mantW b = M at *
  generalize negB b = n at *
  have k2 : k ≤ 60 := by omega
  have r1 : ∀ _ : True, IntKind.i64.wrap (-E) = (k : Int) := fun _ => by rw [IntKind.wrap_i64]; omega
  have r1b : ∀ _ : True, IntKind.i64.wrap (0 - E) = (k : Int) := fun _ => by rw [IntKind.wrap_i64]; omega
  have r1c : ∀ _ : True, wrap64 (-E) = (k : Int) := fun _ => by unfold wrap64; omega
  have hp1 : (2 : Nat) ^ k ≤ 2 ^ 60 := Nat.pow_le_pow_right (by decide) k2
  have hp0 : 0 < (2 : Nat) ^ k := Nat.pow_pos (by decide)
  obtain ⟨p, hp⟩ : ∃ p : Nat, p = 2 ^ k := ⟨_, rfl⟩
  obtain ⟨p', hp'⟩ : ∃ p' : Nat, p' = 2 ^ k - 1 := ⟨_, rfl⟩
  obtain ⟨q, hqq⟩ : ∃ q : Nat, q = M / 2 ^ k := ⟨_, rfl⟩
  obtain ⟨o, ho⟩ : ∃ o : Nat, o = q % 2 := ⟨_, rfl⟩
  obtain ⟨rs, hrs⟩ : ∃ rs : Nat, rs = M % 2 ^ k := ⟨_, rfl⟩
  have hpi : ((2 : Int) ^ k) = (p : Int) := by rw [hp]; simp
  have r2 : ∀ _ : True, IntKind.u64.wrap ((2 : Int) ^ k) = (p : Int) := fun _ => by rw [hpi, IntKind.wrap_u64]; omega
  have r3 : ∀ _ : True, IntKind.u64.wrap ((p : Int) - 1) = (p' : Int) := fun _ => by rw [IntKind.wrap_u64]; omega
  have r6 : ∀ _ : True, min k 64 = k := fun _ => by omega
  have r8 : ∀ _ : True, (M : Int) / (2 : Int) ^ k = (q : Int) := fun _ => by rw [hpi, hp, fdivC, hqq]
  have r9 : ∀ _ : True, bits .and .u64 (M : Int) (p' : Int) = (rs : Int) := fun _ => by
    rw [and64N, hp', Nat.and_two_pow_sub_one_eq_mod, hrs, Nat.mod_eq_of_lt]
    exact Nat.lt_of_le_of_lt (Nat.mod_le _ _) (by omega)
  have r10 : ∀ _ : True, bits .and .u64 (q : Int) 1 = (o : Int) := fun _ => by
    rw [show (1 : Int) = ((1 : Nat) : Int) from rfl, and64N, Nat.and_one_is_mod, ho]; congr 1; omega
  rw [← hqq, ← ho] at hq
  rw [← hrs] at hr
  have t3 : ∀ _ : True, ((o : Int) == 1) = true := fun _ => by simp; omega
  have t4 : ∀ _ : True, ((rs : Int) == 0) = false := fun _ => by simp; omega
  clear hr
  clear h1 h2 hM hk2 k2 hp1 hp0 hp hp' hrs hpi hqq ho hq
  go_enter Try.func27, Try.ntmps27
  go_wp2_with fail
  refine (c _).mono ?_
  rintro e w1 ⟨rfl, hg⟩
  go_wp2_with fail
  refine (nan_any b false nb _).mono ?_
  rintro e w' ⟨rfl, rfl⟩
  go_wp2_with fail
  refine (infinite_any b false ib _).mono ?_
  rintro e w' ⟨rfl, rfl⟩
  go_wp2
  go_quiet (fail)
  go_wp2
  go_ret
  exact ⟨rfl, fgrownT (hg.alloc _ _) (fgrownD ⟨_, rfl⟩)⟩

set_option maxHeartbeats 400000 in
theorem sodd_odd (b : Nat) (hb : b < 18446744073709551616) (nb : isNan b = false) (ib : isInf b = false) (h1 : expW b ≤ 0) (h2 : -52 ≤ expW b) (hq : mantW b / 2 ^ cutK b % 2 = 1) (hr : mantW b % 2 ^ cutK b = 0) (w : World) :
    Calls Try.prog 27 #[.int .u64 (b : Int)] w fun e w' => e = .returned (.bool true) ∧ Grown w w' := by
  have c := fun w => of_any b hb w
  have t1 : ∀ _ : True, decide (0 < expW b) = false := fun _ => by simp; omega
  have t2 : ∀ _ : True, decide (expW b < -52) = false := fun _ => by simp; omega
  have hM := mantW_lt b
  obtain ⟨k, hk⟩ : ∃ k, k = cutK b := ⟨_, rfl⟩
  rw [← hk] at hq
  try rw [← hk] at hr
  have hk2 : k = (-expW b).toNat := by rw [hk]; unfold cutK; omega
  clear hk
  generalize expW b = E at *
  generalize mantW b = M at *
  generalize negB b = n at *
  have k2 : k ≤ 60 := by omega
  have r1 : ∀ _ : True, IntKind.i64.wrap (-E) = (k : Int) := fun _ => by rw [IntKind.wrap_i64]; omega
  have r1b : ∀ _ : True, IntKind.i64.wrap (0 - E) = (k : Int) := fun _ => by rw [IntKind.wrap_i64]; omega
  have r1c : ∀ _ : True, wrap64 (-E) = (k : Int) := fun _ => by unfold wrap64; omega
  have hp1 : (2 : Nat) ^ k ≤ 2 ^ 60 := Nat.pow_le_pow_right (by decide) k2
  have hp0 : 0 < (2 : Nat) ^ k := Nat.pow_pos (by decide)
  obtain ⟨p, hp⟩ : ∃ p : Nat, p = 2 ^ k := ⟨_, rfl⟩
  obtain ⟨p', hp'⟩ : ∃ p' : Nat, p' = 2 ^ k - 1 := ⟨_, rfl⟩
  obtain ⟨q, hqq⟩ : ∃ q : Nat, q = M / 2 ^ k := ⟨_, rfl⟩
  obtain ⟨o, ho⟩ : ∃ o : Nat, o = q % 2 := ⟨_, rfl⟩
  obtain ⟨rs, hrs⟩ : ∃ rs : Nat, rs = M % 2 ^ k := ⟨_, rfl⟩
  have hpi : ((2 : Int) ^ k) = (p : Int) := by rw [hp]; simp
  have r2 : ∀ _ : True, IntKind.u64.wrap ((2 : Int) ^ k) = (p : Int) := fun _ => by rw [hpi, IntKind.wrap_u64]; omega
  have r3 : ∀ _ : True, IntKind.u64.wrap ((p : Int) - 1) = (p' : Int) := fun _ => by rw [IntKind.wrap_u64]; omega
  have r6 : ∀ _ : True, min k 64 = k := fun _ => by omega
  have r8 : ∀ _ : True, (M : Int) / (2 : Int) ^ k = (q : Int) := fun _ => by rw [hpi, hp, fdivC, hqq]
  have r9 : ∀ _ : True, bits .and .u64 (M : Int) (p' : Int) = (rs : Int) := fun _ => by
    rw [and64N, hp', Nat.and_two_pow_sub_one_eq_mod, hrs, Nat.mod_eq_of_lt]
    exact Nat.lt_of_le_of_lt (Nat.mod_le _ _) (by omega)
  have r10 : ∀ _ : True, bits .and .u64 (q : Int) 1 = (o : Int) := fun _ => by
    rw [show (1 : Int) = ((1 : Nat) : Int) from rfl, and64N, Nat.and_one_is_mod, ho]; congr 1; omega
  rw [← hqq, ← ho] at hq
  rw [← hrs] at hr
  have t3 : ∀ _ : True, ((o : Int) == 1) = true := fun _ => by simp; omega
  have t4 : ∀ _ : True, ((rs : Int) == 0) = true := fun _ => by simp; omega
  clear hr
  clear h1 h2 hM hk2 k2 hp1 hp0 hp hp' hrs hpi hqq ho hq
  go_enter Try.func27, Try.ntmps27
  go_wp2_with fail
  refine (c _).mono ?_
  rintro e w1 ⟨rfl, hg⟩
  go_wp2_with fail
  refine (nan_any b false nb _).mono ?_
  rintro e w' ⟨rfl, rfl⟩
  go_wp2_with fail
  refine (infinite_any b false ib _).mono ?_
  rintro e w' ⟨rfl, rfl⟩
  go_wp2
  go_quiet (fail)
  go_wp2
  go_ret
  exact ⟨rfl, fgrownT (hg.alloc _ _) (fgrownD ⟨_, rfl⟩)⟩

theorem sodd_any (b : Nat) (hb : b < 18446744073709551616) (w : World) :
    Calls Try.prog 27 #[.int .u64 (b : Int)] w fun e w' => e = .returned (.bool (oddW b)) ∧ Grown w w' := by
  have hO : 0 < expW b → oddW b = false := fun h => by
    unfold oddW
    have : decide (expW b ≤ 0) = false := by simp; omega
    rw [this]; rfl
  have hef : isNan b = true ∨ isInf b = true → 0 < expW b := fun h => by
    have : ef b = 2047 := by
      rcases h with h | h
      · rw [nan_fields] at h; simp at h; exact h.1
      · rw [inf_fields] at h; simp at h; exact h.1
    rw [expW_norm b (by omega)]; omega
  cases nb : isNan b
  · cases ib : isInf b
    · by_cases h : 0 < expW b
      · rw [hO h]; exact sodd_pos b hb nb ib h w
      · have h1 : decide (expW b ≤ 0) = true := by simp; omega
        by_cases h2 : expW b < -52
        · have : oddW b = false := by
            have hk : 53 ≤ cutK b := by unfold cutK; omega
            have hp : (2 : Nat) ^ 53 ≤ 2 ^ cutK b := Nat.pow_le_pow_right (by decide) hk
            have hM := mantW_lt b
            unfold oddW; rw [Nat.div_eq_of_lt (by omega)]; simp
          rw [this]; exact sodd_low b hb nb ib h2 w
        · by_cases hq : mantW b / 2 ^ cutK b % 2 = 1
          · by_cases hr : mantW b % 2 ^ cutK b = 0
            · have : oddW b = true := by unfold oddW; rw [h1, hq, hr]; rfl
              rw [this]; exact sodd_odd b hb nb ib (by omega) (by omega) hq hr w
            · have : oddW b = false := by unfold oddW; simp [hr]
              rw [this]; exact sodd_frac b hb nb ib (by omega) (by omega) hq hr w
          · have : oddW b = false := by unfold oddW; simp [hq]
            rw [this]; exact sodd_even b hb nb ib (by omega) (by omega) hq w
    · rw [hO (hef (Or.inr ib))]; exact sodd_inf b hb nb ib w
  · rw [hO (hef (Or.inl nb))]; exact sodd_nan b hb nb w

end Go.Proofs.Ytmopnnbhpeaiaaa
