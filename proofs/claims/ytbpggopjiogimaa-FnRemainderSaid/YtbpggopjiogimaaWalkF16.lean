/- The contracts of the package's ldexp and of what calls it: by the bits. -/
import Derived.Test.YtbpggopjiogimaaWalkF15
import Derived.Test.YtbpggopjiogimaaFLdexp
set_option linter.unusedVariables false
namespace Go.Proofs.Ytbpggopjiogimaa
open Go.RowKit Go.Proofs.Ytbpggopjiogimaa.Plain

set_option maxHeartbeats 400000 in
theorem ld_zero (b : Nat) (hb : b < 18446744073709551616) (e0 : Int) (he0 : -1099511627776 ≤ e0 ∧ e0 ≤ 1099511627776) (h : rung b = 0) (w : World) :
    Calls Try.prog 45 #[.float .f64 b, .int .i64 e0] w fun e w' => e = .returned (.float .f64 b) ∧ w = w' := by
  have nb : isNan b = false := by unfold isNan; simp; omega
  have t1 : ∀ _ : True, _ = true := fun _ => (ord_eq b 0 nb nan_zero).trans (by rw [place_zero]; simpa using (place_eq_zero b).2 h)
  clear nb h
  go_enter Try.func45, Try.ntmps45
  go_wp2
  go_ret
  exact ⟨rfl, rfl⟩

set_option maxHeartbeats 400000 in
theorem ld_nan (b : Nat) (hb : b < 18446744073709551616) (e0 : Int) (he0 : -1099511627776 ≤ e0 ∧ e0 ≤ 1099511627776) (nb : isNan b = true) (w : World) :
    Calls Try.prog 45 #[.float .f64 b, .int .i64 e0] w fun e w' => e = .returned (.float .f64 b) ∧ w = w' := by
  have t1 : ∀ _ : True, (FloatKind.f64.format.order b 0 == some Ordering.eq) = false := fun _ => show (Ieee.double.order b 0 == _) = false by rw [order_nan_left b 0 nb]; rfl
  have ci := fun w => isInf_zero b hb w
  have hI : isInf b = false := by unfold isInf; unfold isNan at nb; simp at nb; simp; omega
  rw [hI] at ci
  clear hI
  go_enter Try.func45, Try.ntmps45
  go_wp2_with (first | (go_at_call 47; refine (isNaN_any _ _ (by assumption) _).mono ?_; rintro e w' ⟨rfl, rfl⟩) | (go_at_call 48; refine (ci _).mono ?_; rintro e w' ⟨rfl, rfl⟩))
  go_ret
  exact ⟨rfl, rfl⟩

set_option maxHeartbeats 400000 in
theorem ld_inf (b : Nat) (hb : b < 18446744073709551616) (e0 : Int) (he0 : -1099511627776 ≤ e0 ∧ e0 ≤ 1099511627776) (h : rung b = 9218868437227405312) (w : World) :
    Calls Try.prog 45 #[.float .f64 b, .int .i64 e0] w fun e w' => e = .returned (.float .f64 b) ∧ w = w' := by
  have nb : isNan b = false := by unfold isNan; simp; omega
  have t1 : ∀ _ : True, _ = false := fun _ => (ord_eq b 0 nb nan_zero).trans (by rw [place_zero]; have := place_eq_zero b; simp; omega)
  have ci := fun w => isInf_zero b hb w
  have hI : isInf b = true := by unfold isInf; simp; omega
  rw [hI] at ci
  clear hI
  clear h
  go_enter Try.func45, Try.ntmps45
  go_wp2_with (first | (go_at_call 47; refine (isNaN_any _ _ (by assumption) _).mono ?_; rintro e w' ⟨rfl, rfl⟩) | (go_at_call 48; refine (ci _).mono ?_; rintro e w' ⟨rfl, rfl⟩))
  go_ret
  exact ⟨rfl, rfl⟩

set_option maxHeartbeats 400000 in
theorem ld_under (b : Nat) (hb : b < 18446744073709551616) (e0 : Int) (he0 : -1099511627776 ≤ e0 ∧ e0 ≤ 1099511627776) (hf : rung b < 9218868437227405312) (h0 : rung b ≠ 0) (hT2 : nExp b + e0 + 52 < -1075) (w : World) :
    Calls Try.prog 45 #[.float .f64 b, .int .i64 e0] w fun e w' => e = .returned (.float .f64 (near (negB b) (mantW b) (expW b + e0))) ∧ w = w' := by
  have nb : isNan b = false := by unfold isNan; simp; omega
  have t1 : ∀ _ : True, _ = false := fun _ => (ord_eq b 0 nb nan_zero).trans (by rw [place_zero]; have := place_eq_zero b; simp; omega)
  have ci := fun w => isInf_zero b hb w
  have hI : isInf b = false := by unfold isInf; simp; omega
  rw [hI] at ci
  clear hI
  have hm0 : mantW b ≠ 0 := fun g => h0 ((mantW_zero b).1 g)
  obtain ⟨p1, p2, p3, p4, p5, p6⟩ := norm_parts b hb hf hm0
  have hr := nMant_range b hm0
  have c := fun w => norm_any b hb hf w
  have hz : normE b = 0 ∨ normE b = -52 := by unfold normE; split <;> omega
  have hx : nExp b = normE b + ((ef (normW b) : Int) - 1075) := by rw [expW_norm _ p2] at p6; omega
  rw [← near_norm (negB b) b e0 hm0]
  obtain ⟨t, ht⟩ : ∃ t : Nat, t = normW b / 4503599627370496 := ⟨_, rfl⟩
  have htl : t < 4096 := by omega
  have hte : t % 2048 = ef (normW b) := by rw [ht]; rfl
  have a1 := and2047_i64 t htl
  rw [hte] at a1
  have s1 : ∀ _ : True, ((normW b : Nat) : Int) / 4503599627370496 = (t : Int) := fun _ => by rw [ht]; rfl
  have s2 : ∀ _ : True, wrap64 (t : Int) = (t : Int) := fun _ => by unfold wrap64; omega
  have s2b : ∀ _ : True, IntKind.i64.wrap (t : Int) = (t : Int) := fun _ => by rw [IntKind.wrap_i64]; omega
  have s3 : ∀ _ : True, _ = _ := fun _ => a1
  obtain ⟨x1, hx1⟩ : ∃ x1 : Int, x1 = e0 + normE b := ⟨_, rfl⟩
  obtain ⟨x2, hx2⟩ : ∃ x2 : Int, x2 = (ef (normW b) : Int) - 1023 := ⟨_, rfl⟩
  obtain ⟨T, hT⟩ : ∃ T : Int, T = x1 + x2 := ⟨_, rfl⟩
  have hTn : nExp b + e0 = T - 52 := by omega
  rw [hTn]
  have hTc : nExp b + e0 + 52 = T := by omega
  rw [hTc] at hT2
  have s4 : ∀ _ : True, wrap64 (e0 + normE b) = x1 := fun _ => by unfold wrap64; omega
  have s5 : ∀ _ : True, wrap64 ((ef (normW b) : Int) - 1023) = x2 := fun _ => by unfold wrap64; omega
  have s6 : ∀ _ : True, wrap64 (x1 + x2) = T := fun _ => by unfold wrap64; omega
  rw [near_gone (negB b) (nMant b) (T - 52) hr.2 (by omega)]
  have cs := fun w => copysign_any 0 (normW b) (by omega) p1 w
  rw [p4, show rung 0 = 0 by decide] at cs
  have t3 : ∀ _ : True, decide (T < -1075) = true := fun _ => by simpa using hT2
  clear hx hTn hTc ht htl hte a1 hx1 hx2 hT hz
  generalize ef (normW b) = E at *
  generalize normW b = y at *
  generalize normE b = z at *
  generalize wordD (negB b) 0 = v at *
  clear hm0 p1 p2 p3 p4 p5 p6 hr hf h0 hT2
  go_enter Try.func45, Try.ntmps45
  go_wp2_with (first | (go_at_call 47; refine (isNaN_any _ _ (by assumption) _).mono ?_; rintro e w' ⟨rfl, rfl⟩) | (go_at_call 48; refine (ci _).mono ?_; rintro e w' ⟨rfl, rfl⟩) | (go_at_call 46; refine (c _).mono ?_; rintro e w' ⟨rfl, rfl⟩) | (go_at_call 40; refine (bits_any _ _).mono ?_; rintro e w' ⟨rfl, rfl⟩) | (go_at_call 42; refine (frombits_any _ _).mono ?_; rintro e w' ⟨rfl, rfl⟩) | (go_at_call 55; refine (cs _).mono ?_; rintro e w' ⟨rfl, rfl⟩))
  go_ret
  exact ⟨rfl, rfl⟩

set_option maxHeartbeats 400000 in
theorem ld_over_t (b : Nat) (hb : b < 18446744073709551616) (e0 : Int) (he0 : -1099511627776 ≤ e0 ∧ e0 ≤ 1099511627776) (hf : rung b < 9218868437227405312) (h0 : rung b ≠ 0) (hT2 : 1023 < nExp b + e0 + 52) (hn : negB b = true) (w : World) :
    Calls Try.prog 45 #[.float .f64 b, .int .i64 e0] w fun e w' => e = .returned (.float .f64 (near (negB b) (mantW b) (expW b + e0))) ∧ w = w' := by
  have nb : isNan b = false := by unfold isNan; simp; omega
  have t1 : ∀ _ : True, _ = false := fun _ => (ord_eq b 0 nb nan_zero).trans (by rw [place_zero]; have := place_eq_zero b; simp; omega)
  have ci := fun w => isInf_zero b hb w
  have hI : isInf b = false := by unfold isInf; simp; omega
  rw [hI] at ci
  clear hI
  have hm0 : mantW b ≠ 0 := fun g => h0 ((mantW_zero b).1 g)
  obtain ⟨p1, p2, p3, p4, p5, p6⟩ := norm_parts b hb hf hm0
  have hr := nMant_range b hm0
  have c := fun w => norm_any b hb hf w
  have hz : normE b = 0 ∨ normE b = -52 := by unfold normE; split <;> omega
  have hx : nExp b = normE b + ((ef (normW b) : Int) - 1075) := by rw [expW_norm _ p2] at p6; omega
  rw [← near_norm (negB b) b e0 hm0]
  obtain ⟨t, ht⟩ : ∃ t : Nat, t = normW b / 4503599627370496 := ⟨_, rfl⟩
  have htl : t < 4096 := by omega
  have hte : t % 2048 = ef (normW b) := by rw [ht]; rfl
  have a1 := and2047_i64 t htl
  rw [hte] at a1
  have s1 : ∀ _ : True, ((normW b : Nat) : Int) / 4503599627370496 = (t : Int) := fun _ => by rw [ht]; rfl
  have s2 : ∀ _ : True, wrap64 (t : Int) = (t : Int) := fun _ => by unfold wrap64; omega
  have s2b : ∀ _ : True, IntKind.i64.wrap (t : Int) = (t : Int) := fun _ => by rw [IntKind.wrap_i64]; omega
  have s3 : ∀ _ : True, _ = _ := fun _ => a1
  obtain ⟨x1, hx1⟩ : ∃ x1 : Int, x1 = e0 + normE b := ⟨_, rfl⟩
  obtain ⟨x2, hx2⟩ : ∃ x2 : Int, x2 = (ef (normW b) : Int) - 1023 := ⟨_, rfl⟩
  obtain ⟨T, hT⟩ : ∃ T : Int, T = x1 + x2 := ⟨_, rfl⟩
  have hTn : nExp b + e0 = T - 52 := by omega
  rw [hTn]
  have hTc : nExp b + e0 + 52 = T := by omega
  rw [hTc] at hT2
  have s4 : ∀ _ : True, wrap64 (e0 + normE b) = x1 := fun _ => by unfold wrap64; omega
  have s5 : ∀ _ : True, wrap64 ((ef (normW b) : Int) - 1023) = x2 := fun _ => by unfold wrap64; omega
  have s6 : ∀ _ : True, wrap64 (x1 + x2) = T := fun _ => by unfold wrap64; omega
  rw [near_over (negB b) (nMant b) (T - 52) (by omega) hr.2 hr.1]
  have t3 : ∀ _ : True, decide (T < -1075) = false := fun _ => by simp; omega
  have t4 : ∀ _ : True, decide (1023 < T) = true := fun _ => by simpa using hT2
  have ny : isNan (normW b) = false := by unfold isNan; have := (fin_ef (normW b)).2 p3; simp; omega
  have hry : rung (normW b) ≠ 0 := fun g => by have := rung_fields (normW b); omega
  have t5 : ∀ _ : True, (FloatKind.f64.format.order (normW b) 0 == some Ordering.lt) = negB b := fun _ => (ord_lt _ 0 ny nan_zero).trans (by
    rw [place_zero, ← p4]; unfold place; cases negB (normW b) <;> simp <;> omega)
  clear ny hry
  clear hx hTn hTc ht htl hte a1 hx1 hx2 hT hz
  generalize ef (normW b) = E at *
  generalize normW b = y at *
  generalize normE b = z at *
  rw [hn] at t5 ⊢
  have cinf := fun w => inf_neg (-1) (by omega) w
  rw [show wordD true 9218868437227405312 = 18442240474082181120 by decide]
  clear hm0 p1 p2 p3 p4 p5 p6 hr hf h0 hT2 hn
  go_enter Try.func45, Try.ntmps45
  go_wp2_with (first | (go_at_call 47; refine (isNaN_any _ _ (by assumption) _).mono ?_; rintro e w' ⟨rfl, rfl⟩) | (go_at_call 48; refine (ci _).mono ?_; rintro e w' ⟨rfl, rfl⟩) | (go_at_call 46; refine (c _).mono ?_; rintro e w' ⟨rfl, rfl⟩) | (go_at_call 40; refine (bits_any _ _).mono ?_; rintro e w' ⟨rfl, rfl⟩) | (go_at_call 42; refine (frombits_any _ _).mono ?_; rintro e w' ⟨rfl, rfl⟩) | (go_at_call 50; refine (cinf _).mono ?_; rintro e w' ⟨rfl, rfl⟩))
  go_ret
  exact ⟨rfl, rfl⟩

set_option maxHeartbeats 400000 in
theorem ld_over_f (b : Nat) (hb : b < 18446744073709551616) (e0 : Int) (he0 : -1099511627776 ≤ e0 ∧ e0 ≤ 1099511627776) (hf : rung b < 9218868437227405312) (h0 : rung b ≠ 0) (hT2 : 1023 < nExp b + e0 + 52) (hn : negB b = false) (w : World) :
    Calls Try.prog 45 #[.float .f64 b, .int .i64 e0] w fun e w' => e = .returned (.float .f64 (near (negB b) (mantW b) (expW b + e0))) ∧ w = w' := by
  have nb : isNan b = false := by unfold isNan; simp; omega
  have t1 : ∀ _ : True, _ = false := fun _ => (ord_eq b 0 nb nan_zero).trans (by rw [place_zero]; have := place_eq_zero b; simp; omega)
  have ci := fun w => isInf_zero b hb w
  have hI : isInf b = false := by unfold isInf; simp; omega
  rw [hI] at ci
  clear hI
  have hm0 : mantW b ≠ 0 := fun g => h0 ((mantW_zero b).1 g)
  obtain ⟨p1, p2, p3, p4, p5, p6⟩ := norm_parts b hb hf hm0
  have hr := nMant_range b hm0
  have c := fun w => norm_any b hb hf w
  have hz : normE b = 0 ∨ normE b = -52 := by unfold normE; split <;> omega
  have hx : nExp b = normE b + ((ef (normW b) : Int) - 1075) := by rw [expW_norm _ p2] at p6; omega
  rw [← near_norm (negB b) b e0 hm0]
  obtain ⟨t, ht⟩ : ∃ t : Nat, t = normW b / 4503599627370496 := ⟨_, rfl⟩
  have htl : t < 4096 := by omega
  have hte : t % 2048 = ef (normW b) := by rw [ht]; rfl
  have a1 := and2047_i64 t htl
  rw [hte] at a1
  have s1 : ∀ _ : True, ((normW b : Nat) : Int) / 4503599627370496 = (t : Int) := fun _ => by rw [ht]; rfl
  have s2 : ∀ _ : True, wrap64 (t : Int) = (t : Int) := fun _ => by unfold wrap64; omega
  have s2b : ∀ _ : True, IntKind.i64.wrap (t : Int) = (t : Int) := fun _ => by rw [IntKind.wrap_i64]; omega
  have s3 : ∀ _ : True, _ = _ := fun _ => a1
  obtain ⟨x1, hx1⟩ : ∃ x1 : Int, x1 = e0 + normE b := ⟨_, rfl⟩
  obtain ⟨x2, hx2⟩ : ∃ x2 : Int, x2 = (ef (normW b) : Int) - 1023 := ⟨_, rfl⟩
  obtain ⟨T, hT⟩ : ∃ T : Int, T = x1 + x2 := ⟨_, rfl⟩
  have hTn : nExp b + e0 = T - 52 := by omega
  rw [hTn]
  have hTc : nExp b + e0 + 52 = T := by omega
  rw [hTc] at hT2
  have s4 : ∀ _ : True, wrap64 (e0 + normE b) = x1 := fun _ => by unfold wrap64; omega
  have s5 : ∀ _ : True, wrap64 ((ef (normW b) : Int) - 1023) = x2 := fun _ => by unfold wrap64; omega
  have s6 : ∀ _ : True, wrap64 (x1 + x2) = T := fun _ => by unfold wrap64; omega
  rw [near_over (negB b) (nMant b) (T - 52) (by omega) hr.2 hr.1]
  have t3 : ∀ _ : True, decide (T < -1075) = false := fun _ => by simp; omega
  have t4 : ∀ _ : True, decide (1023 < T) = true := fun _ => by simpa using hT2
  have ny : isNan (normW b) = false := by unfold isNan; have := (fin_ef (normW b)).2 p3; simp; omega
  have hry : rung (normW b) ≠ 0 := fun g => by have := rung_fields (normW b); omega
  have t5 : ∀ _ : True, (FloatKind.f64.format.order (normW b) 0 == some Ordering.lt) = negB b := fun _ => (ord_lt _ 0 ny nan_zero).trans (by
    rw [place_zero, ← p4]; unfold place; cases negB (normW b) <;> simp <;> omega)
  clear ny hry
  clear hx hTn hTc ht htl hte a1 hx1 hx2 hT hz
  generalize ef (normW b) = E at *
  generalize normW b = y at *
  generalize normE b = z at *
  rw [hn] at t5 ⊢
  have cinf := fun w => inf_pos 1 (by omega) w
  rw [show wordD false 9218868437227405312 = 9218868437227405312 by decide]
  clear hm0 p1 p2 p3 p4 p5 p6 hr hf h0 hT2 hn
  go_enter Try.func45, Try.ntmps45
  go_wp2_with (first | (go_at_call 47; refine (isNaN_any _ _ (by assumption) _).mono ?_; rintro e w' ⟨rfl, rfl⟩) | (go_at_call 48; refine (ci _).mono ?_; rintro e w' ⟨rfl, rfl⟩) | (go_at_call 46; refine (c _).mono ?_; rintro e w' ⟨rfl, rfl⟩) | (go_at_call 40; refine (bits_any _ _).mono ?_; rintro e w' ⟨rfl, rfl⟩) | (go_at_call 42; refine (frombits_any _ _).mono ?_; rintro e w' ⟨rfl, rfl⟩) | (go_at_call 50; refine (cinf _).mono ?_; rintro e w' ⟨rfl, rfl⟩))
  go_ret
  exact ⟨rfl, rfl⟩

set_option maxHeartbeats 400000 in
theorem ld_mid (b : Nat) (hb : b < 18446744073709551616) (e0 : Int) (he0 : -1099511627776 ≤ e0 ∧ e0 ≤ 1099511627776) (hf : rung b < 9218868437227405312) (h0 : rung b ≠ 0) (hT2 : -1022 ≤ nExp b + e0 + 52 ∧ nExp b + e0 + 52 ≤ 1023) (w : World) :
    Calls Try.prog 45 #[.float .f64 b, .int .i64 e0] w fun e w' => e = .returned (.float .f64 (near (negB b) (mantW b) (expW b + e0))) ∧ w = w' := by
  have nb : isNan b = false := by unfold isNan; simp; omega
  have t1 : ∀ _ : True, _ = false := fun _ => (ord_eq b 0 nb nan_zero).trans (by rw [place_zero]; have := place_eq_zero b; simp; omega)
  have ci := fun w => isInf_zero b hb w
  have hI : isInf b = false := by unfold isInf; simp; omega
  rw [hI] at ci
  clear hI
  have hm0 : mantW b ≠ 0 := fun g => h0 ((mantW_zero b).1 g)
  obtain ⟨p1, p2, p3, p4, p5, p6⟩ := norm_parts b hb hf hm0
  have hr := nMant_range b hm0
  have c := fun w => norm_any b hb hf w
  have hz : normE b = 0 ∨ normE b = -52 := by unfold normE; split <;> omega
  have hx : nExp b = normE b + ((ef (normW b) : Int) - 1075) := by rw [expW_norm _ p2] at p6; omega
  rw [← near_norm (negB b) b e0 hm0]
  obtain ⟨t, ht⟩ : ∃ t : Nat, t = normW b / 4503599627370496 := ⟨_, rfl⟩
  have htl : t < 4096 := by omega
  have hte : t % 2048 = ef (normW b) := by rw [ht]; rfl
  have a1 := and2047_i64 t htl
  rw [hte] at a1
  have s1 : ∀ _ : True, ((normW b : Nat) : Int) / 4503599627370496 = (t : Int) := fun _ => by rw [ht]; rfl
  have s2 : ∀ _ : True, wrap64 (t : Int) = (t : Int) := fun _ => by unfold wrap64; omega
  have s2b : ∀ _ : True, IntKind.i64.wrap (t : Int) = (t : Int) := fun _ => by rw [IntKind.wrap_i64]; omega
  have s3 : ∀ _ : True, _ = _ := fun _ => a1
  obtain ⟨x1, hx1⟩ : ∃ x1 : Int, x1 = e0 + normE b := ⟨_, rfl⟩
  obtain ⟨x2, hx2⟩ : ∃ x2 : Int, x2 = (ef (normW b) : Int) - 1023 := ⟨_, rfl⟩
  obtain ⟨T, hT⟩ : ∃ T : Int, T = x1 + x2 := ⟨_, rfl⟩
  have hTn : nExp b + e0 = T - 52 := by omega
  rw [hTn]
  have hTc : nExp b + e0 + 52 = T := by omega
  rw [hTc] at hT2
  have s4 : ∀ _ : True, wrap64 (e0 + normE b) = x1 := fun _ => by unfold wrap64; omega
  have s5 : ∀ _ : True, wrap64 ((ef (normW b) : Int) - 1023) = x2 := fun _ => by unfold wrap64; omega
  have s6 : ∀ _ : True, wrap64 (x1 + x2) = T := fun _ => by unfold wrap64; omega
  have t3 : ∀ _ : True, decide (T < -1075) = false := fun _ => by simp; omega
  have t4 : ∀ _ : True, decide (1023 < T) = false := fun _ => by simp; omega
  have t5 : ∀ _ : True, decide (T < -1022) = false := fun _ => by simp; omega
  obtain ⟨q, hq⟩ : ∃ q : Nat, q = (T + 0 + 1023).toNat := ⟨_, rfl⟩
  have hq1 : q ≠ 0 := by omega
  have hq2 : q < 2047 := by omega
  obtain ⟨v1, v2, v3, v4, v5⟩ := setE_parts (normW b) q hq1 (by omega) p2
  have hfv : rung (setE (normW b) q) < 9218868437227405312 := (fin_ef _).2 (by rw [v2]; omega)
  have hmul := mul_one_w (setE (normW b) q) hfv
  rw [v3, v4, v5, p4, p5] at hmul
  have hpow : (q : Int) - 1075 = T - 52 := by omega
  rw [hpow] at hmul
  have s8 : ∀ _ : True, wrap64 (T + 1023) = (q : Int) := fun _ => by unfold wrap64; omega
  have s8b : ∀ _ : True, IntKind.u64.wrap (q : Int) = (q : Int) := fun _ => by rw [IntKind.wrap_u64]; omega
  obtain ⟨q52, hq52⟩ : ∃ q52 : Nat, q52 = q * 4503599627370496 := ⟨_, rfl⟩
  have s9 : ∀ _ : True, IntKind.u64.wrap ((q : Int) * 4503599627370496) = (q52 : Int) := fun _ => by rw [IntKind.wrap_u64]; omega
  have s10 : ∀ _ : True, _ = _ := fun _ => clr_exp (normW b) p1
  have s11 : ∀ _ : True, bits .or .u64 (wordD (negB (normW b)) (mf (normW b)) : Int) (q52 : Int) = (setE (normW b) q : Int) := fun _ => by
    rw [hq52]; exact or_exp (negB (normW b)) q (mf (normW b)) (by omega) (mf_lt _)
  generalize near (negB b) (nMant b) (T - 52) = N at *
  generalize setE (normW b) q = v at *
  generalize wordD (negB (normW b)) (mf (normW b)) = u at *
  have s12 : ∀ ty w, (binOp .mul ty (.float .f64 4607182418800017408) (.float .f64 v)).run Try.prog w = .ok (.float .f64 N) w := fun ty w => run_float_arith w .mul ty .f64 _ _ N hmul
  clear hx hTn hTc ht htl hte a1 hx1 hx2 hT hz
  generalize ef (normW b) = E at *
  generalize normW b = y at *
  generalize normE b = z at *
  clear hm0 p1 p2 p3 p4 p5 p6 hr hf h0 hT2 hq hq1 hq2 v1 v2 v3 v4 v5 hfv hmul hpow hq52
  go_enter Try.func45, Try.ntmps45
  go_wp2_with (first | (go_at_call 47; refine (isNaN_any _ _ (by assumption) _).mono ?_; rintro e w' ⟨rfl, rfl⟩) | (go_at_call 48; refine (ci _).mono ?_; rintro e w' ⟨rfl, rfl⟩) | (go_at_call 46; refine (c _).mono ?_; rintro e w' ⟨rfl, rfl⟩) | (go_at_call 40; refine (bits_any _ _).mono ?_; rintro e w' ⟨rfl, rfl⟩) | (go_at_call 42; refine (frombits_any _ _).mono ?_; rintro e w' ⟨rfl, rfl⟩))
  go_ret
  exact ⟨rfl, rfl⟩

set_option maxHeartbeats 400000 in
theorem ld_low (b : Nat) (hb : b < 18446744073709551616) (e0 : Int) (he0 : -1099511627776 ≤ e0 ∧ e0 ≤ 1099511627776) (hf : rung b < 9218868437227405312) (h0 : rung b ≠ 0) (hT2 : -1075 ≤ nExp b + e0 + 52 ∧ nExp b + e0 + 52 < -1022) (w : World) :
    Calls Try.prog 45 #[.float .f64 b, .int .i64 e0] w fun e w' => e = .returned (.float .f64 (near (negB b) (mantW b) (expW b + e0))) ∧ w = w' := by
  have nb : isNan b = false := by unfold isNan; simp; omega
  have t1 : ∀ _ : True, _ = false := fun _ => (ord_eq b 0 nb nan_zero).trans (by rw [place_zero]; have := place_eq_zero b; simp; omega)
  have ci := fun w => isInf_zero b hb w
  have hI : isInf b = false := by unfold isInf; simp; omega
  rw [hI] at ci
  clear hI
  have hm0 : mantW b ≠ 0 := fun g => h0 ((mantW_zero b).1 g)
  obtain ⟨p1, p2, p3, p4, p5, p6⟩ := norm_parts b hb hf hm0
  have hr := nMant_range b hm0
  have c := fun w => norm_any b hb hf w
  have hz : normE b = 0 ∨ normE b = -52 := by unfold normE; split <;> omega
  have hx : nExp b = normE b + ((ef (normW b) : Int) - 1075) := by rw [expW_norm _ p2] at p6; omega
  rw [← near_norm (negB b) b e0 hm0]
  obtain ⟨t, ht⟩ : ∃ t : Nat, t = normW b / 4503599627370496 := ⟨_, rfl⟩
  have htl : t < 4096 := by omega
  have hte : t % 2048 = ef (normW b) := by rw [ht]; rfl
  have a1 := and2047_i64 t htl
  rw [hte] at a1
  have s1 : ∀ _ : True, ((normW b : Nat) : Int) / 4503599627370496 = (t : Int) := fun _ => by rw [ht]; rfl
  have s2 : ∀ _ : True, wrap64 (t : Int) = (t : Int) := fun _ => by unfold wrap64; omega
  have s2b : ∀ _ : True, IntKind.i64.wrap (t : Int) = (t : Int) := fun _ => by rw [IntKind.wrap_i64]; omega
  have s3 : ∀ _ : True, _ = _ := fun _ => a1
  obtain ⟨x1, hx1⟩ : ∃ x1 : Int, x1 = e0 + normE b := ⟨_, rfl⟩
  obtain ⟨x2, hx2⟩ : ∃ x2 : Int, x2 = (ef (normW b) : Int) - 1023 := ⟨_, rfl⟩
  obtain ⟨T, hT⟩ : ∃ T : Int, T = x1 + x2 := ⟨_, rfl⟩
  have hTn : nExp b + e0 = T - 52 := by omega
  rw [hTn]
  have hTc : nExp b + e0 + 52 = T := by omega
  rw [hTc] at hT2
  have s4 : ∀ _ : True, wrap64 (e0 + normE b) = x1 := fun _ => by unfold wrap64; omega
  have s5 : ∀ _ : True, wrap64 ((ef (normW b) : Int) - 1023) = x2 := fun _ => by unfold wrap64; omega
  have s6 : ∀ _ : True, wrap64 (x1 + x2) = T := fun _ => by unfold wrap64; omega
  have t3 : ∀ _ : True, decide (T < -1075) = false := fun _ => by simp; omega
  have t4 : ∀ _ : True, decide (1023 < T) = false := fun _ => by simp; omega
  have t5 : ∀ _ : True, decide (T < -1022) = true := fun _ => by simp; omega
  obtain ⟨q, hq⟩ : ∃ q : Nat, q = (T + 53 + 1023).toNat := ⟨_, rfl⟩
  have hq1 : q ≠ 0 := by omega
  have hq2 : q < 2047 := by omega
  obtain ⟨v1, v2, v3, v4, v5⟩ := setE_parts (normW b) q hq1 (by omega) p2
  have hfv : rung (setE (normW b) q) < 9218868437227405312 := (fin_ef _).2 (by rw [v2]; omega)
  have hmul := mul_m53 (setE (normW b) q) hfv
  rw [v3, v4, v5, p4, p5] at hmul
  have hpow : (q : Int) - 1075 - 53 = T - 52 := by omega
  rw [hpow] at hmul
  obtain ⟨T2, hT3⟩ : ∃ T2 : Int, T2 = T + 53 := ⟨_, rfl⟩
  have s7 : ∀ _ : True, wrap64 (T + 53) = T2 := fun _ => by unfold wrap64; omega
  have s8 : ∀ _ : True, wrap64 (T2 + 1023) = (q : Int) := fun _ => by unfold wrap64; omega
  have s8b : ∀ _ : True, IntKind.u64.wrap (q : Int) = (q : Int) := fun _ => by rw [IntKind.wrap_u64]; omega
  obtain ⟨q52, hq52⟩ : ∃ q52 : Nat, q52 = q * 4503599627370496 := ⟨_, rfl⟩
  have s9 : ∀ _ : True, IntKind.u64.wrap ((q : Int) * 4503599627370496) = (q52 : Int) := fun _ => by rw [IntKind.wrap_u64]; omega
  have s10 : ∀ _ : True, _ = _ := fun _ => clr_exp (normW b) p1
  have s11 : ∀ _ : True, bits .or .u64 (wordD (negB (normW b)) (mf (normW b)) : Int) (q52 : Int) = (setE (normW b) q : Int) := fun _ => by
    rw [hq52]; exact or_exp (negB (normW b)) q (mf (normW b)) (by omega) (mf_lt _)
  generalize near (negB b) (nMant b) (T - 52) = N at *
  generalize setE (normW b) q = v at *
  generalize wordD (negB (normW b)) (mf (normW b)) = u at *
  have s12 : ∀ ty w, (binOp .mul ty (.float .f64 4368491638549381120) (.float .f64 v)).run Try.prog w = .ok (.float .f64 N) w := fun ty w => run_float_arith w .mul ty .f64 _ _ N hmul
  clear hx hTn hTc ht htl hte a1 hx1 hx2 hT hz
  generalize ef (normW b) = E at *
  generalize normW b = y at *
  generalize normE b = z at *
  clear hm0 p1 p2 p3 p4 p5 p6 hr hf h0 hT2 hq hq1 hq2 v1 v2 v3 v4 v5 hfv hmul hpow hq52 hT3
  go_enter Try.func45, Try.ntmps45
  go_wp2_with (first | (go_at_call 47; refine (isNaN_any _ _ (by assumption) _).mono ?_; rintro e w' ⟨rfl, rfl⟩) | (go_at_call 48; refine (ci _).mono ?_; rintro e w' ⟨rfl, rfl⟩) | (go_at_call 46; refine (c _).mono ?_; rintro e w' ⟨rfl, rfl⟩) | (go_at_call 40; refine (bits_any _ _).mono ?_; rintro e w' ⟨rfl, rfl⟩) | (go_at_call 42; refine (frombits_any _ _).mono ?_; rintro e w' ⟨rfl, rfl⟩))
  go_ret
  exact ⟨rfl, rfl⟩

theorem ld_any (b : Nat) (hb : b < 18446744073709551616) (e0 : Int) (he0 : -1099511627776 ≤ e0 ∧ e0 ≤ 1099511627776) (w : World) :
    Calls Try.prog 45 #[.float .f64 b, .int .i64 e0] w fun e w' => e = .returned (.float .f64 (ldW b e0)) ∧ w = w' := by
  have hfe := fin_ef b
  unfold ldW
  by_cases h : rung b = 0
  · rw [if_pos (Or.inl h)]; exact ld_zero b hb e0 he0 h w
  · by_cases hf : rung b < 9218868437227405312
    · rw [if_neg (by omega)]
      rcases (by omega : nExp b + e0 + 52 < -1075 ∨ 1023 < nExp b + e0 + 52 ∨ (-1022 ≤ nExp b + e0 + 52 ∧ nExp b + e0 + 52 ≤ 1023) ∨ (-1075 ≤ nExp b + e0 + 52 ∧ nExp b + e0 + 52 < -1022)) with g | g | g | g
      · exact ld_under b hb e0 he0 hf h g w
      · rcases Bool.eq_false_or_eq_true (negB b) with hn | hn
        · exact ld_over_t b hb e0 he0 hf h g hn w
        · exact ld_over_f b hb e0 he0 hf h g hn w
      · exact ld_mid b hb e0 he0 hf h g w
      · exact ld_low b hb e0 he0 hf h g w
    · rw [if_pos (by omega)]
      by_cases hi : rung b = 9218868437227405312
      · exact ld_inf b hb e0 he0 hi w
      · exact ld_nan b hb e0 he0 (by unfold isNan; simp; omega) w

set_option maxHeartbeats 400000 in
theorem Ld_any (b : Nat) (hb : b < 18446744073709551616) (e0 : Int) (he0 : -1099511627776 ≤ e0 ∧ e0 ≤ 1099511627776) (w : World) :
    Calls Try.prog 36 #[.float .f64 b, .int .i64 e0] w fun e w' => e = .returned (.float .f64 (ldW b e0)) ∧ w = w' := by
  have c := fun w => ld_any b hb e0 he0 w
  generalize ldW b e0 = y at *
  clear he0
  go_enter Try.func36, Try.ntmps36
  go_wp2_with (first | (go_at_call 45; refine (c _).mono ?_; rintro e w' ⟨rfl, rfl⟩))
  go_ret
  exact ⟨rfl, rfl⟩

set_option maxHeartbeats 400000 in
theorem i_ld (b : Nat) (hb : b < 18446744073709551616) (e0 : Int) (he0 : -1099511627776 ≤ e0 ∧ e0 ≤ 1099511627776) (w : World) :
    Calls Try.prog 22 #[.int .u64 (b : Int), .int .i64 e0] w fun e w' => e = .returned (.int .u64 (ldW b e0 : Int)) ∧ w = w' := by
  have c := fun w => Ld_any b hb e0 he0 w
  generalize ldW b e0 = y at *
  clear he0
  go_enter Try.func22, Try.ntmps22
  go_wp2_with (first | (go_at_call 29; refine (float_any _ _).mono ?_; rintro e w' ⟨rfl, rfl⟩) | (go_at_call 27; refine (bitsOf_any _ _).mono ?_; rintro e w' ⟨rfl, rfl⟩) | (go_at_call 36; refine (c _).mono ?_; rintro e w' ⟨rfl, rfl⟩))
  go_ret
  exact ⟨rfl, rfl⟩

end Go.Proofs.Ytbpggopjiogimaa
