/- The contracts of the package's normalize, frexp, ilogb, Logb and of what calls them, and of the reference's Log: by the bits. -/
import Derived.Test.YtbpggopjiogimaaWalkF6
import Derived.Test.YtbpggopjiogimaaWalkH
import Derived.Test.YtbpggopjiogimaaWalk1
import Derived.Test.YtbpggopjiogimaaFNorm
import Derived.Test.YtbpggopjiogimaaFOrd
set_option linter.unusedVariables false
namespace Go.Proofs.Ytbpggopjiogimaa
open Go.RowKit Go.Proofs.Ytbpggopjiogimaa.Plain
theorem ret_fi {a b : Nat} {n m : Int} (h : a = b) (g : n = m) : Ending.returned (.tuple #[.float .f64 a, .int .i64 n]) = .returned (.tuple #[.float .f64 b, .int .i64 m]) := by rw [h, g]

set_option maxHeartbeats 400000 in
theorem norm_sub (b : Nat) (hb : b < 18446744073709551616) (hf : rung b < 9218868437227405312) (h : ef b = 0) (w : World) :
    Calls Try.prog 46 #[.float .f64 b] w fun e w' => e = .returned (.tuple #[.float .f64 (normW b), .int .i64 (-52)]) ∧ w = w' := by
  have ca := fun w => abs_any b hb w
  have t1 : ∀ _ : True, (FloatKind.f64.format.order (rung b) 4503599627370496 == some Ordering.lt) = true := fun _ => (ord_lt _ _ (by rw [nan_rung]; unfold isNan; simp; omega) (by decide)).trans (by
    have hp : place 4503599627370496 = 4503599627370496 := by decide
    have hq : place (rung b) = (rung b : Int) := by unfold place; rw [neg_rung, rung_rung]; rfl
    have h1 := rung_fields b; have h2 := mf_lt b
    rw [hp, hq]; simp; omega)
  have hN : normW b = near (negB b) (mantW b) (expW b + 52) := by unfold normW; rw [if_pos h]
  have hm := mul_two52 b hf
  rw [← hN] at hm
  generalize normW b = y at *
  generalize rung b = r at ca t1
  have r1 : ∀ ty w, (binOp .mul ty (.float .f64 b) (.float .f64 4841369599423283200)).run Try.prog w = .ok (.float .f64 y) w := fun ty w => run_float_arith w .mul ty .f64 _ _ y hm
  clear hN hm h hf
  go_enter Try.func46, Try.ntmps46
  go_wp2_with (first | (go_at_call 53; refine (ca _).mono ?_; rintro e w' ⟨rfl, rfl⟩))
  go_ret2
  exact ⟨rfl, rfl⟩

set_option maxHeartbeats 400000 in
theorem norm_norm (b : Nat) (hb : b < 18446744073709551616) (hf : rung b < 9218868437227405312) (h : ef b ≠ 0) (w : World) :
    Calls Try.prog 46 #[.float .f64 b] w fun e w' => e = .returned (.tuple #[.float .f64 b, .int .i64 0]) ∧ w = w' := by
  have ca := fun w => abs_any b hb w
  have t1 : ∀ _ : True, (FloatKind.f64.format.order (rung b) 4503599627370496 == some Ordering.lt) = false := fun _ => (ord_lt _ _ (by rw [nan_rung]; unfold isNan; simp; omega) (by decide)).trans (by
    have hp : place 4503599627370496 = 4503599627370496 := by decide
    have hq : place (rung b) = (rung b : Int) := by unfold place; rw [neg_rung, rung_rung]; rfl
    have h1 := rung_fields b; have h2 := mf_lt b
    rw [hp, hq]; simp; omega)
  generalize rung b = r at ca t1
  clear h hf
  go_enter Try.func46, Try.ntmps46
  go_wp2_with (first | (go_at_call 53; refine (ca _).mono ?_; rintro e w' ⟨rfl, rfl⟩))
  go_ret2
  exact ⟨rfl, rfl⟩

theorem norm_any (b : Nat) (hb : b < 18446744073709551616) (hf : rung b < 9218868437227405312) (w : World) :
    Calls Try.prog 46 #[.float .f64 b] w fun e w' => e = .returned (.tuple #[.float .f64 (normW b), .int .i64 (normE b)]) ∧ w = w' := by
  by_cases h : ef b = 0
  · have : normE b = -52 := by unfold normE; rw [if_pos h]
    rw [this]; exact norm_sub b hb hf h w
  · have h1 : normE b = 0 := by unfold normE; rw [if_neg h]
    have h2 : normW b = b := by unfold normW; rw [if_neg h]
    rw [h1, h2]; exact norm_norm b hb hf h w

set_option maxHeartbeats 400000 in
theorem Norm_any (b : Nat) (hb : b < 18446744073709551616) (hf : rung b < 9218868437227405312) (w : World) :
    Calls Try.prog 37 #[.float .f64 b] w fun e w' => e = .returned (.tuple #[.float .f64 (normW b), .int .i64 (normE b)]) ∧ w = w' := by
  have c := fun w => norm_any b hb hf w
  generalize normW b = y at *
  generalize normE b = z at *
  clear hf
  go_enter Try.func37, Try.ntmps37
  go_wp2_with (first | (go_at_call 46; refine (c _).mono ?_; rintro e w' ⟨rfl, rfl⟩))
  go_ret2
  exact ⟨rfl, rfl⟩

set_option maxHeartbeats 400000 in
theorem i_norm (b : Nat) (hb : b < 18446744073709551616) (hf : rung b < 9218868437227405312) (w : World) :
    Calls Try.prog 23 #[.int .u64 (b : Int)] w fun e w' => e = .returned (.tuple #[.int .u64 (normW b : Int), .int .i64 (normE b)]) ∧ w = w' := by
  have c := fun w => Norm_any b hb hf w
  generalize normW b = y at *
  generalize normE b = z at *
  clear hf
  go_enter Try.func23, Try.ntmps23
  go_wp2_with (first | (go_at_call 29; refine (float_any _ _).mono ?_; rintro e w' ⟨rfl, rfl⟩) | (go_at_call 27; refine (bitsOf_any _ _).mono ?_; rintro e w' ⟨rfl, rfl⟩) | (go_at_call 37; refine (c _).mono ?_; rintro e w' ⟨rfl, rfl⟩))
  go_ret2
  exact ⟨rfl, rfl⟩

set_option maxHeartbeats 400000 in
theorem fr_zero (b : Nat) (hb : b < 18446744073709551616) (h : rung b = 0) (w : World) :
    Calls Try.prog 44 #[.float .f64 b] w fun e w' => e = .returned (.tuple #[.float .f64 b, .int .i64 0]) ∧ w = w' := by
  have nb : isNan b = false := by unfold isNan; simp; omega
  have t1 : ∀ _ : True, _ = true := fun _ => (ord_eq b 0 nb nan_zero).trans (by rw [place_zero]; simpa using (place_eq_zero b).2 h)
  clear nb h
  go_enter Try.func44, Try.ntmps44
  go_wp2
  go_ret2
  exact ⟨rfl, rfl⟩

set_option maxHeartbeats 400000 in
theorem fr_nan (b : Nat) (hb : b < 18446744073709551616) (nb : isNan b = true) (w : World) :
    Calls Try.prog 44 #[.float .f64 b] w fun e w' => e = .returned (.tuple #[.float .f64 b, .int .i64 0]) ∧ w = w' := by
  have t1 : ∀ _ : True, (FloatKind.f64.format.order b 0 == some Ordering.eq) = false := fun _ => show (Ieee.double.order b 0 == _) = false by rw [order_nan_left b 0 nb]; rfl
  have ci := fun w => isInf_zero b hb w
  have hI : isInf b = false := by unfold isInf; unfold isNan at nb; simp at nb; simp; omega
  rw [hI] at ci
  clear hI
  go_enter Try.func44, Try.ntmps44
  go_wp2_with (first | (go_at_call 47; refine (isNaN_any _ _ (by assumption) _).mono ?_; rintro e w' ⟨rfl, rfl⟩) | (go_at_call 48; refine (ci _).mono ?_; rintro e w' ⟨rfl, rfl⟩))
  go_ret2
  exact ⟨rfl, rfl⟩

set_option maxHeartbeats 400000 in
theorem fr_inf (b : Nat) (hb : b < 18446744073709551616) (h : rung b = 9218868437227405312) (w : World) :
    Calls Try.prog 44 #[.float .f64 b] w fun e w' => e = .returned (.tuple #[.float .f64 b, .int .i64 0]) ∧ w = w' := by
  have nb : isNan b = false := by unfold isNan; simp; omega
  have t1 : ∀ _ : True, _ = false := fun _ => (ord_eq b 0 nb nan_zero).trans (by rw [place_zero]; have := place_eq_zero b; simp; omega)
  have ci := fun w => isInf_zero b hb w
  have hI : isInf b = true := by unfold isInf; simp; omega
  rw [hI] at ci
  clear hI
  clear h
  go_enter Try.func44, Try.ntmps44
  go_wp2_with (first | (go_at_call 47; refine (isNaN_any _ _ (by assumption) _).mono ?_; rintro e w' ⟨rfl, rfl⟩) | (go_at_call 48; refine (ci _).mono ?_; rintro e w' ⟨rfl, rfl⟩))
  go_ret2
  exact ⟨rfl, rfl⟩

set_option maxHeartbeats 400000 in
theorem fr_fin (b : Nat) (hb : b < 18446744073709551616) (hf : rung b < 9218868437227405312) (h0 : rung b ≠ 0) (w : World) :
    Calls Try.prog 44 #[.float .f64 b] w fun e w' => e = .returned (.tuple #[.float .f64 (setE (normW b) 1022), .int .i64 (nExp b + 53)]) ∧ w = w' := by
  have nb : isNan b = false := by unfold isNan; simp; omega
  have t1 : ∀ _ : True, _ = false := fun _ => (ord_eq b 0 nb nan_zero).trans (by rw [place_zero]; have := place_eq_zero b; simp; omega)
  have ci := fun w => isInf_zero b hb w
  have hI : isInf b = false := by unfold isInf; simp; omega
  rw [hI] at ci
  clear hI
  obtain ⟨p1, p2, p3, p4, p5, p6⟩ := norm_parts b hb hf (fun g => h0 ((mantW_zero b).1 g))
  have c := fun w => norm_any b hb hf w
  have r1 : ∀ _ : True, _ = _ := fun _ => ef_num (normW b)
  have r2 : ∀ _ : True, _ = _ := fun _ => clr_exp (normW b) p1
  have r3 : ∀ _ : True, bits .or .u64 (wordD (negB (normW b)) (mf (normW b)) : Int) 4602678819172646912 = (setE (normW b) 1022 : Int) := fun _ => or_exp (negB (normW b)) 1022 (mf (normW b)) (by omega) (mf_lt _)
  have hz : normE b = 0 ∨ normE b = -52 := by unfold normE; split <;> omega
  have hx : nExp b = normE b + ((ef (normW b) : Int) - 1075) := by rw [expW_norm _ p2] at p6; omega
  rw [hx]
  have hEl := ef_lt (normW b)
  clear hx p2 p3 p4 p5 p6 p1
  generalize setE (normW b) 1022 = v at *
  generalize wordD (negB (normW b)) (mf (normW b)) = u at *
  generalize ef (normW b) = E at *
  generalize normW b = y at *
  generalize normE b = z at *
  have w1 : ∀ _ : True, wrap64 (E : Int) = (E : Int) := fun _ => by unfold wrap64; omega
  have w2 : ∀ _ : True, wrap64 ((E : Int) - 1023) = (E : Int) - 1023 := fun _ => by unfold wrap64; omega
  have H := Lib.hid (And.intro hz hEl)
  clear hf h0 hz hEl
  go_enter Try.func44, Try.ntmps44
  go_wp2_with (first | (go_at_call 47; refine (isNaN_any _ _ (by assumption) _).mono ?_; rintro e w' ⟨rfl, rfl⟩) | (go_at_call 48; refine (ci _).mono ?_; rintro e w' ⟨rfl, rfl⟩) | (go_at_call 46; refine (c _).mono ?_; rintro e w' ⟨rfl, rfl⟩) | (go_at_call 40; refine (bits_any _ _).mono ?_; rintro e w' ⟨rfl, rfl⟩) | (go_at_call 42; refine (frombits_any _ _).mono ?_; rintro e w' ⟨rfl, rfl⟩))
  go_ret2
  have H1 := H.out
  exact ⟨ret_fi rfl (by (try simp only [IntKind.wrap_i64]); (try unfold wrap64); omega), rfl⟩

theorem fr_any (b : Nat) (hb : b < 18446744073709551616) (w : World) :
    Calls Try.prog 44 #[.float .f64 b] w fun e w' => e = .returned (.tuple #[.float .f64 (frW b), .int .i64 (frE b)]) ∧ w = w' := by
  have hfe := fin_ef b
  unfold frW frE
  by_cases h : rung b = 0
  · rw [if_pos (Or.inl h), if_pos (Or.inl h)]; exact fr_zero b hb h w
  · by_cases hf : rung b < 9218868437227405312
    · rw [if_neg (by omega), if_neg (by omega)]; exact fr_fin b hb hf h w
    · rw [if_pos (by omega), if_pos (by omega)]
      by_cases hi : rung b = 9218868437227405312
      · exact fr_inf b hb hi w
      · exact fr_nan b hb (by unfold isNan; simp; omega) w

set_option maxHeartbeats 400000 in
theorem Fr_any (b : Nat) (hb : b < 18446744073709551616) (w : World) :
    Calls Try.prog 33 #[.float .f64 b] w fun e w' => e = .returned (.tuple #[.float .f64 (frW b), .int .i64 (frE b)]) ∧ w = w' := by
  have c := fun w => fr_any b hb w
  generalize frW b = y at *
  generalize frE b = z at *
  go_enter Try.func33, Try.ntmps33
  go_wp2_with (first | (go_at_call 44; refine (c _).mono ?_; rintro e w' ⟨rfl, rfl⟩))
  go_ret2
  exact ⟨rfl, rfl⟩

set_option maxHeartbeats 400000 in
theorem i_fr (b : Nat) (hb : b < 18446744073709551616) (w : World) :
    Calls Try.prog 18 #[.int .u64 (b : Int)] w fun e w' => e = .returned (.tuple #[.int .u64 (frW b : Int), .int .i64 (frE b)]) ∧ w = w' := by
  have c := fun w => Fr_any b hb w
  generalize frW b = y at *
  generalize frE b = z at *
  go_enter Try.func18, Try.ntmps18
  go_wp2_with (first | (go_at_call 29; refine (float_any _ _).mono ?_; rintro e w' ⟨rfl, rfl⟩) | (go_at_call 27; refine (bitsOf_any _ _).mono ?_; rintro e w' ⟨rfl, rfl⟩) | (go_at_call 33; refine (c _).mono ?_; rintro e w' ⟨rfl, rfl⟩))
  go_ret2
  exact ⟨rfl, rfl⟩

set_option maxHeartbeats 400000 in
theorem ilogb_any (b : Nat) (hb : b < 18446744073709551616) (hf : rung b < 9218868437227405312) (h0 : rung b ≠ 0) (w : World) :
    Calls Try.prog 49 #[.float .f64 b] w fun e w' => e = .returned (.int .i64 (nExp b + 52)) ∧ w = w' := by
  obtain ⟨p1, p2, p3, p4, p5, p6⟩ := norm_parts b hb hf (fun g => h0 ((mantW_zero b).1 g))
  have c := fun w => norm_any b hb hf w
  have r1 : ∀ _ : True, _ = _ := fun _ => ef_num (normW b)
  have hz : normE b = 0 ∨ normE b = -52 := by unfold normE; split <;> omega
  have hx : nExp b = normE b + ((ef (normW b) : Int) - 1075) := by rw [expW_norm _ p2] at p6; omega
  rw [hx]
  have hEl := ef_lt (normW b)
  clear hx p2 p3 p4 p5 p6 p1
  generalize ef (normW b) = E at *
  generalize normW b = y at *
  generalize normE b = z at *
  have w1 : ∀ _ : True, wrap64 (E : Int) = (E : Int) := fun _ => by unfold wrap64; omega
  have w2 : ∀ _ : True, wrap64 ((E : Int) - 1023) = (E : Int) - 1023 := fun _ => by unfold wrap64; omega
  have H := Lib.hid (And.intro hz hEl)
  clear hf h0 hz hEl
  go_enter Try.func49, Try.ntmps49
  go_wp2_with (first | (go_at_call 46; refine (c _).mono ?_; rintro e w' ⟨rfl, rfl⟩) | (go_at_call 40; refine (bits_any _ _).mono ?_; rintro e w' ⟨rfl, rfl⟩) | (go_at_call 42; refine (frombits_any _ _).mono ?_; rintro e w' ⟨rfl, rfl⟩))
  go_ret
  have H1 := H.out
  exact ⟨ret_int (by (try simp only [IntKind.wrap_i64]); (try unfold wrap64); omega), rfl⟩

set_option maxHeartbeats 400000 in
theorem Ilogb_zero (b : Nat) (hb : b < 18446744073709551616) (h : rung b = 0) (w : World) :
    Calls Try.prog 38 #[.float .f64 b] w fun e w' => e = .returned (.int .i64 (-2147483648)) ∧ w = w' := by
  have nb : isNan b = false := by unfold isNan; simp; omega
  have t1 : ∀ _ : True, _ = true := fun _ => (ord_eq b 0 nb nan_zero).trans (by rw [place_zero]; simpa using (place_eq_zero b).2 h)
  clear nb h
  go_enter Try.func38, Try.ntmps38
  go_wp2
  go_ret
  exact ⟨rfl, rfl⟩

set_option maxHeartbeats 400000 in
theorem Ilogb_nan (b : Nat) (hb : b < 18446744073709551616) (nb : isNan b = true) (w : World) :
    Calls Try.prog 38 #[.float .f64 b] w fun e w' => e = .returned (.int .i64 2147483647) ∧ w = w' := by
  have t1 : ∀ _ : True, (FloatKind.f64.format.order b 0 == some Ordering.eq) = false := fun _ => show (Ieee.double.order b 0 == _) = false by rw [order_nan_left b 0 nb]; rfl
  have ci := fun w => isInf_zero b hb w
  have hI : isInf b = false := by unfold isInf; unfold isNan at nb; simp at nb; simp; omega
  rw [hI] at ci
  clear hI
  go_enter Try.func38, Try.ntmps38
  go_wp2_with (first | (go_at_call 47; refine (isNaN_any _ _ (by assumption) _).mono ?_; rintro e w' ⟨rfl, rfl⟩) | (go_at_call 48; refine (ci _).mono ?_; rintro e w' ⟨rfl, rfl⟩))
  go_ret
  exact ⟨rfl, rfl⟩

set_option maxHeartbeats 400000 in
theorem Ilogb_inf (b : Nat) (hb : b < 18446744073709551616) (h : rung b = 9218868437227405312) (w : World) :
    Calls Try.prog 38 #[.float .f64 b] w fun e w' => e = .returned (.int .i64 2147483647) ∧ w = w' := by
  have nb : isNan b = false := by unfold isNan; simp; omega
  have t1 : ∀ _ : True, _ = false := fun _ => (ord_eq b 0 nb nan_zero).trans (by rw [place_zero]; have := place_eq_zero b; simp; omega)
  have ci := fun w => isInf_zero b hb w
  have hI : isInf b = true := by unfold isInf; simp; omega
  rw [hI] at ci
  clear hI
  clear h
  go_enter Try.func38, Try.ntmps38
  go_wp2_with (first | (go_at_call 47; refine (isNaN_any _ _ (by assumption) _).mono ?_; rintro e w' ⟨rfl, rfl⟩) | (go_at_call 48; refine (ci _).mono ?_; rintro e w' ⟨rfl, rfl⟩))
  go_ret
  exact ⟨rfl, rfl⟩

set_option maxHeartbeats 400000 in
theorem Ilogb_fin (b : Nat) (hb : b < 18446744073709551616) (hf : rung b < 9218868437227405312) (h0 : rung b ≠ 0) (w : World) :
    Calls Try.prog 38 #[.float .f64 b] w fun e w' => e = .returned (.int .i64 (nExp b + 52)) ∧ w = w' := by
  have nb : isNan b = false := by unfold isNan; simp; omega
  have t1 : ∀ _ : True, _ = false := fun _ => (ord_eq b 0 nb nan_zero).trans (by rw [place_zero]; have := place_eq_zero b; simp; omega)
  have ci := fun w => isInf_zero b hb w
  have hI : isInf b = false := by unfold isInf; simp; omega
  rw [hI] at ci
  clear hI
  have c := fun w => ilogb_any b hb hf h0 w
  generalize nExp b + 52 = z at *
  clear hf h0
  go_enter Try.func38, Try.ntmps38
  go_wp2_with (first | (go_at_call 47; refine (isNaN_any _ _ (by assumption) _).mono ?_; rintro e w' ⟨rfl, rfl⟩) | (go_at_call 48; refine (ci _).mono ?_; rintro e w' ⟨rfl, rfl⟩) | (go_at_call 49; refine (c _).mono ?_; rintro e w' ⟨rfl, rfl⟩))
  go_ret
  exact ⟨rfl, rfl⟩

set_option maxHeartbeats 400000 in
theorem i_ilogb_zero (b : Nat) (hb : b < 18446744073709551616) (h : rung b = 0) (w : World) :
    Calls Try.prog 24 #[.int .u64 (b : Int)] w fun e w' => e = .returned (.int .i64 (-2147483648)) ∧ w = w' := by
  have c := fun w => Ilogb_zero b hb h w
  clear h
  go_enter Try.func24, Try.ntmps24
  go_wp2_with (first | (go_at_call 29; refine (float_any _ _).mono ?_; rintro e w' ⟨rfl, rfl⟩) | (go_at_call 38; refine (c _).mono ?_; rintro e w' ⟨rfl, rfl⟩))
  go_ret
  exact ⟨rfl, rfl⟩

set_option maxHeartbeats 400000 in
theorem i_ilogb_nan (b : Nat) (hb : b < 18446744073709551616) (nb : isNan b = true) (w : World) :
    Calls Try.prog 24 #[.int .u64 (b : Int)] w fun e w' => e = .returned (.int .i64 (2147483647)) ∧ w = w' := by
  have c := fun w => Ilogb_nan b hb nb w
  clear nb
  go_enter Try.func24, Try.ntmps24
  go_wp2_with (first | (go_at_call 29; refine (float_any _ _).mono ?_; rintro e w' ⟨rfl, rfl⟩) | (go_at_call 38; refine (c _).mono ?_; rintro e w' ⟨rfl, rfl⟩))
  go_ret
  exact ⟨rfl, rfl⟩

set_option maxHeartbeats 400000 in
theorem i_ilogb_inf (b : Nat) (hb : b < 18446744073709551616) (h : rung b = 9218868437227405312) (w : World) :
    Calls Try.prog 24 #[.int .u64 (b : Int)] w fun e w' => e = .returned (.int .i64 (2147483647)) ∧ w = w' := by
  have c := fun w => Ilogb_inf b hb h w
  clear h
  go_enter Try.func24, Try.ntmps24
  go_wp2_with (first | (go_at_call 29; refine (float_any _ _).mono ?_; rintro e w' ⟨rfl, rfl⟩) | (go_at_call 38; refine (c _).mono ?_; rintro e w' ⟨rfl, rfl⟩))
  go_ret
  exact ⟨rfl, rfl⟩

set_option maxHeartbeats 400000 in
theorem i_ilogb_fin (b : Nat) (hb : b < 18446744073709551616) (hf : rung b < 9218868437227405312) (h0 : rung b ≠ 0) (w : World) :
    Calls Try.prog 24 #[.int .u64 (b : Int)] w fun e w' => e = .returned (.int .i64 ((nExp b + 52))) ∧ w = w' := by
  have c := fun w => Ilogb_fin b hb hf h0 w
  generalize nExp b + 52 = z at *
  clear hf h0
  go_enter Try.func24, Try.ntmps24
  go_wp2_with (first | (go_at_call 29; refine (float_any _ _).mono ?_; rintro e w' ⟨rfl, rfl⟩) | (go_at_call 38; refine (c _).mono ?_; rintro e w' ⟨rfl, rfl⟩))
  go_ret
  exact ⟨rfl, rfl⟩

set_option maxHeartbeats 400000 in
theorem Logb_zero (b : Nat) (hb : b < 18446744073709551616) (h : rung b = 0) (w : World) :
    Calls Try.prog 39 #[.float .f64 b] w fun e w' => e = .returned (.float .f64 18442240474082181120) ∧ w = w' := by
  have nb : isNan b = false := by unfold isNan; simp; omega
  have t1 : ∀ _ : True, _ = true := fun _ => (ord_eq b 0 nb nan_zero).trans (by rw [place_zero]; simpa using (place_eq_zero b).2 h)
  clear nb h
  have cinf := fun w => inf_neg (-1) (by omega) w
  go_enter Try.func39, Try.ntmps39
  go_wp2_with (first | (go_at_call 50; refine (cinf _).mono ?_; rintro e w' ⟨rfl, rfl⟩))
  go_ret
  exact ⟨rfl, rfl⟩

set_option maxHeartbeats 400000 in
theorem Logb_inf (b : Nat) (hb : b < 18446744073709551616) (h : rung b = 9218868437227405312) (w : World) :
    Calls Try.prog 39 #[.float .f64 b] w fun e w' => e = .returned (.float .f64 9218868437227405312) ∧ w = w' := by
  have nb : isNan b = false := by unfold isNan; simp; omega
  have t1 : ∀ _ : True, _ = false := fun _ => (ord_eq b 0 nb nan_zero).trans (by rw [place_zero]; have := place_eq_zero b; simp; omega)
  have ci := fun w => isInf_zero b hb w
  have hI : isInf b = true := by unfold isInf; simp; omega
  rw [hI] at ci
  clear hI
  have cinf := fun w => inf_pos 1 (by omega) w
  clear h
  go_enter Try.func39, Try.ntmps39
  go_wp2_with (first | (go_at_call 47; refine (isNaN_any _ _ (by assumption) _).mono ?_; rintro e w' ⟨rfl, rfl⟩) | (go_at_call 48; refine (ci _).mono ?_; rintro e w' ⟨rfl, rfl⟩) | (go_at_call 50; refine (cinf _).mono ?_; rintro e w' ⟨rfl, rfl⟩))
  go_ret
  exact ⟨rfl, rfl⟩

set_option maxHeartbeats 400000 in
theorem Logb_nan (b : Nat) (hb : b < 18446744073709551616) (nb : isNan b = true) (w : World) :
    Calls Try.prog 39 #[.float .f64 b] w fun e w' => e = .returned (.float .f64 b) ∧ w = w' := by
  have t1 : ∀ _ : True, (FloatKind.f64.format.order b 0 == some Ordering.eq) = false := fun _ => show (Ieee.double.order b 0 == _) = false by rw [order_nan_left b 0 nb]; rfl
  have ci := fun w => isInf_zero b hb w
  have hI : isInf b = false := by unfold isInf; unfold isNan at nb; simp at nb; simp; omega
  rw [hI] at ci
  clear hI
  go_enter Try.func39, Try.ntmps39
  go_wp2_with (first | (go_at_call 47; refine (isNaN_any _ _ (by assumption) _).mono ?_; rintro e w' ⟨rfl, rfl⟩) | (go_at_call 48; refine (ci _).mono ?_; rintro e w' ⟨rfl, rfl⟩))
  go_ret
  exact ⟨rfl, rfl⟩

set_option maxHeartbeats 400000 in
theorem Logb_fin (b : Nat) (hb : b < 18446744073709551616) (hf : rung b < 9218868437227405312) (h0 : rung b ≠ 0) (w : World) :
    Calls Try.prog 39 #[.float .f64 b] w fun e w' => e = .returned (.float .f64 (near (decide (nExp b + 52 < 0)) (nExp b + 52).natAbs 0)) ∧ w = w' := by
  have nb : isNan b = false := by unfold isNan; simp; omega
  have t1 : ∀ _ : True, _ = false := fun _ => (ord_eq b 0 nb nan_zero).trans (by rw [place_zero]; have := place_eq_zero b; simp; omega)
  have ci := fun w => isInf_zero b hb w
  have hI : isInf b = false := by unfold isInf; simp; omega
  rw [hI] at ci
  clear hI
  have c := fun w => ilogb_any b hb hf h0 w
  generalize nExp b + 52 = z at *
  obtain ⟨v, hv⟩ : ∃ v, v = near (decide (z < 0)) z.natAbs 0 := ⟨_, rfl⟩
  rw [← hv]
  have r1 : ∀ w, (convert 3 39 (.int .i64 z)).run Try.prog w = .ok (.float .f64 v) w := fun w => by
    rw [hv]
    exact run_convert_int_float w 3 39 .i64 .f64 z (by rw [Try.underlying3]; rfl) Try.underlying39
  clear hf h0 hv
  go_enter Try.func39, Try.ntmps39
  go_wp2_with (first | (go_at_call 47; refine (isNaN_any _ _ (by assumption) _).mono ?_; rintro e w' ⟨rfl, rfl⟩) | (go_at_call 48; refine (ci _).mono ?_; rintro e w' ⟨rfl, rfl⟩) | (go_at_call 49; refine (c _).mono ?_; rintro e w' ⟨rfl, rfl⟩))
  go_ret
  exact ⟨rfl, rfl⟩

set_option maxHeartbeats 400000 in
theorem i_logb_zero (b : Nat) (hb : b < 18446744073709551616) (h : rung b = 0) (w : World) :
    Calls Try.prog 26 #[.int .u64 (b : Int)] w fun e w' => e = .returned (.int .u64 18442240474082181120) ∧ w = w' := by
  have c := fun w => Logb_zero b hb h w
  clear h
  go_enter Try.func26, Try.ntmps26
  go_wp2_with (first | (go_at_call 29; refine (float_any _ _).mono ?_; rintro e w' ⟨rfl, rfl⟩) | (go_at_call 27; refine (bitsOf_any _ _).mono ?_; rintro e w' ⟨rfl, rfl⟩) | (go_at_call 39; refine (c _).mono ?_; rintro e w' ⟨rfl, rfl⟩))
  go_ret
  exact ⟨rfl, rfl⟩

set_option maxHeartbeats 400000 in
theorem i_logb_nan (b : Nat) (hb : b < 18446744073709551616) (nb : isNan b = true) (w : World) :
    Calls Try.prog 26 #[.int .u64 (b : Int)] w fun e w' => e = .returned (.int .u64 (b : Int)) ∧ w = w' := by
  have c := fun w => Logb_nan b hb nb w
  clear nb
  go_enter Try.func26, Try.ntmps26
  go_wp2_with (first | (go_at_call 29; refine (float_any _ _).mono ?_; rintro e w' ⟨rfl, rfl⟩) | (go_at_call 27; refine (bitsOf_any _ _).mono ?_; rintro e w' ⟨rfl, rfl⟩) | (go_at_call 39; refine (c _).mono ?_; rintro e w' ⟨rfl, rfl⟩))
  go_ret
  exact ⟨rfl, rfl⟩

set_option maxHeartbeats 400000 in
theorem i_logb_inf (b : Nat) (hb : b < 18446744073709551616) (h : rung b = 9218868437227405312) (w : World) :
    Calls Try.prog 26 #[.int .u64 (b : Int)] w fun e w' => e = .returned (.int .u64 9218868437227405312) ∧ w = w' := by
  have c := fun w => Logb_inf b hb h w
  clear h
  go_enter Try.func26, Try.ntmps26
  go_wp2_with (first | (go_at_call 29; refine (float_any _ _).mono ?_; rintro e w' ⟨rfl, rfl⟩) | (go_at_call 27; refine (bitsOf_any _ _).mono ?_; rintro e w' ⟨rfl, rfl⟩) | (go_at_call 39; refine (c _).mono ?_; rintro e w' ⟨rfl, rfl⟩))
  go_ret
  exact ⟨rfl, rfl⟩

set_option maxHeartbeats 400000 in
theorem i_logb_fin (b : Nat) (hb : b < 18446744073709551616) (hf : rung b < 9218868437227405312) (h0 : rung b ≠ 0) (w : World) :
    Calls Try.prog 26 #[.int .u64 (b : Int)] w fun e w' => e = .returned (.int .u64 (near (decide (nExp b + 52 < 0)) (nExp b + 52).natAbs 0 : Int)) ∧ w = w' := by
  have c := fun w => Logb_fin b hb hf h0 w
  generalize near (decide (nExp b + 52 < 0)) (nExp b + 52).natAbs 0 = z at *
  clear hf h0
  go_enter Try.func26, Try.ntmps26
  go_wp2_with (first | (go_at_call 29; refine (float_any _ _).mono ?_; rintro e w' ⟨rfl, rfl⟩) | (go_at_call 27; refine (bitsOf_any _ _).mono ?_; rintro e w' ⟨rfl, rfl⟩) | (go_at_call 39; refine (c _).mono ?_; rintro e w' ⟨rfl, rfl⟩))
  go_ret
  exact ⟨rfl, rfl⟩

set_option maxHeartbeats 400000 in
theorem log_any (b : Nat) (hb : b < 18446744073709551616) (h0 : rung b ≠ 0) (w : World) :
    Calls Try.prog 25 #[.int .u64 (b : Int)] w fun e w' => e = .returned (.int .i64 (nExp b + 52)) ∧ Grown w w' := by
  have c := fun w => of_any b hb w
  have hM := mantW_lt b
  have h1 : mantW b ≠ 0 := fun g => h0 ((mantW_zero b).1 g)
  have d := fun w => specLen (mantW b) 64 (by omega) (by omega) w
  have hL : lenB (mantW b) 64 = lgW b + 1 := by
    rw [lenB_eq _ _ (by omega)]; unfold bitLen lgW; rw [if_neg h1]
  rw [hL] at d
  have hl := lgW_le b h1
  have hlo : -1074 ≤ expW b ∧ expW b < 2000 := by
    have := ef_lt b
    by_cases hz : ef b = 0
    · rw [expW_sub b hz]; omega
    · rw [expW_norm b hz]; omega
  have hx : nExp b + 52 = expW b + lgW b := by unfold nExp; omega
  rw [hx]
  clear hx hL h1 h0
  generalize expW b = E at *
  generalize mantW b = M at *
  generalize negB b = n at *
  generalize lgW b = l at *
  rw [show ((64 : Nat) : Int) = 64 from rfl] at d
  obtain ⟨L, hL⟩ : ∃ L : Nat, L = l + 1 := ⟨_, rfl⟩
  rw [← hL] at d
  obtain ⟨z, hz⟩ : ∃ z : Int, z = E + L := ⟨_, rfl⟩
  obtain ⟨y, hy⟩ : ∃ y : Int, y = E + l := ⟨_, rfl⟩
  rw [← hy]
  have r1 : ∀ _ : True, IntKind.i64.wrap (E + (L : Int)) = z := fun _ => by rw [IntKind.wrap_i64]; omega
  have r2 : ∀ _ : True, IntKind.i64.wrap (z - 1) = y := fun _ => by rw [IntKind.wrap_i64]; omega
  clear hM hl hlo hL hz hy
  go_enter Try.func25, Try.ntmps25
  go_wp2_with fail
  refine (c _).mono ?_
  rintro e w1 ⟨rfl, hg⟩
  go_wp2
  go_region_held3 (fun w' => w'.cell? ⟨w1.heap.size, 0, none⟩ = some (.bool n) ∧ w'.cell? ⟨w1.heap.size, 1, none⟩ = some (.int .u64 (M : Int)) ∧ w'.cell? ⟨w1.heap.size, 2, none⟩ = some (.int .i64 E) ∧ w1.heap.size < w'.heap.size ∧ GrownH w w') (first | assumption | (refine ⟨?_, ?_, ?_, ?_, ⟨(hg.alloc _ _).drew⟩⟩ <;> go_keep)) (first | (go_at_call 20; refine (d _).mono ?_; rintro e w2 ⟨rfl, rfl⟩))
  go_wp2
  go_ret
  exact ⟨rfl, held_out (by assumption)⟩

end Go.Proofs.Ytbpggopjiogimaa
