/- The contracts of the package's floor and ceil and of what calls them: by the bits. -/
import Derived.Test.YtmopnnbhpeaiaaaWalkF12
import Derived.Test.YtmopnnbhpeaiaaaFFloor
set_option linter.unusedVariables false
namespace Go.Proofs.Ytmopnnbhpeaiaaa
open Go.RowKit Go.Proofs.Ytmopnnbhpeaiaaa.Plain

set_option maxHeartbeats 400000 in
theorem floor_w0 (b : Nat) (hb : b < 18446744073709551616) (h : rung b = 0) (w : World) :
    Calls Try.prog 49 #[.float .f64 b] w fun e w' => e = .returned (.float .f64 b) ∧ w = w' := by
  have nb : isNan b = false := by unfold isNan; simp; omega
  have t1 : ∀ _ : True, _ = true := fun _ => (ord_eq b 0 nb nan_zero).trans (by rw [place_zero]; simpa using (place_eq_zero b).2 h)
  clear nb h
  go_enter Try.func49, Try.ntmps49
  go_wp2
  go_ret
  exact ⟨rfl, rfl⟩

set_option maxHeartbeats 400000 in
theorem floor_wnan (b : Nat) (hb : b < 18446744073709551616) (nb : isNan b = true) (w : World) :
    Calls Try.prog 49 #[.float .f64 b] w fun e w' => e = .returned (.float .f64 b) ∧ w = w' := by
  have t1 : ∀ _ : True, (FloatKind.f64.format.order b 0 == some Ordering.eq) = false := fun _ => by
    have : FloatKind.f64.format.order b 0 = none := order_nan_left b 0 nb
    rw [this]; rfl
  go_enter Try.func49, Try.ntmps49
  go_wp2_with (first | (go_at_call 54; refine (isNaN_any _ _ (by assumption) _).mono ?_; rintro e w' ⟨rfl, rfl⟩))
  go_ret
  exact ⟨rfl, rfl⟩

set_option maxHeartbeats 400000 in
theorem floor_winf (b : Nat) (hb : b < 18446744073709551616) (hi : rung b = 9218868437227405312) (w : World) :
    Calls Try.prog 49 #[.float .f64 b] w fun e w' => e = .returned (.float .f64 b) ∧ w = w' := by
  have nb : isNan b = false := by unfold isNan; simp; omega
  have t1 : ∀ _ : True, _ = false := fun _ => (ord_eq b 0 nb nan_zero).trans (by rw [place_zero]; have := place_eq_zero b; simp; omega)
  have ci := fun w => isInf_zero b hb w
  have hI : isInf b = true := by unfold isInf; simpa using hi
  rw [hI] at ci
  clear hi hI
  go_enter Try.func49, Try.ntmps49
  go_wp2_with (first | (go_at_call 54; refine (isNaN_any _ _ (by assumption) _).mono ?_; rintro e w' ⟨rfl, rfl⟩) | (go_at_call 55; refine (ci _).mono ?_; rintro e w' ⟨rfl, rfl⟩))
  go_ret
  exact ⟨rfl, rfl⟩

set_option maxHeartbeats 400000 in
theorem floor_wpos (b : Nat) (hb : b < 18446744073709551616) (hf : rung b < 9218868437227405312) (h0 : rung b ≠ 0) (hn : negB b = false) (w : World) :
    Calls Try.prog 49 #[.float .f64 b] w fun e w' => e = .returned (.float .f64 (floorW b)) ∧ w = w' := by
  have nb : isNan b = false := by unfold isNan; simp; omega
  have t1 : ∀ _ : True, _ = false := fun _ => (ord_eq b 0 nb nan_zero).trans (by rw [place_zero]; have := place_eq_zero b; simp; omega)
  have ci := fun w => isInf_zero b hb w
  have hI : isInf b = false := by unfold isInf; simp; omega
  rw [hI] at ci
  clear hI
  have t2 : ∀ _ : True, _ = false := fun _ => (ord_lt b 0 nb nan_zero).trans (by rw [place_zero]; unfold place; rw [hn]; simp; try omega)
  have c := fun w => modf_fin b hb hf w
  rw [floor_pos b hb hn]
  generalize truncW b = t at *
  generalize fracW b = f at *
  clear hf h0 hn
  go_enter Try.func49, Try.ntmps49
  go_wp2_with (first | (go_at_call 54; refine (isNaN_any _ _ (by assumption) _).mono ?_; rintro e w' ⟨rfl, rfl⟩) | (go_at_call 55; refine (ci _).mono ?_; rintro e w' ⟨rfl, rfl⟩) | (go_at_call 40; refine (c _).mono ?_; rintro e w' ⟨rfl, rfl⟩))
  go_ret
  exact ⟨rfl, rfl⟩

set_option maxHeartbeats 400000 in
theorem floor_wneg0 (b : Nat) (hb : b < 18446744073709551616) (hf : rung b < 9218868437227405312) (h0 : rung b ≠ 0) (hn : negB b = true) (hz : rung (fracW (oppW b)) = 0) (w : World) :
    Calls Try.prog 49 #[.float .f64 b] w fun e w' => e = .returned (.float .f64 (floorW b)) ∧ w = w' := by
  have nb : isNan b = false := by unfold isNan; simp; omega
  have t1 : ∀ _ : True, _ = false := fun _ => (ord_eq b 0 nb nan_zero).trans (by rw [place_zero]; have := place_eq_zero b; simp; omega)
  have ci := fun w => isInf_zero b hb w
  have hI : isInf b = false := by unfold isInf; simp; omega
  rw [hI] at ci
  clear hI
  have t2 : ∀ _ : True, _ = true := fun _ => (ord_lt b 0 nb nan_zero).trans (by rw [place_zero]; unfold place; rw [hn]; simp; try omega)
  have hfo : rung (oppW b) < 9218868437227405312 := by rw [rung_opp]; exact hf
  have c := fun w => modf_fin (oppW b) (oppW_lt b) hfo w
  have e2 := neg_num b hb
  rw [show wordD (!negB b) (rung b) = oppW b from rfl] at e2
  have nf : isNan (fracW (oppW b)) = false := by
    unfold isNan fracW
    split
    · rw [rung_near]; have := near_le (mantW (oppW b) % 2 ^ cutK (oppW b)) (expW (oppW b)); simp; omega
    · rw [rung_word _ _ (by omega)]; simp
  have t3 : ∀ _ : True, (FloatKind.f64.format.order (fracW (oppW b)) 0 == some Ordering.eq) = true := fun _ => (ord_eq (fracW (oppW b)) 0 nf nan_zero).trans (by rw [place_zero]; simpa using (place_eq_zero _).2 hz)
  have t4 : ∀ _ : True, (FloatKind.f64.format.order (fracW (oppW b)) 0 != some Ordering.eq) = false := fun _ => by have := t3 trivial; simp at this; simp [this]
  obtain ⟨v, hve⟩ : ∃ v, v = truncW (oppW b) := ⟨_, rfl⟩
  have hv : v < 18446744073709551616 := by rw [hve]; exact trunc_lt _ (oppW_lt b)
  have hv2 : oppW v = floorW b := by rw [hve]; exact floor_neg0 b hb hf hn hz
  rw [← hve] at c
  have e3 := neg_num v hv
  rw [show wordD (!negB v) (rung v) = oppW v from rfl, hv2] at e3
  generalize fracW (oppW b) = f at *
  generalize truncW (oppW b) = t at *
  generalize floorW b = g at *
  generalize oppW b = o at *
  have r2 : ∀ w, (Op.unary .neg (.float .f64 b)).run Try.prog w = .ok (.float .f64 o) w := fun w => by rw [← e2]; rfl
  have r3 : ∀ w, (Op.unary .neg (.float .f64 v)).run Try.prog w = .ok (.float .f64 g) w := fun w => by rw [← e3]; rfl
  clear hve hv hv2 e2 e3 nf hf hfo h0 hn hz
  go_enter Try.func49, Try.ntmps49
  go_wp2_with (first | (go_at_call 54; refine (isNaN_any _ _ (by assumption) _).mono ?_; rintro e w' ⟨rfl, rfl⟩) | (go_at_call 55; refine (ci _).mono ?_; rintro e w' ⟨rfl, rfl⟩) | (go_at_call 40; refine (c _).mono ?_; rintro e w' ⟨rfl, rfl⟩))
  go_ret
  exact ⟨rfl, rfl⟩

set_option maxHeartbeats 400000 in
theorem floor_wneg1 (b : Nat) (hb : b < 18446744073709551616) (hf : rung b < 9218868437227405312) (h0 : rung b ≠ 0) (hn : negB b = true) (hz : rung (fracW (oppW b)) ≠ 0) (w : World) :
    Calls Try.prog 49 #[.float .f64 b] w fun e w' => e = .returned (.float .f64 (floorW b)) ∧ w = w' := by
  have nb : isNan b = false := by unfold isNan; simp; omega
  have t1 : ∀ _ : True, _ = false := fun _ => (ord_eq b 0 nb nan_zero).trans (by rw [place_zero]; have := place_eq_zero b; simp; omega)
  have ci := fun w => isInf_zero b hb w
  have hI : isInf b = false := by unfold isInf; simp; omega
  rw [hI] at ci
  clear hI
  have t2 : ∀ _ : True, _ = true := fun _ => (ord_lt b 0 nb nan_zero).trans (by rw [place_zero]; unfold place; rw [hn]; simp; try omega)
  have hfo : rung (oppW b) < 9218868437227405312 := by rw [rung_opp]; exact hf
  have c := fun w => modf_fin (oppW b) (oppW_lt b) hfo w
  have e2 := neg_num b hb
  rw [show wordD (!negB b) (rung b) = oppW b from rfl] at e2
  have nf : isNan (fracW (oppW b)) = false := by
    unfold isNan fracW
    split
    · rw [rung_near]; have := near_le (mantW (oppW b) % 2 ^ cutK (oppW b)) (expW (oppW b)); simp; omega
    · rw [rung_word _ _ (by omega)]; simp
  have t3 : ∀ _ : True, (FloatKind.f64.format.order (fracW (oppW b)) 0 == some Ordering.eq) = false := fun _ => (ord_eq (fracW (oppW b)) 0 nf nan_zero).trans (by rw [place_zero]; have := place_eq_zero (fracW (oppW b)); simp; omega)
  have t4 : ∀ _ : True, (FloatKind.f64.format.order (fracW (oppW b)) 0 != some Ordering.eq) = true := fun _ => by have := t3 trivial; simp at this; simp [this]
  obtain ⟨v, hv, hadd, hv2⟩ := floor_neg1 b hb hf hn hz
  have r4 : ∀ ty w, (binOp .add ty (.float .f64 (truncW (oppW b))) (.float .f64 4607182418800017408)).run Try.prog w = .ok (.float .f64 v) w := fun ty w => run_float_arith w .add ty .f64 _ _ v hadd
  have e3 := neg_num v hv
  rw [show wordD (!negB v) (rung v) = oppW v from rfl, hv2] at e3
  generalize fracW (oppW b) = f at *
  generalize truncW (oppW b) = t at *
  generalize floorW b = g at *
  generalize oppW b = o at *
  have r2 : ∀ w, (Op.unary .neg (.float .f64 b)).run Try.prog w = .ok (.float .f64 o) w := fun w => by rw [← e2]; rfl
  have r3 : ∀ w, (Op.unary .neg (.float .f64 v)).run Try.prog w = .ok (.float .f64 g) w := fun w => by rw [← e3]; rfl
  clear hadd hv hv2 e2 e3 nf hf hfo h0 hn hz
  go_enter Try.func49, Try.ntmps49
  go_wp2_with (first | (go_at_call 54; refine (isNaN_any _ _ (by assumption) _).mono ?_; rintro e w' ⟨rfl, rfl⟩) | (go_at_call 55; refine (ci _).mono ?_; rintro e w' ⟨rfl, rfl⟩) | (go_at_call 40; refine (c _).mono ?_; rintro e w' ⟨rfl, rfl⟩))
  go_ret
  exact ⟨rfl, rfl⟩

theorem floor_any (b : Nat) (hb : b < 18446744073709551616) (w : World) :
    Calls Try.prog 49 #[.float .f64 b] w fun e w' => e = .returned (.float .f64 (floorW b)) ∧ w = w' := by
  rcases (by omega : 9218868437227405312 < rung b ∨ rung b = 9218868437227405312 ∨ rung b = 0 ∨ (rung b < 9218868437227405312 ∧ rung b ≠ 0)) with h | h | h | ⟨hf, h0⟩
  · rw [floor_big b (by have := rung_fields b; have := mf_lt b; omega)]
    exact floor_wnan b hb (by unfold isNan; simpa using h) w
  · rw [floor_big b (by have := rung_fields b; have := mf_lt b; omega)]
    exact floor_winf b hb h w
  · rw [floor_zero b hb h]; exact floor_w0 b hb h w
  · cases hn : negB b
    · exact floor_wpos b hb hf h0 hn w
    · by_cases hz : rung (fracW (oppW b)) = 0
      · exact floor_wneg0 b hb hf h0 hn hz w
      · exact floor_wneg1 b hb hf h0 hn hz w

set_option maxHeartbeats 400000 in
theorem Floor_any (b : Nat) (hb : b < 18446744073709551616) (w : World) :
    Calls Try.prog 36 #[.float .f64 b] w fun e w' => e = .returned (.float .f64 (floorW b)) ∧ w = w' := by
  go_enter Try.func36, Try.ntmps36
  go_wp2_with (first | (go_at_call 49; refine (floor_any _ hb _).mono ?_; rintro e w' ⟨rfl, rfl⟩))
  go_ret
  exact ⟨rfl, rfl⟩

set_option maxHeartbeats 400000 in
theorem i_floor (b : Nat) (hb : b < 18446744073709551616) (w : World) :
    Calls Try.prog 19 #[.int .u64 (b : Int)] w fun e w' => e = .returned (.int .u64 (floorW b : Int)) ∧ w = w' := by
  go_enter Try.func19, Try.ntmps19
  go_wp2_with (first | (go_at_call 33; refine (float_any _ _).mono ?_; rintro e w' ⟨rfl, rfl⟩) | (go_at_call 31; refine (bitsOf_any _ _).mono ?_; rintro e w' ⟨rfl, rfl⟩) | (go_at_call 36; refine (Floor_any _ hb _).mono ?_; rintro e w' ⟨rfl, rfl⟩))
  go_ret
  exact ⟨rfl, rfl⟩

set_option maxHeartbeats 400000 in
theorem ceil_any (b : Nat) (hb : b < 18446744073709551616) (w : World) :
    Calls Try.prog 50 #[.float .f64 b] w fun e w' => e = .returned (.float .f64 (ceilW b)) ∧ w = w' := by
  have c := fun w => Floor_any (oppW b) (oppW_lt b) w
  have e2 := neg_num b hb
  rw [show wordD (!negB b) (rung b) = oppW b from rfl] at e2
  have e3 := neg_num (floorW (oppW b)) (floorW_lt _ (oppW_lt b))
  rw [show wordD (!negB (floorW (oppW b))) (rung (floorW (oppW b))) = ceilW b from rfl] at e3
  generalize ceilW b = g at *
  generalize floorW (oppW b) = v at *
  generalize oppW b = o at *
  have r2 : ∀ w, (Op.unary .neg (.float .f64 b)).run Try.prog w = .ok (.float .f64 o) w := fun w => by rw [← e2]; rfl
  have r3 : ∀ w, (Op.unary .neg (.float .f64 v)).run Try.prog w = .ok (.float .f64 g) w := fun w => by rw [← e3]; rfl
  clear e2 e3
  go_enter Try.func50, Try.ntmps50
  go_wp2_with (first | (go_at_call 36; refine (c _).mono ?_; rintro e w' ⟨rfl, rfl⟩))
  go_ret
  exact ⟨rfl, rfl⟩

set_option maxHeartbeats 400000 in
theorem Ceil_any (b : Nat) (hb : b < 18446744073709551616) (w : World) :
    Calls Try.prog 37 #[.float .f64 b] w fun e w' => e = .returned (.float .f64 (ceilW b)) ∧ w = w' := by
  go_enter Try.func37, Try.ntmps37
  go_wp2_with (first | (go_at_call 50; refine (ceil_any _ hb _).mono ?_; rintro e w' ⟨rfl, rfl⟩))
  go_ret
  exact ⟨rfl, rfl⟩

set_option maxHeartbeats 400000 in
theorem i_ceil (b : Nat) (hb : b < 18446744073709551616) (w : World) :
    Calls Try.prog 20 #[.int .u64 (b : Int)] w fun e w' => e = .returned (.int .u64 (ceilW b : Int)) ∧ w = w' := by
  go_enter Try.func20, Try.ntmps20
  go_wp2_with (first | (go_at_call 33; refine (float_any _ _).mono ?_; rintro e w' ⟨rfl, rfl⟩) | (go_at_call 31; refine (bitsOf_any _ _).mono ?_; rintro e w' ⟨rfl, rfl⟩) | (go_at_call 37; refine (Ceil_any _ hb _).mono ?_; rintro e w' ⟨rfl, rfl⟩))
  go_ret
  exact ⟨rfl, rfl⟩

end Go.Proofs.Ytmopnnbhpeaiaaa
