/- The contracts of the package's mod and of what calls it: by the bits. -/
import Derived.Test.YtbpggopjiogimaaWalkF16
import Derived.Test.YtbpggopjiogimaaFMod2
set_option linter.unusedVariables false
namespace Go.Proofs.Ytbpggopjiogimaa
open Go.RowKit Go.Proofs.Ytbpggopjiogimaa.Plain

set_option maxHeartbeats 400000 in
theorem mod_y0 (x y : Nat) (hx : x < 18446744073709551616) (hy : y < 18446744073709551616) (h : rung y = 0) (w : World) :
    Calls Try.prog 41 #[.float .f64 x, .float .f64 y] w fun e w' => e = .returned (.float .f64 9221120237041090561) ∧ w = w' := by
  have ny : isNan y = false := by unfold isNan; simp; omega
  have ty : ∀ _ : True, (FloatKind.f64.format.order y 0 == some Ordering.eq) = true := fun _ => (ord_eq y 0 ny nan_zero).trans (by rw [place_zero]; simpa using (place_eq_zero y).2 h)
  clear ny h
  go_enter Try.func41, Try.ntmps41
  go_wp2_with (first | (go_at_call 52; refine (nanOf_any _).mono ?_; rintro e w' ⟨rfl, rfl⟩))
  go_ret
  exact ⟨rfl, rfl⟩

theorem y_not_zero (y : Nat) (h : rung y ≠ 0) : (FloatKind.f64.format.order y 0 == some Ordering.eq) = false := by
  cases ny : isNan y
  · exact (ord_eq y 0 ny nan_zero).trans (by rw [place_zero]; have := place_eq_zero y; simp; omega)
  · show (Ieee.double.order y 0 == _) = false
    rw [order_nan_left y 0 ny]; rfl

set_option maxHeartbeats 400000 in
theorem mod_xinf (x y : Nat) (hx : x < 18446744073709551616) (hy : y < 18446744073709551616) (h : rung y ≠ 0) (hi : isInf x = true) (w : World) :
    Calls Try.prog 41 #[.float .f64 x, .float .f64 y] w fun e w' => e = .returned (.float .f64 9221120237041090561) ∧ w = w' := by
  have ty : ∀ _ : True, _ = false := fun _ => y_not_zero y h
  have ci := fun w => isInf_zero x hx w
  have hI : isInf x = true := hi
  rw [hI] at ci
  clear hI
  go_enter Try.func41, Try.ntmps41
  go_wp2_with fail
  refine (ci _).mono ?_
  rintro e w' ⟨rfl, rfl⟩
  go_wp2_with fail
  refine (nanOf_any _).mono ?_
  rintro e w' ⟨rfl, rfl⟩
  go_wp2
  go_ret
  exact ⟨rfl, rfl⟩

set_option maxHeartbeats 400000 in
theorem mod_xnan (x y : Nat) (hx : x < 18446744073709551616) (hy : y < 18446744073709551616) (h : rung y ≠ 0) (hi : isInf x = false) (nx : isNan x = true) (w : World) :
    Calls Try.prog 41 #[.float .f64 x, .float .f64 y] w fun e w' => e = .returned (.float .f64 9221120237041090561) ∧ w = w' := by
  have ty : ∀ _ : True, _ = false := fun _ => y_not_zero y h
  have ci := fun w => isInf_zero x hx w
  have hI : isInf x = false := hi
  rw [hI] at ci
  clear hI
  go_enter Try.func41, Try.ntmps41
  go_wp2_with fail
  refine (ci _).mono ?_
  rintro e w' ⟨rfl, rfl⟩
  go_wp2_with fail
  refine (isNaN_any x true nx _).mono ?_
  rintro e w' ⟨rfl, rfl⟩
  go_wp2_with fail
  refine (nanOf_any _).mono ?_
  rintro e w' ⟨rfl, rfl⟩
  go_wp2
  go_ret
  exact ⟨rfl, rfl⟩

set_option maxHeartbeats 400000 in
theorem mod_ynan (x y : Nat) (hx : x < 18446744073709551616) (hy : y < 18446744073709551616) (h : rung y ≠ 0) (hi : isInf x = false) (nx : isNan x = false) (ny : isNan y = true) (w : World) :
    Calls Try.prog 41 #[.float .f64 x, .float .f64 y] w fun e w' => e = .returned (.float .f64 9221120237041090561) ∧ w = w' := by
  have ty : ∀ _ : True, _ = false := fun _ => y_not_zero y h
  have ci := fun w => isInf_zero x hx w
  have hI : isInf x = false := hi
  rw [hI] at ci
  clear hI
  go_enter Try.func41, Try.ntmps41
  go_wp2_with fail
  refine (ci _).mono ?_
  rintro e w' ⟨rfl, rfl⟩
  go_wp2_with fail
  refine (isNaN_any x false nx _).mono ?_
  rintro e w' ⟨rfl, rfl⟩
  go_wp2_with fail
  refine (isNaN_any y true ny _).mono ?_
  rintro e w' ⟨rfl, rfl⟩
  go_wp2_with fail
  refine (nanOf_any _).mono ?_
  rintro e w' ⟨rfl, rfl⟩
  go_wp2
  go_ret
  exact ⟨rfl, rfl⟩

set_option maxHeartbeats 2000000 in
theorem mod_neg (x y : Nat) (hx : x < 18446744073709551616) (hy : y < 18446744073709551616) (h : rung y ≠ 0) (hfx : rung x < 9218868437227405312) (hfy : rung y < 9218868437227405312) (h0 : rung x ≠ 0) (hn : negB x = true) (w : World) :
    Calls Try.prog 41 #[.float .f64 x, .float .f64 y] w fun e w' => e = .returned (.float .f64 (modW x y)) ∧ w = w' := by
  have nx : isNan x = false := by unfold isNan; simp; omega
  have ny : isNan y = false := by unfold isNan; simp; omega
  have hi : isInf x = false := by unfold isInf; simp; omega
  have ty : ∀ _ : True, _ = false := fun _ => y_not_zero y h
  have ci := fun w => isInf_zero x hx w
  have hI : isInf x = false := hi
  rw [hI] at ci
  clear hI
  have tx : ∀ _ : True, (FloatKind.f64.format.order x 0 == some Ordering.lt) = true := fun _ => (ord_lt x 0 nx nan_zero).trans (by rw [place_zero]; unfold place; rw [hn]; simp; try omega)
  have ca := fun w => abs_any y hy w
  have hex := mod_exit x y
  rw [hn] at hex
  generalize hM : modW x y = MW at *
  have e2 := neg_num x hx
  rw [hn] at e2
  have hxw := word_of x hx
  rw [hn] at hxw
  obtain ⟨X, hX⟩ : ∃ X, X = rung x := ⟨_, rfl⟩
  obtain ⟨Y, hY⟩ : ∃ Y, Y = rung y := ⟨_, rfl⟩
  rw [← hX] at hxw hfx h0 hex e2
  rw [← hY] at hfy h ca hex
  have hYl : Y < 18446744073709551616 := by omega
  obtain ⟨Y1, Y2, Y3, Y4⟩ := pos_rung Y hfy
  obtain ⟨F1, F2, F3, F4⟩ := fr_place Y hfy h
  have cy := fun w => Fr_any Y hYl w
  rw [F3] at cy
  obtain ⟨B, hB⟩ : ∃ B : Int, B = nExp Y + 53 := ⟨_, rfl⟩
  rw [← hB] at cy
  have r0 : ∀ w, (Op.unary .neg (.float .f64 x)).run Try.prog w = .ok (.float .f64 X) w := fun w => by
    have : x ^^^ 9223372036854775808 = X := e2
    rw [← this]; rfl
  have H0 := Lib.hid (And.intro hfx (And.intro hfy (And.intro h (And.intro h0 (And.intro hex (And.intro hYl (And.intro Y3 (And.intro Y4 hB))))))))
  clear hxw e2 hex hfx hfy h h0 hn hi hM Y1 Y2 Y3 Y4 F1 F2 F3 F4 hYl hX hY hB
  go_enter Try.func41, Try.ntmps41
  go_wp2_with fail
  refine (ci _).mono ?_
  rintro e w' ⟨rfl, rfl⟩
  go_wp2_with fail
  refine (isNaN_any x false nx _).mono ?_
  rintro e w' ⟨rfl, rfl⟩
  go_wp2_with fail
  refine (isNaN_any y false ny _).mono ?_
  rintro e w' ⟨rfl, rfl⟩
  go_wp2_with fail
  refine (ca _).mono ?_
  rintro e w' ⟨rfl, rfl⟩
  go_wp2_with fail
  refine (cy _).mono ?_
  rintro e w' ⟨rfl, rfl⟩
  go_wp2
  go_loop [7] (fun rv => ∃ r : Nat, rv = .float .f64 r ∧ r ≤ X ∧ val r % val Y = val X % val Y) (fun rv => fBits rv)
  case atStart => exact ⟨X, rfl, Nat.le_refl _, rfl⟩
  case round =>
    obtain ⟨r, rfl, hrX, hrm⟩ := hrel
    obtain ⟨hfx, hfy, h, h0, hex, hYl, Y3, Y4, hB⟩ := H0.out
    obtain ⟨R1, R2, R3, R4⟩ := pos_rung r (by omega)
    rcases Nat.lt_or_ge r Y with hge | hge
    · have tgt : ∀ _ : True, (FloatKind.f64.format.order r Y == some Ordering.gt) = false := fun _ => (ord_gt r Y R3 Y3).trans (by rw [R4, Y4]; simp; omega)
      have teq : ∀ _ : True, (FloatKind.f64.format.order r Y == some Ordering.eq) = false := fun _ => (ord_eq r Y R3 Y3).trans (by rw [R4, Y4]; simp; omega)
      have hM := hex r hfx hfy h hge hrm
      have e3 := neg_num r (by omega)
      rw [R2, R1, Bool.not_false, ← hM] at e3
      have r3 : ∀ w, (Op.unary .neg (.float .f64 r)).run Try.prog w = .ok (.float .f64 MW) w := fun w => by rw [← e3]; rfl
      clear hB e3 hM hrX hrm hfx hfy h h0 hex hYl Y3 Y4 R1 R2 R3 R4 hge
      go_wp2
      go_ret
      exact ⟨rfl, rfl⟩
    · obtain ⟨z, d, m1, m2, m3, m4, m5, m6, m7⟩ := mod_round r Y (by omega) hfy h hge
      have h0r : r ≠ 0 := by omega
      have cr := fun w => Fr_any r (by omega) w
      have cl := fun w => Ld_any Y hYl (modJ r Y) (by omega) w
      rw [m1] at cl
      obtain ⟨G1, G2, G3, G4⟩ := fr_place r (by omega) h0r
      rw [G3] at cr
      have hlt := fr_lt r Y (by omega) h0r hfy h
      have rs : ∀ ty w, (binOp .sub ty (.float .f64 r) (.float .f64 z)).run Try.prog w = .ok (.float .f64 d) w := fun ty w => run_float_arith w .sub ty .f64 r z d m3
      have b1 := modJ_bounds r Y
      have b2 := modJ_bounds Y Y
      have hJ : modJ r Y = nExp r - nExp Y - (if nMant r < nMant Y then 1 else 0) := rfl
      generalize modJ r Y = J at *
      obtain ⟨A, hA⟩ : ∃ A : Int, A = nExp r + 53 := ⟨_, rfl⟩
      rw [← hA] at cr
      generalize frW r = fr at *
      generalize frW Y = fy at *
      have HR := Lib.hid (And.intro m4 (And.intro (m5.trans hrm) (And.intro hrX Y4)))
      by_cases hlt2 : nMant r < nMant Y
      · rw [if_pos hlt2] at hJ
        have tlt : ∀ _ : True, (FloatKind.f64.format.order fr fy == some Ordering.lt) = true := fun _ => by rw [hlt]; simpa using hlt2
        obtain ⟨A1, hA1⟩ : ∃ A1 : Int, A1 = A - 1 := ⟨_, rfl⟩
        have q1 : ∀ _ : True, wrap64 (A - 1) = A1 := fun _ => by unfold wrap64; omega
        have q2 : ∀ _ : True, wrap64 (A1 - B) = J := fun _ => by unfold wrap64; omega
        rcases Nat.lt_or_ge Y r with hgt | hgt
        · have tgt : ∀ _ : True, (FloatKind.f64.format.order r Y == some Ordering.gt) = true := fun _ => (ord_gt r Y R3 Y3).trans (by rw [R4, Y4]; simp; omega)
          clear hrX hrm hfx hfy h h0 hex hYl Y3 Y4 R1 R2 R3 R4 hge m1 m2 m3 m4 m5 m6 m7 h0r G1 G2 G3 G4 hlt b1 b2 hJ hA hB hlt2 hgt hA1
          go_wp2_with fail
          refine (cr _).mono ?_
          rintro e w' ⟨rfl, rfl⟩
          go_wp2_with fail
          refine (cl _).mono ?_
          rintro e w' ⟨rfl, rfl⟩
          go_wp2
          go_round
          case rel => exact ⟨d, rfl, by have := HR.out; omega, HR.out.2.1⟩
          case measure => have := HR.out; simp [fBits]; omega
        · have tgt : ∀ _ : True, (FloatKind.f64.format.order r Y == some Ordering.gt) = false := fun _ => (ord_gt r Y R3 Y3).trans (by rw [R4, Y4]; simp; omega)
          have teq : ∀ _ : True, (FloatKind.f64.format.order r Y == some Ordering.eq) = true := fun _ => (ord_eq r Y R3 Y3).trans (by rw [R4, Y4]; simp; omega)
          clear hrX hrm hfx hfy h h0 hex hYl Y3 Y4 R1 R2 R3 R4 hge m1 m2 m3 m4 m5 m6 m7 h0r G1 G2 G3 G4 hlt b1 b2 hJ hA hB hlt2 hgt hA1
          go_wp2_with fail
          refine (cr _).mono ?_
          rintro e w' ⟨rfl, rfl⟩
          go_wp2_with fail
          refine (cl _).mono ?_
          rintro e w' ⟨rfl, rfl⟩
          go_wp2
          go_round
          case rel => exact ⟨d, rfl, by have := HR.out; omega, HR.out.2.1⟩
          case measure => have := HR.out; simp [fBits]; omega
      · rw [if_neg hlt2] at hJ
        have tlt : ∀ _ : True, (FloatKind.f64.format.order fr fy == some Ordering.lt) = false := fun _ => by rw [hlt]; simpa using hlt2
        have q2 : ∀ _ : True, wrap64 (A - B) = J := fun _ => by unfold wrap64; omega
        rcases Nat.lt_or_ge Y r with hgt | hgt
        · have tgt : ∀ _ : True, (FloatKind.f64.format.order r Y == some Ordering.gt) = true := fun _ => (ord_gt r Y R3 Y3).trans (by rw [R4, Y4]; simp; omega)
          clear hrX hrm hfx hfy h h0 hex hYl Y3 Y4 R1 R2 R3 R4 hge m1 m2 m3 m4 m5 m6 m7 h0r G1 G2 G3 G4 hlt b1 b2 hJ hA hB hlt2 hgt
          go_wp2_with fail
          refine (cr _).mono ?_
          rintro e w' ⟨rfl, rfl⟩
          go_wp2_with fail
          refine (cl _).mono ?_
          rintro e w' ⟨rfl, rfl⟩
          go_wp2
          go_round
          case rel => exact ⟨d, rfl, by have := HR.out; omega, HR.out.2.1⟩
          case measure => have := HR.out; simp [fBits]; omega
        · have tgt : ∀ _ : True, (FloatKind.f64.format.order r Y == some Ordering.gt) = false := fun _ => (ord_gt r Y R3 Y3).trans (by rw [R4, Y4]; simp; omega)
          have teq : ∀ _ : True, (FloatKind.f64.format.order r Y == some Ordering.eq) = true := fun _ => (ord_eq r Y R3 Y3).trans (by rw [R4, Y4]; simp; omega)
          clear hrX hrm hfx hfy h h0 hex hYl Y3 Y4 R1 R2 R3 R4 hge m1 m2 m3 m4 m5 m6 m7 h0r G1 G2 G3 G4 hlt b1 b2 hJ hA hB hlt2 hgt
          go_wp2_with fail
          refine (cr _).mono ?_
          rintro e w' ⟨rfl, rfl⟩
          go_wp2_with fail
          refine (cl _).mono ?_
          rintro e w' ⟨rfl, rfl⟩
          go_wp2
          go_round
          case rel => exact ⟨d, rfl, by have := HR.out; omega, HR.out.2.1⟩
          case measure => have := HR.out; simp [fBits]; omega

set_option maxHeartbeats 2000000 in
theorem mod_pos (x y : Nat) (hx : x < 18446744073709551616) (hy : y < 18446744073709551616) (h : rung y ≠ 0) (hfx : rung x < 9218868437227405312) (hfy : rung y < 9218868437227405312) (h0 : rung x ≠ 0) (hn : negB x = false) (w : World) :
    Calls Try.prog 41 #[.float .f64 x, .float .f64 y] w fun e w' => e = .returned (.float .f64 (modW x y)) ∧ w = w' := by
  have nx : isNan x = false := by unfold isNan; simp; omega
  have ny : isNan y = false := by unfold isNan; simp; omega
  have hi : isInf x = false := by unfold isInf; simp; omega
  have ty : ∀ _ : True, _ = false := fun _ => y_not_zero y h
  have ci := fun w => isInf_zero x hx w
  have hI : isInf x = false := hi
  rw [hI] at ci
  clear hI
  have tx : ∀ _ : True, (FloatKind.f64.format.order x 0 == some Ordering.lt) = false := fun _ => (ord_lt x 0 nx nan_zero).trans (by rw [place_zero]; unfold place; rw [hn]; simp; try omega)
  have ca := fun w => abs_any y hy w
  have hex := mod_exit x y
  rw [hn] at hex
  generalize hM : modW x y = MW at *
  have e2 := neg_num x hx
  rw [hn] at e2
  have hxw := word_of x hx
  rw [hn] at hxw
  obtain ⟨X, hX⟩ : ∃ X, X = rung x := ⟨_, rfl⟩
  obtain ⟨Y, hY⟩ : ∃ Y, Y = rung y := ⟨_, rfl⟩
  rw [← hX] at hxw hfx h0 hex e2
  rw [← hY] at hfy h ca hex
  have hYl : Y < 18446744073709551616 := by omega
  obtain ⟨Y1, Y2, Y3, Y4⟩ := pos_rung Y hfy
  obtain ⟨F1, F2, F3, F4⟩ := fr_place Y hfy h
  have cy := fun w => Fr_any Y hYl w
  rw [F3] at cy
  obtain ⟨B, hB⟩ : ∃ B : Int, B = nExp Y + 53 := ⟨_, rfl⟩
  rw [← hB] at cy
  have hxX : X = x := hxw
  have H0 := Lib.hid (And.intro hfx (And.intro hfy (And.intro h (And.intro h0 (And.intro hex (And.intro hYl (And.intro Y3 (And.intro Y4 hB))))))))
  clear hxw e2 hex hfx hfy h h0 hn hi hM Y1 Y2 Y3 Y4 F1 F2 F3 F4 hYl hX hY hB
  subst hxX
  go_enter Try.func41, Try.ntmps41
  go_wp2_with fail
  refine (ci _).mono ?_
  rintro e w' ⟨rfl, rfl⟩
  go_wp2_with fail
  refine (isNaN_any X false nx _).mono ?_
  rintro e w' ⟨rfl, rfl⟩
  go_wp2_with fail
  refine (isNaN_any y false ny _).mono ?_
  rintro e w' ⟨rfl, rfl⟩
  go_wp2_with fail
  refine (ca _).mono ?_
  rintro e w' ⟨rfl, rfl⟩
  go_wp2_with fail
  refine (cy _).mono ?_
  rintro e w' ⟨rfl, rfl⟩
  go_wp2
  go_loop [7] (fun rv => ∃ r : Nat, rv = .float .f64 r ∧ r ≤ X ∧ val r % val Y = val X % val Y) (fun rv => fBits rv)
  case atStart => exact ⟨X, rfl, Nat.le_refl _, rfl⟩
  case round =>
    obtain ⟨r, rfl, hrX, hrm⟩ := hrel
    obtain ⟨hfx, hfy, h, h0, hex, hYl, Y3, Y4, hB⟩ := H0.out
    obtain ⟨R1, R2, R3, R4⟩ := pos_rung r (by omega)
    rcases Nat.lt_or_ge r Y with hge | hge
    · have tgt : ∀ _ : True, (FloatKind.f64.format.order r Y == some Ordering.gt) = false := fun _ => (ord_gt r Y R3 Y3).trans (by rw [R4, Y4]; simp; omega)
      have teq : ∀ _ : True, (FloatKind.f64.format.order r Y == some Ordering.eq) = false := fun _ => (ord_eq r Y R3 Y3).trans (by rw [R4, Y4]; simp; omega)
      have hM := hex r hfx hfy h hge hrm
      have hM2 : MW = r := hM
      subst hM2
      clear hB hM hrX hrm hfx hfy h h0 hex hYl Y3 Y4 R1 R2 R3 R4 hge
      go_wp2
      go_ret
      exact ⟨rfl, rfl⟩
    · obtain ⟨z, d, m1, m2, m3, m4, m5, m6, m7⟩ := mod_round r Y (by omega) hfy h hge
      have h0r : r ≠ 0 := by omega
      have cr := fun w => Fr_any r (by omega) w
      have cl := fun w => Ld_any Y hYl (modJ r Y) (by omega) w
      rw [m1] at cl
      obtain ⟨G1, G2, G3, G4⟩ := fr_place r (by omega) h0r
      rw [G3] at cr
      have hlt := fr_lt r Y (by omega) h0r hfy h
      have rs : ∀ ty w, (binOp .sub ty (.float .f64 r) (.float .f64 z)).run Try.prog w = .ok (.float .f64 d) w := fun ty w => run_float_arith w .sub ty .f64 r z d m3
      have b1 := modJ_bounds r Y
      have b2 := modJ_bounds Y Y
      have hJ : modJ r Y = nExp r - nExp Y - (if nMant r < nMant Y then 1 else 0) := rfl
      generalize modJ r Y = J at *
      obtain ⟨A, hA⟩ : ∃ A : Int, A = nExp r + 53 := ⟨_, rfl⟩
      rw [← hA] at cr
      generalize frW r = fr at *
      generalize frW Y = fy at *
      have HR := Lib.hid (And.intro m4 (And.intro (m5.trans hrm) (And.intro hrX Y4)))
      by_cases hlt2 : nMant r < nMant Y
      · rw [if_pos hlt2] at hJ
        have tlt : ∀ _ : True, (FloatKind.f64.format.order fr fy == some Ordering.lt) = true := fun _ => by rw [hlt]; simpa using hlt2
        obtain ⟨A1, hA1⟩ : ∃ A1 : Int, A1 = A - 1 := ⟨_, rfl⟩
        have q1 : ∀ _ : True, wrap64 (A - 1) = A1 := fun _ => by unfold wrap64; omega
        have q2 : ∀ _ : True, wrap64 (A1 - B) = J := fun _ => by unfold wrap64; omega
        rcases Nat.lt_or_ge Y r with hgt | hgt
        · have tgt : ∀ _ : True, (FloatKind.f64.format.order r Y == some Ordering.gt) = true := fun _ => (ord_gt r Y R3 Y3).trans (by rw [R4, Y4]; simp; omega)
          clear hrX hrm hfx hfy h h0 hex hYl Y3 Y4 R1 R2 R3 R4 hge m1 m2 m3 m4 m5 m6 m7 h0r G1 G2 G3 G4 hlt b1 b2 hJ hA hB hlt2 hgt hA1
          go_wp2_with fail
          refine (cr _).mono ?_
          rintro e w' ⟨rfl, rfl⟩
          go_wp2_with fail
          refine (cl _).mono ?_
          rintro e w' ⟨rfl, rfl⟩
          go_wp2
          go_round
          case rel => exact ⟨d, rfl, by have := HR.out; omega, HR.out.2.1⟩
          case measure => have := HR.out; simp [fBits]; omega
        · have tgt : ∀ _ : True, (FloatKind.f64.format.order r Y == some Ordering.gt) = false := fun _ => (ord_gt r Y R3 Y3).trans (by rw [R4, Y4]; simp; omega)
          have teq : ∀ _ : True, (FloatKind.f64.format.order r Y == some Ordering.eq) = true := fun _ => (ord_eq r Y R3 Y3).trans (by rw [R4, Y4]; simp; omega)
          clear hrX hrm hfx hfy h h0 hex hYl Y3 Y4 R1 R2 R3 R4 hge m1 m2 m3 m4 m5 m6 m7 h0r G1 G2 G3 G4 hlt b1 b2 hJ hA hB hlt2 hgt hA1
          go_wp2_with fail
          refine (cr _).mono ?_
          rintro e w' ⟨rfl, rfl⟩
          go_wp2_with fail
          refine (cl _).mono ?_
          rintro e w' ⟨rfl, rfl⟩
          go_wp2
          go_round
          case rel => exact ⟨d, rfl, by have := HR.out; omega, HR.out.2.1⟩
          case measure => have := HR.out; simp [fBits]; omega
      · rw [if_neg hlt2] at hJ
        have tlt : ∀ _ : True, (FloatKind.f64.format.order fr fy == some Ordering.lt) = false := fun _ => by rw [hlt]; simpa using hlt2
        have q2 : ∀ _ : True, wrap64 (A - B) = J := fun _ => by unfold wrap64; omega
        rcases Nat.lt_or_ge Y r with hgt | hgt
        · have tgt : ∀ _ : True, (FloatKind.f64.format.order r Y == some Ordering.gt) = true := fun _ => (ord_gt r Y R3 Y3).trans (by rw [R4, Y4]; simp; omega)
          clear hrX hrm hfx hfy h h0 hex hYl Y3 Y4 R1 R2 R3 R4 hge m1 m2 m3 m4 m5 m6 m7 h0r G1 G2 G3 G4 hlt b1 b2 hJ hA hB hlt2 hgt
          go_wp2_with fail
          refine (cr _).mono ?_
          rintro e w' ⟨rfl, rfl⟩
          go_wp2_with fail
          refine (cl _).mono ?_
          rintro e w' ⟨rfl, rfl⟩
          go_wp2
          go_round
          case rel => exact ⟨d, rfl, by have := HR.out; omega, HR.out.2.1⟩
          case measure => have := HR.out; simp [fBits]; omega
        · have tgt : ∀ _ : True, (FloatKind.f64.format.order r Y == some Ordering.gt) = false := fun _ => (ord_gt r Y R3 Y3).trans (by rw [R4, Y4]; simp; omega)
          have teq : ∀ _ : True, (FloatKind.f64.format.order r Y == some Ordering.eq) = true := fun _ => (ord_eq r Y R3 Y3).trans (by rw [R4, Y4]; simp; omega)
          clear hrX hrm hfx hfy h h0 hex hYl Y3 Y4 R1 R2 R3 R4 hge m1 m2 m3 m4 m5 m6 m7 h0r G1 G2 G3 G4 hlt b1 b2 hJ hA hB hlt2 hgt
          go_wp2_with fail
          refine (cr _).mono ?_
          rintro e w' ⟨rfl, rfl⟩
          go_wp2_with fail
          refine (cl _).mono ?_
          rintro e w' ⟨rfl, rfl⟩
          go_wp2
          go_round
          case rel => exact ⟨d, rfl, by have := HR.out; omega, HR.out.2.1⟩
          case measure => have := HR.out; simp [fBits]; omega

set_option maxHeartbeats 400000 in
theorem mod_x0 (x y : Nat) (hx : x < 18446744073709551616) (hy : y < 18446744073709551616) (h : rung y ≠ 0) (hfy : rung y < 9218868437227405312) (h0 : rung x = 0) (w : World) :
    Calls Try.prog 41 #[.float .f64 x, .float .f64 y] w fun e w' => e = .returned (.float .f64 x) ∧ w = w' := by
  have nx : isNan x = false := by unfold isNan; simp; omega
  have ny : isNan y = false := by unfold isNan; simp; omega
  have hi : isInf x = false := by unfold isInf; simp; omega
  have ty : ∀ _ : True, _ = false := fun _ => y_not_zero y h
  have ci := fun w => isInf_zero x hx w
  have hI : isInf x = false := hi
  rw [hI] at ci
  clear hI
  have tx : ∀ _ : True, (FloatKind.f64.format.order x 0 == some Ordering.lt) = false := fun _ => (ord_lt x 0 nx nan_zero).trans (by rw [place_zero]; have := (place_eq_zero x).2 h0; simp; omega)
  have ca := fun w => abs_any y hy w
  obtain ⟨Y, hY⟩ : ∃ Y, Y = rung y := ⟨_, rfl⟩
  rw [← hY] at hfy h ca
  obtain ⟨Y1, Y2, Y3, Y4⟩ := pos_rung Y hfy
  have cy := fun w => Fr_any Y (by omega) w
  have px := (place_eq_zero x).2 h0
  have tgt : ∀ _ : True, (FloatKind.f64.format.order x Y == some Ordering.gt) = false := fun _ => (ord_gt x Y nx Y3).trans (by rw [px, Y4]; simp; try omega)
  have teq : ∀ _ : True, (FloatKind.f64.format.order x Y == some Ordering.eq) = false := fun _ => (ord_eq x Y nx Y3).trans (by rw [px, Y4]; simp; omega)
  generalize frW Y = fy at *
  generalize frE Y = ey at *
  clear hfy h hi hY Y1 Y2 Y3 Y4 px h0
  go_enter Try.func41, Try.ntmps41
  go_wp2_with fail
  refine (ci _).mono ?_
  rintro e w' ⟨rfl, rfl⟩
  go_wp2_with fail
  refine (isNaN_any x false nx _).mono ?_
  rintro e w' ⟨rfl, rfl⟩
  go_wp2_with fail
  refine (isNaN_any y false ny _).mono ?_
  rintro e w' ⟨rfl, rfl⟩
  go_wp2_with fail
  refine (ca _).mono ?_
  rintro e w' ⟨rfl, rfl⟩
  go_wp2_with fail
  refine (cy _).mono ?_
  rintro e w' ⟨rfl, rfl⟩
  go_wp2
  go_loop [7] (fun rv => rv = .float .f64 x) (fun _ => 0)
  case atStart => rfl
  case round =>
    obtain rfl := hrel
    go_wp2
    go_ret
    exact ⟨rfl, rfl⟩

set_option maxHeartbeats 400000 in
theorem mod_inf_pos (x y : Nat) (hx : x < 18446744073709551616) (hy : y < 18446744073709551616) (hyi : rung y = 9218868437227405312) (hfx : rung x < 9218868437227405312) (hn : negB x = false ∨ rung x = 0) (w : World) :
    Calls Try.prog 41 #[.float .f64 x, .float .f64 y] w fun e w' => e = .returned (.float .f64 x) ∧ w = w' := by
  have h : rung y ≠ 0 := by omega
  have nx : isNan x = false := by unfold isNan; simp; omega
  have ny : isNan y = false := by unfold isNan; simp; omega
  have hi : isInf x = false := by unfold isInf; simp; omega
  have ty : ∀ _ : True, _ = false := fun _ => y_not_zero y h
  have ci := fun w => isInf_zero x hx w
  have hI : isInf x = false := hi
  rw [hI] at ci
  clear hI
  have tx : ∀ _ : True, (FloatKind.f64.format.order x 0 == some Ordering.lt) = false := fun _ => (ord_lt x 0 nx nan_zero).trans (by rw [place_zero]; have := place_nonneg x hn; simp; omega)
  have ca := fun w => abs_any y hy w
  rw [hyi] at ca
  have nI : isNan 9218868437227405312 = false := by decide
  have pI : place 9218868437227405312 = 9218868437227405312 := by decide
  have cy := fun w => Fr_any 9218868437227405312 (by omega) w
  have tgt : ∀ _ : True, (FloatKind.f64.format.order x 9218868437227405312 == some Ordering.gt) = false := fun _ => (ord_gt x _ nx nI).trans (by rw [pI]; have := place_bounds x; simp; omega)
  have teq : ∀ _ : True, (FloatKind.f64.format.order x 9218868437227405312 == some Ordering.eq) = false := fun _ => (ord_eq x _ nx nI).trans (by rw [pI]; have := place_bounds x; simp; omega)
  obtain ⟨I, hI⟩ : ∃ I : Nat, I = 9218868437227405312 := ⟨_, rfl⟩
  rw [← hI] at ca cy tgt teq
  generalize frW I = fy at *
  generalize frE I = ey at *
  clear h hyi hfx hn nI pI hI
  go_enter Try.func41, Try.ntmps41
  go_wp2_with fail
  refine (ci _).mono ?_
  rintro e w' ⟨rfl, rfl⟩
  go_wp2_with fail
  refine (isNaN_any x false nx _).mono ?_
  rintro e w' ⟨rfl, rfl⟩
  go_wp2_with fail
  refine (isNaN_any y false ny _).mono ?_
  rintro e w' ⟨rfl, rfl⟩
  go_wp2_with fail
  refine (ca _).mono ?_
  rintro e w' ⟨rfl, rfl⟩
  go_wp2_with fail
  refine (cy _).mono ?_
  rintro e w' ⟨rfl, rfl⟩
  go_wp2
  go_loop [7] (fun rv => rv = .float .f64 x) (fun _ => 0)
  case atStart => rfl
  case round =>
    obtain rfl := hrel
    go_wp2
    go_ret
    exact ⟨rfl, rfl⟩

set_option maxHeartbeats 400000 in
theorem mod_inf_neg (x y : Nat) (hx : x < 18446744073709551616) (hy : y < 18446744073709551616) (hyi : rung y = 9218868437227405312) (hfx : rung x < 9218868437227405312) (hn : negB x = true) (h0 : rung x ≠ 0) (w : World) :
    Calls Try.prog 41 #[.float .f64 x, .float .f64 y] w fun e w' => e = .returned (.float .f64 x) ∧ w = w' := by
  have h : rung y ≠ 0 := by omega
  have nx : isNan x = false := by unfold isNan; simp; omega
  have ny : isNan y = false := by unfold isNan; simp; omega
  have hi : isInf x = false := by unfold isInf; simp; omega
  have ty : ∀ _ : True, _ = false := fun _ => y_not_zero y h
  have ci := fun w => isInf_zero x hx w
  have hI : isInf x = false := hi
  rw [hI] at ci
  clear hI
  have tx : ∀ _ : True, (FloatKind.f64.format.order x 0 == some Ordering.lt) = true := fun _ => (ord_lt x 0 nx nan_zero).trans (by rw [place_zero]; unfold place; rw [hn]; simp; omega)
  have ca := fun w => abs_any y hy w
  rw [hyi] at ca
  have nI : isNan 9218868437227405312 = false := by decide
  have pI : place 9218868437227405312 = 9218868437227405312 := by decide
  have cy := fun w => Fr_any 9218868437227405312 (by omega) w
  have e2 := neg_num x hx
  have e3 := neg_num (oppW x) (oppW_lt x)
  rw [show wordD (!negB x) (rung x) = oppW x from rfl] at e2
  rw [show wordD (!negB (oppW x)) (rung (oppW x)) = oppW (oppW x) from rfl, opp_opp x hx] at e3
  have no : isNan (oppW x) = false := by unfold isNan; rw [rung_opp]; simp; omega
  have tgt : ∀ _ : True, (FloatKind.f64.format.order (oppW x) 9218868437227405312 == some Ordering.gt) = false := fun _ => (ord_gt _ _ no nI).trans (by rw [pI]; have := place_bounds (oppW x); rw [rung_opp] at this; simp; omega)
  have teq : ∀ _ : True, (FloatKind.f64.format.order (oppW x) 9218868437227405312 == some Ordering.eq) = false := fun _ => (ord_eq _ _ no nI).trans (by rw [pI]; have := place_bounds (oppW x); rw [rung_opp] at this; simp; omega)
  generalize oppW x = o at *
  have r0 : ∀ w, (Op.unary .neg (.float .f64 x)).run Try.prog w = .ok (.float .f64 o) w := fun w => by rw [← e2]; rfl
  have r1 : ∀ w, (Op.unary .neg (.float .f64 o)).run Try.prog w = .ok (.float .f64 x) w := fun w => by rw [← e3]; rfl
  obtain ⟨I, hI⟩ : ∃ I : Nat, I = 9218868437227405312 := ⟨_, rfl⟩
  rw [← hI] at ca cy tgt teq
  generalize frW I = fy at *
  generalize frE I = ey at *
  clear h hyi hfx hn nI pI hI e2 e3 no h0
  go_enter Try.func41, Try.ntmps41
  go_wp2_with fail
  refine (ci _).mono ?_
  rintro e w' ⟨rfl, rfl⟩
  go_wp2_with fail
  refine (isNaN_any x false nx _).mono ?_
  rintro e w' ⟨rfl, rfl⟩
  go_wp2_with fail
  refine (isNaN_any y false ny _).mono ?_
  rintro e w' ⟨rfl, rfl⟩
  go_wp2_with fail
  refine (ca _).mono ?_
  rintro e w' ⟨rfl, rfl⟩
  go_wp2_with fail
  refine (cy _).mono ?_
  rintro e w' ⟨rfl, rfl⟩
  go_wp2
  go_loop [7] (fun rv => rv = .float .f64 o) (fun _ => 0)
  case atStart => rfl
  case round =>
    obtain rfl := hrel
    go_wp2
    go_ret
    exact ⟨rfl, rfl⟩

/-- the word that Mod gives -/
theorem mod_any (x y : Nat) (hx : x < 18446744073709551616) (hy : y < 18446744073709551616) (h : rung y ≠ 0) (hfx : rung x < 9218868437227405312) (hfy : rung y < 9218868437227405312) (w : World) :
    Calls Try.prog 41 #[.float .f64 x, .float .f64 y] w fun e w' => e = .returned (.float .f64 (modW x y)) ∧ w = w' := by
  by_cases h0 : rung x = 0
  · have : modW x y = x := by
      unfold modW; rw [h0, val_zero, Nat.zero_mod, near_zero]
      have := word_of x hx
      rw [h0] at this; exact this
    rw [this]; exact mod_x0 x y hx hy h hfy h0 w
  · rcases Bool.eq_false_or_eq_true (negB x) with hn | hn
    · exact mod_neg x y hx hy h hfx hfy h0 hn w
    · exact mod_pos x y hx hy h hfx hfy h0 hn w
theorem mod_none (x y : Nat) (hx : x < 18446744073709551616) (hy : y < 18446744073709551616) (h : rung y = 0 ∨ isInf x = true ∨ isNan x = true ∨ isNan y = true) (w : World) :
    Calls Try.prog 41 #[.float .f64 x, .float .f64 y] w fun e w' => e = .returned (.float .f64 9221120237041090561) ∧ w = w' := by
  by_cases h1 : rung y = 0
  · exact mod_y0 x y hx hy h1 w
  · rcases Bool.eq_false_or_eq_true (isInf x) with h2 | h2
    · exact mod_xinf x y hx hy h1 h2 w
    · rcases Bool.eq_false_or_eq_true (isNan x) with h3 | h3
      · exact mod_xnan x y hx hy h1 h2 h3 w
      · rcases Bool.eq_false_or_eq_true (isNan y) with h4 | h4
        · exact mod_ynan x y hx hy h1 h2 h3 h4 w
        · rw [h2, h3, h4] at h; simp at h; exact absurd h h1
theorem mod_inf (x y : Nat) (hx : x < 18446744073709551616) (hy : y < 18446744073709551616) (hyi : rung y = 9218868437227405312) (hfx : rung x < 9218868437227405312) (w : World) :
    Calls Try.prog 41 #[.float .f64 x, .float .f64 y] w fun e w' => e = .returned (.float .f64 x) ∧ w = w' := by
  rcases Bool.eq_false_or_eq_true (negB x) with hn | hn
  · by_cases h0 : rung x = 0
    · exact mod_inf_pos x y hx hy hyi hfx (Or.inr h0) w
    · exact mod_inf_neg x y hx hy hyi hfx hn h0 w
  · exact mod_inf_pos x y hx hy hyi hfx (Or.inl hn) w

set_option maxHeartbeats 400000 in
theorem Mod_any (x y : Nat) (hx : x < 18446744073709551616) (hy : y < 18446744073709551616) (h : rung y ≠ 0) (hfx : rung x < 9218868437227405312) (hfy : rung y < 9218868437227405312) (w : World) :
    Calls Try.prog 28 #[.float .f64 x, .float .f64 y] w fun e w' => e = .returned (.float .f64 (modW x y)) ∧ w = w' := by
  have c := fun w => mod_any x y hx hy h hfx hfy w
  generalize modW x y = m at *
  clear h hfx hfy
  go_enter Try.func28, Try.ntmps28
  go_wp2_with (first | (go_at_call 41; refine (c _).mono ?_; rintro e w' ⟨rfl, rfl⟩))
  go_ret
  exact ⟨rfl, rfl⟩

set_option maxHeartbeats 400000 in
theorem i_mod_any (x y : Nat) (hx : x < 18446744073709551616) (hy : y < 18446744073709551616) (h : rung y ≠ 0) (hfx : rung x < 9218868437227405312) (hfy : rung y < 9218868437227405312) (w : World) :
    Calls Try.prog 12 #[.int .u64 (x : Int), .int .u64 (y : Int)] w fun e w' => e = .returned (.int .u64 (modW x y : Int)) ∧ w = w' := by
  have c := fun w => Mod_any x y hx hy h hfx hfy w
  generalize modW x y = m at *
  clear h hfx hfy
  go_enter Try.func12, Try.ntmps12
  go_wp2_with (first | (go_at_call 29; refine (float_any _ _).mono ?_; rintro e w' ⟨rfl, rfl⟩) | (go_at_call 27; refine (bitsOf_any _ _).mono ?_; rintro e w' ⟨rfl, rfl⟩) | (go_at_call 28; refine (c _).mono ?_; rintro e w' ⟨rfl, rfl⟩))
  go_ret
  exact ⟨rfl, rfl⟩

set_option maxHeartbeats 400000 in
theorem Mod_none (x y : Nat) (hx : x < 18446744073709551616) (hy : y < 18446744073709551616) (h : rung y = 0 ∨ isInf x = true ∨ isNan x = true ∨ isNan y = true) (w : World) :
    Calls Try.prog 28 #[.float .f64 x, .float .f64 y] w fun e w' => e = .returned (.float .f64 9221120237041090561) ∧ w = w' := by
  have c := fun w => mod_none x y hx hy h w
  clear h
  go_enter Try.func28, Try.ntmps28
  go_wp2_with (first | (go_at_call 41; refine (c _).mono ?_; rintro e w' ⟨rfl, rfl⟩))
  go_ret
  exact ⟨rfl, rfl⟩

set_option maxHeartbeats 400000 in
theorem i_mod_none (x y : Nat) (hx : x < 18446744073709551616) (hy : y < 18446744073709551616) (h : rung y = 0 ∨ isInf x = true ∨ isNan x = true ∨ isNan y = true) (w : World) :
    Calls Try.prog 12 #[.int .u64 (x : Int), .int .u64 (y : Int)] w fun e w' => e = .returned (.int .u64 9221120237041090561) ∧ w = w' := by
  have c := fun w => Mod_none x y hx hy h w
  clear h
  go_enter Try.func12, Try.ntmps12
  go_wp2_with (first | (go_at_call 29; refine (float_any _ _).mono ?_; rintro e w' ⟨rfl, rfl⟩) | (go_at_call 27; refine (bitsOf_any _ _).mono ?_; rintro e w' ⟨rfl, rfl⟩) | (go_at_call 28; refine (c _).mono ?_; rintro e w' ⟨rfl, rfl⟩))
  go_ret
  exact ⟨rfl, rfl⟩

set_option maxHeartbeats 400000 in
theorem Mod_inf (x y : Nat) (hx : x < 18446744073709551616) (hy : y < 18446744073709551616) (hyi : rung y = 9218868437227405312) (hfx : rung x < 9218868437227405312) (w : World) :
    Calls Try.prog 28 #[.float .f64 x, .float .f64 y] w fun e w' => e = .returned (.float .f64 x) ∧ w = w' := by
  have c := fun w => mod_inf x y hx hy hyi hfx w
  clear hyi hfx
  go_enter Try.func28, Try.ntmps28
  go_wp2_with (first | (go_at_call 41; refine (c _).mono ?_; rintro e w' ⟨rfl, rfl⟩))
  go_ret
  exact ⟨rfl, rfl⟩

set_option maxHeartbeats 400000 in
theorem i_mod_inf (x y : Nat) (hx : x < 18446744073709551616) (hy : y < 18446744073709551616) (hyi : rung y = 9218868437227405312) (hfx : rung x < 9218868437227405312) (w : World) :
    Calls Try.prog 12 #[.int .u64 (x : Int), .int .u64 (y : Int)] w fun e w' => e = .returned (.int .u64 (x : Int)) ∧ w = w' := by
  have c := fun w => Mod_inf x y hx hy hyi hfx w
  clear hyi hfx
  go_enter Try.func12, Try.ntmps12
  go_wp2_with (first | (go_at_call 29; refine (float_any _ _).mono ?_; rintro e w' ⟨rfl, rfl⟩) | (go_at_call 27; refine (bitsOf_any _ _).mono ?_; rintro e w' ⟨rfl, rfl⟩) | (go_at_call 28; refine (c _).mono ?_; rintro e w' ⟨rfl, rfl⟩))
  go_ret
  exact ⟨rfl, rfl⟩

end Go.Proofs.Ytbpggopjiogimaa
