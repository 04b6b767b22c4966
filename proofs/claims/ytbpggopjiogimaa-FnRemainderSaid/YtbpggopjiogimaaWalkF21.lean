/- The contracts of the package's remainder and of what calls it: by the bits. -/
import Derived.Test.YtbpggopjiogimaaWalkF18
import Derived.Test.YtbpggopjiogimaaFRem2
set_option linter.unusedVariables false
namespace Go.Proofs.Ytbpggopjiogimaa
open Go.RowKit Go.Proofs.Ytbpggopjiogimaa.Plain

set_option maxHeartbeats 400000 in
theorem rm_xnan (x y : Nat) (hx : x < 18446744073709551616) (hy : y < 18446744073709551616) (nx : isNan x = true) (w : World) :
    Calls Try.prog 43 #[.float .f64 x, .float .f64 y] w fun e w' => e = .returned (.float .f64 9221120237041090561) ∧ w = w' := by
  go_enter Try.func43, Try.ntmps43
  go_wp2_with fail
  refine (isNaN_any x true nx _).mono ?_
  rintro e w' ⟨rfl, rfl⟩
  go_wp2_with fail
  refine (nanOf_any _).mono ?_
  rintro e w' ⟨rfl, rfl⟩
  go_wp2
  go_ret
  exact ⟨rfl, rfl⟩

set_option maxHeartbeats 400000 in
theorem rm_ynan (x y : Nat) (hx : x < 18446744073709551616) (hy : y < 18446744073709551616) (nx : isNan x = false) (ny : isNan y = true) (w : World) :
    Calls Try.prog 43 #[.float .f64 x, .float .f64 y] w fun e w' => e = .returned (.float .f64 9221120237041090561) ∧ w = w' := by
  go_enter Try.func43, Try.ntmps43
  go_wp2_with fail
  refine (isNaN_any x false nx _).mono ?_
  rintro e w' ⟨rfl, rfl⟩
  go_wp2_with fail
  refine (isNaN_any y true ny _).mono ?_
  rintro e w' ⟨rfl, rfl⟩
  go_wp2_with fail
  refine (nanOf_any _).mono ?_
  rintro e w' ⟨rfl, rfl⟩
  go_wp2
  go_ret
  exact ⟨rfl, rfl⟩

set_option maxHeartbeats 400000 in
theorem rm_xinf (x y : Nat) (hx : x < 18446744073709551616) (hy : y < 18446744073709551616) (nx : isNan x = false) (ny : isNan y = false) (ix : isInf x = true) (w : World) :
    Calls Try.prog 43 #[.float .f64 x, .float .f64 y] w fun e w' => e = .returned (.float .f64 9221120237041090561) ∧ w = w' := by
  have ci := fun w => isInf_zero x hx w
  rw [ix] at ci
  go_enter Try.func43, Try.ntmps43
  go_wp2_with fail
  refine (isNaN_any x false nx _).mono ?_
  rintro e w' ⟨rfl, rfl⟩
  go_wp2_with fail
  refine (isNaN_any y false ny _).mono ?_
  rintro e w' ⟨rfl, rfl⟩
  go_wp2_with fail
  refine (ci _).mono ?_
  rintro e w' ⟨rfl, rfl⟩
  go_wp2_with fail
  refine (nanOf_any _).mono ?_
  rintro e w' ⟨rfl, rfl⟩
  go_wp2
  go_ret
  exact ⟨rfl, rfl⟩

set_option maxHeartbeats 400000 in
theorem rm_y0 (x y : Nat) (hx : x < 18446744073709551616) (hy : y < 18446744073709551616) (nx : isNan x = false) (ny : isNan y = false) (ix : isInf x = false) (h : rung y = 0) (w : World) :
    Calls Try.prog 43 #[.float .f64 x, .float .f64 y] w fun e w' => e = .returned (.float .f64 9221120237041090561) ∧ w = w' := by
  have ci := fun w => isInf_zero x hx w
  rw [ix] at ci
  have ty : ∀ _ : True, (FloatKind.f64.format.order y 0 == some Ordering.eq) = true := fun _ => (ord_eq y 0 ny nan_zero).trans (by rw [place_zero]; simpa using (place_eq_zero y).2 h)
  clear h
  go_enter Try.func43, Try.ntmps43
  go_wp2_with fail
  refine (isNaN_any x false nx _).mono ?_
  rintro e w' ⟨rfl, rfl⟩
  go_wp2_with fail
  refine (isNaN_any y false ny _).mono ?_
  rintro e w' ⟨rfl, rfl⟩
  go_wp2_with fail
  refine (ci _).mono ?_
  rintro e w' ⟨rfl, rfl⟩
  go_wp2_with fail
  refine (nanOf_any _).mono ?_
  rintro e w' ⟨rfl, rfl⟩
  go_wp2
  go_ret
  exact ⟨rfl, rfl⟩

set_option maxHeartbeats 400000 in
theorem rm_yinf (x y : Nat) (hx : x < 18446744073709551616) (hy : y < 18446744073709551616) (nx : isNan x = false) (ny : isNan y = false) (ix : isInf x = false) (iy : isInf y = true) (h : rung y ≠ 0) (w : World) :
    Calls Try.prog 43 #[.float .f64 x, .float .f64 y] w fun e w' => e = .returned (.float .f64 x) ∧ w = w' := by
  have ci := fun w => isInf_zero x hx w
  rw [ix] at ci
  have cj := fun w => isInf_zero y hy w
  rw [iy] at cj
  have ty : ∀ _ : True, _ = false := fun _ => y_not_zero y h
  clear h
  go_enter Try.func43, Try.ntmps43
  go_wp2_with fail
  refine (isNaN_any x false nx _).mono ?_
  rintro e w' ⟨rfl, rfl⟩
  go_wp2_with fail
  refine (isNaN_any y false ny _).mono ?_
  rintro e w' ⟨rfl, rfl⟩
  go_wp2_with fail
  refine (ci _).mono ?_
  rintro e w' ⟨rfl, rfl⟩
  go_wp2_with fail
  refine (cj _).mono ?_
  rintro e w' ⟨rfl, rfl⟩
  go_wp2
  go_ret
  exact ⟨rfl, rfl⟩

set_option maxHeartbeats 400000 in
theorem rm_x0_t (x y : Nat) (hx : x < 18446744073709551616) (hy : y < 18446744073709551616) (hfy : rung y < 9218868437227405312) (h0x : rung x = 0) (h0y : rung y ≠ 0) (hny : negB y = true) (w : World) :
    Calls Try.prog 43 #[.float .f64 x, .float .f64 y] w fun e w' => e = .returned (.float .f64 x) ∧ w = w' := by
  have nx : isNan x = false := by unfold isNan; simp; omega
  have ny : isNan y = false := by unfold isNan; simp; omega
  have ix : isInf x = false := by unfold isInf; simp; omega
  have iy : isInf y = false := by unfold isInf; simp; omega
  have ci := fun w => isInf_zero x hx w
  rw [ix] at ci
  have cj := fun w => isInf_zero y hy w
  rw [iy] at cj
  have ty : ∀ _ : True, (FloatKind.f64.format.order y 0 == some Ordering.eq) = false := fun _ => y_not_zero y h0y
  have tx : ∀ _ : True, (FloatKind.f64.format.order x 0 == some Ordering.lt) = false := fun _ => (ord_lt x 0 nx nan_zero).trans (by rw [place_zero, (place_eq_zero x).2 h0x]; simp)
  have tyl : ∀ _ : True, (FloatKind.f64.format.order y 0 == some Ordering.lt) = true := fun _ => (ord_lt y 0 ny nan_zero).trans (by rw [place_zero]; unfold place; rw [hny]; simp; try omega)
  have px := (place_eq_zero x).2 h0x
  have hvx : val (rung x) = 0 := by rw [h0x, val_zero]
  have ey := neg_num y hy
  have wy := word_of y hy
  rw [hny] at ey wy
  obtain ⟨Y, hY⟩ : ∃ Y, Y = rung y := ⟨_, rfl⟩
  rw [← hY] at ey wy hfy h0y
  obtain ⟨Y1, Y2, Y3, Y4⟩ := pos_rung Y hfy
  have teq : ∀ _ : True, (FloatKind.f64.format.order x Y == some Ordering.eq) = false := fun _ => (ord_eq x Y nx Y3).trans (by rw [px, Y4]; simp; omega)
  have ry : ∀ w, (Op.unary .neg (.float .f64 y)).run Try.prog w = .ok (.float .f64 Y) w := fun w => by
    have g : y ^^^ 9223372036854775808 = Y := ey
    rw [← g]; rfl
  clear wy ey hY
  have hxl : rung x < 9218868437227405312 := by omega
  have hq : place 9007199254740992 = 9007199254740992 := by decide
  have hp : place 9214364837600034815 = 9214364837600034815 := by decide
  rcases (by omega : Y < 9007199254740992 ∨ (9007199254740992 ≤ Y ∧ Y ≤ 9214364837600034815) ∨ 9214364837600034815 < Y) with c | c | c
  · have tT : ∀ _ : True, (FloatKind.f64.format.order Y 9007199254740992 == some Ordering.lt) = true := fun _ => (ord_lt Y _ Y3 (by decide)).trans (by rw [Y4, hq]; simp; omega)
    have tH : ∀ _ : True, (FloatKind.f64.format.order Y 9214364837600034815 == some Ordering.lt || FloatKind.f64.format.order Y 9214364837600034815 == some Ordering.eq) = true := fun _ => (ord_le Y _ Y3 (by decide)).trans (by rw [Y4, hp]; simp; omega)
    obtain ⟨yy, y1, y2, y3⟩ := add_self Y hfy false (double_ok Y (by omega))
    have cm : ∀ w, Calls Try.prog 28 #[.float .f64 x, .float .f64 yy] w fun e w' => e = .returned (.float .f64 x) ∧ w = w' := fun w => by
      have hyy : rung yy ≠ 0 := by rw [(pos_rung yy y1).1]; intro g; rw [g, val_zero] at y2; have := val_pos' Y h0y; omega
      have := Mod_any x yy hx (by omega) hyy hxl (by rw [(pos_rung yy y1).1]; exact y1) w
      have e : modW x yy = x := by
        unfold modW; rw [hvx, Nat.zero_mod, near_zero]
        have := word_of x hx
        rw [h0x] at this; exact this
      rw [e] at this; exact this
    have r1 : ∀ ty w, (binOp .add ty (.float .f64 Y) (.float .f64 Y)).run Try.prog w = .ok (.float .f64 yy) w := fun ty w => run_float_arith w .add ty .f64 Y Y yy y3
    obtain ⟨xx, z1, z2, z3⟩ := add_self 0 (by omega) (negB x) (by rw [val_zero]; have := topU_big; omega)
    have hx0 : x = wordD (negB x) 0 := by have := word_of x hx; rw [h0x] at this; exact this.symm
    rw [← hx0] at z3
    have r2 : ∀ ty w, (binOp .add ty (.float .f64 x) (.float .f64 x)).run Try.prog w = .ok (.float .f64 (wordD (negB x) xx)) w := fun ty w => run_float_arith w .add ty .f64 x x _ z3
    have hxx : xx = 0 := val_inj (by rw [z2, val_zero])
    obtain ⟨pw1, pw2⟩ := place_word (negB x) xx z1
    have tg : ∀ _ : True, (FloatKind.f64.format.order (wordD (negB x) xx) Y == some Ordering.gt) = false := fun _ => (ord_gt _ Y pw1 Y3).trans (by rw [pw2, Y4, hxx]; simp; try (split <;> omega))
    generalize wordD (negB x) xx = xw at *
    clear hx0 z1 z2 z3 hxx pw1 pw2 y1 y2 y3 c hq hp hxl hvx px h0x h0y hfy Y1 Y2 Y3 Y4
    go_enter Try.func43, Try.ntmps43
    go_wp2_with fail
    refine (isNaN_any x false nx _).mono ?_
    rintro e w' ⟨rfl, rfl⟩
    go_wp2_with fail
    refine (isNaN_any y false ny _).mono ?_
    rintro e w' ⟨rfl, rfl⟩
    go_wp2_with fail
    refine (ci _).mono ?_
    rintro e w' ⟨rfl, rfl⟩
    go_wp2_with fail
    refine (cj _).mono ?_
    rintro e w' ⟨rfl, rfl⟩
    go_wp2_with fail
    refine (cm _).mono ?_
    rintro e w' ⟨rfl, rfl⟩
    go_wp2
    go_ret
    exact ⟨rfl, rfl⟩
  · have tT : ∀ _ : True, (FloatKind.f64.format.order Y 9007199254740992 == some Ordering.lt) = false := fun _ => (ord_lt Y _ Y3 (by decide)).trans (by rw [Y4, hq]; simp; omega)
    have tH : ∀ _ : True, (FloatKind.f64.format.order Y 9214364837600034815 == some Ordering.lt || FloatKind.f64.format.order Y 9214364837600034815 == some Ordering.eq) = true := fun _ => (ord_le Y _ Y3 (by decide)).trans (by rw [Y4, hp]; simp; omega)
    obtain ⟨yy, y1, y2, y3⟩ := add_self Y hfy false (double_ok Y (by omega))
    have cm : ∀ w, Calls Try.prog 28 #[.float .f64 x, .float .f64 yy] w fun e w' => e = .returned (.float .f64 x) ∧ w = w' := fun w => by
      have hyy : rung yy ≠ 0 := by rw [(pos_rung yy y1).1]; intro g; rw [g, val_zero] at y2; have := val_pos' Y h0y; omega
      have := Mod_any x yy hx (by omega) hyy hxl (by rw [(pos_rung yy y1).1]; exact y1) w
      have e : modW x yy = x := by
        unfold modW; rw [hvx, Nat.zero_mod, near_zero]
        have := word_of x hx
        rw [h0x] at this; exact this
      rw [e] at this; exact this
    have r1 : ∀ ty w, (binOp .add ty (.float .f64 Y) (.float .f64 Y)).run Try.prog w = .ok (.float .f64 yy) w := fun ty w => run_float_arith w .add ty .f64 Y Y yy y3
    obtain ⟨h', k1, k2, k3⟩ := half_fit Y hfy (by omega)
    have r2 : ∀ ty w, (binOp .mul ty (.float .f64 4602678819172646912) (.float .f64 Y)).run Try.prog w = .ok (.float .f64 h') w := fun ty w => run_float_arith w .mul ty .f64 _ Y _ k3
    obtain ⟨H1, H2, H3, H4⟩ := pos_rung h' k1
    have tg : ∀ _ : True, (FloatKind.f64.format.order x h' == some Ordering.gt) = false := fun _ => (ord_gt x h' nx H3).trans (by rw [px, H4]; simp; try omega)
    clear y1 y2 y3 c hq hp hxl hvx px h0x h0y hfy Y1 Y2 Y3 Y4 k1 k2 k3 H1 H2 H3 H4
    go_enter Try.func43, Try.ntmps43
    go_wp2_with fail
    refine (isNaN_any x false nx _).mono ?_
    rintro e w' ⟨rfl, rfl⟩
    go_wp2_with fail
    refine (isNaN_any y false ny _).mono ?_
    rintro e w' ⟨rfl, rfl⟩
    go_wp2_with fail
    refine (ci _).mono ?_
    rintro e w' ⟨rfl, rfl⟩
    go_wp2_with fail
    refine (cj _).mono ?_
    rintro e w' ⟨rfl, rfl⟩
    go_wp2_with fail
    refine (cm _).mono ?_
    rintro e w' ⟨rfl, rfl⟩
    go_wp2
    go_ret
    exact ⟨rfl, rfl⟩
  · have tT : ∀ _ : True, (FloatKind.f64.format.order Y 9007199254740992 == some Ordering.lt) = false := fun _ => (ord_lt Y _ Y3 (by decide)).trans (by rw [Y4, hq]; simp; omega)
    have tH : ∀ _ : True, (FloatKind.f64.format.order Y 9214364837600034815 == some Ordering.lt || FloatKind.f64.format.order Y 9214364837600034815 == some Ordering.eq) = false := fun _ => (ord_le Y _ Y3 (by decide)).trans (by rw [Y4, hp]; simp; omega)
    obtain ⟨h', k1, k2, k3⟩ := half_fit Y hfy (by omega)
    have r2 : ∀ ty w, (binOp .mul ty (.float .f64 4602678819172646912) (.float .f64 Y)).run Try.prog w = .ok (.float .f64 h') w := fun ty w => run_float_arith w .mul ty .f64 _ Y _ k3
    obtain ⟨H1, H2, H3, H4⟩ := pos_rung h' k1
    have tg : ∀ _ : True, (FloatKind.f64.format.order x h' == some Ordering.gt) = false := fun _ => (ord_gt x h' nx H3).trans (by rw [px, H4]; simp; try omega)
    clear c hq hp hxl hvx px h0x h0y hfy Y1 Y2 Y3 Y4 k1 k2 k3 H1 H2 H3 H4
    go_enter Try.func43, Try.ntmps43
    go_wp2_with fail
    refine (isNaN_any x false nx _).mono ?_
    rintro e w' ⟨rfl, rfl⟩
    go_wp2_with fail
    refine (isNaN_any y false ny _).mono ?_
    rintro e w' ⟨rfl, rfl⟩
    go_wp2_with fail
    refine (ci _).mono ?_
    rintro e w' ⟨rfl, rfl⟩
    go_wp2_with fail
    refine (cj _).mono ?_
    rintro e w' ⟨rfl, rfl⟩
    go_wp2
    go_ret
    exact ⟨rfl, rfl⟩

set_option maxHeartbeats 400000 in
theorem rm_x0_f (x y : Nat) (hx : x < 18446744073709551616) (hy : y < 18446744073709551616) (hfy : rung y < 9218868437227405312) (h0x : rung x = 0) (h0y : rung y ≠ 0) (hny : negB y = false) (w : World) :
    Calls Try.prog 43 #[.float .f64 x, .float .f64 y] w fun e w' => e = .returned (.float .f64 x) ∧ w = w' := by
  have nx : isNan x = false := by unfold isNan; simp; omega
  have ny : isNan y = false := by unfold isNan; simp; omega
  have ix : isInf x = false := by unfold isInf; simp; omega
  have iy : isInf y = false := by unfold isInf; simp; omega
  have ci := fun w => isInf_zero x hx w
  rw [ix] at ci
  have cj := fun w => isInf_zero y hy w
  rw [iy] at cj
  have ty : ∀ _ : True, (FloatKind.f64.format.order y 0 == some Ordering.eq) = false := fun _ => y_not_zero y h0y
  have tx : ∀ _ : True, (FloatKind.f64.format.order x 0 == some Ordering.lt) = false := fun _ => (ord_lt x 0 nx nan_zero).trans (by rw [place_zero, (place_eq_zero x).2 h0x]; simp)
  have tyl : ∀ _ : True, (FloatKind.f64.format.order y 0 == some Ordering.lt) = false := fun _ => (ord_lt y 0 ny nan_zero).trans (by rw [place_zero]; unfold place; rw [hny]; simp; try omega)
  have px := (place_eq_zero x).2 h0x
  have hvx : val (rung x) = 0 := by rw [h0x, val_zero]
  have ey := neg_num y hy
  have wy := word_of y hy
  rw [hny] at ey wy
  obtain ⟨Y, hY⟩ : ∃ Y, Y = rung y := ⟨_, rfl⟩
  rw [← hY] at ey wy hfy h0y
  obtain ⟨Y1, Y2, Y3, Y4⟩ := pos_rung Y hfy
  have teq : ∀ _ : True, (FloatKind.f64.format.order x Y == some Ordering.eq) = false := fun _ => (ord_eq x Y nx Y3).trans (by rw [px, Y4]; simp; omega)
  have hyY : Y = y := wy
  clear wy ey hY
  subst hyY
  have hxl : rung x < 9218868437227405312 := by omega
  have hq : place 9007199254740992 = 9007199254740992 := by decide
  have hp : place 9214364837600034815 = 9214364837600034815 := by decide
  rcases (by omega : Y < 9007199254740992 ∨ (9007199254740992 ≤ Y ∧ Y ≤ 9214364837600034815) ∨ 9214364837600034815 < Y) with c | c | c
  · have tT : ∀ _ : True, (FloatKind.f64.format.order Y 9007199254740992 == some Ordering.lt) = true := fun _ => (ord_lt Y _ Y3 (by decide)).trans (by rw [Y4, hq]; simp; omega)
    have tH : ∀ _ : True, (FloatKind.f64.format.order Y 9214364837600034815 == some Ordering.lt || FloatKind.f64.format.order Y 9214364837600034815 == some Ordering.eq) = true := fun _ => (ord_le Y _ Y3 (by decide)).trans (by rw [Y4, hp]; simp; omega)
    obtain ⟨yy, y1, y2, y3⟩ := add_self Y hfy false (double_ok Y (by omega))
    have cm : ∀ w, Calls Try.prog 28 #[.float .f64 x, .float .f64 yy] w fun e w' => e = .returned (.float .f64 x) ∧ w = w' := fun w => by
      have hyy : rung yy ≠ 0 := by rw [(pos_rung yy y1).1]; intro g; rw [g, val_zero] at y2; have := val_pos' Y h0y; omega
      have := Mod_any x yy hx (by omega) hyy hxl (by rw [(pos_rung yy y1).1]; exact y1) w
      have e : modW x yy = x := by
        unfold modW; rw [hvx, Nat.zero_mod, near_zero]
        have := word_of x hx
        rw [h0x] at this; exact this
      rw [e] at this; exact this
    have r1 : ∀ ty w, (binOp .add ty (.float .f64 Y) (.float .f64 Y)).run Try.prog w = .ok (.float .f64 yy) w := fun ty w => run_float_arith w .add ty .f64 Y Y yy y3
    obtain ⟨xx, z1, z2, z3⟩ := add_self 0 (by omega) (negB x) (by rw [val_zero]; have := topU_big; omega)
    have hx0 : x = wordD (negB x) 0 := by have := word_of x hx; rw [h0x] at this; exact this.symm
    rw [← hx0] at z3
    have r2 : ∀ ty w, (binOp .add ty (.float .f64 x) (.float .f64 x)).run Try.prog w = .ok (.float .f64 (wordD (negB x) xx)) w := fun ty w => run_float_arith w .add ty .f64 x x _ z3
    have hxx : xx = 0 := val_inj (by rw [z2, val_zero])
    obtain ⟨pw1, pw2⟩ := place_word (negB x) xx z1
    have tg : ∀ _ : True, (FloatKind.f64.format.order (wordD (negB x) xx) Y == some Ordering.gt) = false := fun _ => (ord_gt _ Y pw1 Y3).trans (by rw [pw2, Y4, hxx]; simp; try (split <;> omega))
    generalize wordD (negB x) xx = xw at *
    clear hx0 z1 z2 z3 hxx pw1 pw2 y1 y2 y3 c hq hp hxl hvx px h0x h0y hfy Y1 Y2 Y3 Y4
    go_enter Try.func43, Try.ntmps43
    go_wp2_with fail
    refine (isNaN_any x false nx _).mono ?_
    rintro e w' ⟨rfl, rfl⟩
    go_wp2_with fail
    refine (isNaN_any Y false ny _).mono ?_
    rintro e w' ⟨rfl, rfl⟩
    go_wp2_with fail
    refine (ci _).mono ?_
    rintro e w' ⟨rfl, rfl⟩
    go_wp2_with fail
    refine (cj _).mono ?_
    rintro e w' ⟨rfl, rfl⟩
    go_wp2_with fail
    refine (cm _).mono ?_
    rintro e w' ⟨rfl, rfl⟩
    go_wp2
    go_ret
    exact ⟨rfl, rfl⟩
  · have tT : ∀ _ : True, (FloatKind.f64.format.order Y 9007199254740992 == some Ordering.lt) = false := fun _ => (ord_lt Y _ Y3 (by decide)).trans (by rw [Y4, hq]; simp; omega)
    have tH : ∀ _ : True, (FloatKind.f64.format.order Y 9214364837600034815 == some Ordering.lt || FloatKind.f64.format.order Y 9214364837600034815 == some Ordering.eq) = true := fun _ => (ord_le Y _ Y3 (by decide)).trans (by rw [Y4, hp]; simp; omega)
    obtain ⟨yy, y1, y2, y3⟩ := add_self Y hfy false (double_ok Y (by omega))
    have cm : ∀ w, Calls Try.prog 28 #[.float .f64 x, .float .f64 yy] w fun e w' => e = .returned (.float .f64 x) ∧ w = w' := fun w => by
      have hyy : rung yy ≠ 0 := by rw [(pos_rung yy y1).1]; intro g; rw [g, val_zero] at y2; have := val_pos' Y h0y; omega
      have := Mod_any x yy hx (by omega) hyy hxl (by rw [(pos_rung yy y1).1]; exact y1) w
      have e : modW x yy = x := by
        unfold modW; rw [hvx, Nat.zero_mod, near_zero]
        have := word_of x hx
        rw [h0x] at this; exact this
      rw [e] at this; exact this
    have r1 : ∀ ty w, (binOp .add ty (.float .f64 Y) (.float .f64 Y)).run Try.prog w = .ok (.float .f64 yy) w := fun ty w => run_float_arith w .add ty .f64 Y Y yy y3
    obtain ⟨h', k1, k2, k3⟩ := half_fit Y hfy (by omega)
    have r2 : ∀ ty w, (binOp .mul ty (.float .f64 4602678819172646912) (.float .f64 Y)).run Try.prog w = .ok (.float .f64 h') w := fun ty w => run_float_arith w .mul ty .f64 _ Y _ k3
    obtain ⟨H1, H2, H3, H4⟩ := pos_rung h' k1
    have tg : ∀ _ : True, (FloatKind.f64.format.order x h' == some Ordering.gt) = false := fun _ => (ord_gt x h' nx H3).trans (by rw [px, H4]; simp; try omega)
    clear y1 y2 y3 c hq hp hxl hvx px h0x h0y hfy Y1 Y2 Y3 Y4 k1 k2 k3 H1 H2 H3 H4
    go_enter Try.func43, Try.ntmps43
    go_wp2_with fail
    refine (isNaN_any x false nx _).mono ?_
    rintro e w' ⟨rfl, rfl⟩
    go_wp2_with fail
    refine (isNaN_any Y false ny _).mono ?_
    rintro e w' ⟨rfl, rfl⟩
    go_wp2_with fail
    refine (ci _).mono ?_
    rintro e w' ⟨rfl, rfl⟩
    go_wp2_with fail
    refine (cj _).mono ?_
    rintro e w' ⟨rfl, rfl⟩
    go_wp2_with fail
    refine (cm _).mono ?_
    rintro e w' ⟨rfl, rfl⟩
    go_wp2
    go_ret
    exact ⟨rfl, rfl⟩
  · have tT : ∀ _ : True, (FloatKind.f64.format.order Y 9007199254740992 == some Ordering.lt) = false := fun _ => (ord_lt Y _ Y3 (by decide)).trans (by rw [Y4, hq]; simp; omega)
    have tH : ∀ _ : True, (FloatKind.f64.format.order Y 9214364837600034815 == some Ordering.lt || FloatKind.f64.format.order Y 9214364837600034815 == some Ordering.eq) = false := fun _ => (ord_le Y _ Y3 (by decide)).trans (by rw [Y4, hp]; simp; omega)
    obtain ⟨h', k1, k2, k3⟩ := half_fit Y hfy (by omega)
    have r2 : ∀ ty w, (binOp .mul ty (.float .f64 4602678819172646912) (.float .f64 Y)).run Try.prog w = .ok (.float .f64 h') w := fun ty w => run_float_arith w .mul ty .f64 _ Y _ k3
    obtain ⟨H1, H2, H3, H4⟩ := pos_rung h' k1
    have tg : ∀ _ : True, (FloatKind.f64.format.order x h' == some Ordering.gt) = false := fun _ => (ord_gt x h' nx H3).trans (by rw [px, H4]; simp; try omega)
    clear c hq hp hxl hvx px h0x h0y hfy Y1 Y2 Y3 Y4 k1 k2 k3 H1 H2 H3 H4
    go_enter Try.func43, Try.ntmps43
    go_wp2_with fail
    refine (isNaN_any x false nx _).mono ?_
    rintro e w' ⟨rfl, rfl⟩
    go_wp2_with fail
    refine (isNaN_any Y false ny _).mono ?_
    rintro e w' ⟨rfl, rfl⟩
    go_wp2_with fail
    refine (ci _).mono ?_
    rintro e w' ⟨rfl, rfl⟩
    go_wp2_with fail
    refine (cj _).mono ?_
    rintro e w' ⟨rfl, rfl⟩
    go_wp2
    go_ret
    exact ⟨rfl, rfl⟩

set_option maxHeartbeats 400000 in
theorem rm_eq_tt (x y : Nat) (hx : x < 18446744073709551616) (hy : y < 18446744073709551616) (hfx : rung x < 9218868437227405312) (hfy : rung y < 9218868437227405312) (h0x : rung x ≠ 0) (h0y : rung y ≠ 0) (hnx : negB x = true) (hny : negB y = true) (heq : rung x = rung y) (w : World) :
    Calls Try.prog 43 #[.float .f64 x, .float .f64 y] w fun e w' => e = .returned (.float .f64 (wordD true 0)) ∧ w = w' := by
  have nx : isNan x = false := by unfold isNan; simp; omega
  have ny : isNan y = false := by unfold isNan; simp; omega
  have ix : isInf x = false := by unfold isInf; simp; omega
  have iy : isInf y = false := by unfold isInf; simp; omega
  have ci := fun w => isInf_zero x hx w
  rw [ix] at ci
  have cj := fun w => isInf_zero y hy w
  rw [iy] at cj
  have ty : ∀ _ : True, (FloatKind.f64.format.order y 0 == some Ordering.eq) = false := fun _ => y_not_zero y h0y
  have tx : ∀ _ : True, (FloatKind.f64.format.order x 0 == some Ordering.lt) = true := fun _ => (ord_lt x 0 nx nan_zero).trans (by rw [place_zero]; unfold place; rw [hnx]; simp; try omega)
  have tyl : ∀ _ : True, (FloatKind.f64.format.order y 0 == some Ordering.lt) = true := fun _ => (ord_lt y 0 ny nan_zero).trans (by rw [place_zero]; unfold place; rw [hny]; simp; try omega)
  have ex := neg_num x hx
  have wx := word_of x hx
  rw [hnx] at ex wx
  have ey := neg_num y hy
  have wy := word_of y hy
  rw [hny] at ey wy
  obtain ⟨X, hX⟩ : ∃ X, X = rung x := ⟨_, rfl⟩
  obtain ⟨Y, hY⟩ : ∃ Y, Y = rung y := ⟨_, rfl⟩
  rw [← hX] at ex wx hfx heq h0x
  rw [← hY] at ey wy hfy heq h0y
  have rx : ∀ w, (Op.unary .neg (.float .f64 x)).run Try.prog w = .ok (.float .f64 X) w := fun w => by
    have g : x ^^^ 9223372036854775808 = X := ex
    rw [← g]; rfl
  have ry : ∀ w, (Op.unary .neg (.float .f64 y)).run Try.prog w = .ok (.float .f64 Y) w := fun w => by
    have g : y ^^^ 9223372036854775808 = Y := ey
    rw [← g]; rfl
  obtain ⟨X1, X2, X3, X4⟩ := pos_rung X hfx
  obtain ⟨Y1, Y2, Y3, Y4⟩ := pos_rung Y hfy
  have teq : ∀ _ : True, (FloatKind.f64.format.order X Y == some Ordering.eq) = true := fun _ => (ord_eq X Y X3 Y3).trans (by rw [X4, Y4]; simp; omega)
  have rz : ∀ w, (Op.unary .neg (.float .f64 0)).run Try.prog w = .ok (.float .f64 9223372036854775808) w := fun w => rfl
  rw [show wordD true 0 = 9223372036854775808 by decide]
  clear hfx hfy heq h0x h0y hnx hny X1 X2 X3 X4 Y1 Y2 Y3 Y4 ix iy
  clear wx wy ex ey hX hY
  go_enter Try.func43, Try.ntmps43
  go_wp2_with fail
  refine (isNaN_any x false nx _).mono ?_
  rintro e w' ⟨rfl, rfl⟩
  go_wp2_with fail
  refine (isNaN_any y false ny _).mono ?_
  rintro e w' ⟨rfl, rfl⟩
  go_wp2_with fail
  refine (ci _).mono ?_
  rintro e w' ⟨rfl, rfl⟩
  go_wp2_with fail
  refine (cj _).mono ?_
  rintro e w' ⟨rfl, rfl⟩
  go_wp2
  go_ret
  exact ⟨rfl, rfl⟩

set_option maxHeartbeats 400000 in
theorem rm_eq_tf (x y : Nat) (hx : x < 18446744073709551616) (hy : y < 18446744073709551616) (hfx : rung x < 9218868437227405312) (hfy : rung y < 9218868437227405312) (h0x : rung x ≠ 0) (h0y : rung y ≠ 0) (hnx : negB x = true) (hny : negB y = false) (heq : rung x = rung y) (w : World) :
    Calls Try.prog 43 #[.float .f64 x, .float .f64 y] w fun e w' => e = .returned (.float .f64 (wordD true 0)) ∧ w = w' := by
  have nx : isNan x = false := by unfold isNan; simp; omega
  have ny : isNan y = false := by unfold isNan; simp; omega
  have ix : isInf x = false := by unfold isInf; simp; omega
  have iy : isInf y = false := by unfold isInf; simp; omega
  have ci := fun w => isInf_zero x hx w
  rw [ix] at ci
  have cj := fun w => isInf_zero y hy w
  rw [iy] at cj
  have ty : ∀ _ : True, (FloatKind.f64.format.order y 0 == some Ordering.eq) = false := fun _ => y_not_zero y h0y
  have tx : ∀ _ : True, (FloatKind.f64.format.order x 0 == some Ordering.lt) = true := fun _ => (ord_lt x 0 nx nan_zero).trans (by rw [place_zero]; unfold place; rw [hnx]; simp; try omega)
  have tyl : ∀ _ : True, (FloatKind.f64.format.order y 0 == some Ordering.lt) = false := fun _ => (ord_lt y 0 ny nan_zero).trans (by rw [place_zero]; unfold place; rw [hny]; simp; try omega)
  have ex := neg_num x hx
  have wx := word_of x hx
  rw [hnx] at ex wx
  have ey := neg_num y hy
  have wy := word_of y hy
  rw [hny] at ey wy
  obtain ⟨X, hX⟩ : ∃ X, X = rung x := ⟨_, rfl⟩
  obtain ⟨Y, hY⟩ : ∃ Y, Y = rung y := ⟨_, rfl⟩
  rw [← hX] at ex wx hfx heq h0x
  rw [← hY] at ey wy hfy heq h0y
  have rx : ∀ w, (Op.unary .neg (.float .f64 x)).run Try.prog w = .ok (.float .f64 X) w := fun w => by
    have g : x ^^^ 9223372036854775808 = X := ex
    rw [← g]; rfl
  obtain ⟨X1, X2, X3, X4⟩ := pos_rung X hfx
  obtain ⟨Y1, Y2, Y3, Y4⟩ := pos_rung Y hfy
  have teq : ∀ _ : True, (FloatKind.f64.format.order X Y == some Ordering.eq) = true := fun _ => (ord_eq X Y X3 Y3).trans (by rw [X4, Y4]; simp; omega)
  have rz : ∀ w, (Op.unary .neg (.float .f64 0)).run Try.prog w = .ok (.float .f64 9223372036854775808) w := fun w => rfl
  rw [show wordD true 0 = 9223372036854775808 by decide]
  clear hfx hfy heq h0x h0y hnx hny X1 X2 X3 X4 Y1 Y2 Y3 Y4 ix iy
  have hyY : Y = y := wy
  clear wx wy ex ey hX hY
  subst hyY
  go_enter Try.func43, Try.ntmps43
  go_wp2_with fail
  refine (isNaN_any x false nx _).mono ?_
  rintro e w' ⟨rfl, rfl⟩
  go_wp2_with fail
  refine (isNaN_any Y false ny _).mono ?_
  rintro e w' ⟨rfl, rfl⟩
  go_wp2_with fail
  refine (ci _).mono ?_
  rintro e w' ⟨rfl, rfl⟩
  go_wp2_with fail
  refine (cj _).mono ?_
  rintro e w' ⟨rfl, rfl⟩
  go_wp2
  go_ret
  exact ⟨rfl, rfl⟩

set_option maxHeartbeats 400000 in
theorem rm_eq_ft (x y : Nat) (hx : x < 18446744073709551616) (hy : y < 18446744073709551616) (hfx : rung x < 9218868437227405312) (hfy : rung y < 9218868437227405312) (h0x : rung x ≠ 0) (h0y : rung y ≠ 0) (hnx : negB x = false) (hny : negB y = true) (heq : rung x = rung y) (w : World) :
    Calls Try.prog 43 #[.float .f64 x, .float .f64 y] w fun e w' => e = .returned (.float .f64 (wordD false 0)) ∧ w = w' := by
  have nx : isNan x = false := by unfold isNan; simp; omega
  have ny : isNan y = false := by unfold isNan; simp; omega
  have ix : isInf x = false := by unfold isInf; simp; omega
  have iy : isInf y = false := by unfold isInf; simp; omega
  have ci := fun w => isInf_zero x hx w
  rw [ix] at ci
  have cj := fun w => isInf_zero y hy w
  rw [iy] at cj
  have ty : ∀ _ : True, (FloatKind.f64.format.order y 0 == some Ordering.eq) = false := fun _ => y_not_zero y h0y
  have tx : ∀ _ : True, (FloatKind.f64.format.order x 0 == some Ordering.lt) = false := fun _ => (ord_lt x 0 nx nan_zero).trans (by rw [place_zero]; unfold place; rw [hnx]; simp; try omega)
  have tyl : ∀ _ : True, (FloatKind.f64.format.order y 0 == some Ordering.lt) = true := fun _ => (ord_lt y 0 ny nan_zero).trans (by rw [place_zero]; unfold place; rw [hny]; simp; try omega)
  have ex := neg_num x hx
  have wx := word_of x hx
  rw [hnx] at ex wx
  have ey := neg_num y hy
  have wy := word_of y hy
  rw [hny] at ey wy
  obtain ⟨X, hX⟩ : ∃ X, X = rung x := ⟨_, rfl⟩
  obtain ⟨Y, hY⟩ : ∃ Y, Y = rung y := ⟨_, rfl⟩
  rw [← hX] at ex wx hfx heq h0x
  rw [← hY] at ey wy hfy heq h0y
  have ry : ∀ w, (Op.unary .neg (.float .f64 y)).run Try.prog w = .ok (.float .f64 Y) w := fun w => by
    have g : y ^^^ 9223372036854775808 = Y := ey
    rw [← g]; rfl
  obtain ⟨X1, X2, X3, X4⟩ := pos_rung X hfx
  obtain ⟨Y1, Y2, Y3, Y4⟩ := pos_rung Y hfy
  have teq : ∀ _ : True, (FloatKind.f64.format.order X Y == some Ordering.eq) = true := fun _ => (ord_eq X Y X3 Y3).trans (by rw [X4, Y4]; simp; omega)
  rw [show wordD false 0 = 0 by decide]
  clear hfx hfy heq h0x h0y hnx hny X1 X2 X3 X4 Y1 Y2 Y3 Y4 ix iy
  have hxX : X = x := wx
  clear wx wy ex ey hX hY
  subst hxX
  go_enter Try.func43, Try.ntmps43
  go_wp2_with fail
  refine (isNaN_any X false nx _).mono ?_
  rintro e w' ⟨rfl, rfl⟩
  go_wp2_with fail
  refine (isNaN_any y false ny _).mono ?_
  rintro e w' ⟨rfl, rfl⟩
  go_wp2_with fail
  refine (ci _).mono ?_
  rintro e w' ⟨rfl, rfl⟩
  go_wp2_with fail
  refine (cj _).mono ?_
  rintro e w' ⟨rfl, rfl⟩
  go_wp2
  go_ret
  exact ⟨rfl, rfl⟩

set_option maxHeartbeats 400000 in
theorem rm_eq_ff (x y : Nat) (hx : x < 18446744073709551616) (hy : y < 18446744073709551616) (hfx : rung x < 9218868437227405312) (hfy : rung y < 9218868437227405312) (h0x : rung x ≠ 0) (h0y : rung y ≠ 0) (hnx : negB x = false) (hny : negB y = false) (heq : rung x = rung y) (w : World) :
    Calls Try.prog 43 #[.float .f64 x, .float .f64 y] w fun e w' => e = .returned (.float .f64 (wordD false 0)) ∧ w = w' := by
  have nx : isNan x = false := by unfold isNan; simp; omega
  have ny : isNan y = false := by unfold isNan; simp; omega
  have ix : isInf x = false := by unfold isInf; simp; omega
  have iy : isInf y = false := by unfold isInf; simp; omega
  have ci := fun w => isInf_zero x hx w
  rw [ix] at ci
  have cj := fun w => isInf_zero y hy w
  rw [iy] at cj
  have ty : ∀ _ : True, (FloatKind.f64.format.order y 0 == some Ordering.eq) = false := fun _ => y_not_zero y h0y
  have tx : ∀ _ : True, (FloatKind.f64.format.order x 0 == some Ordering.lt) = false := fun _ => (ord_lt x 0 nx nan_zero).trans (by rw [place_zero]; unfold place; rw [hnx]; simp; try omega)
  have tyl : ∀ _ : True, (FloatKind.f64.format.order y 0 == some Ordering.lt) = false := fun _ => (ord_lt y 0 ny nan_zero).trans (by rw [place_zero]; unfold place; rw [hny]; simp; try omega)
  have ex := neg_num x hx
  have wx := word_of x hx
  rw [hnx] at ex wx
  have ey := neg_num y hy
  have wy := word_of y hy
  rw [hny] at ey wy
  obtain ⟨X, hX⟩ : ∃ X, X = rung x := ⟨_, rfl⟩
  obtain ⟨Y, hY⟩ : ∃ Y, Y = rung y := ⟨_, rfl⟩
  rw [← hX] at ex wx hfx heq h0x
  rw [← hY] at ey wy hfy heq h0y
  obtain ⟨X1, X2, X3, X4⟩ := pos_rung X hfx
  obtain ⟨Y1, Y2, Y3, Y4⟩ := pos_rung Y hfy
  have teq : ∀ _ : True, (FloatKind.f64.format.order X Y == some Ordering.eq) = true := fun _ => (ord_eq X Y X3 Y3).trans (by rw [X4, Y4]; simp; omega)
  rw [show wordD false 0 = 0 by decide]
  clear hfx hfy heq h0x h0y hnx hny X1 X2 X3 X4 Y1 Y2 Y3 Y4 ix iy
  have hxX : X = x := wx
  have hyY : Y = y := wy
  clear wx wy ex ey hX hY
  subst hxX
  subst hyY
  go_enter Try.func43, Try.ntmps43
  go_wp2_with fail
  refine (isNaN_any X false nx _).mono ?_
  rintro e w' ⟨rfl, rfl⟩
  go_wp2_with fail
  refine (isNaN_any Y false ny _).mono ?_
  rintro e w' ⟨rfl, rfl⟩
  go_wp2_with fail
  refine (ci _).mono ?_
  rintro e w' ⟨rfl, rfl⟩
  go_wp2_with fail
  refine (cj _).mono ?_
  rintro e w' ⟨rfl, rfl⟩
  go_wp2
  go_ret
  exact ⟨rfl, rfl⟩

end Go.Proofs.Ytbpggopjiogimaa
