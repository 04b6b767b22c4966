/- The contracts of the package's remainder and of what calls it: by the bits. -/
import Derived.Test.YtbpggopjiogimaaWalkF21
import Derived.Test.YtbpggopjiogimaaFRem2
set_option linter.unusedVariables false
namespace Go.Proofs.Ytbpggopjiogimaa
open Go.RowKit Go.Proofs.Ytbpggopjiogimaa.Plain

set_option maxHeartbeats 400000 in
theorem rm_tt_T1 (x y : Nat) (hx : x < 18446744073709551616) (hy : y < 18446744073709551616) (hfx : rung x < 9218868437227405312) (hfy : rung y < 9218868437227405312) (h0x : rung x ≠ 0) (h0y : rung y ≠ 0) (hnx : negB x = true) (hny : negB y = true) (hne : rung x ≠ rung y) (hbr : rung y < 9007199254740992) (Z : Nat) (hZ : Z = val (rung x) % (2 * val (rung y))) (hc : ¬ val (rung y) < 2 * Z) (w : World) :
    Calls Try.prog 43 #[.float .f64 x, .float .f64 y] w fun e w' => e = .returned (.float .f64 (remW x y)) ∧ w = w' := by
  have nx : isNan x = false := by unfold isNan; simp; omega
  have ny : isNan y = false := by unfold isNan; simp; omega
  have ix : isInf x = false := by unfold isInf; simp; omega
  have iy : isInf y = false := by unfold isInf; simp; omega
  have ci := fun w => isInf_zero x hx w
  rw [ix] at ci
  have cj := fun w => isInf_zero y hy w
  rw [iy] at cj
  have ty : ∀ _ : True, (FloatKind.f64.format.order y 0 == some Ordering.eq) = false := fun _ => y_not_zero y h0y
  have tx : ∀ _ : True, (FloatKind.f64.format.order x 0 == some Ordering.lt) = true := fun _ => (ord_lt x 0 nx nan_zero).trans (by rw [place_zero]; unfold place; rw [hnx]; simp; try omega)
  have tyl : ∀ _ : True, (FloatKind.f64.format.order y 0 == some Ordering.lt) = true := fun _ => (ord_lt y 0 ny nan_zero).trans (by rw [place_zero]; unfold place; rw [hny]; simp; try omega)
  have hout := rem_out x y Z (val_pos' _ h0y) hZ
  have hW := hout.1 hc
  rw [hnx] at hW
  generalize remW x y = MW at *
  clear hout
  have ex := neg_num x hx
  have wx := word_of x hx
  rw [hnx] at ex wx
  have ey := neg_num y hy
  have wy := word_of y hy
  rw [hny] at ey wy
  obtain ⟨X, hX⟩ : ∃ X, X = rung x := ⟨_, rfl⟩
  obtain ⟨Y, hY⟩ : ∃ Y, Y = rung y := ⟨_, rfl⟩
  rw [← hX] at ex wx hfx hZ hne h0x
  rw [← hY] at ey wy hfy hZ hne hbr hc h0y
  have rx : ∀ w, (Op.unary .neg (.float .f64 x)).run Try.prog w = .ok (.float .f64 X) w := fun w => by
    have g : x ^^^ 9223372036854775808 = X := ex
    rw [← g]; rfl
  have ry : ∀ w, (Op.unary .neg (.float .f64 y)).run Try.prog w = .ok (.float .f64 Y) w := fun w => by
    have g : y ^^^ 9223372036854775808 = Y := ey
    rw [← g]; rfl
  obtain ⟨X1, X2, X3, X4⟩ := pos_rung X hfx
  obtain ⟨Y1, Y2, Y3, Y4⟩ := pos_rung Y hfy
  have hYp := val_pos' Y h0y
  have hq : place 9007199254740992 = 9007199254740992 := by decide
  have hp : place 9214364837600034815 = 9214364837600034815 := by decide
  have teq : ∀ _ : True, (FloatKind.f64.format.order X Y == some Ordering.eq) = false := fun _ => (ord_eq X Y X3 Y3).trans (by rw [X4, Y4]; simp; omega)
  have tT : ∀ _ : True, (FloatKind.f64.format.order Y 9007199254740992 == some Ordering.lt) = true := fun _ => (ord_lt Y _ Y3 (by decide)).trans (by rw [Y4, hq]; simp; omega)
  have tH : ∀ _ : True, (FloatKind.f64.format.order Y 9214364837600034815 == some Ordering.lt || FloatKind.f64.format.order Y 9214364837600034815 == some Ordering.eq) = true := fun _ => (ord_le Y _ Y3 (by decide)).trans (by rw [Y4, hp]; simp; omega)
  have hZ2 : Z < 2 * val Y := by rw [hZ]; exact Nat.mod_lt _ (by omega)
  obtain ⟨yy, a, y1, y0, y3, a1, a2, a3⟩ := rem_first X Y hfx hfy h0y (by omega)
  obtain ⟨q1, q2, q3, q4⟩ := pos_rung yy y1
  have cm := fun w => Mod_any X yy (by omega) (by omega) (by omega) (by omega) (by omega) w
  rw [a3] at cm
  have ryy : ∀ ty w, (binOp .add ty (.float .f64 Y) (.float .f64 Y)).run Try.prog w = .ok (.float .f64 yy) w := fun ty w => run_float_arith w .add ty .f64 Y Y yy y3
  have aZ : val a = Z := by rw [a2, hZ]
  clear a2 a3 q1 q2 q3 q4 y0 y1 y3
  obtain ⟨A1, A2, A3, A4⟩ := pos_rung a a1
  have hvt := val_tiny Y hbr
  obtain ⟨aa, b1, b2, b3⟩ := add_self a a1 false (by have := topU_big; omega)
  have raa : ∀ ty w, (binOp .add ty (.float .f64 a) (.float .f64 a)).run Try.prog w = .ok (.float .f64 aa) w := fun ty w => run_float_arith w .add ty .f64 _ _ aa b3
  obtain ⟨B1, B2, B3, B4⟩ := pos_rung aa b1
  have hlt := @val_lt_iff Y aa
  have tg : ∀ _ : True, (FloatKind.f64.format.order aa Y == some Ordering.gt) = false := fun _ => (ord_gt aa Y B3 Y3).trans (by rw [B4, Y4]; simp; omega)
  rw [← aZ, near_val true a (by omega)] at hW
  have ern := neg_wordX false a (by omega)
  have rn : ∀ w, (Op.unary .neg (.float .f64 a)).run Try.prog w = .ok (.float .f64 MW) w := fun w => by
    have g' : wordD false a ^^^ 9223372036854775808 = MW := ern.trans hW.symm
    rw [← g']; rfl
  clear ern
  have HALL := Lib.hid (And.intro aZ (And.intro hZ2 hYp))
  clear hW aZ hZ hZ2 hYp hc hbr hne hfx hfy h0x h0y hnx hny ix iy X1 X2 X3 X4 Y1 Y2 Y3 Y4 A1 A2 A3 A4 a1 hq hp hlt hvt b1 b2 b3 B1 B2 B3 B4
  clear wx wy ex ey hX hY
  go_enter Try.func43, Try.ntmps43
  go_wp2_with fail
  refine (isNaN_any x false nx _).mono ?_
  rintro e w' ⟨rfl, rfl⟩
  go_wp2_with fail
  refine (isNaN_any y false ny _).mono ?_
  rintro e w' ⟨rfl, rfl⟩
  go_wp2_with fail
  refine (ci _).mono ?_
  rintro e w' ⟨rfl, rfl⟩
  go_wp2_with fail
  refine (cj _).mono ?_
  rintro e w' ⟨rfl, rfl⟩
  go_wp2_with fail
  refine (cm _).mono ?_
  rintro e w' ⟨rfl, rfl⟩
  go_wp2
  go_ret
  exact ⟨rfl, rfl⟩

set_option maxHeartbeats 400000 in
theorem rm_tt_T2 (x y : Nat) (hx : x < 18446744073709551616) (hy : y < 18446744073709551616) (hfx : rung x < 9218868437227405312) (hfy : rung y < 9218868437227405312) (h0x : rung x ≠ 0) (h0y : rung y ≠ 0) (hnx : negB x = true) (hny : negB y = true) (hne : rung x ≠ rung y) (hbr : rung y < 9007199254740992) (Z : Nat) (hZ : Z = val (rung x) % (2 * val (rung y))) (hc : val (rung y) < 2 * Z ∧ Z < val (rung y)) (w : World) :
    Calls Try.prog 43 #[.float .f64 x, .float .f64 y] w fun e w' => e = .returned (.float .f64 (remW x y)) ∧ w = w' := by
  have nx : isNan x = false := by unfold isNan; simp; omega
  have ny : isNan y = false := by unfold isNan; simp; omega
  have ix : isInf x = false := by unfold isInf; simp; omega
  have iy : isInf y = false := by unfold isInf; simp; omega
  have ci := fun w => isInf_zero x hx w
  rw [ix] at ci
  have cj := fun w => isInf_zero y hy w
  rw [iy] at cj
  have ty : ∀ _ : True, (FloatKind.f64.format.order y 0 == some Ordering.eq) = false := fun _ => y_not_zero y h0y
  have tx : ∀ _ : True, (FloatKind.f64.format.order x 0 == some Ordering.lt) = true := fun _ => (ord_lt x 0 nx nan_zero).trans (by rw [place_zero]; unfold place; rw [hnx]; simp; try omega)
  have tyl : ∀ _ : True, (FloatKind.f64.format.order y 0 == some Ordering.lt) = true := fun _ => (ord_lt y 0 ny nan_zero).trans (by rw [place_zero]; unfold place; rw [hny]; simp; try omega)
  have hout := rem_out x y Z (val_pos' _ h0y) hZ
  have hW := hout.2.1 hc.1 hc.2
  rw [hnx] at hW
  generalize remW x y = MW at *
  clear hout
  have ex := neg_num x hx
  have wx := word_of x hx
  rw [hnx] at ex wx
  have ey := neg_num y hy
  have wy := word_of y hy
  rw [hny] at ey wy
  obtain ⟨X, hX⟩ : ∃ X, X = rung x := ⟨_, rfl⟩
  obtain ⟨Y, hY⟩ : ∃ Y, Y = rung y := ⟨_, rfl⟩
  rw [← hX] at ex wx hfx hZ hne h0x
  rw [← hY] at ey wy hfy hZ hne hbr hc hW h0y
  have rx : ∀ w, (Op.unary .neg (.float .f64 x)).run Try.prog w = .ok (.float .f64 X) w := fun w => by
    have g : x ^^^ 9223372036854775808 = X := ex
    rw [← g]; rfl
  have ry : ∀ w, (Op.unary .neg (.float .f64 y)).run Try.prog w = .ok (.float .f64 Y) w := fun w => by
    have g : y ^^^ 9223372036854775808 = Y := ey
    rw [← g]; rfl
  obtain ⟨X1, X2, X3, X4⟩ := pos_rung X hfx
  obtain ⟨Y1, Y2, Y3, Y4⟩ := pos_rung Y hfy
  have hYp := val_pos' Y h0y
  have hq : place 9007199254740992 = 9007199254740992 := by decide
  have hp : place 9214364837600034815 = 9214364837600034815 := by decide
  have teq : ∀ _ : True, (FloatKind.f64.format.order X Y == some Ordering.eq) = false := fun _ => (ord_eq X Y X3 Y3).trans (by rw [X4, Y4]; simp; omega)
  have tT : ∀ _ : True, (FloatKind.f64.format.order Y 9007199254740992 == some Ordering.lt) = true := fun _ => (ord_lt Y _ Y3 (by decide)).trans (by rw [Y4, hq]; simp; omega)
  have tH : ∀ _ : True, (FloatKind.f64.format.order Y 9214364837600034815 == some Ordering.lt || FloatKind.f64.format.order Y 9214364837600034815 == some Ordering.eq) = true := fun _ => (ord_le Y _ Y3 (by decide)).trans (by rw [Y4, hp]; simp; omega)
  have hZ2 : Z < 2 * val Y := by rw [hZ]; exact Nat.mod_lt _ (by omega)
  obtain ⟨yy, a, y1, y0, y3, a1, a2, a3⟩ := rem_first X Y hfx hfy h0y (by omega)
  obtain ⟨q1, q2, q3, q4⟩ := pos_rung yy y1
  have cm := fun w => Mod_any X yy (by omega) (by omega) (by omega) (by omega) (by omega) w
  rw [a3] at cm
  have ryy : ∀ ty w, (binOp .add ty (.float .f64 Y) (.float .f64 Y)).run Try.prog w = .ok (.float .f64 yy) w := fun ty w => run_float_arith w .add ty .f64 Y Y yy y3
  have aZ : val a = Z := by rw [a2, hZ]
  clear a2 a3 q1 q2 q3 q4 y0 y1 y3
  obtain ⟨A1, A2, A3, A4⟩ := pos_rung a a1
  have hvt := val_tiny Y hbr
  obtain ⟨aa, b1, b2, b3⟩ := add_self a a1 false (by have := topU_big; omega)
  have raa : ∀ ty w, (binOp .add ty (.float .f64 a) (.float .f64 a)).run Try.prog w = .ok (.float .f64 aa) w := fun ty w => run_float_arith w .add ty .f64 _ _ aa b3
  obtain ⟨B1, B2, B3, B4⟩ := pos_rung aa b1
  have hlt := @val_lt_iff Y aa
  have tg : ∀ _ : True, (FloatKind.f64.format.order aa Y == some Ordering.gt) = true := fun _ => (ord_gt aa Y B3 Y3).trans (by rw [B4, Y4]; simp; omega)
  obtain ⟨d, d1, d2, d3, d4⟩ := sub_near a Y a1 hfy (by omega) (by omega)
  rw [aZ] at d2 d3 d4
  have hdl : decide (Z < val Y) = true := by simp; omega
  rw [hdl] at d2
  have d5 := d4 (by omega)
  clear d3 d4 hdl
  obtain ⟨pd1, pd2⟩ := place_word true d d1
  have rs : ∀ ty w, (binOp .sub ty (.float .f64 a) (.float .f64 Y)).run Try.prog w = .ok (.float .f64 (wordD true d)) w := fun ty w => run_float_arith w .sub ty .f64 _ Y _ d2
  rw [← d5, near_val (!true) d (by omega)] at hW
  obtain ⟨dd, f1, f2, f3⟩ := add_self d d1 true (by have := topU_big; omega)
  have rdd : ∀ ty w, (binOp .add ty (.float .f64 (wordD true d)) (.float .f64 (wordD true d))).run Try.prog w = .ok (.float .f64 (wordD true dd)) w := fun ty w => run_float_arith w .add ty .f64 _ _ _ f3
  obtain ⟨pe1, pe2⟩ := place_word true dd f1
  have tg2 : ∀ _ : True, (FloatKind.f64.format.order (wordD true dd) Y == some Ordering.gt || FloatKind.f64.format.order (wordD true dd) Y == some Ordering.eq) = false := fun _ => (ord_ge _ Y pe1 Y3).trans (by rw [pe2, Y4]; simp; omega)
  generalize wordD true dd = dw at *
  have ern := neg_wordX true d (by omega)
  have rn : ∀ w, (Op.unary .neg (.float .f64 (wordD true d))).run Try.prog w = .ok (.float .f64 MW) w := fun w => by
    have g' : wordD true d ^^^ 9223372036854775808 = MW := ern.trans hW.symm
    rw [← g']; rfl
  clear ern
  generalize wordD true d = rw' at *
  have HALL := Lib.hid (And.intro aZ (And.intro hZ2 hYp))
  clear hW aZ hZ hZ2 hYp hc hbr hne hfx hfy h0x h0y hnx hny ix iy X1 X2 X3 X4 Y1 Y2 Y3 Y4 A1 A2 A3 A4 a1 hq hp hlt hvt b1 b2 b3 B1 B2 B3 B4 d1 d2 d5 pd1 pd2 f1 f2 f3 pe1 pe2
  clear wx wy ex ey hX hY
  go_enter Try.func43, Try.ntmps43
  go_wp2_with fail
  refine (isNaN_any x false nx _).mono ?_
  rintro e w' ⟨rfl, rfl⟩
  go_wp2_with fail
  refine (isNaN_any y false ny _).mono ?_
  rintro e w' ⟨rfl, rfl⟩
  go_wp2_with fail
  refine (ci _).mono ?_
  rintro e w' ⟨rfl, rfl⟩
  go_wp2_with fail
  refine (cj _).mono ?_
  rintro e w' ⟨rfl, rfl⟩
  go_wp2_with fail
  refine (cm _).mono ?_
  rintro e w' ⟨rfl, rfl⟩
  go_wp2
  go_ret
  exact ⟨rfl, rfl⟩

set_option maxHeartbeats 400000 in
theorem rm_tt_T3 (x y : Nat) (hx : x < 18446744073709551616) (hy : y < 18446744073709551616) (hfx : rung x < 9218868437227405312) (hfy : rung y < 9218868437227405312) (h0x : rung x ≠ 0) (h0y : rung y ≠ 0) (hnx : negB x = true) (hny : negB y = true) (hne : rung x ≠ rung y) (hbr : rung y < 9007199254740992) (Z : Nat) (hZ : Z = val (rung x) % (2 * val (rung y))) (hc : val (rung y) ≤ Z ∧ 2 * (Z - val (rung y)) < val (rung y)) (w : World) :
    Calls Try.prog 43 #[.float .f64 x, .float .f64 y] w fun e w' => e = .returned (.float .f64 (remW x y)) ∧ w = w' := by
  have nx : isNan x = false := by unfold isNan; simp; omega
  have ny : isNan y = false := by unfold isNan; simp; omega
  have ix : isInf x = false := by unfold isInf; simp; omega
  have iy : isInf y = false := by unfold isInf; simp; omega
  have ci := fun w => isInf_zero x hx w
  rw [ix] at ci
  have cj := fun w => isInf_zero y hy w
  rw [iy] at cj
  have ty : ∀ _ : True, (FloatKind.f64.format.order y 0 == some Ordering.eq) = false := fun _ => y_not_zero y h0y
  have tx : ∀ _ : True, (FloatKind.f64.format.order x 0 == some Ordering.lt) = true := fun _ => (ord_lt x 0 nx nan_zero).trans (by rw [place_zero]; unfold place; rw [hnx]; simp; try omega)
  have tyl : ∀ _ : True, (FloatKind.f64.format.order y 0 == some Ordering.lt) = true := fun _ => (ord_lt y 0 ny nan_zero).trans (by rw [place_zero]; unfold place; rw [hny]; simp; try omega)
  have hout := rem_out x y Z (val_pos' _ h0y) hZ
  have hW := hout.2.2.1 hc.1 hc.2
  rw [hnx] at hW
  generalize remW x y = MW at *
  clear hout
  have ex := neg_num x hx
  have wx := word_of x hx
  rw [hnx] at ex wx
  have ey := neg_num y hy
  have wy := word_of y hy
  rw [hny] at ey wy
  obtain ⟨X, hX⟩ : ∃ X, X = rung x := ⟨_, rfl⟩
  obtain ⟨Y, hY⟩ : ∃ Y, Y = rung y := ⟨_, rfl⟩
  rw [← hX] at ex wx hfx hZ hne h0x
  rw [← hY] at ey wy hfy hZ hne hbr hc hW h0y
  have rx : ∀ w, (Op.unary .neg (.float .f64 x)).run Try.prog w = .ok (.float .f64 X) w := fun w => by
    have g : x ^^^ 9223372036854775808 = X := ex
    rw [← g]; rfl
  have ry : ∀ w, (Op.unary .neg (.float .f64 y)).run Try.prog w = .ok (.float .f64 Y) w := fun w => by
    have g : y ^^^ 9223372036854775808 = Y := ey
    rw [← g]; rfl
  obtain ⟨X1, X2, X3, X4⟩ := pos_rung X hfx
  obtain ⟨Y1, Y2, Y3, Y4⟩ := pos_rung Y hfy
  have hYp := val_pos' Y h0y
  have hq : place 9007199254740992 = 9007199254740992 := by decide
  have hp : place 9214364837600034815 = 9214364837600034815 := by decide
  have teq : ∀ _ : True, (FloatKind.f64.format.order X Y == some Ordering.eq) = false := fun _ => (ord_eq X Y X3 Y3).trans (by rw [X4, Y4]; simp; omega)
  have tT : ∀ _ : True, (FloatKind.f64.format.order Y 9007199254740992 == some Ordering.lt) = true := fun _ => (ord_lt Y _ Y3 (by decide)).trans (by rw [Y4, hq]; simp; omega)
  have tH : ∀ _ : True, (FloatKind.f64.format.order Y 9214364837600034815 == some Ordering.lt || FloatKind.f64.format.order Y 9214364837600034815 == some Ordering.eq) = true := fun _ => (ord_le Y _ Y3 (by decide)).trans (by rw [Y4, hp]; simp; omega)
  have hZ2 : Z < 2 * val Y := by rw [hZ]; exact Nat.mod_lt _ (by omega)
  obtain ⟨yy, a, y1, y0, y3, a1, a2, a3⟩ := rem_first X Y hfx hfy h0y (by omega)
  obtain ⟨q1, q2, q3, q4⟩ := pos_rung yy y1
  have cm := fun w => Mod_any X yy (by omega) (by omega) (by omega) (by omega) (by omega) w
  rw [a3] at cm
  have ryy : ∀ ty w, (binOp .add ty (.float .f64 Y) (.float .f64 Y)).run Try.prog w = .ok (.float .f64 yy) w := fun ty w => run_float_arith w .add ty .f64 Y Y yy y3
  have aZ : val a = Z := by rw [a2, hZ]
  clear a2 a3 q1 q2 q3 q4 y0 y1 y3
  obtain ⟨A1, A2, A3, A4⟩ := pos_rung a a1
  have hvt := val_tiny Y hbr
  obtain ⟨aa, b1, b2, b3⟩ := add_self a a1 false (by have := topU_big; omega)
  have raa : ∀ ty w, (binOp .add ty (.float .f64 a) (.float .f64 a)).run Try.prog w = .ok (.float .f64 aa) w := fun ty w => run_float_arith w .add ty .f64 _ _ aa b3
  obtain ⟨B1, B2, B3, B4⟩ := pos_rung aa b1
  have hlt := @val_lt_iff Y aa
  have tg : ∀ _ : True, (FloatKind.f64.format.order aa Y == some Ordering.gt) = true := fun _ => (ord_gt aa Y B3 Y3).trans (by rw [B4, Y4]; simp; omega)
  obtain ⟨d, d1, d2, d3, d4⟩ := sub_near a Y a1 hfy (by omega) (by omega)
  rw [aZ] at d2 d3 d4
  have hdl : decide (Z < val Y) = false := by simp; omega
  rw [hdl] at d2
  have d5 := d3 (by omega)
  clear d3 d4 hdl
  obtain ⟨D1, D2, D3, D4⟩ := pos_rung d d1
  have rs : ∀ ty w, (binOp .sub ty (.float .f64 a) (.float .f64 Y)).run Try.prog w = .ok (.float .f64 d) w := fun ty w => run_float_arith w .sub ty .f64 _ Y _ d2
  obtain ⟨dd, f1, f2, f3⟩ := add_self d d1 false (by have := topU_big; omega)
  have rdd : ∀ ty w, (binOp .add ty (.float .f64 d) (.float .f64 d)).run Try.prog w = .ok (.float .f64 dd) w := fun ty w => run_float_arith w .add ty .f64 _ _ _ f3
  obtain ⟨E1, E2, E3, E4⟩ := pos_rung dd f1
  have hlt2 := @val_lt_iff dd Y
  have tg2 : ∀ _ : True, (FloatKind.f64.format.order dd Y == some Ordering.gt || FloatKind.f64.format.order dd Y == some Ordering.eq) = false := fun _ => (ord_ge _ Y E3 Y3).trans (by rw [E4, Y4]; simp; omega)
  rw [← d5, near_val true d (by omega)] at hW
  have ern := neg_wordX false d (by omega)
  have rn : ∀ w, (Op.unary .neg (.float .f64 d)).run Try.prog w = .ok (.float .f64 MW) w := fun w => by
    have g' : wordD false d ^^^ 9223372036854775808 = MW := ern.trans hW.symm
    rw [← g']; rfl
  clear ern
  have HALL := Lib.hid (And.intro aZ (And.intro hZ2 hYp))
  clear hW aZ hZ hZ2 hYp hc hbr hne hfx hfy h0x h0y hnx hny ix iy X1 X2 X3 X4 Y1 Y2 Y3 Y4 A1 A2 A3 A4 a1 hq hp hlt hvt b1 b2 b3 B1 B2 B3 B4 d1 d2 d5 D1 D2 D3 D4 hlt2 f1 f2 f3 E1 E2 E3 E4
  clear wx wy ex ey hX hY
  go_enter Try.func43, Try.ntmps43
  go_wp2_with fail
  refine (isNaN_any x false nx _).mono ?_
  rintro e w' ⟨rfl, rfl⟩
  go_wp2_with fail
  refine (isNaN_any y false ny _).mono ?_
  rintro e w' ⟨rfl, rfl⟩
  go_wp2_with fail
  refine (ci _).mono ?_
  rintro e w' ⟨rfl, rfl⟩
  go_wp2_with fail
  refine (cj _).mono ?_
  rintro e w' ⟨rfl, rfl⟩
  go_wp2_with fail
  refine (cm _).mono ?_
  rintro e w' ⟨rfl, rfl⟩
  go_wp2
  go_ret
  exact ⟨rfl, rfl⟩

set_option maxHeartbeats 400000 in
theorem rm_tt_T4 (x y : Nat) (hx : x < 18446744073709551616) (hy : y < 18446744073709551616) (hfx : rung x < 9218868437227405312) (hfy : rung y < 9218868437227405312) (h0x : rung x ≠ 0) (h0y : rung y ≠ 0) (hnx : negB x = true) (hny : negB y = true) (hne : rung x ≠ rung y) (hbr : rung y < 9007199254740992) (Z : Nat) (hZ : Z = val (rung x) % (2 * val (rung y))) (hc : val (rung y) ≤ Z ∧ val (rung y) ≤ 2 * (Z - val (rung y))) (w : World) :
    Calls Try.prog 43 #[.float .f64 x, .float .f64 y] w fun e w' => e = .returned (.float .f64 (remW x y)) ∧ w = w' := by
  have nx : isNan x = false := by unfold isNan; simp; omega
  have ny : isNan y = false := by unfold isNan; simp; omega
  have ix : isInf x = false := by unfold isInf; simp; omega
  have iy : isInf y = false := by unfold isInf; simp; omega
  have ci := fun w => isInf_zero x hx w
  rw [ix] at ci
  have cj := fun w => isInf_zero y hy w
  rw [iy] at cj
  have ty : ∀ _ : True, (FloatKind.f64.format.order y 0 == some Ordering.eq) = false := fun _ => y_not_zero y h0y
  have tx : ∀ _ : True, (FloatKind.f64.format.order x 0 == some Ordering.lt) = true := fun _ => (ord_lt x 0 nx nan_zero).trans (by rw [place_zero]; unfold place; rw [hnx]; simp; try omega)
  have tyl : ∀ _ : True, (FloatKind.f64.format.order y 0 == some Ordering.lt) = true := fun _ => (ord_lt y 0 ny nan_zero).trans (by rw [place_zero]; unfold place; rw [hny]; simp; try omega)
  have hout := rem_out x y Z (val_pos' _ h0y) hZ
  have hW := hout.2.2.2 hc.1 hc.2
  rw [hnx] at hW
  generalize remW x y = MW at *
  clear hout
  have ex := neg_num x hx
  have wx := word_of x hx
  rw [hnx] at ex wx
  have ey := neg_num y hy
  have wy := word_of y hy
  rw [hny] at ey wy
  obtain ⟨X, hX⟩ : ∃ X, X = rung x := ⟨_, rfl⟩
  obtain ⟨Y, hY⟩ : ∃ Y, Y = rung y := ⟨_, rfl⟩
  rw [← hX] at ex wx hfx hZ hne h0x
  rw [← hY] at ey wy hfy hZ hne hbr hc hW h0y
  have rx : ∀ w, (Op.unary .neg (.float .f64 x)).run Try.prog w = .ok (.float .f64 X) w := fun w => by
    have g : x ^^^ 9223372036854775808 = X := ex
    rw [← g]; rfl
  have ry : ∀ w, (Op.unary .neg (.float .f64 y)).run Try.prog w = .ok (.float .f64 Y) w := fun w => by
    have g : y ^^^ 9223372036854775808 = Y := ey
    rw [← g]; rfl
  obtain ⟨X1, X2, X3, X4⟩ := pos_rung X hfx
  obtain ⟨Y1, Y2, Y3, Y4⟩ := pos_rung Y hfy
  have hYp := val_pos' Y h0y
  have hq : place 9007199254740992 = 9007199254740992 := by decide
  have hp : place 9214364837600034815 = 9214364837600034815 := by decide
  have teq : ∀ _ : True, (FloatKind.f64.format.order X Y == some Ordering.eq) = false := fun _ => (ord_eq X Y X3 Y3).trans (by rw [X4, Y4]; simp; omega)
  have tT : ∀ _ : True, (FloatKind.f64.format.order Y 9007199254740992 == some Ordering.lt) = true := fun _ => (ord_lt Y _ Y3 (by decide)).trans (by rw [Y4, hq]; simp; omega)
  have tH : ∀ _ : True, (FloatKind.f64.format.order Y 9214364837600034815 == some Ordering.lt || FloatKind.f64.format.order Y 9214364837600034815 == some Ordering.eq) = true := fun _ => (ord_le Y _ Y3 (by decide)).trans (by rw [Y4, hp]; simp; omega)
  have hZ2 : Z < 2 * val Y := by rw [hZ]; exact Nat.mod_lt _ (by omega)
  obtain ⟨yy, a, y1, y0, y3, a1, a2, a3⟩ := rem_first X Y hfx hfy h0y (by omega)
  obtain ⟨q1, q2, q3, q4⟩ := pos_rung yy y1
  have cm := fun w => Mod_any X yy (by omega) (by omega) (by omega) (by omega) (by omega) w
  rw [a3] at cm
  have ryy : ∀ ty w, (binOp .add ty (.float .f64 Y) (.float .f64 Y)).run Try.prog w = .ok (.float .f64 yy) w := fun ty w => run_float_arith w .add ty .f64 Y Y yy y3
  have aZ : val a = Z := by rw [a2, hZ]
  clear a2 a3 q1 q2 q3 q4 y0 y1 y3
  obtain ⟨A1, A2, A3, A4⟩ := pos_rung a a1
  have hvt := val_tiny Y hbr
  obtain ⟨aa, b1, b2, b3⟩ := add_self a a1 false (by have := topU_big; omega)
  have raa : ∀ ty w, (binOp .add ty (.float .f64 a) (.float .f64 a)).run Try.prog w = .ok (.float .f64 aa) w := fun ty w => run_float_arith w .add ty .f64 _ _ aa b3
  obtain ⟨B1, B2, B3, B4⟩ := pos_rung aa b1
  have hlt := @val_lt_iff Y aa
  have tg : ∀ _ : True, (FloatKind.f64.format.order aa Y == some Ordering.gt) = true := fun _ => (ord_gt aa Y B3 Y3).trans (by rw [B4, Y4]; simp; omega)
  obtain ⟨d, d1, d2, d3, d4⟩ := sub_near a Y a1 hfy (by omega) (by omega)
  rw [aZ] at d2 d3 d4
  have hdl : decide (Z < val Y) = false := by simp; omega
  rw [hdl] at d2
  have d5 := d3 (by omega)
  clear d3 d4 hdl
  obtain ⟨D1, D2, D3, D4⟩ := pos_rung d d1
  have rs : ∀ ty w, (binOp .sub ty (.float .f64 a) (.float .f64 Y)).run Try.prog w = .ok (.float .f64 d) w := fun ty w => run_float_arith w .sub ty .f64 _ Y _ d2
  obtain ⟨dd, f1, f2, f3⟩ := add_self d d1 false (by have := topU_big; omega)
  have rdd : ∀ ty w, (binOp .add ty (.float .f64 d) (.float .f64 d)).run Try.prog w = .ok (.float .f64 dd) w := fun ty w => run_float_arith w .add ty .f64 _ _ _ f3
  obtain ⟨E1, E2, E3, E4⟩ := pos_rung dd f1
  have hlt2 := @val_lt_iff dd Y
  have tg2 : ∀ _ : True, (FloatKind.f64.format.order dd Y == some Ordering.gt || FloatKind.f64.format.order dd Y == some Ordering.eq) = true := fun _ => (ord_ge _ Y E3 Y3).trans (by rw [E4, Y4]; simp; omega)
  obtain ⟨g, g1, g2, g3, g4⟩ := sub_near d Y d1 hfy (by omega) (by omega)
  rw [d5] at g2 g3 g4
  have hgl : decide (Z - val Y < val Y) = true := by simp; omega
  rw [hgl] at g2
  have g5 := g4 (by omega)
  have rs2 : ∀ ty w, (binOp .sub ty (.float .f64 d) (.float .f64 Y)).run Try.prog w = .ok (.float .f64 (wordD true g)) w := fun ty w => run_float_arith w .sub ty .f64 _ Y _ g2
  rw [← g5, near_val (!true) g (by omega)] at hW
  clear g3 g4 hgl g2
  have ern := neg_wordX true g (by omega)
  have rn : ∀ w, (Op.unary .neg (.float .f64 (wordD true g))).run Try.prog w = .ok (.float .f64 MW) w := fun w => by
    have g' : wordD true g ^^^ 9223372036854775808 = MW := ern.trans hW.symm
    rw [← g']; rfl
  clear ern
  generalize wordD true g = rw' at *
  have HALL := Lib.hid (And.intro aZ (And.intro hZ2 hYp))
  clear hW aZ hZ hZ2 hYp hc hbr hne hfx hfy h0x h0y hnx hny ix iy X1 X2 X3 X4 Y1 Y2 Y3 Y4 A1 A2 A3 A4 a1 hq hp hlt hvt b1 b2 b3 B1 B2 B3 B4 d1 d2 d5 D1 D2 D3 D4 hlt2 f1 f2 f3 E1 E2 E3 E4 g1 g5
  clear wx wy ex ey hX hY
  go_enter Try.func43, Try.ntmps43
  go_wp2_with fail
  refine (isNaN_any x false nx _).mono ?_
  rintro e w' ⟨rfl, rfl⟩
  go_wp2_with fail
  refine (isNaN_any y false ny _).mono ?_
  rintro e w' ⟨rfl, rfl⟩
  go_wp2_with fail
  refine (ci _).mono ?_
  rintro e w' ⟨rfl, rfl⟩
  go_wp2_with fail
  refine (cj _).mono ?_
  rintro e w' ⟨rfl, rfl⟩
  go_wp2_with fail
  refine (cm _).mono ?_
  rintro e w' ⟨rfl, rfl⟩
  go_wp2
  go_ret
  exact ⟨rfl, rfl⟩

set_option maxHeartbeats 400000 in
theorem rm_tt_M1 (x y : Nat) (hx : x < 18446744073709551616) (hy : y < 18446744073709551616) (hfx : rung x < 9218868437227405312) (hfy : rung y < 9218868437227405312) (h0x : rung x ≠ 0) (h0y : rung y ≠ 0) (hnx : negB x = true) (hny : negB y = true) (hne : rung x ≠ rung y) (hbr : 9007199254740992 ≤ rung y ∧ rung y ≤ 9214364837600034815) (Z : Nat) (hZ : Z = val (rung x) % (2 * val (rung y))) (hc : ¬ val (rung y) < 2 * Z) (w : World) :
    Calls Try.prog 43 #[.float .f64 x, .float .f64 y] w fun e w' => e = .returned (.float .f64 (remW x y)) ∧ w = w' := by
  have nx : isNan x = false := by unfold isNan; simp; omega
  have ny : isNan y = false := by unfold isNan; simp; omega
  have ix : isInf x = false := by unfold isInf; simp; omega
  have iy : isInf y = false := by unfold isInf; simp; omega
  have ci := fun w => isInf_zero x hx w
  rw [ix] at ci
  have cj := fun w => isInf_zero y hy w
  rw [iy] at cj
  have ty : ∀ _ : True, (FloatKind.f64.format.order y 0 == some Ordering.eq) = false := fun _ => y_not_zero y h0y
  have tx : ∀ _ : True, (FloatKind.f64.format.order x 0 == some Ordering.lt) = true := fun _ => (ord_lt x 0 nx nan_zero).trans (by rw [place_zero]; unfold place; rw [hnx]; simp; try omega)
  have tyl : ∀ _ : True, (FloatKind.f64.format.order y 0 == some Ordering.lt) = true := fun _ => (ord_lt y 0 ny nan_zero).trans (by rw [place_zero]; unfold place; rw [hny]; simp; try omega)
  have hout := rem_out x y Z (val_pos' _ h0y) hZ
  have hW := hout.1 hc
  rw [hnx] at hW
  generalize remW x y = MW at *
  clear hout
  have ex := neg_num x hx
  have wx := word_of x hx
  rw [hnx] at ex wx
  have ey := neg_num y hy
  have wy := word_of y hy
  rw [hny] at ey wy
  obtain ⟨X, hX⟩ : ∃ X, X = rung x := ⟨_, rfl⟩
  obtain ⟨Y, hY⟩ : ∃ Y, Y = rung y := ⟨_, rfl⟩
  rw [← hX] at ex wx hfx hZ hne h0x
  rw [← hY] at ey wy hfy hZ hne hbr hc h0y
  have rx : ∀ w, (Op.unary .neg (.float .f64 x)).run Try.prog w = .ok (.float .f64 X) w := fun w => by
    have g : x ^^^ 9223372036854775808 = X := ex
    rw [← g]; rfl
  have ry : ∀ w, (Op.unary .neg (.float .f64 y)).run Try.prog w = .ok (.float .f64 Y) w := fun w => by
    have g : y ^^^ 9223372036854775808 = Y := ey
    rw [← g]; rfl
  obtain ⟨X1, X2, X3, X4⟩ := pos_rung X hfx
  obtain ⟨Y1, Y2, Y3, Y4⟩ := pos_rung Y hfy
  have hYp := val_pos' Y h0y
  have hq : place 9007199254740992 = 9007199254740992 := by decide
  have hp : place 9214364837600034815 = 9214364837600034815 := by decide
  have teq : ∀ _ : True, (FloatKind.f64.format.order X Y == some Ordering.eq) = false := fun _ => (ord_eq X Y X3 Y3).trans (by rw [X4, Y4]; simp; omega)
  have tT : ∀ _ : True, (FloatKind.f64.format.order Y 9007199254740992 == some Ordering.lt) = false := fun _ => (ord_lt Y _ Y3 (by decide)).trans (by rw [Y4, hq]; simp; omega)
  have tH : ∀ _ : True, (FloatKind.f64.format.order Y 9214364837600034815 == some Ordering.lt || FloatKind.f64.format.order Y 9214364837600034815 == some Ordering.eq) = true := fun _ => (ord_le Y _ Y3 (by decide)).trans (by rw [Y4, hp]; simp; omega)
  have hZ2 : Z < 2 * val Y := by rw [hZ]; exact Nat.mod_lt _ (by omega)
  obtain ⟨yy, a, y1, y0, y3, a1, a2, a3⟩ := rem_first X Y hfx hfy h0y (by omega)
  obtain ⟨q1, q2, q3, q4⟩ := pos_rung yy y1
  have cm := fun w => Mod_any X yy (by omega) (by omega) (by omega) (by omega) (by omega) w
  rw [a3] at cm
  have ryy : ∀ ty w, (binOp .add ty (.float .f64 Y) (.float .f64 Y)).run Try.prog w = .ok (.float .f64 yy) w := fun ty w => run_float_arith w .add ty .f64 Y Y yy y3
  have aZ : val a = Z := by rw [a2, hZ]
  clear a2 a3 q1 q2 q3 q4 y0 y1 y3
  obtain ⟨A1, A2, A3, A4⟩ := pos_rung a a1
  obtain ⟨h', k1, k2, k3⟩ := half_fit Y hfy (by omega)
  have rh : ∀ ty w, (binOp .mul ty (.float .f64 4602678819172646912) (.float .f64 Y)).run Try.prog w = .ok (.float .f64 h') w := fun ty w => run_float_arith w .mul ty .f64 _ Y _ k3
  obtain ⟨K1, K2, K3, K4⟩ := pos_rung h' k1
  have hlt := @val_lt_iff h' a
  have tg : ∀ _ : True, (FloatKind.f64.format.order a h' == some Ordering.gt) = false := fun _ => (ord_gt a h' A3 K3).trans (by rw [A4, K4]; simp; omega)
  rw [← aZ, near_val true a (by omega)] at hW
  have ern := neg_wordX false a (by omega)
  have rn : ∀ w, (Op.unary .neg (.float .f64 a)).run Try.prog w = .ok (.float .f64 MW) w := fun w => by
    have g' : wordD false a ^^^ 9223372036854775808 = MW := ern.trans hW.symm
    rw [← g']; rfl
  clear ern
  have HALL := Lib.hid (And.intro aZ (And.intro hZ2 hYp))
  clear hW aZ hZ hZ2 hYp hc hbr hne hfx hfy h0x h0y hnx hny ix iy X1 X2 X3 X4 Y1 Y2 Y3 Y4 A1 A2 A3 A4 a1 hq hp hlt k1 k2 k3 K1 K2 K3 K4
  clear wx wy ex ey hX hY
  go_enter Try.func43, Try.ntmps43
  go_wp2_with fail
  refine (isNaN_any x false nx _).mono ?_
  rintro e w' ⟨rfl, rfl⟩
  go_wp2_with fail
  refine (isNaN_any y false ny _).mono ?_
  rintro e w' ⟨rfl, rfl⟩
  go_wp2_with fail
  refine (ci _).mono ?_
  rintro e w' ⟨rfl, rfl⟩
  go_wp2_with fail
  refine (cj _).mono ?_
  rintro e w' ⟨rfl, rfl⟩
  go_wp2_with fail
  refine (cm _).mono ?_
  rintro e w' ⟨rfl, rfl⟩
  go_wp2
  go_ret
  exact ⟨rfl, rfl⟩

set_option maxHeartbeats 400000 in
theorem rm_tt_M2 (x y : Nat) (hx : x < 18446744073709551616) (hy : y < 18446744073709551616) (hfx : rung x < 9218868437227405312) (hfy : rung y < 9218868437227405312) (h0x : rung x ≠ 0) (h0y : rung y ≠ 0) (hnx : negB x = true) (hny : negB y = true) (hne : rung x ≠ rung y) (hbr : 9007199254740992 ≤ rung y ∧ rung y ≤ 9214364837600034815) (Z : Nat) (hZ : Z = val (rung x) % (2 * val (rung y))) (hc : val (rung y) < 2 * Z ∧ Z < val (rung y)) (w : World) :
    Calls Try.prog 43 #[.float .f64 x, .float .f64 y] w fun e w' => e = .returned (.float .f64 (remW x y)) ∧ w = w' := by
  have nx : isNan x = false := by unfold isNan; simp; omega
  have ny : isNan y = false := by unfold isNan; simp; omega
  have ix : isInf x = false := by unfold isInf; simp; omega
  have iy : isInf y = false := by unfold isInf; simp; omega
  have ci := fun w => isInf_zero x hx w
  rw [ix] at ci
  have cj := fun w => isInf_zero y hy w
  rw [iy] at cj
  have ty : ∀ _ : True, (FloatKind.f64.format.order y 0 == some Ordering.eq) = false := fun _ => y_not_zero y h0y
  have tx : ∀ _ : True, (FloatKind.f64.format.order x 0 == some Ordering.lt) = true := fun _ => (ord_lt x 0 nx nan_zero).trans (by rw [place_zero]; unfold place; rw [hnx]; simp; try omega)
  have tyl : ∀ _ : True, (FloatKind.f64.format.order y 0 == some Ordering.lt) = true := fun _ => (ord_lt y 0 ny nan_zero).trans (by rw [place_zero]; unfold place; rw [hny]; simp; try omega)
  have hout := rem_out x y Z (val_pos' _ h0y) hZ
  have hW := hout.2.1 hc.1 hc.2
  rw [hnx] at hW
  generalize remW x y = MW at *
  clear hout
  have ex := neg_num x hx
  have wx := word_of x hx
  rw [hnx] at ex wx
  have ey := neg_num y hy
  have wy := word_of y hy
  rw [hny] at ey wy
  obtain ⟨X, hX⟩ : ∃ X, X = rung x := ⟨_, rfl⟩
  obtain ⟨Y, hY⟩ : ∃ Y, Y = rung y := ⟨_, rfl⟩
  rw [← hX] at ex wx hfx hZ hne h0x
  rw [← hY] at ey wy hfy hZ hne hbr hc hW h0y
  have rx : ∀ w, (Op.unary .neg (.float .f64 x)).run Try.prog w = .ok (.float .f64 X) w := fun w => by
    have g : x ^^^ 9223372036854775808 = X := ex
    rw [← g]; rfl
  have ry : ∀ w, (Op.unary .neg (.float .f64 y)).run Try.prog w = .ok (.float .f64 Y) w := fun w => by
    have g : y ^^^ 9223372036854775808 = Y := ey
    rw [← g]; rfl
  obtain ⟨X1, X2, X3, X4⟩ := pos_rung X hfx
  obtain ⟨Y1, Y2, Y3, Y4⟩ := pos_rung Y hfy
  have hYp := val_pos' Y h0y
  have hq : place 9007199254740992 = 9007199254740992 := by decide
  have hp : place 9214364837600034815 = 9214364837600034815 := by decide
  have teq : ∀ _ : True, (FloatKind.f64.format.order X Y == some Ordering.eq) = false := fun _ => (ord_eq X Y X3 Y3).trans (by rw [X4, Y4]; simp; omega)
  have tT : ∀ _ : True, (FloatKind.f64.format.order Y 9007199254740992 == some Ordering.lt) = false := fun _ => (ord_lt Y _ Y3 (by decide)).trans (by rw [Y4, hq]; simp; omega)
  have tH : ∀ _ : True, (FloatKind.f64.format.order Y 9214364837600034815 == some Ordering.lt || FloatKind.f64.format.order Y 9214364837600034815 == some Ordering.eq) = true := fun _ => (ord_le Y _ Y3 (by decide)).trans (by rw [Y4, hp]; simp; omega)
  have hZ2 : Z < 2 * val Y := by rw [hZ]; exact Nat.mod_lt _ (by omega)
  obtain ⟨yy, a, y1, y0, y3, a1, a2, a3⟩ := rem_first X Y hfx hfy h0y (by omega)
  obtain ⟨q1, q2, q3, q4⟩ := pos_rung yy y1
  have cm := fun w => Mod_any X yy (by omega) (by omega) (by omega) (by omega) (by omega) w
  rw [a3] at cm
  have ryy : ∀ ty w, (binOp .add ty (.float .f64 Y) (.float .f64 Y)).run Try.prog w = .ok (.float .f64 yy) w := fun ty w => run_float_arith w .add ty .f64 Y Y yy y3
  have aZ : val a = Z := by rw [a2, hZ]
  clear a2 a3 q1 q2 q3 q4 y0 y1 y3
  obtain ⟨A1, A2, A3, A4⟩ := pos_rung a a1
  obtain ⟨h', k1, k2, k3⟩ := half_fit Y hfy (by omega)
  have rh : ∀ ty w, (binOp .mul ty (.float .f64 4602678819172646912) (.float .f64 Y)).run Try.prog w = .ok (.float .f64 h') w := fun ty w => run_float_arith w .mul ty .f64 _ Y _ k3
  obtain ⟨K1, K2, K3, K4⟩ := pos_rung h' k1
  have hlt := @val_lt_iff h' a
  have tg : ∀ _ : True, (FloatKind.f64.format.order a h' == some Ordering.gt) = true := fun _ => (ord_gt a h' A3 K3).trans (by rw [A4, K4]; simp; omega)
  obtain ⟨d, d1, d2, d3, d4⟩ := sub_near a Y a1 hfy (by omega) (by omega)
  rw [aZ] at d2 d3 d4
  have hdl : decide (Z < val Y) = true := by simp; omega
  rw [hdl] at d2
  have d5 := d4 (by omega)
  clear d3 d4 hdl
  obtain ⟨pd1, pd2⟩ := place_word true d d1
  have rs : ∀ ty w, (binOp .sub ty (.float .f64 a) (.float .f64 Y)).run Try.prog w = .ok (.float .f64 (wordD true d)) w := fun ty w => run_float_arith w .sub ty .f64 _ Y _ d2
  rw [← d5, near_val (!true) d (by omega)] at hW
  have tg2 : ∀ _ : True, (FloatKind.f64.format.order (wordD true d) h' == some Ordering.gt || FloatKind.f64.format.order (wordD true d) h' == some Ordering.eq) = false := fun _ => (ord_ge _ h' pd1 K3).trans (by
    have hk0 : h' ≠ 0 := fun g => by rw [g, val_zero] at k2; omega
    rw [pd2, K4]; simp; omega)
  have ern := neg_wordX true d (by omega)
  have rn : ∀ w, (Op.unary .neg (.float .f64 (wordD true d))).run Try.prog w = .ok (.float .f64 MW) w := fun w => by
    have g' : wordD true d ^^^ 9223372036854775808 = MW := ern.trans hW.symm
    rw [← g']; rfl
  clear ern
  generalize wordD true d = rw' at *
  have HALL := Lib.hid (And.intro aZ (And.intro hZ2 hYp))
  clear hW aZ hZ hZ2 hYp hc hbr hne hfx hfy h0x h0y hnx hny ix iy X1 X2 X3 X4 Y1 Y2 Y3 Y4 A1 A2 A3 A4 a1 hq hp hlt k1 k2 k3 K1 K2 K3 K4 d1 d2 d5 pd1 pd2
  clear wx wy ex ey hX hY
  go_enter Try.func43, Try.ntmps43
  go_wp2_with fail
  refine (isNaN_any x false nx _).mono ?_
  rintro e w' ⟨rfl, rfl⟩
  go_wp2_with fail
  refine (isNaN_any y false ny _).mono ?_
  rintro e w' ⟨rfl, rfl⟩
  go_wp2_with fail
  refine (ci _).mono ?_
  rintro e w' ⟨rfl, rfl⟩
  go_wp2_with fail
  refine (cj _).mono ?_
  rintro e w' ⟨rfl, rfl⟩
  go_wp2_with fail
  refine (cm _).mono ?_
  rintro e w' ⟨rfl, rfl⟩
  go_wp2
  go_ret
  exact ⟨rfl, rfl⟩

set_option maxHeartbeats 400000 in
theorem rm_tt_M3 (x y : Nat) (hx : x < 18446744073709551616) (hy : y < 18446744073709551616) (hfx : rung x < 9218868437227405312) (hfy : rung y < 9218868437227405312) (h0x : rung x ≠ 0) (h0y : rung y ≠ 0) (hnx : negB x = true) (hny : negB y = true) (hne : rung x ≠ rung y) (hbr : 9007199254740992 ≤ rung y ∧ rung y ≤ 9214364837600034815) (Z : Nat) (hZ : Z = val (rung x) % (2 * val (rung y))) (hc : val (rung y) ≤ Z ∧ 2 * (Z - val (rung y)) < val (rung y)) (w : World) :
    Calls Try.prog 43 #[.float .f64 x, .float .f64 y] w fun e w' => e = .returned (.float .f64 (remW x y)) ∧ w = w' := by
  have nx : isNan x = false := by unfold isNan; simp; omega
  have ny : isNan y = false := by unfold isNan; simp; omega
  have ix : isInf x = false := by unfold isInf; simp; omega
  have iy : isInf y = false := by unfold isInf; simp; omega
  have ci := fun w => isInf_zero x hx w
  rw [ix] at ci
  have cj := fun w => isInf_zero y hy w
  rw [iy] at cj
  have ty : ∀ _ : True, (FloatKind.f64.format.order y 0 == some Ordering.eq) = false := fun _ => y_not_zero y h0y
  have tx : ∀ _ : True, (FloatKind.f64.format.order x 0 == some Ordering.lt) = true := fun _ => (ord_lt x 0 nx nan_zero).trans (by rw [place_zero]; unfold place; rw [hnx]; simp; try omega)
  have tyl : ∀ _ : True, (FloatKind.f64.format.order y 0 == some Ordering.lt) = true := fun _ => (ord_lt y 0 ny nan_zero).trans (by rw [place_zero]; unfold place; rw [hny]; simp; try omega)
  have hout := rem_out x y Z (val_pos' _ h0y) hZ
  have hW := hout.2.2.1 hc.1 hc.2
  rw [hnx] at hW
  generalize remW x y = MW at *
  clear hout
  have ex := neg_num x hx
  have wx := word_of x hx
  rw [hnx] at ex wx
  have ey := neg_num y hy
  have wy := word_of y hy
  rw [hny] at ey wy
  obtain ⟨X, hX⟩ : ∃ X, X = rung x := ⟨_, rfl⟩
  obtain ⟨Y, hY⟩ : ∃ Y, Y = rung y := ⟨_, rfl⟩
  rw [← hX] at ex wx hfx hZ hne h0x
  rw [← hY] at ey wy hfy hZ hne hbr hc hW h0y
  have rx : ∀ w, (Op.unary .neg (.float .f64 x)).run Try.prog w = .ok (.float .f64 X) w := fun w => by
    have g : x ^^^ 9223372036854775808 = X := ex
    rw [← g]; rfl
  have ry : ∀ w, (Op.unary .neg (.float .f64 y)).run Try.prog w = .ok (.float .f64 Y) w := fun w => by
    have g : y ^^^ 9223372036854775808 = Y := ey
    rw [← g]; rfl
  obtain ⟨X1, X2, X3, X4⟩ := pos_rung X hfx
  obtain ⟨Y1, Y2, Y3, Y4⟩ := pos_rung Y hfy
  have hYp := val_pos' Y h0y
  have hq : place 9007199254740992 = 9007199254740992 := by decide
  have hp : place 9214364837600034815 = 9214364837600034815 := by decide
  have teq : ∀ _ : True, (FloatKind.f64.format.order X Y == some Ordering.eq) = false := fun _ => (ord_eq X Y X3 Y3).trans (by rw [X4, Y4]; simp; omega)
  have tT : ∀ _ : True, (FloatKind.f64.format.order Y 9007199254740992 == some Ordering.lt) = false := fun _ => (ord_lt Y _ Y3 (by decide)).trans (by rw [Y4, hq]; simp; omega)
  have tH : ∀ _ : True, (FloatKind.f64.format.order Y 9214364837600034815 == some Ordering.lt || FloatKind.f64.format.order Y 9214364837600034815 == some Ordering.eq) = true := fun _ => (ord_le Y _ Y3 (by decide)).trans (by rw [Y4, hp]; simp; omega)
  have hZ2 : Z < 2 * val Y := by rw [hZ]; exact Nat.mod_lt _ (by omega)
  obtain ⟨yy, a, y1, y0, y3, a1, a2, a3⟩ := rem_first X Y hfx hfy h0y (by omega)
  obtain ⟨q1, q2, q3, q4⟩ := pos_rung yy y1
  have cm := fun w => Mod_any X yy (by omega) (by omega) (by omega) (by omega) (by omega) w
  rw [a3] at cm
  have ryy : ∀ ty w, (binOp .add ty (.float .f64 Y) (.float .f64 Y)).run Try.prog w = .ok (.float .f64 yy) w := fun ty w => run_float_arith w .add ty .f64 Y Y yy y3
  have aZ : val a = Z := by rw [a2, hZ]
  clear a2 a3 q1 q2 q3 q4 y0 y1 y3
  obtain ⟨A1, A2, A3, A4⟩ := pos_rung a a1
  obtain ⟨h', k1, k2, k3⟩ := half_fit Y hfy (by omega)
  have rh : ∀ ty w, (binOp .mul ty (.float .f64 4602678819172646912) (.float .f64 Y)).run Try.prog w = .ok (.float .f64 h') w := fun ty w => run_float_arith w .mul ty .f64 _ Y _ k3
  obtain ⟨K1, K2, K3, K4⟩ := pos_rung h' k1
  have hlt := @val_lt_iff h' a
  have tg : ∀ _ : True, (FloatKind.f64.format.order a h' == some Ordering.gt) = true := fun _ => (ord_gt a h' A3 K3).trans (by rw [A4, K4]; simp; omega)
  obtain ⟨d, d1, d2, d3, d4⟩ := sub_near a Y a1 hfy (by omega) (by omega)
  rw [aZ] at d2 d3 d4
  have hdl : decide (Z < val Y) = false := by simp; omega
  rw [hdl] at d2
  have d5 := d3 (by omega)
  clear d3 d4 hdl
  obtain ⟨D1, D2, D3, D4⟩ := pos_rung d d1
  have rs : ∀ ty w, (binOp .sub ty (.float .f64 a) (.float .f64 Y)).run Try.prog w = .ok (.float .f64 d) w := fun ty w => run_float_arith w .sub ty .f64 _ Y _ d2
  have hlt2 := @val_lt_iff d h'
  have tg2 : ∀ _ : True, (FloatKind.f64.format.order d h' == some Ordering.gt || FloatKind.f64.format.order d h' == some Ordering.eq) = false := fun _ => (ord_ge _ h' D3 K3).trans (by rw [D4, K4]; simp; omega)
  rw [← d5, near_val true d (by omega)] at hW
  have ern := neg_wordX false d (by omega)
  have rn : ∀ w, (Op.unary .neg (.float .f64 d)).run Try.prog w = .ok (.float .f64 MW) w := fun w => by
    have g' : wordD false d ^^^ 9223372036854775808 = MW := ern.trans hW.symm
    rw [← g']; rfl
  clear ern
  have HALL := Lib.hid (And.intro aZ (And.intro hZ2 hYp))
  clear hW aZ hZ hZ2 hYp hc hbr hne hfx hfy h0x h0y hnx hny ix iy X1 X2 X3 X4 Y1 Y2 Y3 Y4 A1 A2 A3 A4 a1 hq hp hlt k1 k2 k3 K1 K2 K3 K4 d1 d2 d5 D1 D2 D3 D4 hlt2
  clear wx wy ex ey hX hY
  go_enter Try.func43, Try.ntmps43
  go_wp2_with fail
  refine (isNaN_any x false nx _).mono ?_
  rintro e w' ⟨rfl, rfl⟩
  go_wp2_with fail
  refine (isNaN_any y false ny _).mono ?_
  rintro e w' ⟨rfl, rfl⟩
  go_wp2_with fail
  refine (ci _).mono ?_
  rintro e w' ⟨rfl, rfl⟩
  go_wp2_with fail
  refine (cj _).mono ?_
  rintro e w' ⟨rfl, rfl⟩
  go_wp2_with fail
  refine (cm _).mono ?_
  rintro e w' ⟨rfl, rfl⟩
  go_wp2
  go_ret
  exact ⟨rfl, rfl⟩

set_option maxHeartbeats 400000 in
theorem rm_tt_M4 (x y : Nat) (hx : x < 18446744073709551616) (hy : y < 18446744073709551616) (hfx : rung x < 9218868437227405312) (hfy : rung y < 9218868437227405312) (h0x : rung x ≠ 0) (h0y : rung y ≠ 0) (hnx : negB x = true) (hny : negB y = true) (hne : rung x ≠ rung y) (hbr : 9007199254740992 ≤ rung y ∧ rung y ≤ 9214364837600034815) (Z : Nat) (hZ : Z = val (rung x) % (2 * val (rung y))) (hc : val (rung y) ≤ Z ∧ val (rung y) ≤ 2 * (Z - val (rung y))) (w : World) :
    Calls Try.prog 43 #[.float .f64 x, .float .f64 y] w fun e w' => e = .returned (.float .f64 (remW x y)) ∧ w = w' := by
  have nx : isNan x = false := by unfold isNan; simp; omega
  have ny : isNan y = false := by unfold isNan; simp; omega
  have ix : isInf x = false := by unfold isInf; simp; omega
  have iy : isInf y = false := by unfold isInf; simp; omega
  have ci := fun w => isInf_zero x hx w
  rw [ix] at ci
  have cj := fun w => isInf_zero y hy w
  rw [iy] at cj
  have ty : ∀ _ : True, (FloatKind.f64.format.order y 0 == some Ordering.eq) = false := fun _ => y_not_zero y h0y
  have tx : ∀ _ : True, (FloatKind.f64.format.order x 0 == some Ordering.lt) = true := fun _ => (ord_lt x 0 nx nan_zero).trans (by rw [place_zero]; unfold place; rw [hnx]; simp; try omega)
  have tyl : ∀ _ : True, (FloatKind.f64.format.order y 0 == some Ordering.lt) = true := fun _ => (ord_lt y 0 ny nan_zero).trans (by rw [place_zero]; unfold place; rw [hny]; simp; try omega)
  have hout := rem_out x y Z (val_pos' _ h0y) hZ
  have hW := hout.2.2.2 hc.1 hc.2
  rw [hnx] at hW
  generalize remW x y = MW at *
  clear hout
  have ex := neg_num x hx
  have wx := word_of x hx
  rw [hnx] at ex wx
  have ey := neg_num y hy
  have wy := word_of y hy
  rw [hny] at ey wy
  obtain ⟨X, hX⟩ : ∃ X, X = rung x := ⟨_, rfl⟩
  obtain ⟨Y, hY⟩ : ∃ Y, Y = rung y := ⟨_, rfl⟩
  rw [← hX] at ex wx hfx hZ hne h0x
  rw [← hY] at ey wy hfy hZ hne hbr hc hW h0y
  have rx : ∀ w, (Op.unary .neg (.float .f64 x)).run Try.prog w = .ok (.float .f64 X) w := fun w => by
    have g : x ^^^ 9223372036854775808 = X := ex
    rw [← g]; rfl
  have ry : ∀ w, (Op.unary .neg (.float .f64 y)).run Try.prog w = .ok (.float .f64 Y) w := fun w => by
    have g : y ^^^ 9223372036854775808 = Y := ey
    rw [← g]; rfl
  obtain ⟨X1, X2, X3, X4⟩ := pos_rung X hfx
  obtain ⟨Y1, Y2, Y3, Y4⟩ := pos_rung Y hfy
  have hYp := val_pos' Y h0y
  have hq : place 9007199254740992 = 9007199254740992 := by decide
  have hp : place 9214364837600034815 = 9214364837600034815 := by decide
  have teq : ∀ _ : True, (FloatKind.f64.format.order X Y == some Ordering.eq) = false := fun _ => (ord_eq X Y X3 Y3).trans (by rw [X4, Y4]; simp; omega)
  have tT : ∀ _ : True, (FloatKind.f64.format.order Y 9007199254740992 == some Ordering.lt) = false := fun _ => (ord_lt Y _ Y3 (by decide)).trans (by rw [Y4, hq]; simp; omega)
  have tH : ∀ _ : True, (FloatKind.f64.format.order Y 9214364837600034815 == some Ordering.lt || FloatKind.f64.format.order Y 9214364837600034815 == some Ordering.eq) = true := fun _ => (ord_le Y _ Y3 (by decide)).trans (by rw [Y4, hp]; simp; omega)
  have hZ2 : Z < 2 * val Y := by rw [hZ]; exact Nat.mod_lt _ (by omega)
  obtain ⟨yy, a, y1, y0, y3, a1, a2, a3⟩ := rem_first X Y hfx hfy h0y (by omega)
  obtain ⟨q1, q2, q3, q4⟩ := pos_rung yy y1
  have cm := fun w => Mod_any X yy (by omega) (by omega) (by omega) (by omega) (by omega) w
  rw [a3] at cm
  have ryy : ∀ ty w, (binOp .add ty (.float .f64 Y) (.float .f64 Y)).run Try.prog w = .ok (.float .f64 yy) w := fun ty w => run_float_arith w .add ty .f64 Y Y yy y3
  have aZ : val a = Z := by rw [a2, hZ]
  clear a2 a3 q1 q2 q3 q4 y0 y1 y3
  obtain ⟨A1, A2, A3, A4⟩ := pos_rung a a1
  obtain ⟨h', k1, k2, k3⟩ := half_fit Y hfy (by omega)
  have rh : ∀ ty w, (binOp .mul ty (.float .f64 4602678819172646912) (.float .f64 Y)).run Try.prog w = .ok (.float .f64 h') w := fun ty w => run_float_arith w .mul ty .f64 _ Y _ k3
  obtain ⟨K1, K2, K3, K4⟩ := pos_rung h' k1
  have hlt := @val_lt_iff h' a
  have tg : ∀ _ : True, (FloatKind.f64.format.order a h' == some Ordering.gt) = true := fun _ => (ord_gt a h' A3 K3).trans (by rw [A4, K4]; simp; omega)
  obtain ⟨d, d1, d2, d3, d4⟩ := sub_near a Y a1 hfy (by omega) (by omega)
  rw [aZ] at d2 d3 d4
  have hdl : decide (Z < val Y) = false := by simp; omega
  rw [hdl] at d2
  have d5 := d3 (by omega)
  clear d3 d4 hdl
  obtain ⟨D1, D2, D3, D4⟩ := pos_rung d d1
  have rs : ∀ ty w, (binOp .sub ty (.float .f64 a) (.float .f64 Y)).run Try.prog w = .ok (.float .f64 d) w := fun ty w => run_float_arith w .sub ty .f64 _ Y _ d2
  have hlt2 := @val_lt_iff d h'
  have tg2 : ∀ _ : True, (FloatKind.f64.format.order d h' == some Ordering.gt || FloatKind.f64.format.order d h' == some Ordering.eq) = true := fun _ => (ord_ge _ h' D3 K3).trans (by rw [D4, K4]; simp; omega)
  obtain ⟨g, g1, g2, g3, g4⟩ := sub_near d Y d1 hfy (by omega) (by omega)
  rw [d5] at g2 g3 g4
  have hgl : decide (Z - val Y < val Y) = true := by simp; omega
  rw [hgl] at g2
  have g5 := g4 (by omega)
  have rs2 : ∀ ty w, (binOp .sub ty (.float .f64 d) (.float .f64 Y)).run Try.prog w = .ok (.float .f64 (wordD true g)) w := fun ty w => run_float_arith w .sub ty .f64 _ Y _ g2
  rw [← g5, near_val (!true) g (by omega)] at hW
  clear g3 g4 hgl g2
  have ern := neg_wordX true g (by omega)
  have rn : ∀ w, (Op.unary .neg (.float .f64 (wordD true g))).run Try.prog w = .ok (.float .f64 MW) w := fun w => by
    have g' : wordD true g ^^^ 9223372036854775808 = MW := ern.trans hW.symm
    rw [← g']; rfl
  clear ern
  generalize wordD true g = rw' at *
  have HALL := Lib.hid (And.intro aZ (And.intro hZ2 hYp))
  clear hW aZ hZ hZ2 hYp hc hbr hne hfx hfy h0x h0y hnx hny ix iy X1 X2 X3 X4 Y1 Y2 Y3 Y4 A1 A2 A3 A4 a1 hq hp hlt k1 k2 k3 K1 K2 K3 K4 d1 d2 d5 D1 D2 D3 D4 hlt2 g1 g5
  clear wx wy ex ey hX hY
  go_enter Try.func43, Try.ntmps43
  go_wp2_with fail
  refine (isNaN_any x false nx _).mono ?_
  rintro e w' ⟨rfl, rfl⟩
  go_wp2_with fail
  refine (isNaN_any y false ny _).mono ?_
  rintro e w' ⟨rfl, rfl⟩
  go_wp2_with fail
  refine (ci _).mono ?_
  rintro e w' ⟨rfl, rfl⟩
  go_wp2_with fail
  refine (cj _).mono ?_
  rintro e w' ⟨rfl, rfl⟩
  go_wp2_with fail
  refine (cm _).mono ?_
  rintro e w' ⟨rfl, rfl⟩
  go_wp2
  go_ret
  exact ⟨rfl, rfl⟩

set_option maxHeartbeats 400000 in
theorem rm_tt_B1 (x y : Nat) (hx : x < 18446744073709551616) (hy : y < 18446744073709551616) (hfx : rung x < 9218868437227405312) (hfy : rung y < 9218868437227405312) (h0x : rung x ≠ 0) (h0y : rung y ≠ 0) (hnx : negB x = true) (hny : negB y = true) (hne : rung x ≠ rung y) (hbr : 9214364837600034815 < rung y) (Z : Nat) (hZ : Z = val (rung x) % (2 * val (rung y))) (hc : ¬ val (rung y) < 2 * Z) (w : World) :
    Calls Try.prog 43 #[.float .f64 x, .float .f64 y] w fun e w' => e = .returned (.float .f64 (remW x y)) ∧ w = w' := by
  have nx : isNan x = false := by unfold isNan; simp; omega
  have ny : isNan y = false := by unfold isNan; simp; omega
  have ix : isInf x = false := by unfold isInf; simp; omega
  have iy : isInf y = false := by unfold isInf; simp; omega
  have ci := fun w => isInf_zero x hx w
  rw [ix] at ci
  have cj := fun w => isInf_zero y hy w
  rw [iy] at cj
  have ty : ∀ _ : True, (FloatKind.f64.format.order y 0 == some Ordering.eq) = false := fun _ => y_not_zero y h0y
  have tx : ∀ _ : True, (FloatKind.f64.format.order x 0 == some Ordering.lt) = true := fun _ => (ord_lt x 0 nx nan_zero).trans (by rw [place_zero]; unfold place; rw [hnx]; simp; try omega)
  have tyl : ∀ _ : True, (FloatKind.f64.format.order y 0 == some Ordering.lt) = true := fun _ => (ord_lt y 0 ny nan_zero).trans (by rw [place_zero]; unfold place; rw [hny]; simp; try omega)
  have hout := rem_out x y Z (val_pos' _ h0y) hZ
  have hW := hout.1 hc
  rw [hnx] at hW
  generalize remW x y = MW at *
  clear hout
  have ex := neg_num x hx
  have wx := word_of x hx
  rw [hnx] at ex wx
  have ey := neg_num y hy
  have wy := word_of y hy
  rw [hny] at ey wy
  obtain ⟨X, hX⟩ : ∃ X, X = rung x := ⟨_, rfl⟩
  obtain ⟨Y, hY⟩ : ∃ Y, Y = rung y := ⟨_, rfl⟩
  rw [← hX] at ex wx hfx hZ hne h0x
  rw [← hY] at ey wy hfy hZ hne hbr hc h0y
  have rx : ∀ w, (Op.unary .neg (.float .f64 x)).run Try.prog w = .ok (.float .f64 X) w := fun w => by
    have g : x ^^^ 9223372036854775808 = X := ex
    rw [← g]; rfl
  have ry : ∀ w, (Op.unary .neg (.float .f64 y)).run Try.prog w = .ok (.float .f64 Y) w := fun w => by
    have g : y ^^^ 9223372036854775808 = Y := ey
    rw [← g]; rfl
  obtain ⟨X1, X2, X3, X4⟩ := pos_rung X hfx
  obtain ⟨Y1, Y2, Y3, Y4⟩ := pos_rung Y hfy
  have hYp := val_pos' Y h0y
  have hq : place 9007199254740992 = 9007199254740992 := by decide
  have hp : place 9214364837600034815 = 9214364837600034815 := by decide
  have teq : ∀ _ : True, (FloatKind.f64.format.order X Y == some Ordering.eq) = false := fun _ => (ord_eq X Y X3 Y3).trans (by rw [X4, Y4]; simp; omega)
  have tT : ∀ _ : True, (FloatKind.f64.format.order Y 9007199254740992 == some Ordering.lt) = false := fun _ => (ord_lt Y _ Y3 (by decide)).trans (by rw [Y4, hq]; simp; omega)
  have tH : ∀ _ : True, (FloatKind.f64.format.order Y 9214364837600034815 == some Ordering.lt || FloatKind.f64.format.order Y 9214364837600034815 == some Ordering.eq) = false := fun _ => (ord_le Y _ Y3 (by decide)).trans (by rw [Y4, hp]; simp; omega)
  have hZ2 : Z < 2 * val Y := by rw [hZ]; exact Nat.mod_lt _ (by omega)
  have hXY := half_big X Y hfx (by omega)
  have aZ : val X = Z := by rw [hZ, Nat.mod_eq_of_lt hXY]
  have a1 := hfx
  obtain ⟨A1, A2, A3, A4⟩ := pos_rung X a1
  obtain ⟨h', k1, k2, k3⟩ := half_fit Y hfy (by omega)
  have rh : ∀ ty w, (binOp .mul ty (.float .f64 4602678819172646912) (.float .f64 Y)).run Try.prog w = .ok (.float .f64 h') w := fun ty w => run_float_arith w .mul ty .f64 _ Y _ k3
  obtain ⟨K1, K2, K3, K4⟩ := pos_rung h' k1
  have hlt := @val_lt_iff h' X
  have tg : ∀ _ : True, (FloatKind.f64.format.order X h' == some Ordering.gt) = false := fun _ => (ord_gt X h' A3 K3).trans (by rw [A4, K4]; simp; omega)
  rw [← aZ, near_val true X (by omega)] at hW
  have ern := neg_wordX false X (by omega)
  have rn : ∀ w, (Op.unary .neg (.float .f64 X)).run Try.prog w = .ok (.float .f64 MW) w := fun w => by
    have g' : wordD false X ^^^ 9223372036854775808 = MW := ern.trans hW.symm
    rw [← g']; rfl
  clear ern
  have HALL := Lib.hid (And.intro aZ (And.intro hZ2 hYp))
  clear hW aZ hZ hZ2 hYp hc hbr hne hfx hfy h0x h0y hnx hny ix iy X1 X2 X3 X4 Y1 Y2 Y3 Y4 A1 A2 A3 A4 a1 hq hp hlt k1 k2 k3 K1 K2 K3 K4 hXY
  clear wx wy ex ey hX hY
  go_enter Try.func43, Try.ntmps43
  go_wp2_with fail
  refine (isNaN_any x false nx _).mono ?_
  rintro e w' ⟨rfl, rfl⟩
  go_wp2_with fail
  refine (isNaN_any y false ny _).mono ?_
  rintro e w' ⟨rfl, rfl⟩
  go_wp2_with fail
  refine (ci _).mono ?_
  rintro e w' ⟨rfl, rfl⟩
  go_wp2_with fail
  refine (cj _).mono ?_
  rintro e w' ⟨rfl, rfl⟩
  go_wp2
  go_ret
  exact ⟨rfl, rfl⟩

set_option maxHeartbeats 400000 in
theorem rm_tt_B2 (x y : Nat) (hx : x < 18446744073709551616) (hy : y < 18446744073709551616) (hfx : rung x < 9218868437227405312) (hfy : rung y < 9218868437227405312) (h0x : rung x ≠ 0) (h0y : rung y ≠ 0) (hnx : negB x = true) (hny : negB y = true) (hne : rung x ≠ rung y) (hbr : 9214364837600034815 < rung y) (Z : Nat) (hZ : Z = val (rung x) % (2 * val (rung y))) (hc : val (rung y) < 2 * Z ∧ Z < val (rung y)) (w : World) :
    Calls Try.prog 43 #[.float .f64 x, .float .f64 y] w fun e w' => e = .returned (.float .f64 (remW x y)) ∧ w = w' := by
  have nx : isNan x = false := by unfold isNan; simp; omega
  have ny : isNan y = false := by unfold isNan; simp; omega
  have ix : isInf x = false := by unfold isInf; simp; omega
  have iy : isInf y = false := by unfold isInf; simp; omega
  have ci := fun w => isInf_zero x hx w
  rw [ix] at ci
  have cj := fun w => isInf_zero y hy w
  rw [iy] at cj
  have ty : ∀ _ : True, (FloatKind.f64.format.order y 0 == some Ordering.eq) = false := fun _ => y_not_zero y h0y
  have tx : ∀ _ : True, (FloatKind.f64.format.order x 0 == some Ordering.lt) = true := fun _ => (ord_lt x 0 nx nan_zero).trans (by rw [place_zero]; unfold place; rw [hnx]; simp; try omega)
  have tyl : ∀ _ : True, (FloatKind.f64.format.order y 0 == some Ordering.lt) = true := fun _ => (ord_lt y 0 ny nan_zero).trans (by rw [place_zero]; unfold place; rw [hny]; simp; try omega)
  have hout := rem_out x y Z (val_pos' _ h0y) hZ
  have hW := hout.2.1 hc.1 hc.2
  rw [hnx] at hW
  generalize remW x y = MW at *
  clear hout
  have ex := neg_num x hx
  have wx := word_of x hx
  rw [hnx] at ex wx
  have ey := neg_num y hy
  have wy := word_of y hy
  rw [hny] at ey wy
  obtain ⟨X, hX⟩ : ∃ X, X = rung x := ⟨_, rfl⟩
  obtain ⟨Y, hY⟩ : ∃ Y, Y = rung y := ⟨_, rfl⟩
  rw [← hX] at ex wx hfx hZ hne h0x
  rw [← hY] at ey wy hfy hZ hne hbr hc hW h0y
  have rx : ∀ w, (Op.unary .neg (.float .f64 x)).run Try.prog w = .ok (.float .f64 X) w := fun w => by
    have g : x ^^^ 9223372036854775808 = X := ex
    rw [← g]; rfl
  have ry : ∀ w, (Op.unary .neg (.float .f64 y)).run Try.prog w = .ok (.float .f64 Y) w := fun w => by
    have g : y ^^^ 9223372036854775808 = Y := ey
    rw [← g]; rfl
  obtain ⟨X1, X2, X3, X4⟩ := pos_rung X hfx
  obtain ⟨Y1, Y2, Y3, Y4⟩ := pos_rung Y hfy
  have hYp := val_pos' Y h0y
  have hq : place 9007199254740992 = 9007199254740992 := by decide
  have hp : place 9214364837600034815 = 9214364837600034815 := by decide
  have teq : ∀ _ : True, (FloatKind.f64.format.order X Y == some Ordering.eq) = false := fun _ => (ord_eq X Y X3 Y3).trans (by rw [X4, Y4]; simp; omega)
  have tT : ∀ _ : True, (FloatKind.f64.format.order Y 9007199254740992 == some Ordering.lt) = false := fun _ => (ord_lt Y _ Y3 (by decide)).trans (by rw [Y4, hq]; simp; omega)
  have tH : ∀ _ : True, (FloatKind.f64.format.order Y 9214364837600034815 == some Ordering.lt || FloatKind.f64.format.order Y 9214364837600034815 == some Ordering.eq) = false := fun _ => (ord_le Y _ Y3 (by decide)).trans (by rw [Y4, hp]; simp; omega)
  have hZ2 : Z < 2 * val Y := by rw [hZ]; exact Nat.mod_lt _ (by omega)
  have hXY := half_big X Y hfx (by omega)
  have aZ : val X = Z := by rw [hZ, Nat.mod_eq_of_lt hXY]
  have a1 := hfx
  obtain ⟨A1, A2, A3, A4⟩ := pos_rung X a1
  obtain ⟨h', k1, k2, k3⟩ := half_fit Y hfy (by omega)
  have rh : ∀ ty w, (binOp .mul ty (.float .f64 4602678819172646912) (.float .f64 Y)).run Try.prog w = .ok (.float .f64 h') w := fun ty w => run_float_arith w .mul ty .f64 _ Y _ k3
  obtain ⟨K1, K2, K3, K4⟩ := pos_rung h' k1
  have hlt := @val_lt_iff h' X
  have tg : ∀ _ : True, (FloatKind.f64.format.order X h' == some Ordering.gt) = true := fun _ => (ord_gt X h' A3 K3).trans (by rw [A4, K4]; simp; omega)
  obtain ⟨d, d1, d2, d3, d4⟩ := sub_near X Y a1 hfy (by omega) (by omega)
  rw [aZ] at d2 d3 d4
  have hdl : decide (Z < val Y) = true := by simp; omega
  rw [hdl] at d2
  have d5 := d4 (by omega)
  clear d3 d4 hdl
  obtain ⟨pd1, pd2⟩ := place_word true d d1
  have rs : ∀ ty w, (binOp .sub ty (.float .f64 X) (.float .f64 Y)).run Try.prog w = .ok (.float .f64 (wordD true d)) w := fun ty w => run_float_arith w .sub ty .f64 _ Y _ d2
  rw [← d5, near_val (!true) d (by omega)] at hW
  have tg2 : ∀ _ : True, (FloatKind.f64.format.order (wordD true d) h' == some Ordering.gt || FloatKind.f64.format.order (wordD true d) h' == some Ordering.eq) = false := fun _ => (ord_ge _ h' pd1 K3).trans (by
    have hk0 : h' ≠ 0 := fun g => by rw [g, val_zero] at k2; omega
    rw [pd2, K4]; simp; omega)
  have ern := neg_wordX true d (by omega)
  have rn : ∀ w, (Op.unary .neg (.float .f64 (wordD true d))).run Try.prog w = .ok (.float .f64 MW) w := fun w => by
    have g' : wordD true d ^^^ 9223372036854775808 = MW := ern.trans hW.symm
    rw [← g']; rfl
  clear ern
  generalize wordD true d = rw' at *
  have HALL := Lib.hid (And.intro aZ (And.intro hZ2 hYp))
  clear hW aZ hZ hZ2 hYp hc hbr hne hfx hfy h0x h0y hnx hny ix iy X1 X2 X3 X4 Y1 Y2 Y3 Y4 A1 A2 A3 A4 a1 hq hp hlt k1 k2 k3 K1 K2 K3 K4 hXY d1 d2 d5 pd1 pd2
  clear wx wy ex ey hX hY
  go_enter Try.func43, Try.ntmps43
  go_wp2_with fail
  refine (isNaN_any x false nx _).mono ?_
  rintro e w' ⟨rfl, rfl⟩
  go_wp2_with fail
  refine (isNaN_any y false ny _).mono ?_
  rintro e w' ⟨rfl, rfl⟩
  go_wp2_with fail
  refine (ci _).mono ?_
  rintro e w' ⟨rfl, rfl⟩
  go_wp2_with fail
  refine (cj _).mono ?_
  rintro e w' ⟨rfl, rfl⟩
  go_wp2
  go_ret
  exact ⟨rfl, rfl⟩

set_option maxHeartbeats 400000 in
theorem rm_tt_B3 (x y : Nat) (hx : x < 18446744073709551616) (hy : y < 18446744073709551616) (hfx : rung x < 9218868437227405312) (hfy : rung y < 9218868437227405312) (h0x : rung x ≠ 0) (h0y : rung y ≠ 0) (hnx : negB x = true) (hny : negB y = true) (hne : rung x ≠ rung y) (hbr : 9214364837600034815 < rung y) (Z : Nat) (hZ : Z = val (rung x) % (2 * val (rung y))) (hc : val (rung y) ≤ Z ∧ 2 * (Z - val (rung y)) < val (rung y)) (w : World) :
    Calls Try.prog 43 #[.float .f64 x, .float .f64 y] w fun e w' => e = .returned (.float .f64 (remW x y)) ∧ w = w' := by
  have nx : isNan x = false := by unfold isNan; simp; omega
  have ny : isNan y = false := by unfold isNan; simp; omega
  have ix : isInf x = false := by unfold isInf; simp; omega
  have iy : isInf y = false := by unfold isInf; simp; omega
  have ci := fun w => isInf_zero x hx w
  rw [ix] at ci
  have cj := fun w => isInf_zero y hy w
  rw [iy] at cj
  have ty : ∀ _ : True, (FloatKind.f64.format.order y 0 == some Ordering.eq) = false := fun _ => y_not_zero y h0y
  have tx : ∀ _ : True, (FloatKind.f64.format.order x 0 == some Ordering.lt) = true := fun _ => (ord_lt x 0 nx nan_zero).trans (by rw [place_zero]; unfold place; rw [hnx]; simp; try omega)
  have tyl : ∀ _ : True, (FloatKind.f64.format.order y 0 == some Ordering.lt) = true := fun _ => (ord_lt y 0 ny nan_zero).trans (by rw [place_zero]; unfold place; rw [hny]; simp; try omega)
  have hout := rem_out x y Z (val_pos' _ h0y) hZ
  have hW := hout.2.2.1 hc.1 hc.2
  rw [hnx] at hW
  generalize remW x y = MW at *
  clear hout
  have ex := neg_num x hx
  have wx := word_of x hx
  rw [hnx] at ex wx
  have ey := neg_num y hy
  have wy := word_of y hy
  rw [hny] at ey wy
  obtain ⟨X, hX⟩ : ∃ X, X = rung x := ⟨_, rfl⟩
  obtain ⟨Y, hY⟩ : ∃ Y, Y = rung y := ⟨_, rfl⟩
  rw [← hX] at ex wx hfx hZ hne h0x
  rw [← hY] at ey wy hfy hZ hne hbr hc hW h0y
  have rx : ∀ w, (Op.unary .neg (.float .f64 x)).run Try.prog w = .ok (.float .f64 X) w := fun w => by
    have g : x ^^^ 9223372036854775808 = X := ex
    rw [← g]; rfl
  have ry : ∀ w, (Op.unary .neg (.float .f64 y)).run Try.prog w = .ok (.float .f64 Y) w := fun w => by
    have g : y ^^^ 9223372036854775808 = Y := ey
    rw [← g]; rfl
  obtain ⟨X1, X2, X3, X4⟩ := pos_rung X hfx
  obtain ⟨Y1, Y2, Y3, Y4⟩ := pos_rung Y hfy
  have hYp := val_pos' Y h0y
  have hq : place 9007199254740992 = 9007199254740992 := by decide
  have hp : place 9214364837600034815 = 9214364837600034815 := by decide
  have teq : ∀ _ : True, (FloatKind.f64.format.order X Y == some Ordering.eq) = false := fun _ => (ord_eq X Y X3 Y3).trans (by rw [X4, Y4]; simp; omega)
  have tT : ∀ _ : True, (FloatKind.f64.format.order Y 9007199254740992 == some Ordering.lt) = false := fun _ => (ord_lt Y _ Y3 (by decide)).trans (by rw [Y4, hq]; simp; omega)
  have tH : ∀ _ : True, (FloatKind.f64.format.order Y 9214364837600034815 == some Ordering.lt || FloatKind.f64.format.order Y 9214364837600034815 == some Ordering.eq) = false := fun _ => (ord_le Y _ Y3 (by decide)).trans (by rw [Y4, hp]; simp; omega)
  have hZ2 : Z < 2 * val Y := by rw [hZ]; exact Nat.mod_lt _ (by omega)
  have hXY := half_big X Y hfx (by omega)
  have aZ : val X = Z := by rw [hZ, Nat.mod_eq_of_lt hXY]
  have a1 := hfx
  obtain ⟨A1, A2, A3, A4⟩ := pos_rung X a1
  obtain ⟨h', k1, k2, k3⟩ := half_fit Y hfy (by omega)
  have rh : ∀ ty w, (binOp .mul ty (.float .f64 4602678819172646912) (.float .f64 Y)).run Try.prog w = .ok (.float .f64 h') w := fun ty w => run_float_arith w .mul ty .f64 _ Y _ k3
  obtain ⟨K1, K2, K3, K4⟩ := pos_rung h' k1
  have hlt := @val_lt_iff h' X
  have tg : ∀ _ : True, (FloatKind.f64.format.order X h' == some Ordering.gt) = true := fun _ => (ord_gt X h' A3 K3).trans (by rw [A4, K4]; simp; omega)
  obtain ⟨d, d1, d2, d3, d4⟩ := sub_near X Y a1 hfy (by omega) (by omega)
  rw [aZ] at d2 d3 d4
  have hdl : decide (Z < val Y) = false := by simp; omega
  rw [hdl] at d2
  have d5 := d3 (by omega)
  clear d3 d4 hdl
  obtain ⟨D1, D2, D3, D4⟩ := pos_rung d d1
  have rs : ∀ ty w, (binOp .sub ty (.float .f64 X) (.float .f64 Y)).run Try.prog w = .ok (.float .f64 d) w := fun ty w => run_float_arith w .sub ty .f64 _ Y _ d2
  have hlt2 := @val_lt_iff d h'
  have tg2 : ∀ _ : True, (FloatKind.f64.format.order d h' == some Ordering.gt || FloatKind.f64.format.order d h' == some Ordering.eq) = false := fun _ => (ord_ge _ h' D3 K3).trans (by rw [D4, K4]; simp; omega)
  rw [← d5, near_val true d (by omega)] at hW
  have ern := neg_wordX false d (by omega)
  have rn : ∀ w, (Op.unary .neg (.float .f64 d)).run Try.prog w = .ok (.float .f64 MW) w := fun w => by
    have g' : wordD false d ^^^ 9223372036854775808 = MW := ern.trans hW.symm
    rw [← g']; rfl
  clear ern
  have HALL := Lib.hid (And.intro aZ (And.intro hZ2 hYp))
  clear hW aZ hZ hZ2 hYp hc hbr hne hfx hfy h0x h0y hnx hny ix iy X1 X2 X3 X4 Y1 Y2 Y3 Y4 A1 A2 A3 A4 a1 hq hp hlt k1 k2 k3 K1 K2 K3 K4 hXY d1 d2 d5 D1 D2 D3 D4 hlt2
  clear wx wy ex ey hX hY
  go_enter Try.func43, Try.ntmps43
  go_wp2_with fail
  refine (isNaN_any x false nx _).mono ?_
  rintro e w' ⟨rfl, rfl⟩
  go_wp2_with fail
  refine (isNaN_any y false ny _).mono ?_
  rintro e w' ⟨rfl, rfl⟩
  go_wp2_with fail
  refine (ci _).mono ?_
  rintro e w' ⟨rfl, rfl⟩
  go_wp2_with fail
  refine (cj _).mono ?_
  rintro e w' ⟨rfl, rfl⟩
  go_wp2
  go_ret
  exact ⟨rfl, rfl⟩

set_option maxHeartbeats 400000 in
theorem rm_tt_B4 (x y : Nat) (hx : x < 18446744073709551616) (hy : y < 18446744073709551616) (hfx : rung x < 9218868437227405312) (hfy : rung y < 9218868437227405312) (h0x : rung x ≠ 0) (h0y : rung y ≠ 0) (hnx : negB x = true) (hny : negB y = true) (hne : rung x ≠ rung y) (hbr : 9214364837600034815 < rung y) (Z : Nat) (hZ : Z = val (rung x) % (2 * val (rung y))) (hc : val (rung y) ≤ Z ∧ val (rung y) ≤ 2 * (Z - val (rung y))) (w : World) :
    Calls Try.prog 43 #[.float .f64 x, .float .f64 y] w fun e w' => e = .returned (.float .f64 (remW x y)) ∧ w = w' := by
  have nx : isNan x = false := by unfold isNan; simp; omega
  have ny : isNan y = false := by unfold isNan; simp; omega
  have ix : isInf x = false := by unfold isInf; simp; omega
  have iy : isInf y = false := by unfold isInf; simp; omega
  have ci := fun w => isInf_zero x hx w
  rw [ix] at ci
  have cj := fun w => isInf_zero y hy w
  rw [iy] at cj
  have ty : ∀ _ : True, (FloatKind.f64.format.order y 0 == some Ordering.eq) = false := fun _ => y_not_zero y h0y
  have tx : ∀ _ : True, (FloatKind.f64.format.order x 0 == some Ordering.lt) = true := fun _ => (ord_lt x 0 nx nan_zero).trans (by rw [place_zero]; unfold place; rw [hnx]; simp; try omega)
  have tyl : ∀ _ : True, (FloatKind.f64.format.order y 0 == some Ordering.lt) = true := fun _ => (ord_lt y 0 ny nan_zero).trans (by rw [place_zero]; unfold place; rw [hny]; simp; try omega)
  have hout := rem_out x y Z (val_pos' _ h0y) hZ
  have hW := hout.2.2.2 hc.1 hc.2
  rw [hnx] at hW
  generalize remW x y = MW at *
  clear hout
  have ex := neg_num x hx
  have wx := word_of x hx
  rw [hnx] at ex wx
  have ey := neg_num y hy
  have wy := word_of y hy
  rw [hny] at ey wy
  obtain ⟨X, hX⟩ : ∃ X, X = rung x := ⟨_, rfl⟩
  obtain ⟨Y, hY⟩ : ∃ Y, Y = rung y := ⟨_, rfl⟩
  rw [← hX] at ex wx hfx hZ hne h0x
  rw [← hY] at ey wy hfy hZ hne hbr hc hW h0y
  have rx : ∀ w, (Op.unary .neg (.float .f64 x)).run Try.prog w = .ok (.float .f64 X) w := fun w => by
    have g : x ^^^ 9223372036854775808 = X := ex
    rw [← g]; rfl
  have ry : ∀ w, (Op.unary .neg (.float .f64 y)).run Try.prog w = .ok (.float .f64 Y) w := fun w => by
    have g : y ^^^ 9223372036854775808 = Y := ey
    rw [← g]; rfl
  obtain ⟨X1, X2, X3, X4⟩ := pos_rung X hfx
  obtain ⟨Y1, Y2, Y3, Y4⟩ := pos_rung Y hfy
  have hYp := val_pos' Y h0y
  have hq : place 9007199254740992 = 9007199254740992 := by decide
  have hp : place 9214364837600034815 = 9214364837600034815 := by decide
  have teq : ∀ _ : True, (FloatKind.f64.format.order X Y == some Ordering.eq) = false := fun _ => (ord_eq X Y X3 Y3).trans (by rw [X4, Y4]; simp; omega)
  have tT : ∀ _ : True, (FloatKind.f64.format.order Y 9007199254740992 == some Ordering.lt) = false := fun _ => (ord_lt Y _ Y3 (by decide)).trans (by rw [Y4, hq]; simp; omega)
  have tH : ∀ _ : True, (FloatKind.f64.format.order Y 9214364837600034815 == some Ordering.lt || FloatKind.f64.format.order Y 9214364837600034815 == some Ordering.eq) = false := fun _ => (ord_le Y _ Y3 (by decide)).trans (by rw [Y4, hp]; simp; omega)
  have hZ2 : Z < 2 * val Y := by rw [hZ]; exact Nat.mod_lt _ (by omega)
  have hXY := half_big X Y hfx (by omega)
  have aZ : val X = Z := by rw [hZ, Nat.mod_eq_of_lt hXY]
  have a1 := hfx
  obtain ⟨A1, A2, A3, A4⟩ := pos_rung X a1
  obtain ⟨h', k1, k2, k3⟩ := half_fit Y hfy (by omega)
  have rh : ∀ ty w, (binOp .mul ty (.float .f64 4602678819172646912) (.float .f64 Y)).run Try.prog w = .ok (.float .f64 h') w := fun ty w => run_float_arith w .mul ty .f64 _ Y _ k3
  obtain ⟨K1, K2, K3, K4⟩ := pos_rung h' k1
  have hlt := @val_lt_iff h' X
  have tg : ∀ _ : True, (FloatKind.f64.format.order X h' == some Ordering.gt) = true := fun _ => (ord_gt X h' A3 K3).trans (by rw [A4, K4]; simp; omega)
  obtain ⟨d, d1, d2, d3, d4⟩ := sub_near X Y a1 hfy (by omega) (by omega)
  rw [aZ] at d2 d3 d4
  have hdl : decide (Z < val Y) = false := by simp; omega
  rw [hdl] at d2
  have d5 := d3 (by omega)
  clear d3 d4 hdl
  obtain ⟨D1, D2, D3, D4⟩ := pos_rung d d1
  have rs : ∀ ty w, (binOp .sub ty (.float .f64 X) (.float .f64 Y)).run Try.prog w = .ok (.float .f64 d) w := fun ty w => run_float_arith w .sub ty .f64 _ Y _ d2
  have hlt2 := @val_lt_iff d h'
  have tg2 : ∀ _ : True, (FloatKind.f64.format.order d h' == some Ordering.gt || FloatKind.f64.format.order d h' == some Ordering.eq) = true := fun _ => (ord_ge _ h' D3 K3).trans (by rw [D4, K4]; simp; omega)
  obtain ⟨g, g1, g2, g3, g4⟩ := sub_near d Y d1 hfy (by omega) (by omega)
  rw [d5] at g2 g3 g4
  have hgl : decide (Z - val Y < val Y) = true := by simp; omega
  rw [hgl] at g2
  have g5 := g4 (by omega)
  have rs2 : ∀ ty w, (binOp .sub ty (.float .f64 d) (.float .f64 Y)).run Try.prog w = .ok (.float .f64 (wordD true g)) w := fun ty w => run_float_arith w .sub ty .f64 _ Y _ g2
  rw [← g5, near_val (!true) g (by omega)] at hW
  clear g3 g4 hgl g2
  have ern := neg_wordX true g (by omega)
  have rn : ∀ w, (Op.unary .neg (.float .f64 (wordD true g))).run Try.prog w = .ok (.float .f64 MW) w := fun w => by
    have g' : wordD true g ^^^ 9223372036854775808 = MW := ern.trans hW.symm
    rw [← g']; rfl
  clear ern
  generalize wordD true g = rw' at *
  have HALL := Lib.hid (And.intro aZ (And.intro hZ2 hYp))
  clear hW aZ hZ hZ2 hYp hc hbr hne hfx hfy h0x h0y hnx hny ix iy X1 X2 X3 X4 Y1 Y2 Y3 Y4 A1 A2 A3 A4 a1 hq hp hlt k1 k2 k3 K1 K2 K3 K4 hXY d1 d2 d5 D1 D2 D3 D4 hlt2 g1 g5
  clear wx wy ex ey hX hY
  go_enter Try.func43, Try.ntmps43
  go_wp2_with fail
  refine (isNaN_any x false nx _).mono ?_
  rintro e w' ⟨rfl, rfl⟩
  go_wp2_with fail
  refine (isNaN_any y false ny _).mono ?_
  rintro e w' ⟨rfl, rfl⟩
  go_wp2_with fail
  refine (ci _).mono ?_
  rintro e w' ⟨rfl, rfl⟩
  go_wp2_with fail
  refine (cj _).mono ?_
  rintro e w' ⟨rfl, rfl⟩
  go_wp2
  go_ret
  exact ⟨rfl, rfl⟩

set_option maxHeartbeats 400000 in
theorem rm_tf_T1 (x y : Nat) (hx : x < 18446744073709551616) (hy : y < 18446744073709551616) (hfx : rung x < 9218868437227405312) (hfy : rung y < 9218868437227405312) (h0x : rung x ≠ 0) (h0y : rung y ≠ 0) (hnx : negB x = true) (hny : negB y = false) (hne : rung x ≠ rung y) (hbr : rung y < 9007199254740992) (Z : Nat) (hZ : Z = val (rung x) % (2 * val (rung y))) (hc : ¬ val (rung y) < 2 * Z) (w : World) :
    Calls Try.prog 43 #[.float .f64 x, .float .f64 y] w fun e w' => e = .returned (.float .f64 (remW x y)) ∧ w = w' := by
  have nx : isNan x = false := by unfold isNan; simp; omega
  have ny : isNan y = false := by unfold isNan; simp; omega
  have ix : isInf x = false := by unfold isInf; simp; omega
  have iy : isInf y = false := by unfold isInf; simp; omega
  have ci := fun w => isInf_zero x hx w
  rw [ix] at ci
  have cj := fun w => isInf_zero y hy w
  rw [iy] at cj
  have ty : ∀ _ : True, (FloatKind.f64.format.order y 0 == some Ordering.eq) = false := fun _ => y_not_zero y h0y
  have tx : ∀ _ : True, (FloatKind.f64.format.order x 0 == some Ordering.lt) = true := fun _ => (ord_lt x 0 nx nan_zero).trans (by rw [place_zero]; unfold place; rw [hnx]; simp; try omega)
  have tyl : ∀ _ : True, (FloatKind.f64.format.order y 0 == some Ordering.lt) = false := fun _ => (ord_lt y 0 ny nan_zero).trans (by rw [place_zero]; unfold place; rw [hny]; simp; try omega)
  have hout := rem_out x y Z (val_pos' _ h0y) hZ
  have hW := hout.1 hc
  rw [hnx] at hW
  generalize remW x y = MW at *
  clear hout
  have ex := neg_num x hx
  have wx := word_of x hx
  rw [hnx] at ex wx
  have ey := neg_num y hy
  have wy := word_of y hy
  rw [hny] at ey wy
  obtain ⟨X, hX⟩ : ∃ X, X = rung x := ⟨_, rfl⟩
  obtain ⟨Y, hY⟩ : ∃ Y, Y = rung y := ⟨_, rfl⟩
  rw [← hX] at ex wx hfx hZ hne h0x
  rw [← hY] at ey wy hfy hZ hne hbr hc h0y
  have rx : ∀ w, (Op.unary .neg (.float .f64 x)).run Try.prog w = .ok (.float .f64 X) w := fun w => by
    have g : x ^^^ 9223372036854775808 = X := ex
    rw [← g]; rfl
  obtain ⟨X1, X2, X3, X4⟩ := pos_rung X hfx
  obtain ⟨Y1, Y2, Y3, Y4⟩ := pos_rung Y hfy
  have hYp := val_pos' Y h0y
  have hq : place 9007199254740992 = 9007199254740992 := by decide
  have hp : place 9214364837600034815 = 9214364837600034815 := by decide
  have teq : ∀ _ : True, (FloatKind.f64.format.order X Y == some Ordering.eq) = false := fun _ => (ord_eq X Y X3 Y3).trans (by rw [X4, Y4]; simp; omega)
  have tT : ∀ _ : True, (FloatKind.f64.format.order Y 9007199254740992 == some Ordering.lt) = true := fun _ => (ord_lt Y _ Y3 (by decide)).trans (by rw [Y4, hq]; simp; omega)
  have tH : ∀ _ : True, (FloatKind.f64.format.order Y 9214364837600034815 == some Ordering.lt || FloatKind.f64.format.order Y 9214364837600034815 == some Ordering.eq) = true := fun _ => (ord_le Y _ Y3 (by decide)).trans (by rw [Y4, hp]; simp; omega)
  have hZ2 : Z < 2 * val Y := by rw [hZ]; exact Nat.mod_lt _ (by omega)
  obtain ⟨yy, a, y1, y0, y3, a1, a2, a3⟩ := rem_first X Y hfx hfy h0y (by omega)
  obtain ⟨q1, q2, q3, q4⟩ := pos_rung yy y1
  have cm := fun w => Mod_any X yy (by omega) (by omega) (by omega) (by omega) (by omega) w
  rw [a3] at cm
  have ryy : ∀ ty w, (binOp .add ty (.float .f64 Y) (.float .f64 Y)).run Try.prog w = .ok (.float .f64 yy) w := fun ty w => run_float_arith w .add ty .f64 Y Y yy y3
  have aZ : val a = Z := by rw [a2, hZ]
  clear a2 a3 q1 q2 q3 q4 y0 y1 y3
  obtain ⟨A1, A2, A3, A4⟩ := pos_rung a a1
  have hvt := val_tiny Y hbr
  obtain ⟨aa, b1, b2, b3⟩ := add_self a a1 false (by have := topU_big; omega)
  have raa : ∀ ty w, (binOp .add ty (.float .f64 a) (.float .f64 a)).run Try.prog w = .ok (.float .f64 aa) w := fun ty w => run_float_arith w .add ty .f64 _ _ aa b3
  obtain ⟨B1, B2, B3, B4⟩ := pos_rung aa b1
  have hlt := @val_lt_iff Y aa
  have tg : ∀ _ : True, (FloatKind.f64.format.order aa Y == some Ordering.gt) = false := fun _ => (ord_gt aa Y B3 Y3).trans (by rw [B4, Y4]; simp; omega)
  rw [← aZ, near_val true a (by omega)] at hW
  have ern := neg_wordX false a (by omega)
  have rn : ∀ w, (Op.unary .neg (.float .f64 a)).run Try.prog w = .ok (.float .f64 MW) w := fun w => by
    have g' : wordD false a ^^^ 9223372036854775808 = MW := ern.trans hW.symm
    rw [← g']; rfl
  clear ern
  have HALL := Lib.hid (And.intro aZ (And.intro hZ2 hYp))
  clear hW aZ hZ hZ2 hYp hc hbr hne hfx hfy h0x h0y hnx hny ix iy X1 X2 X3 X4 Y1 Y2 Y3 Y4 A1 A2 A3 A4 a1 hq hp hlt hvt b1 b2 b3 B1 B2 B3 B4
  have hyY : Y = y := wy
  clear wx wy ex ey hX hY
  subst hyY
  go_enter Try.func43, Try.ntmps43
  go_wp2_with fail
  refine (isNaN_any x false nx _).mono ?_
  rintro e w' ⟨rfl, rfl⟩
  go_wp2_with fail
  refine (isNaN_any Y false ny _).mono ?_
  rintro e w' ⟨rfl, rfl⟩
  go_wp2_with fail
  refine (ci _).mono ?_
  rintro e w' ⟨rfl, rfl⟩
  go_wp2_with fail
  refine (cj _).mono ?_
  rintro e w' ⟨rfl, rfl⟩
  go_wp2_with fail
  refine (cm _).mono ?_
  rintro e w' ⟨rfl, rfl⟩
  go_wp2
  go_ret
  exact ⟨rfl, rfl⟩

set_option maxHeartbeats 400000 in
theorem rm_tf_T2 (x y : Nat) (hx : x < 18446744073709551616) (hy : y < 18446744073709551616) (hfx : rung x < 9218868437227405312) (hfy : rung y < 9218868437227405312) (h0x : rung x ≠ 0) (h0y : rung y ≠ 0) (hnx : negB x = true) (hny : negB y = false) (hne : rung x ≠ rung y) (hbr : rung y < 9007199254740992) (Z : Nat) (hZ : Z = val (rung x) % (2 * val (rung y))) (hc : val (rung y) < 2 * Z ∧ Z < val (rung y)) (w : World) :
    Calls Try.prog 43 #[.float .f64 x, .float .f64 y] w fun e w' => e = .returned (.float .f64 (remW x y)) ∧ w = w' := by
  have nx : isNan x = false := by unfold isNan; simp; omega
  have ny : isNan y = false := by unfold isNan; simp; omega
  have ix : isInf x = false := by unfold isInf; simp; omega
  have iy : isInf y = false := by unfold isInf; simp; omega
  have ci := fun w => isInf_zero x hx w
  rw [ix] at ci
  have cj := fun w => isInf_zero y hy w
  rw [iy] at cj
  have ty : ∀ _ : True, (FloatKind.f64.format.order y 0 == some Ordering.eq) = false := fun _ => y_not_zero y h0y
  have tx : ∀ _ : True, (FloatKind.f64.format.order x 0 == some Ordering.lt) = true := fun _ => (ord_lt x 0 nx nan_zero).trans (by rw [place_zero]; unfold place; rw [hnx]; simp; try omega)
  have tyl : ∀ _ : True, (FloatKind.f64.format.order y 0 == some Ordering.lt) = false := fun _ => (ord_lt y 0 ny nan_zero).trans (by rw [place_zero]; unfold place; rw [hny]; simp; try omega)
  have hout := rem_out x y Z (val_pos' _ h0y) hZ
  have hW := hout.2.1 hc.1 hc.2
  rw [hnx] at hW
  generalize remW x y = MW at *
  clear hout
  have ex := neg_num x hx
  have wx := word_of x hx
  rw [hnx] at ex wx
  have ey := neg_num y hy
  have wy := word_of y hy
  rw [hny] at ey wy
  obtain ⟨X, hX⟩ : ∃ X, X = rung x := ⟨_, rfl⟩
  obtain ⟨Y, hY⟩ : ∃ Y, Y = rung y := ⟨_, rfl⟩
  rw [← hX] at ex wx hfx hZ hne h0x
  rw [← hY] at ey wy hfy hZ hne hbr hc hW h0y
  have rx : ∀ w, (Op.unary .neg (.float .f64 x)).run Try.prog w = .ok (.float .f64 X) w := fun w => by
    have g : x ^^^ 9223372036854775808 = X := ex
    rw [← g]; rfl
  obtain ⟨X1, X2, X3, X4⟩ := pos_rung X hfx
  obtain ⟨Y1, Y2, Y3, Y4⟩ := pos_rung Y hfy
  have hYp := val_pos' Y h0y
  have hq : place 9007199254740992 = 9007199254740992 := by decide
  have hp : place 9214364837600034815 = 9214364837600034815 := by decide
  have teq : ∀ _ : True, (FloatKind.f64.format.order X Y == some Ordering.eq) = false := fun _ => (ord_eq X Y X3 Y3).trans (by rw [X4, Y4]; simp; omega)
  have tT : ∀ _ : True, (FloatKind.f64.format.order Y 9007199254740992 == some Ordering.lt) = true := fun _ => (ord_lt Y _ Y3 (by decide)).trans (by rw [Y4, hq]; simp; omega)
  have tH : ∀ _ : True, (FloatKind.f64.format.order Y 9214364837600034815 == some Ordering.lt || FloatKind.f64.format.order Y 9214364837600034815 == some Ordering.eq) = true := fun _ => (ord_le Y _ Y3 (by decide)).trans (by rw [Y4, hp]; simp; omega)
  have hZ2 : Z < 2 * val Y := by rw [hZ]; exact Nat.mod_lt _ (by omega)
  obtain ⟨yy, a, y1, y0, y3, a1, a2, a3⟩ := rem_first X Y hfx hfy h0y (by omega)
  obtain ⟨q1, q2, q3, q4⟩ := pos_rung yy y1
  have cm := fun w => Mod_any X yy (by omega) (by omega) (by omega) (by omega) (by omega) w
  rw [a3] at cm
  have ryy : ∀ ty w, (binOp .add ty (.float .f64 Y) (.float .f64 Y)).run Try.prog w = .ok (.float .f64 yy) w := fun ty w => run_float_arith w .add ty .f64 Y Y yy y3
  have aZ : val a = Z := by rw [a2, hZ]
  clear a2 a3 q1 q2 q3 q4 y0 y1 y3
  obtain ⟨A1, A2, A3, A4⟩ := pos_rung a a1
  have hvt := val_tiny Y hbr
  obtain ⟨aa, b1, b2, b3⟩ := add_self a a1 false (by have := topU_big; omega)
  have raa : ∀ ty w, (binOp .add ty (.float .f64 a) (.float .f64 a)).run Try.prog w = .ok (.float .f64 aa) w := fun ty w => run_float_arith w .add ty .f64 _ _ aa b3
  obtain ⟨B1, B2, B3, B4⟩ := pos_rung aa b1
  have hlt := @val_lt_iff Y aa
  have tg : ∀ _ : True, (FloatKind.f64.format.order aa Y == some Ordering.gt) = true := fun _ => (ord_gt aa Y B3 Y3).trans (by rw [B4, Y4]; simp; omega)
  obtain ⟨d, d1, d2, d3, d4⟩ := sub_near a Y a1 hfy (by omega) (by omega)
  rw [aZ] at d2 d3 d4
  have hdl : decide (Z < val Y) = true := by simp; omega
  rw [hdl] at d2
  have d5 := d4 (by omega)
  clear d3 d4 hdl
  obtain ⟨pd1, pd2⟩ := place_word true d d1
  have rs : ∀ ty w, (binOp .sub ty (.float .f64 a) (.float .f64 Y)).run Try.prog w = .ok (.float .f64 (wordD true d)) w := fun ty w => run_float_arith w .sub ty .f64 _ Y _ d2
  rw [← d5, near_val (!true) d (by omega)] at hW
  obtain ⟨dd, f1, f2, f3⟩ := add_self d d1 true (by have := topU_big; omega)
  have rdd : ∀ ty w, (binOp .add ty (.float .f64 (wordD true d)) (.float .f64 (wordD true d))).run Try.prog w = .ok (.float .f64 (wordD true dd)) w := fun ty w => run_float_arith w .add ty .f64 _ _ _ f3
  obtain ⟨pe1, pe2⟩ := place_word true dd f1
  have tg2 : ∀ _ : True, (FloatKind.f64.format.order (wordD true dd) Y == some Ordering.gt || FloatKind.f64.format.order (wordD true dd) Y == some Ordering.eq) = false := fun _ => (ord_ge _ Y pe1 Y3).trans (by rw [pe2, Y4]; simp; omega)
  generalize wordD true dd = dw at *
  have ern := neg_wordX true d (by omega)
  have rn : ∀ w, (Op.unary .neg (.float .f64 (wordD true d))).run Try.prog w = .ok (.float .f64 MW) w := fun w => by
    have g' : wordD true d ^^^ 9223372036854775808 = MW := ern.trans hW.symm
    rw [← g']; rfl
  clear ern
  generalize wordD true d = rw' at *
  have HALL := Lib.hid (And.intro aZ (And.intro hZ2 hYp))
  clear hW aZ hZ hZ2 hYp hc hbr hne hfx hfy h0x h0y hnx hny ix iy X1 X2 X3 X4 Y1 Y2 Y3 Y4 A1 A2 A3 A4 a1 hq hp hlt hvt b1 b2 b3 B1 B2 B3 B4 d1 d2 d5 pd1 pd2 f1 f2 f3 pe1 pe2
  have hyY : Y = y := wy
  clear wx wy ex ey hX hY
  subst hyY
  go_enter Try.func43, Try.ntmps43
  go_wp2_with fail
  refine (isNaN_any x false nx _).mono ?_
  rintro e w' ⟨rfl, rfl⟩
  go_wp2_with fail
  refine (isNaN_any Y false ny _).mono ?_
  rintro e w' ⟨rfl, rfl⟩
  go_wp2_with fail
  refine (ci _).mono ?_
  rintro e w' ⟨rfl, rfl⟩
  go_wp2_with fail
  refine (cj _).mono ?_
  rintro e w' ⟨rfl, rfl⟩
  go_wp2_with fail
  refine (cm _).mono ?_
  rintro e w' ⟨rfl, rfl⟩
  go_wp2
  go_ret
  exact ⟨rfl, rfl⟩

set_option maxHeartbeats 400000 in
theorem rm_tf_T3 (x y : Nat) (hx : x < 18446744073709551616) (hy : y < 18446744073709551616) (hfx : rung x < 9218868437227405312) (hfy : rung y < 9218868437227405312) (h0x : rung x ≠ 0) (h0y : rung y ≠ 0) (hnx : negB x = true) (hny : negB y = false) (hne : rung x ≠ rung y) (hbr : rung y < 9007199254740992) (Z : Nat) (hZ : Z = val (rung x) % (2 * val (rung y))) (hc : val (rung y) ≤ Z ∧ 2 * (Z - val (rung y)) < val (rung y)) (w : World) :
    Calls Try.prog 43 #[.float .f64 x, .float .f64 y] w fun e w' => e = .returned (.float .f64 (remW x y)) ∧ w = w' := by
  have nx : isNan x = false := by unfold isNan; simp; omega
  have ny : isNan y = false := by unfold isNan; simp; omega
  have ix : isInf x = false := by unfold isInf; simp; omega
  have iy : isInf y = false := by unfold isInf; simp; omega
  have ci := fun w => isInf_zero x hx w
  rw [ix] at ci
  have cj := fun w => isInf_zero y hy w
  rw [iy] at cj
  have ty : ∀ _ : True, (FloatKind.f64.format.order y 0 == some Ordering.eq) = false := fun _ => y_not_zero y h0y
  have tx : ∀ _ : True, (FloatKind.f64.format.order x 0 == some Ordering.lt) = true := fun _ => (ord_lt x 0 nx nan_zero).trans (by rw [place_zero]; unfold place; rw [hnx]; simp; try omega)
  have tyl : ∀ _ : True, (FloatKind.f64.format.order y 0 == some Ordering.lt) = false := fun _ => (ord_lt y 0 ny nan_zero).trans (by rw [place_zero]; unfold place; rw [hny]; simp; try omega)
  have hout := rem_out x y Z (val_pos' _ h0y) hZ
  have hW := hout.2.2.1 hc.1 hc.2
  rw [hnx] at hW
  generalize remW x y = MW at *
  clear hout
  have ex := neg_num x hx
  have wx := word_of x hx
  rw [hnx] at ex wx
  have ey := neg_num y hy
  have wy := word_of y hy
  rw [hny] at ey wy
  obtain ⟨X, hX⟩ : ∃ X, X = rung x := ⟨_, rfl⟩
  obtain ⟨Y, hY⟩ : ∃ Y, Y = rung y := ⟨_, rfl⟩
  rw [← hX] at ex wx hfx hZ hne h0x
  rw [← hY] at ey wy hfy hZ hne hbr hc hW h0y
  have rx : ∀ w, (Op.unary .neg (.float .f64 x)).run Try.prog w = .ok (.float .f64 X) w := fun w => by
    have g : x ^^^ 9223372036854775808 = X := ex
    rw [← g]; rfl
  obtain ⟨X1, X2, X3, X4⟩ := pos_rung X hfx
  obtain ⟨Y1, Y2, Y3, Y4⟩ := pos_rung Y hfy
  have hYp := val_pos' Y h0y
  have hq : place 9007199254740992 = 9007199254740992 := by decide
  have hp : place 9214364837600034815 = 9214364837600034815 := by decide
  have teq : ∀ _ : True, (FloatKind.f64.format.order X Y == some Ordering.eq) = false := fun _ => (ord_eq X Y X3 Y3).trans (by rw [X4, Y4]; simp; omega)
  have tT : ∀ _ : True, (FloatKind.f64.format.order Y 9007199254740992 == some Ordering.lt) = true := fun _ => (ord_lt Y _ Y3 (by decide)).trans (by rw [Y4, hq]; simp; omega)
  have tH : ∀ _ : True, (FloatKind.f64.format.order Y 9214364837600034815 == some Ordering.lt || FloatKind.f64.format.order Y 9214364837600034815 == some Ordering.eq) = true := fun _ => (ord_le Y _ Y3 (by decide)).trans (by rw [Y4, hp]; simp; omega)
  have hZ2 : Z < 2 * val Y := by rw [hZ]; exact Nat.mod_lt _ (by omega)
  obtain ⟨yy, a, y1, y0, y3, a1, a2, a3⟩ := rem_first X Y hfx hfy h0y (by omega)
  obtain ⟨q1, q2, q3, q4⟩ := pos_rung yy y1
  have cm := fun w => Mod_any X yy (by omega) (by omega) (by omega) (by omega) (by omega) w
  rw [a3] at cm
  have ryy : ∀ ty w, (binOp .add ty (.float .f64 Y) (.float .f64 Y)).run Try.prog w = .ok (.float .f64 yy) w := fun ty w => run_float_arith w .add ty .f64 Y Y yy y3
  have aZ : val a = Z := by rw [a2, hZ]
  clear a2 a3 q1 q2 q3 q4 y0 y1 y3
  obtain ⟨A1, A2, A3, A4⟩ := pos_rung a a1
  have hvt := val_tiny Y hbr
  obtain ⟨aa, b1, b2, b3⟩ := add_self a a1 false (by have := topU_big; omega)
  have raa : ∀ ty w, (binOp .add ty (.float .f64 a) (.float .f64 a)).run Try.prog w = .ok (.float .f64 aa) w := fun ty w => run_float_arith w .add ty .f64 _ _ aa b3
  obtain ⟨B1, B2, B3, B4⟩ := pos_rung aa b1
  have hlt := @val_lt_iff Y aa
  have tg : ∀ _ : True, (FloatKind.f64.format.order aa Y == some Ordering.gt) = true := fun _ => (ord_gt aa Y B3 Y3).trans (by rw [B4, Y4]; simp; omega)
  obtain ⟨d, d1, d2, d3, d4⟩ := sub_near a Y a1 hfy (by omega) (by omega)
  rw [aZ] at d2 d3 d4
  have hdl : decide (Z < val Y) = false := by simp; omega
  rw [hdl] at d2
  have d5 := d3 (by omega)
  clear d3 d4 hdl
  obtain ⟨D1, D2, D3, D4⟩ := pos_rung d d1
  have rs : ∀ ty w, (binOp .sub ty (.float .f64 a) (.float .f64 Y)).run Try.prog w = .ok (.float .f64 d) w := fun ty w => run_float_arith w .sub ty .f64 _ Y _ d2
  obtain ⟨dd, f1, f2, f3⟩ := add_self d d1 false (by have := topU_big; omega)
  have rdd : ∀ ty w, (binOp .add ty (.float .f64 d) (.float .f64 d)).run Try.prog w = .ok (.float .f64 dd) w := fun ty w => run_float_arith w .add ty .f64 _ _ _ f3
  obtain ⟨E1, E2, E3, E4⟩ := pos_rung dd f1
  have hlt2 := @val_lt_iff dd Y
  have tg2 : ∀ _ : True, (FloatKind.f64.format.order dd Y == some Ordering.gt || FloatKind.f64.format.order dd Y == some Ordering.eq) = false := fun _ => (ord_ge _ Y E3 Y3).trans (by rw [E4, Y4]; simp; omega)
  rw [← d5, near_val true d (by omega)] at hW
  have ern := neg_wordX false d (by omega)
  have rn : ∀ w, (Op.unary .neg (.float .f64 d)).run Try.prog w = .ok (.float .f64 MW) w := fun w => by
    have g' : wordD false d ^^^ 9223372036854775808 = MW := ern.trans hW.symm
    rw [← g']; rfl
  clear ern
  have HALL := Lib.hid (And.intro aZ (And.intro hZ2 hYp))
  clear hW aZ hZ hZ2 hYp hc hbr hne hfx hfy h0x h0y hnx hny ix iy X1 X2 X3 X4 Y1 Y2 Y3 Y4 A1 A2 A3 A4 a1 hq hp hlt hvt b1 b2 b3 B1 B2 B3 B4 d1 d2 d5 D1 D2 D3 D4 hlt2 f1 f2 f3 E1 E2 E3 E4
  have hyY : Y = y := wy
  clear wx wy ex ey hX hY
  subst hyY
  go_enter Try.func43, Try.ntmps43
  go_wp2_with fail
  refine (isNaN_any x false nx _).mono ?_
  rintro e w' ⟨rfl, rfl⟩
  go_wp2_with fail
  refine (isNaN_any Y false ny _).mono ?_
  rintro e w' ⟨rfl, rfl⟩
  go_wp2_with fail
  refine (ci _).mono ?_
  rintro e w' ⟨rfl, rfl⟩
  go_wp2_with fail
  refine (cj _).mono ?_
  rintro e w' ⟨rfl, rfl⟩
  go_wp2_with fail
  refine (cm _).mono ?_
  rintro e w' ⟨rfl, rfl⟩
  go_wp2
  go_ret
  exact ⟨rfl, rfl⟩

set_option maxHeartbeats 400000 in
theorem rm_tf_T4 (x y : Nat) (hx : x < 18446744073709551616) (hy : y < 18446744073709551616) (hfx : rung x < 9218868437227405312) (hfy : rung y < 9218868437227405312) (h0x : rung x ≠ 0) (h0y : rung y ≠ 0) (hnx : negB x = true) (hny : negB y = false) (hne : rung x ≠ rung y) (hbr : rung y < 9007199254740992) (Z : Nat) (hZ : Z = val (rung x) % (2 * val (rung y))) (hc : val (rung y) ≤ Z ∧ val (rung y) ≤ 2 * (Z - val (rung y))) (w : World) :
    Calls Try.prog 43 #[.float .f64 x, .float .f64 y] w fun e w' => e = .returned (.float .f64 (remW x y)) ∧ w = w' := by
  have nx : isNan x = false := by unfold isNan; simp; omega
  have ny : isNan y = false := by unfold isNan; simp; omega
  have ix : isInf x = false := by unfold isInf; simp; omega
  have iy : isInf y = false := by unfold isInf; simp; omega
  have ci := fun w => isInf_zero x hx w
  rw [ix] at ci
  have cj := fun w => isInf_zero y hy w
  rw [iy] at cj
  have ty : ∀ _ : True, (FloatKind.f64.format.order y 0 == some Ordering.eq) = false := fun _ => y_not_zero y h0y
  have tx : ∀ _ : True, (FloatKind.f64.format.order x 0 == some Ordering.lt) = true := fun _ => (ord_lt x 0 nx nan_zero).trans (by rw [place_zero]; unfold place; rw [hnx]; simp; try omega)
  have tyl : ∀ _ : True, (FloatKind.f64.format.order y 0 == some Ordering.lt) = false := fun _ => (ord_lt y 0 ny nan_zero).trans (by rw [place_zero]; unfold place; rw [hny]; simp; try omega)
  have hout := rem_out x y Z (val_pos' _ h0y) hZ
  have hW := hout.2.2.2 hc.1 hc.2
  rw [hnx] at hW
  generalize remW x y = MW at *
  clear hout
  have ex := neg_num x hx
  have wx := word_of x hx
  rw [hnx] at ex wx
  have ey := neg_num y hy
  have wy := word_of y hy
  rw [hny] at ey wy
  obtain ⟨X, hX⟩ : ∃ X, X = rung x := ⟨_, rfl⟩
  obtain ⟨Y, hY⟩ : ∃ Y, Y = rung y := ⟨_, rfl⟩
  rw [← hX] at ex wx hfx hZ hne h0x
  rw [← hY] at ey wy hfy hZ hne hbr hc hW h0y
  have rx : ∀ w, (Op.unary .neg (.float .f64 x)).run Try.prog w = .ok (.float .f64 X) w := fun w => by
    have g : x ^^^ 9223372036854775808 = X := ex
    rw [← g]; rfl
  obtain ⟨X1, X2, X3, X4⟩ := pos_rung X hfx
  obtain ⟨Y1, Y2, Y3, Y4⟩ := pos_rung Y hfy
  have hYp := val_pos' Y h0y
  have hq : place 9007199254740992 = 9007199254740992 := by decide
  have hp : place 9214364837600034815 = 9214364837600034815 := by decide
  have teq : ∀ _ : True, (FloatKind.f64.format.order X Y == some Ordering.eq) = false := fun _ => (ord_eq X Y X3 Y3).trans (by rw [X4, Y4]; simp; omega)
  have tT : ∀ _ : True, (FloatKind.f64.format.order Y 9007199254740992 == some Ordering.lt) = true := fun _ => (ord_lt Y _ Y3 (by decide)).trans (by rw [Y4, hq]; simp; omega)
  have tH : ∀ _ : True, (FloatKind.f64.format.order Y 9214364837600034815 == some Ordering.lt || FloatKind.f64.format.order Y 9214364837600034815 == some Ordering.eq) = true := fun _ => (ord_le Y _ Y3 (by decide)).trans (by rw [Y4, hp]; simp; omega)
  have hZ2 : Z < 2 * val Y := by rw [hZ]; exact Nat.mod_lt _ (by omega)
  obtain ⟨yy, a, y1, y0, y3, a1, a2, a3⟩ := rem_first X Y hfx hfy h0y (by omega)
  obtain ⟨q1, q2, q3, q4⟩ := pos_rung yy y1
  have cm := fun w => Mod_any X yy (by omega) (by omega) (by omega) (by omega) (by omega) w
  rw [a3] at cm
  have ryy : ∀ ty w, (binOp .add ty (.float .f64 Y) (.float .f64 Y)).run Try.prog w = .ok (.float .f64 yy) w := fun ty w => run_float_arith w .add ty .f64 Y Y yy y3
  have aZ : val a = Z := by rw [a2, hZ]
  clear a2 a3 q1 q2 q3 q4 y0 y1 y3
  obtain ⟨A1, A2, A3, A4⟩ := pos_rung a a1
  have hvt := val_tiny Y hbr
  obtain ⟨aa, b1, b2, b3⟩ := add_self a a1 false (by have := topU_big; omega)
  have raa : ∀ ty w, (binOp .add ty (.float .f64 a) (.float .f64 a)).run Try.prog w = .ok (.float .f64 aa) w := fun ty w => run_float_arith w .add ty .f64 _ _ aa b3
  obtain ⟨B1, B2, B3, B4⟩ := pos_rung aa b1
  have hlt := @val_lt_iff Y aa
  have tg : ∀ _ : True, (FloatKind.f64.format.order aa Y == some Ordering.gt) = true := fun _ => (ord_gt aa Y B3 Y3).trans (by rw [B4, Y4]; simp; omega)
  obtain ⟨d, d1, d2, d3, d4⟩ := sub_near a Y a1 hfy (by omega) (by omega)
  rw [aZ] at d2 d3 d4
  have hdl : decide (Z < val Y) = false := by simp; omega
  rw [hdl] at d2
  have d5 := d3 (by omega)
  clear d3 d4 hdl
  obtain ⟨D1, D2, D3, D4⟩ := pos_rung d d1
  have rs : ∀ ty w, (binOp .sub ty (.float .f64 a) (.float .f64 Y)).run Try.prog w = .ok (.float .f64 d) w := fun ty w => run_float_arith w .sub ty .f64 _ Y _ d2
  obtain ⟨dd, f1, f2, f3⟩ := add_self d d1 false (by have := topU_big; omega)
  have rdd : ∀ ty w, (binOp .add ty (.float .f64 d) (.float .f64 d)).run Try.prog w = .ok (.float .f64 dd) w := fun ty w => run_float_arith w .add ty .f64 _ _ _ f3
  obtain ⟨E1, E2, E3, E4⟩ := pos_rung dd f1
  have hlt2 := @val_lt_iff dd Y
  have tg2 : ∀ _ : True, (FloatKind.f64.format.order dd Y == some Ordering.gt || FloatKind.f64.format.order dd Y == some Ordering.eq) = true := fun _ => (ord_ge _ Y E3 Y3).trans (by rw [E4, Y4]; simp; omega)
  obtain ⟨g, g1, g2, g3, g4⟩ := sub_near d Y d1 hfy (by omega) (by omega)
  rw [d5] at g2 g3 g4
  have hgl : decide (Z - val Y < val Y) = true := by simp; omega
  rw [hgl] at g2
  have g5 := g4 (by omega)
  have rs2 : ∀ ty w, (binOp .sub ty (.float .f64 d) (.float .f64 Y)).run Try.prog w = .ok (.float .f64 (wordD true g)) w := fun ty w => run_float_arith w .sub ty .f64 _ Y _ g2
  rw [← g5, near_val (!true) g (by omega)] at hW
  clear g3 g4 hgl g2
  have ern := neg_wordX true g (by omega)
  have rn : ∀ w, (Op.unary .neg (.float .f64 (wordD true g))).run Try.prog w = .ok (.float .f64 MW) w := fun w => by
    have g' : wordD true g ^^^ 9223372036854775808 = MW := ern.trans hW.symm
    rw [← g']; rfl
  clear ern
  generalize wordD true g = rw' at *
  have HALL := Lib.hid (And.intro aZ (And.intro hZ2 hYp))
  clear hW aZ hZ hZ2 hYp hc hbr hne hfx hfy h0x h0y hnx hny ix iy X1 X2 X3 X4 Y1 Y2 Y3 Y4 A1 A2 A3 A4 a1 hq hp hlt hvt b1 b2 b3 B1 B2 B3 B4 d1 d2 d5 D1 D2 D3 D4 hlt2 f1 f2 f3 E1 E2 E3 E4 g1 g5
  have hyY : Y = y := wy
  clear wx wy ex ey hX hY
  subst hyY
  go_enter Try.func43, Try.ntmps43
  go_wp2_with fail
  refine (isNaN_any x false nx _).mono ?_
  rintro e w' ⟨rfl, rfl⟩
  go_wp2_with fail
  refine (isNaN_any Y false ny _).mono ?_
  rintro e w' ⟨rfl, rfl⟩
  go_wp2_with fail
  refine (ci _).mono ?_
  rintro e w' ⟨rfl, rfl⟩
  go_wp2_with fail
  refine (cj _).mono ?_
  rintro e w' ⟨rfl, rfl⟩
  go_wp2_with fail
  refine (cm _).mono ?_
  rintro e w' ⟨rfl, rfl⟩
  go_wp2
  go_ret
  exact ⟨rfl, rfl⟩

set_option maxHeartbeats 400000 in
theorem rm_tf_M1 (x y : Nat) (hx : x < 18446744073709551616) (hy : y < 18446744073709551616) (hfx : rung x < 9218868437227405312) (hfy : rung y < 9218868437227405312) (h0x : rung x ≠ 0) (h0y : rung y ≠ 0) (hnx : negB x = true) (hny : negB y = false) (hne : rung x ≠ rung y) (hbr : 9007199254740992 ≤ rung y ∧ rung y ≤ 9214364837600034815) (Z : Nat) (hZ : Z = val (rung x) % (2 * val (rung y))) (hc : ¬ val (rung y) < 2 * Z) (w : World) :
    Calls Try.prog 43 #[.float .f64 x, .float .f64 y] w fun e w' => e = .returned (.float .f64 (remW x y)) ∧ w = w' := by
  have nx : isNan x = false := by unfold isNan; simp; omega
  have ny : isNan y = false := by unfold isNan; simp; omega
  have ix : isInf x = false := by unfold isInf; simp; omega
  have iy : isInf y = false := by unfold isInf; simp; omega
  have ci := fun w => isInf_zero x hx w
  rw [ix] at ci
  have cj := fun w => isInf_zero y hy w
  rw [iy] at cj
  have ty : ∀ _ : True, (FloatKind.f64.format.order y 0 == some Ordering.eq) = false := fun _ => y_not_zero y h0y
  have tx : ∀ _ : True, (FloatKind.f64.format.order x 0 == some Ordering.lt) = true := fun _ => (ord_lt x 0 nx nan_zero).trans (by rw [place_zero]; unfold place; rw [hnx]; simp; try omega)
  have tyl : ∀ _ : True, (FloatKind.f64.format.order y 0 == some Ordering.lt) = false := fun _ => (ord_lt y 0 ny nan_zero).trans (by rw [place_zero]; unfold place; rw [hny]; simp; try omega)
  have hout := rem_out x y Z (val_pos' _ h0y) hZ
  have hW := hout.1 hc
  rw [hnx] at hW
  generalize remW x y = MW at *
  clear hout
  have ex := neg_num x hx
  have wx := word_of x hx
  rw [hnx] at ex wx
  have ey := neg_num y hy
  have wy := word_of y hy
  rw [hny] at ey wy
  obtain ⟨X, hX⟩ : ∃ X, X = rung x := ⟨_, rfl⟩
  obtain ⟨Y, hY⟩ : ∃ Y, Y = rung y := ⟨_, rfl⟩
  rw [← hX] at ex wx hfx hZ hne h0x
  rw [← hY] at ey wy hfy hZ hne hbr hc h0y
  have rx : ∀ w, (Op.unary .neg (.float .f64 x)).run Try.prog w = .ok (.float .f64 X) w := fun w => by
    have g : x ^^^ 9223372036854775808 = X := ex
    rw [← g]; rfl
  obtain ⟨X1, X2, X3, X4⟩ := pos_rung X hfx
  obtain ⟨Y1, Y2, Y3, Y4⟩ := pos_rung Y hfy
  have hYp := val_pos' Y h0y
  have hq : place 9007199254740992 = 9007199254740992 := by decide
  have hp : place 9214364837600034815 = 9214364837600034815 := by decide
  have teq : ∀ _ : True, (FloatKind.f64.format.order X Y == some Ordering.eq) = false := fun _ => (ord_eq X Y X3 Y3).trans (by rw [X4, Y4]; simp; omega)
  have tT : ∀ _ : True, (FloatKind.f64.format.order Y 9007199254740992 == some Ordering.lt) = false := fun _ => (ord_lt Y _ Y3 (by decide)).trans (by rw [Y4, hq]; simp; omega)
  have tH : ∀ _ : True, (FloatKind.f64.format.order Y 9214364837600034815 == some Ordering.lt || FloatKind.f64.format.order Y 9214364837600034815 == some Ordering.eq) = true := fun _ => (ord_le Y _ Y3 (by decide)).trans (by rw [Y4, hp]; simp; omega)
  have hZ2 : Z < 2 * val Y := by rw [hZ]; exact Nat.mod_lt _ (by omega)
  obtain ⟨yy, a, y1, y0, y3, a1, a2, a3⟩ := rem_first X Y hfx hfy h0y (by omega)
  obtain ⟨q1, q2, q3, q4⟩ := pos_rung yy y1
  have cm := fun w => Mod_any X yy (by omega) (by omega) (by omega) (by omega) (by omega) w
  rw [a3] at cm
  have ryy : ∀ ty w, (binOp .add ty (.float .f64 Y) (.float .f64 Y)).run Try.prog w = .ok (.float .f64 yy) w := fun ty w => run_float_arith w .add ty .f64 Y Y yy y3
  have aZ : val a = Z := by rw [a2, hZ]
  clear a2 a3 q1 q2 q3 q4 y0 y1 y3
  obtain ⟨A1, A2, A3, A4⟩ := pos_rung a a1
  obtain ⟨h', k1, k2, k3⟩ := half_fit Y hfy (by omega)
  have rh : ∀ ty w, (binOp .mul ty (.float .f64 4602678819172646912) (.float .f64 Y)).run Try.prog w = .ok (.float .f64 h') w := fun ty w => run_float_arith w .mul ty .f64 _ Y _ k3
  obtain ⟨K1, K2, K3, K4⟩ := pos_rung h' k1
  have hlt := @val_lt_iff h' a
  have tg : ∀ _ : True, (FloatKind.f64.format.order a h' == some Ordering.gt) = false := fun _ => (ord_gt a h' A3 K3).trans (by rw [A4, K4]; simp; omega)
  rw [← aZ, near_val true a (by omega)] at hW
  have ern := neg_wordX false a (by omega)
  have rn : ∀ w, (Op.unary .neg (.float .f64 a)).run Try.prog w = .ok (.float .f64 MW) w := fun w => by
    have g' : wordD false a ^^^ 9223372036854775808 = MW := ern.trans hW.symm
    rw [← g']; rfl
  clear ern
  have HALL := Lib.hid (And.intro aZ (And.intro hZ2 hYp))
  clear hW aZ hZ hZ2 hYp hc hbr hne hfx hfy h0x h0y hnx hny ix iy X1 X2 X3 X4 Y1 Y2 Y3 Y4 A1 A2 A3 A4 a1 hq hp hlt k1 k2 k3 K1 K2 K3 K4
  have hyY : Y = y := wy
  clear wx wy ex ey hX hY
  subst hyY
  go_enter Try.func43, Try.ntmps43
  go_wp2_with fail
  refine (isNaN_any x false nx _).mono ?_
  rintro e w' ⟨rfl, rfl⟩
  go_wp2_with fail
  refine (isNaN_any Y false ny _).mono ?_
  rintro e w' ⟨rfl, rfl⟩
  go_wp2_with fail
  refine (ci _).mono ?_
  rintro e w' ⟨rfl, rfl⟩
  go_wp2_with fail
  refine (cj _).mono ?_
  rintro e w' ⟨rfl, rfl⟩
  go_wp2_with fail
  refine (cm _).mono ?_
  rintro e w' ⟨rfl, rfl⟩
  go_wp2
  go_ret
  exact ⟨rfl, rfl⟩

set_option maxHeartbeats 400000 in
theorem rm_tf_M2 (x y : Nat) (hx : x < 18446744073709551616) (hy : y < 18446744073709551616) (hfx : rung x < 9218868437227405312) (hfy : rung y < 9218868437227405312) (h0x : rung x ≠ 0) (h0y : rung y ≠ 0) (hnx : negB x = true) (hny : negB y = false) (hne : rung x ≠ rung y) (hbr : 9007199254740992 ≤ rung y ∧ rung y ≤ 9214364837600034815) (Z : Nat) (hZ : Z = val (rung x) % (2 * val (rung y))) (hc : val (rung y) < 2 * Z ∧ Z < val (rung y)) (w : World) :
    Calls Try.prog 43 #[.float .f64 x, .float .f64 y] w fun e w' => e = .returned (.float .f64 (remW x y)) ∧ w = w' := by
  have nx : isNan x = false := by unfold isNan; simp; omega
  have ny : isNan y = false := by unfold isNan; simp; omega
  have ix : isInf x = false := by unfold isInf; simp; omega
  have iy : isInf y = false := by unfold isInf; simp; omega
  have ci := fun w => isInf_zero x hx w
  rw [ix] at ci
  have cj := fun w => isInf_zero y hy w
  rw [iy] at cj
  have ty : ∀ _ : True, (FloatKind.f64.format.order y 0 == some Ordering.eq) = false := fun _ => y_not_zero y h0y
  have tx : ∀ _ : True, (FloatKind.f64.format.order x 0 == some Ordering.lt) = true := fun _ => (ord_lt x 0 nx nan_zero).trans (by rw [place_zero]; unfold place; rw [hnx]; simp; try omega)
  have tyl : ∀ _ : True, (FloatKind.f64.format.order y 0 == some Ordering.lt) = false := fun _ => (ord_lt y 0 ny nan_zero).trans (by rw [place_zero]; unfold place; rw [hny]; simp; try omega)
  have hout := rem_out x y Z (val_pos' _ h0y) hZ
  have hW := hout.2.1 hc.1 hc.2
  rw [hnx] at hW
  generalize remW x y = MW at *
  clear hout
  have ex := neg_num x hx
  have wx := word_of x hx
  rw [hnx] at ex wx
  have ey := neg_num y hy
  have wy := word_of y hy
  rw [hny] at ey wy
  obtain ⟨X, hX⟩ : ∃ X, X = rung x := ⟨_, rfl⟩
  obtain ⟨Y, hY⟩ : ∃ Y, Y = rung y := ⟨_, rfl⟩
  rw [← hX] at ex wx hfx hZ hne h0x
  rw [← hY] at ey wy hfy hZ hne hbr hc hW h0y
  have rx : ∀ w, (Op.unary .neg (.float .f64 x)).run Try.prog w = .ok (.float .f64 X) w := fun w => by
    have g : x ^^^ 9223372036854775808 = X := ex
    rw [← g]; rfl
  obtain ⟨X1, X2, X3, X4⟩ := pos_rung X hfx
  obtain ⟨Y1, Y2, Y3, Y4⟩ := pos_rung Y hfy
  have hYp := val_pos' Y h0y
  have hq : place 9007199254740992 = 9007199254740992 := by decide
  have hp : place 9214364837600034815 = 9214364837600034815 := by decide
  have teq : ∀ _ : True, (FloatKind.f64.format.order X Y == some Ordering.eq) = false := fun _ => (ord_eq X Y X3 Y3).trans (by rw [X4, Y4]; simp; omega)
  have tT : ∀ _ : True, (FloatKind.f64.format.order Y 9007199254740992 == some Ordering.lt) = false := fun _ => (ord_lt Y _ Y3 (by decide)).trans (by rw [Y4, hq]; simp; omega)
  have tH : ∀ _ : True, (FloatKind.f64.format.order Y 9214364837600034815 == some Ordering.lt || FloatKind.f64.format.order Y 9214364837600034815 == some Ordering.eq) = true := fun _ => (ord_le Y _ Y3 (by decide)).trans (by rw [Y4, hp]; simp; omega)
  have hZ2 : Z < 2 * val Y := by rw [hZ]; exact Nat.mod_lt _ (by omega)
  obtain ⟨yy, a, y1, y0, y3, a1, a2, a3⟩ := rem_first X Y hfx hfy h0y (by omega)
  obtain ⟨q1, q2, q3, q4⟩ := pos_rung yy y1
  have cm := fun w => Mod_any X yy (by omega) (by omega) (by omega) (by omega) (by omega) w
  rw [a3] at cm
  have ryy : ∀ ty w, (binOp .add ty (.float .f64 Y) (.float .f64 Y)).run Try.prog w = .ok (.float .f64 yy) w := fun ty w => run_float_arith w .add ty .f64 Y Y yy y3
  have aZ : val a = Z := by rw [a2, hZ]
  clear a2 a3 q1 q2 q3 q4 y0 y1 y3
  obtain ⟨A1, A2, A3, A4⟩ := pos_rung a a1
  obtain ⟨h', k1, k2, k3⟩ := half_fit Y hfy (by omega)
  have rh : ∀ ty w, (binOp .mul ty (.float .f64 4602678819172646912) (.float .f64 Y)).run Try.prog w = .ok (.float .f64 h') w := fun ty w => run_float_arith w .mul ty .f64 _ Y _ k3
  obtain ⟨K1, K2, K3, K4⟩ := pos_rung h' k1
  have hlt := @val_lt_iff h' a
  have tg : ∀ _ : True, (FloatKind.f64.format.order a h' == some Ordering.gt) = true := fun _ => (ord_gt a h' A3 K3).trans (by rw [A4, K4]; simp; omega)
  obtain ⟨d, d1, d2, d3, d4⟩ := sub_near a Y a1 hfy (by omega) (by omega)
  rw [aZ] at d2 d3 d4
  have hdl : decide (Z < val Y) = true := by simp; omega
  rw [hdl] at d2
  have d5 := d4 (by omega)
  clear d3 d4 hdl
  obtain ⟨pd1, pd2⟩ := place_word true d d1
  have rs : ∀ ty w, (binOp .sub ty (.float .f64 a) (.float .f64 Y)).run Try.prog w = .ok (.float .f64 (wordD true d)) w := fun ty w => run_float_arith w .sub ty .f64 _ Y _ d2
  rw [← d5, near_val (!true) d (by omega)] at hW
  have tg2 : ∀ _ : True, (FloatKind.f64.format.order (wordD true d) h' == some Ordering.gt || FloatKind.f64.format.order (wordD true d) h' == some Ordering.eq) = false := fun _ => (ord_ge _ h' pd1 K3).trans (by
    have hk0 : h' ≠ 0 := fun g => by rw [g, val_zero] at k2; omega
    rw [pd2, K4]; simp; omega)
  have ern := neg_wordX true d (by omega)
  have rn : ∀ w, (Op.unary .neg (.float .f64 (wordD true d))).run Try.prog w = .ok (.float .f64 MW) w := fun w => by
    have g' : wordD true d ^^^ 9223372036854775808 = MW := ern.trans hW.symm
    rw [← g']; rfl
  clear ern
  generalize wordD true d = rw' at *
  have HALL := Lib.hid (And.intro aZ (And.intro hZ2 hYp))
  clear hW aZ hZ hZ2 hYp hc hbr hne hfx hfy h0x h0y hnx hny ix iy X1 X2 X3 X4 Y1 Y2 Y3 Y4 A1 A2 A3 A4 a1 hq hp hlt k1 k2 k3 K1 K2 K3 K4 d1 d2 d5 pd1 pd2
  have hyY : Y = y := wy
  clear wx wy ex ey hX hY
  subst hyY
  go_enter Try.func43, Try.ntmps43
  go_wp2_with fail
  refine (isNaN_any x false nx _).mono ?_
  rintro e w' ⟨rfl, rfl⟩
  go_wp2_with fail
  refine (isNaN_any Y false ny _).mono ?_
  rintro e w' ⟨rfl, rfl⟩
  go_wp2_with fail
  refine (ci _).mono ?_
  rintro e w' ⟨rfl, rfl⟩
  go_wp2_with fail
  refine (cj _).mono ?_
  rintro e w' ⟨rfl, rfl⟩
  go_wp2_with fail
  refine (cm _).mono ?_
  rintro e w' ⟨rfl, rfl⟩
  go_wp2
  go_ret
  exact ⟨rfl, rfl⟩

set_option maxHeartbeats 400000 in
theorem rm_tf_M3 (x y : Nat) (hx : x < 18446744073709551616) (hy : y < 18446744073709551616) (hfx : rung x < 9218868437227405312) (hfy : rung y < 9218868437227405312) (h0x : rung x ≠ 0) (h0y : rung y ≠ 0) (hnx : negB x = true) (hny : negB y = false) (hne : rung x ≠ rung y) (hbr : 9007199254740992 ≤ rung y ∧ rung y ≤ 9214364837600034815) (Z : Nat) (hZ : Z = val (rung x) % (2 * val (rung y))) (hc : val (rung y) ≤ Z ∧ 2 * (Z - val (rung y)) < val (rung y)) (w : World) :
    Calls Try.prog 43 #[.float .f64 x, .float .f64 y] w fun e w' => e = .returned (.float .f64 (remW x y)) ∧ w = w' := by
  have nx : isNan x = false := by unfold isNan; simp; omega
  have ny : isNan y = false := by unfold isNan; simp; omega
  have ix : isInf x = false := by unfold isInf; simp; omega
  have iy : isInf y = false := by unfold isInf; simp; omega
  have ci := fun w => isInf_zero x hx w
  rw [ix] at ci
  have cj := fun w => isInf_zero y hy w
  rw [iy] at cj
  have ty : ∀ _ : True, (FloatKind.f64.format.order y 0 == some Ordering.eq) = false := fun _ => y_not_zero y h0y
  have tx : ∀ _ : True, (FloatKind.f64.format.order x 0 == some Ordering.lt) = true := fun _ => (ord_lt x 0 nx nan_zero).trans (by rw [place_zero]; unfold place; rw [hnx]; simp; try omega)
  have tyl : ∀ _ : True, (FloatKind.f64.format.order y 0 == some Ordering.lt) = false := fun _ => (ord_lt y 0 ny nan_zero).trans (by rw [place_zero]; unfold place; rw [hny]; simp; try omega)
  have hout := rem_out x y Z (val_pos' _ h0y) hZ
  have hW := hout.2.2.1 hc.1 hc.2
  rw [hnx] at hW
  generalize remW x y = MW at *
  clear hout
  have ex := neg_num x hx
  have wx := word_of x hx
  rw [hnx] at ex wx
  have ey := neg_num y hy
  have wy := word_of y hy
  rw [hny] at ey wy
  obtain ⟨X, hX⟩ : ∃ X, X = rung x := ⟨_, rfl⟩
  obtain ⟨Y, hY⟩ : ∃ Y, Y = rung y := ⟨_, rfl⟩
  rw [← hX] at ex wx hfx hZ hne h0x
  rw [← hY] at ey wy hfy hZ hne hbr hc hW h0y
  have rx : ∀ w, (Op.unary .neg (.float .f64 x)).run Try.prog w = .ok (.float .f64 X) w := fun w => by
    have g : x ^^^ 9223372036854775808 = X := ex
    rw [← g]; rfl
  obtain ⟨X1, X2, X3, X4⟩ := pos_rung X hfx
  obtain ⟨Y1, Y2, Y3, Y4⟩ := pos_rung Y hfy
  have hYp := val_pos' Y h0y
  have hq : place 9007199254740992 = 9007199254740992 := by decide
  have hp : place 9214364837600034815 = 9214364837600034815 := by decide
  have teq : ∀ _ : True, (FloatKind.f64.format.order X Y == some Ordering.eq) = false := fun _ => (ord_eq X Y X3 Y3).trans (by rw [X4, Y4]; simp; omega)
  have tT : ∀ _ : True, (FloatKind.f64.format.order Y 9007199254740992 == some Ordering.lt) = false := fun _ => (ord_lt Y _ Y3 (by decide)).trans (by rw [Y4, hq]; simp; omega)
  have tH : ∀ _ : True, (FloatKind.f64.format.order Y 9214364837600034815 == some Ordering.lt || FloatKind.f64.format.order Y 9214364837600034815 == some Ordering.eq) = true := fun _ => (ord_le Y _ Y3 (by decide)).trans (by rw [Y4, hp]; simp; omega)
  have hZ2 : Z < 2 * val Y := by rw [hZ]; exact Nat.mod_lt _ (by omega)
  obtain ⟨yy, a, y1, y0, y3, a1, a2, a3⟩ := rem_first X Y hfx hfy h0y (by omega)
  obtain ⟨q1, q2, q3, q4⟩ := pos_rung yy y1
  have cm := fun w => Mod_any X yy (by omega) (by omega) (by omega) (by omega) (by omega) w
  rw [a3] at cm
  have ryy : ∀ ty w, (binOp .add ty (.float .f64 Y) (.float .f64 Y)).run Try.prog w = .ok (.float .f64 yy) w := fun ty w => run_float_arith w .add ty .f64 Y Y yy y3
  have aZ : val a = Z := by rw [a2, hZ]
  clear a2 a3 q1 q2 q3 q4 y0 y1 y3
  obtain ⟨A1, A2, A3, A4⟩ := pos_rung a a1
  obtain ⟨h', k1, k2, k3⟩ := half_fit Y hfy (by omega)
  have rh : ∀ ty w, (binOp .mul ty (.float .f64 4602678819172646912) (.float .f64 Y)).run Try.prog w = .ok (.float .f64 h') w := fun ty w => run_float_arith w .mul ty .f64 _ Y _ k3
  obtain ⟨K1, K2, K3, K4⟩ := pos_rung h' k1
  have hlt := @val_lt_iff h' a
  have tg : ∀ _ : True, (FloatKind.f64.format.order a h' == some Ordering.gt) = true := fun _ => (ord_gt a h' A3 K3).trans (by rw [A4, K4]; simp; omega)
  obtain ⟨d, d1, d2, d3, d4⟩ := sub_near a Y a1 hfy (by omega) (by omega)
  rw [aZ] at d2 d3 d4
  have hdl : decide (Z < val Y) = false := by simp; omega
  rw [hdl] at d2
  have d5 := d3 (by omega)
  clear d3 d4 hdl
  obtain ⟨D1, D2, D3, D4⟩ := pos_rung d d1
  have rs : ∀ ty w, (binOp .sub ty (.float .f64 a) (.float .f64 Y)).run Try.prog w = .ok (.float .f64 d) w := fun ty w => run_float_arith w .sub ty .f64 _ Y _ d2
  have hlt2 := @val_lt_iff d h'
  have tg2 : ∀ _ : True, (FloatKind.f64.format.order d h' == some Ordering.gt || FloatKind.f64.format.order d h' == some Ordering.eq) = false := fun _ => (ord_ge _ h' D3 K3).trans (by rw [D4, K4]; simp; omega)
  rw [← d5, near_val true d (by omega)] at hW
  have ern := neg_wordX false d (by omega)
  have rn : ∀ w, (Op.unary .neg (.float .f64 d)).run Try.prog w = .ok (.float .f64 MW) w := fun w => by
    have g' : wordD false d ^^^ 9223372036854775808 = MW := ern.trans hW.symm
    rw [← g']; rfl
  clear ern
  have HALL := Lib.hid (And.intro aZ (And.intro hZ2 hYp))
  clear hW aZ hZ hZ2 hYp hc hbr hne hfx hfy h0x h0y hnx hny ix iy X1 X2 X3 X4 Y1 Y2 Y3 Y4 A1 A2 A3 A4 a1 hq hp hlt k1 k2 k3 K1 K2 K3 K4 d1 d2 d5 D1 D2 D3 D4 hlt2
  have hyY : Y = y := wy
  clear wx wy ex ey hX hY
  subst hyY
  go_enter Try.func43, Try.ntmps43
  go_wp2_with fail
  refine (isNaN_any x false nx _).mono ?_
  rintro e w' ⟨rfl, rfl⟩
  go_wp2_with fail
  refine (isNaN_any Y false ny _).mono ?_
  rintro e w' ⟨rfl, rfl⟩
  go_wp2_with fail
  refine (ci _).mono ?_
  rintro e w' ⟨rfl, rfl⟩
  go_wp2_with fail
  refine (cj _).mono ?_
  rintro e w' ⟨rfl, rfl⟩
  go_wp2_with fail
  refine (cm _).mono ?_
  rintro e w' ⟨rfl, rfl⟩
  go_wp2
  go_ret
  exact ⟨rfl, rfl⟩

set_option maxHeartbeats 400000 in
theorem rm_tf_M4 (x y : Nat) (hx : x < 18446744073709551616) (hy : y < 18446744073709551616) (hfx : rung x < 9218868437227405312) (hfy : rung y < 9218868437227405312) (h0x : rung x ≠ 0) (h0y : rung y ≠ 0) (hnx : negB x = true) (hny : negB y = false) (hne : rung x ≠ rung y) (hbr : 9007199254740992 ≤ rung y ∧ rung y ≤ 9214364837600034815) (Z : Nat) (hZ : Z = val (rung x) % (2 * val (rung y))) (hc : val (rung y) ≤ Z ∧ val (rung y) ≤ 2 * (Z - val (rung y))) (w : World) :
    Calls Try.prog 43 #[.float .f64 x, .float .f64 y] w fun e w' => e = .returned (.float .f64 (remW x y)) ∧ w = w' := by
  have nx : isNan x = false := by unfold isNan; simp; omega
  have ny : isNan y = false := by unfold isNan; simp; omega
  have ix : isInf x = false := by unfold isInf; simp; omega
  have iy : isInf y = false := by unfold isInf; simp; omega
  have ci := fun w => isInf_zero x hx w
  rw [ix] at ci
  have cj := fun w => isInf_zero y hy w
  rw [iy] at cj
  have ty : ∀ _ : True, (FloatKind.f64.format.order y 0 == some Ordering.eq) = false := fun _ => y_not_zero y h0y
  have tx : ∀ _ : True, (FloatKind.f64.format.order x 0 == some Ordering.lt) = true := fun _ => (ord_lt x 0 nx nan_zero).trans (by rw [place_zero]; unfold place; rw [hnx]; simp; try omega)
  have tyl : ∀ _ : True, (FloatKind.f64.format.order y 0 == some Ordering.lt) = false := fun _ => (ord_lt y 0 ny nan_zero).trans (by rw [place_zero]; unfold place; rw [hny]; simp; try omega)
  have hout := rem_out x y Z (val_pos' _ h0y) hZ
  have hW := hout.2.2.2 hc.1 hc.2
  rw [hnx] at hW
  generalize remW x y = MW at *
  clear hout
  have ex := neg_num x hx
  have wx := word_of x hx
  rw [hnx] at ex wx
  have ey := neg_num y hy
  have wy := word_of y hy
  rw [hny] at ey wy
  obtain ⟨X, hX⟩ : ∃ X, X = rung x := ⟨_, rfl⟩
  obtain ⟨Y, hY⟩ : ∃ Y, Y = rung y := ⟨_, rfl⟩
  rw [← hX] at ex wx hfx hZ hne h0x
  rw [← hY] at ey wy hfy hZ hne hbr hc hW h0y
  have rx : ∀ w, (Op.unary .neg (.float .f64 x)).run Try.prog w = .ok (.float .f64 X) w := fun w => by
    have g : x ^^^ 9223372036854775808 = X := ex
    rw [← g]; rfl
  obtain ⟨X1, X2, X3, X4⟩ := pos_rung X hfx
  obtain ⟨Y1, Y2, Y3, Y4⟩ := pos_rung Y hfy
  have hYp := val_pos' Y h0y
  have hq : place 9007199254740992 = 9007199254740992 := by decide
  have hp : place 9214364837600034815 = 9214364837600034815 := by decide
  have teq : ∀ _ : True, (FloatKind.f64.format.order X Y == some Ordering.eq) = false := fun _ => (ord_eq X Y X3 Y3).trans (by rw [X4, Y4]; simp; omega)
  have tT : ∀ _ : True, (FloatKind.f64.format.order Y 9007199254740992 == some Ordering.lt) = false := fun _ => (ord_lt Y _ Y3 (by decide)).trans (by rw [Y4, hq]; simp; omega)
  have tH : ∀ _ : True, (FloatKind.f64.format.order Y 9214364837600034815 == some Ordering.lt || FloatKind.f64.format.order Y 9214364837600034815 == some Ordering.eq) = true := fun _ => (ord_le Y _ Y3 (by decide)).trans (by rw [Y4, hp]; simp; omega)
  have hZ2 : Z < 2 * val Y := by rw [hZ]; exact Nat.mod_lt _ (by omega)
  obtain ⟨yy, a, y1, y0, y3, a1, a2, a3⟩ := rem_first X Y hfx hfy h0y (by omega)
  obtain ⟨q1, q2, q3, q4⟩ := pos_rung yy y1
  have cm := fun w => Mod_any X yy (by omega) (by omega) (by omega) (by omega) (by omega) w
  rw [a3] at cm
  have ryy : ∀ ty w, (binOp .add ty (.float .f64 Y) (.float .f64 Y)).run Try.prog w = .ok (.float .f64 yy) w := fun ty w => run_float_arith w .add ty .f64 Y Y yy y3
  have aZ : val a = Z := by rw [a2, hZ]
  clear a2 a3 q1 q2 q3 q4 y0 y1 y3
  obtain ⟨A1, A2, A3, A4⟩ := pos_rung a a1
  obtain ⟨h', k1, k2, k3⟩ := half_fit Y hfy (by omega)
  have rh : ∀ ty w, (binOp .mul ty (.float .f64 4602678819172646912) (.float .f64 Y)).run Try.prog w = .ok (.float .f64 h') w := fun ty w => run_float_arith w .mul ty .f64 _ Y _ k3
  obtain ⟨K1, K2, K3, K4⟩ := pos_rung h' k1
  have hlt := @val_lt_iff h' a
  have tg : ∀ _ : True, (FloatKind.f64.format.order a h' == some Ordering.gt) = true := fun _ => (ord_gt a h' A3 K3).trans (by rw [A4, K4]; simp; omega)
  obtain ⟨d, d1, d2, d3, d4⟩ := sub_near a Y a1 hfy (by omega) (by omega)
  rw [aZ] at d2 d3 d4
  have hdl : decide (Z < val Y) = false := by simp; omega
  rw [hdl] at d2
  have d5 := d3 (by omega)
  clear d3 d4 hdl
  obtain ⟨D1, D2, D3, D4⟩ := pos_rung d d1
  have rs : ∀ ty w, (binOp .sub ty (.float .f64 a) (.float .f64 Y)).run Try.prog w = .ok (.float .f64 d) w := fun ty w => run_float_arith w .sub ty .f64 _ Y _ d2
  have hlt2 := @val_lt_iff d h'
  have tg2 : ∀ _ : True, (FloatKind.f64.format.order d h' == some Ordering.gt || FloatKind.f64.format.order d h' == some Ordering.eq) = true := fun _ => (ord_ge _ h' D3 K3).trans (by rw [D4, K4]; simp; omega)
  obtain ⟨g, g1, g2, g3, g4⟩ := sub_near d Y d1 hfy (by omega) (by omega)
  rw [d5] at g2 g3 g4
  have hgl : decide (Z - val Y < val Y) = true := by simp; omega
  rw [hgl] at g2
  have g5 := g4 (by omega)
  have rs2 : ∀ ty w, (binOp .sub ty (.float .f64 d) (.float .f64 Y)).run Try.prog w = .ok (.float .f64 (wordD true g)) w := fun ty w => run_float_arith w .sub ty .f64 _ Y _ g2
  rw [← g5, near_val (!true) g (by omega)] at hW
  clear g3 g4 hgl g2
  have ern := neg_wordX true g (by omega)
  have rn : ∀ w, (Op.unary .neg (.float .f64 (wordD true g))).run Try.prog w = .ok (.float .f64 MW) w := fun w => by
    have g' : wordD true g ^^^ 9223372036854775808 = MW := ern.trans hW.symm
    rw [← g']; rfl
  clear ern
  generalize wordD true g = rw' at *
  have HALL := Lib.hid (And.intro aZ (And.intro hZ2 hYp))
  clear hW aZ hZ hZ2 hYp hc hbr hne hfx hfy h0x h0y hnx hny ix iy X1 X2 X3 X4 Y1 Y2 Y3 Y4 A1 A2 A3 A4 a1 hq hp hlt k1 k2 k3 K1 K2 K3 K4 d1 d2 d5 D1 D2 D3 D4 hlt2 g1 g5
  have hyY : Y = y := wy
  clear wx wy ex ey hX hY
  subst hyY
  go_enter Try.func43, Try.ntmps43
  go_wp2_with fail
  refine (isNaN_any x false nx _).mono ?_
  rintro e w' ⟨rfl, rfl⟩
  go_wp2_with fail
  refine (isNaN_any Y false ny _).mono ?_
  rintro e w' ⟨rfl, rfl⟩
  go_wp2_with fail
  refine (ci _).mono ?_
  rintro e w' ⟨rfl, rfl⟩
  go_wp2_with fail
  refine (cj _).mono ?_
  rintro e w' ⟨rfl, rfl⟩
  go_wp2_with fail
  refine (cm _).mono ?_
  rintro e w' ⟨rfl, rfl⟩
  go_wp2
  go_ret
  exact ⟨rfl, rfl⟩

set_option maxHeartbeats 400000 in
theorem rm_tf_B1 (x y : Nat) (hx : x < 18446744073709551616) (hy : y < 18446744073709551616) (hfx : rung x < 9218868437227405312) (hfy : rung y < 9218868437227405312) (h0x : rung x ≠ 0) (h0y : rung y ≠ 0) (hnx : negB x = true) (hny : negB y = false) (hne : rung x ≠ rung y) (hbr : 9214364837600034815 < rung y) (Z : Nat) (hZ : Z = val (rung x) % (2 * val (rung y))) (hc : ¬ val (rung y) < 2 * Z) (w : World) :
    Calls Try.prog 43 #[.float .f64 x, .float .f64 y] w fun e w' => e = .returned (.float .f64 (remW x y)) ∧ w = w' := by
  have nx : isNan x = false := by unfold isNan; simp; omega
  have ny : isNan y = false := by unfold isNan; simp; omega
  have ix : isInf x = false := by unfold isInf; simp; omega
  have iy : isInf y = false := by unfold isInf; simp; omega
  have ci := fun w => isInf_zero x hx w
  rw [ix] at ci
  have cj := fun w => isInf_zero y hy w
  rw [iy] at cj
  have ty : ∀ _ : True, (FloatKind.f64.format.order y 0 == some Ordering.eq) = false := fun _ => y_not_zero y h0y
  have tx : ∀ _ : True, (FloatKind.f64.format.order x 0 == some Ordering.lt) = true := fun _ => (ord_lt x 0 nx nan_zero).trans (by rw [place_zero]; unfold place; rw [hnx]; simp; try omega)
  have tyl : ∀ _ : True, (FloatKind.f64.format.order y 0 == some Ordering.lt) = false := fun _ => (ord_lt y 0 ny nan_zero).trans (by rw [place_zero]; unfold place; rw [hny]; simp; try omega)
  have hout := rem_out x y Z (val_pos' _ h0y) hZ
  have hW := hout.1 hc
  rw [hnx] at hW
  generalize remW x y = MW at *
  clear hout
  have ex := neg_num x hx
  have wx := word_of x hx
  rw [hnx] at ex wx
  have ey := neg_num y hy
  have wy := word_of y hy
  rw [hny] at ey wy
  obtain ⟨X, hX⟩ : ∃ X, X = rung x := ⟨_, rfl⟩
  obtain ⟨Y, hY⟩ : ∃ Y, Y = rung y := ⟨_, rfl⟩
  rw [← hX] at ex wx hfx hZ hne h0x
  rw [← hY] at ey wy hfy hZ hne hbr hc h0y
  have rx : ∀ w, (Op.unary .neg (.float .f64 x)).run Try.prog w = .ok (.float .f64 X) w := fun w => by
    have g : x ^^^ 9223372036854775808 = X := ex
    rw [← g]; rfl
  obtain ⟨X1, X2, X3, X4⟩ := pos_rung X hfx
  obtain ⟨Y1, Y2, Y3, Y4⟩ := pos_rung Y hfy
  have hYp := val_pos' Y h0y
  have hq : place 9007199254740992 = 9007199254740992 := by decide
  have hp : place 9214364837600034815 = 9214364837600034815 := by decide
  have teq : ∀ _ : True, (FloatKind.f64.format.order X Y == some Ordering.eq) = false := fun _ => (ord_eq X Y X3 Y3).trans (by rw [X4, Y4]; simp; omega)
  have tT : ∀ _ : True, (FloatKind.f64.format.order Y 9007199254740992 == some Ordering.lt) = false := fun _ => (ord_lt Y _ Y3 (by decide)).trans (by rw [Y4, hq]; simp; omega)
  have tH : ∀ _ : True, (FloatKind.f64.format.order Y 9214364837600034815 == some Ordering.lt || FloatKind.f64.format.order Y 9214364837600034815 == some Ordering.eq) = false := fun _ => (ord_le Y _ Y3 (by decide)).trans (by rw [Y4, hp]; simp; omega)
  have hZ2 : Z < 2 * val Y := by rw [hZ]; exact Nat.mod_lt _ (by omega)
  have hXY := half_big X Y hfx (by omega)
  have aZ : val X = Z := by rw [hZ, Nat.mod_eq_of_lt hXY]
  have a1 := hfx
  obtain ⟨A1, A2, A3, A4⟩ := pos_rung X a1
  obtain ⟨h', k1, k2, k3⟩ := half_fit Y hfy (by omega)
  have rh : ∀ ty w, (binOp .mul ty (.float .f64 4602678819172646912) (.float .f64 Y)).run Try.prog w = .ok (.float .f64 h') w := fun ty w => run_float_arith w .mul ty .f64 _ Y _ k3
  obtain ⟨K1, K2, K3, K4⟩ := pos_rung h' k1
  have hlt := @val_lt_iff h' X
  have tg : ∀ _ : True, (FloatKind.f64.format.order X h' == some Ordering.gt) = false := fun _ => (ord_gt X h' A3 K3).trans (by rw [A4, K4]; simp; omega)
  rw [← aZ, near_val true X (by omega)] at hW
  have ern := neg_wordX false X (by omega)
  have rn : ∀ w, (Op.unary .neg (.float .f64 X)).run Try.prog w = .ok (.float .f64 MW) w := fun w => by
    have g' : wordD false X ^^^ 9223372036854775808 = MW := ern.trans hW.symm
    rw [← g']; rfl
  clear ern
  have HALL := Lib.hid (And.intro aZ (And.intro hZ2 hYp))
  clear hW aZ hZ hZ2 hYp hc hbr hne hfx hfy h0x h0y hnx hny ix iy X1 X2 X3 X4 Y1 Y2 Y3 Y4 A1 A2 A3 A4 a1 hq hp hlt k1 k2 k3 K1 K2 K3 K4 hXY
  have hyY : Y = y := wy
  clear wx wy ex ey hX hY
  subst hyY
  go_enter Try.func43, Try.ntmps43
  go_wp2_with fail
  refine (isNaN_any x false nx _).mono ?_
  rintro e w' ⟨rfl, rfl⟩
  go_wp2_with fail
  refine (isNaN_any Y false ny _).mono ?_
  rintro e w' ⟨rfl, rfl⟩
  go_wp2_with fail
  refine (ci _).mono ?_
  rintro e w' ⟨rfl, rfl⟩
  go_wp2_with fail
  refine (cj _).mono ?_
  rintro e w' ⟨rfl, rfl⟩
  go_wp2
  go_ret
  exact ⟨rfl, rfl⟩

set_option maxHeartbeats 400000 in
theorem rm_tf_B2 (x y : Nat) (hx : x < 18446744073709551616) (hy : y < 18446744073709551616) (hfx : rung x < 9218868437227405312) (hfy : rung y < 9218868437227405312) (h0x : rung x ≠ 0) (h0y : rung y ≠ 0) (hnx : negB x = true) (hny : negB y = false) (hne : rung x ≠ rung y) (hbr : 9214364837600034815 < rung y) (Z : Nat) (hZ : Z = val (rung x) % (2 * val (rung y))) (hc : val (rung y) < 2 * Z ∧ Z < val (rung y)) (w : World) :
    Calls Try.prog 43 #[.float .f64 x, .float .f64 y] w fun e w' => e = .returned (.float .f64 (remW x y)) ∧ w = w' := by
  have nx : isNan x = false := by unfold isNan; simp; omega
  have ny : isNan y = false := by unfold isNan; simp; omega
  have ix : isInf x = false := by unfold isInf; simp; omega
  have iy : isInf y = false := by unfold isInf; simp; omega
  have ci := fun w => isInf_zero x hx w
  rw [ix] at ci
  have cj := fun w => isInf_zero y hy w
  rw [iy] at cj
  have ty : ∀ _ : True, (FloatKind.f64.format.order y 0 == some Ordering.eq) = false := fun _ => y_not_zero y h0y
  have tx : ∀ _ : True, (FloatKind.f64.format.order x 0 == some Ordering.lt) = true := fun _ => (ord_lt x 0 nx nan_zero).trans (by rw [place_zero]; unfold place; rw [hnx]; simp; try omega)
  have tyl : ∀ _ : True, (FloatKind.f64.format.order y 0 == some Ordering.lt) = false := fun _ => (ord_lt y 0 ny nan_zero).trans (by rw [place_zero]; unfold place; rw [hny]; simp; try omega)
  have hout := rem_out x y Z (val_pos' _ h0y) hZ
  have hW := hout.2.1 hc.1 hc.2
  rw [hnx] at hW
  generalize remW x y = MW at *
  clear hout
  have ex := neg_num x hx
  have wx := word_of x hx
  rw [hnx] at ex wx
  have ey := neg_num y hy
  have wy := word_of y hy
  rw [hny] at ey wy
  obtain ⟨X, hX⟩ : ∃ X, X = rung x := ⟨_, rfl⟩
  obtain ⟨Y, hY⟩ : ∃ Y, Y = rung y := ⟨_, rfl⟩
  rw [← hX] at ex wx hfx hZ hne h0x
  rw [← hY] at ey wy hfy hZ hne hbr hc hW h0y
  have rx : ∀ w, (Op.unary .neg (.float .f64 x)).run Try.prog w = .ok (.float .f64 X) w := fun w => by
    have g : x ^^^ 9223372036854775808 = X := ex
    rw [← g]; rfl
  obtain ⟨X1, X2, X3, X4⟩ := pos_rung X hfx
  obtain ⟨Y1, Y2, Y3, Y4⟩ := pos_rung Y hfy
  have hYp := val_pos' Y h0y
  have hq : place 9007199254740992 = 9007199254740992 := by decide
  have hp : place 9214364837600034815 = 9214364837600034815 := by decide
  have teq : ∀ _ : True, (FloatKind.f64.format.order X Y == some Ordering.eq) = false := fun _ => (ord_eq X Y X3 Y3).trans (by rw [X4, Y4]; simp; omega)
  have tT : ∀ _ : True, (FloatKind.f64.format.order Y 9007199254740992 == some Ordering.lt) = false := fun _ => (ord_lt Y _ Y3 (by decide)).trans (by rw [Y4, hq]; simp; omega)
  have tH : ∀ _ : True, (FloatKind.f64.format.order Y 9214364837600034815 == some Ordering.lt || FloatKind.f64.format.order Y 9214364837600034815 == some Ordering.eq) = false := fun _ => (ord_le Y _ Y3 (by decide)).trans (by rw [Y4, hp]; simp; omega)
  have hZ2 : Z < 2 * val Y := by rw [hZ]; exact Nat.mod_lt _ (by omega)
  have hXY := half_big X Y hfx (by omega)
  have aZ : val X = Z := by rw [hZ, Nat.mod_eq_of_lt hXY]
  have a1 := hfx
  obtain ⟨A1, A2, A3, A4⟩ := pos_rung X a1
  obtain ⟨h', k1, k2, k3⟩ := half_fit Y hfy (by omega)
  have rh : ∀ ty w, (binOp .mul ty (.float .f64 4602678819172646912) (.float .f64 Y)).run Try.prog w = .ok (.float .f64 h') w := fun ty w => run_float_arith w .mul ty .f64 _ Y _ k3
  obtain ⟨K1, K2, K3, K4⟩ := pos_rung h' k1
  have hlt := @val_lt_iff h' X
  have tg : ∀ _ : True, (FloatKind.f64.format.order X h' == some Ordering.gt) = true := fun _ => (ord_gt X h' A3 K3).trans (by rw [A4, K4]; simp; omega)
  obtain ⟨d, d1, d2, d3, d4⟩ := sub_near X Y a1 hfy (by omega) (by omega)
  rw [aZ] at d2 d3 d4
  have hdl : decide (Z < val Y) = true := by simp; omega
  rw [hdl] at d2
  have d5 := d4 (by omega)
  clear d3 d4 hdl
  obtain ⟨pd1, pd2⟩ := place_word true d d1
  have rs : ∀ ty w, (binOp .sub ty (.float .f64 X) (.float .f64 Y)).run Try.prog w = .ok (.float .f64 (wordD true d)) w := fun ty w => run_float_arith w .sub ty .f64 _ Y _ d2
  rw [← d5, near_val (!true) d (by omega)] at hW
  have tg2 : ∀ _ : True, (FloatKind.f64.format.order (wordD true d) h' == some Ordering.gt || FloatKind.f64.format.order (wordD true d) h' == some Ordering.eq) = false := fun _ => (ord_ge _ h' pd1 K3).trans (by
    have hk0 : h' ≠ 0 := fun g => by rw [g, val_zero] at k2; omega
    rw [pd2, K4]; simp; omega)
  have ern := neg_wordX true d (by omega)
  have rn : ∀ w, (Op.unary .neg (.float .f64 (wordD true d))).run Try.prog w = .ok (.float .f64 MW) w := fun w => by
    have g' : wordD true d ^^^ 9223372036854775808 = MW := ern.trans hW.symm
    rw [← g']; rfl
  clear ern
  generalize wordD true d = rw' at *
  have HALL := Lib.hid (And.intro aZ (And.intro hZ2 hYp))
  clear hW aZ hZ hZ2 hYp hc hbr hne hfx hfy h0x h0y hnx hny ix iy X1 X2 X3 X4 Y1 Y2 Y3 Y4 A1 A2 A3 A4 a1 hq hp hlt k1 k2 k3 K1 K2 K3 K4 hXY d1 d2 d5 pd1 pd2
  have hyY : Y = y := wy
  clear wx wy ex ey hX hY
  subst hyY
  go_enter Try.func43, Try.ntmps43
  go_wp2_with fail
  refine (isNaN_any x false nx _).mono ?_
  rintro e w' ⟨rfl, rfl⟩
  go_wp2_with fail
  refine (isNaN_any Y false ny _).mono ?_
  rintro e w' ⟨rfl, rfl⟩
  go_wp2_with fail
  refine (ci _).mono ?_
  rintro e w' ⟨rfl, rfl⟩
  go_wp2_with fail
  refine (cj _).mono ?_
  rintro e w' ⟨rfl, rfl⟩
  go_wp2
  go_ret
  exact ⟨rfl, rfl⟩

set_option maxHeartbeats 400000 in
theorem rm_tf_B3 (x y : Nat) (hx : x < 18446744073709551616) (hy : y < 18446744073709551616) (hfx : rung x < 9218868437227405312) (hfy : rung y < 9218868437227405312) (h0x : rung x ≠ 0) (h0y : rung y ≠ 0) (hnx : negB x = true) (hny : negB y = false) (hne : rung x ≠ rung y) (hbr : 9214364837600034815 < rung y) (Z : Nat) (hZ : Z = val (rung x) % (2 * val (rung y))) (hc : val (rung y) ≤ Z ∧ 2 * (Z - val (rung y)) < val (rung y)) (w : World) :
    Calls Try.prog 43 #[.float .f64 x, .float .f64 y] w fun e w' => e = .returned (.float .f64 (remW x y)) ∧ w = w' := by
  have nx : isNan x = false := by unfold isNan; simp; omega
  have ny : isNan y = false := by unfold isNan; simp; omega
  have ix : isInf x = false := by unfold isInf; simp; omega
  have iy : isInf y = false := by unfold isInf; simp; omega
  have ci := fun w => isInf_zero x hx w
  rw [ix] at ci
  have cj := fun w => isInf_zero y hy w
  rw [iy] at cj
  have ty : ∀ _ : True, (FloatKind.f64.format.order y 0 == some Ordering.eq) = false := fun _ => y_not_zero y h0y
  have tx : ∀ _ : True, (FloatKind.f64.format.order x 0 == some Ordering.lt) = true := fun _ => (ord_lt x 0 nx nan_zero).trans (by rw [place_zero]; unfold place; rw [hnx]; simp; try omega)
  have tyl : ∀ _ : True, (FloatKind.f64.format.order y 0 == some Ordering.lt) = false := fun _ => (ord_lt y 0 ny nan_zero).trans (by rw [place_zero]; unfold place; rw [hny]; simp; try omega)
  have hout := rem_out x y Z (val_pos' _ h0y) hZ
  have hW := hout.2.2.1 hc.1 hc.2
  rw [hnx] at hW
  generalize remW x y = MW at *
  clear hout
  have ex := neg_num x hx
  have wx := word_of x hx
  rw [hnx] at ex wx
  have ey := neg_num y hy
  have wy := word_of y hy
  rw [hny] at ey wy
  obtain ⟨X, hX⟩ : ∃ X, X = rung x := ⟨_, rfl⟩
  obtain ⟨Y, hY⟩ : ∃ Y, Y = rung y := ⟨_, rfl⟩
  rw [← hX] at ex wx hfx hZ hne h0x
  rw [← hY] at ey wy hfy hZ hne hbr hc hW h0y
  have rx : ∀ w, (Op.unary .neg (.float .f64 x)).run Try.prog w = .ok (.float .f64 X) w := fun w => by
    have g : x ^^^ 9223372036854775808 = X := ex
    rw [← g]; rfl
  obtain ⟨X1, X2, X3, X4⟩ := pos_rung X hfx
  obtain ⟨Y1, Y2, Y3, Y4⟩ := pos_rung Y hfy
  have hYp := val_pos' Y h0y
  have hq : place 9007199254740992 = 9007199254740992 := by decide
  have hp : place 9214364837600034815 = 9214364837600034815 := by decide
  have teq : ∀ _ : True, (FloatKind.f64.format.order X Y == some Ordering.eq) = false := fun _ => (ord_eq X Y X3 Y3).trans (by rw [X4, Y4]; simp; omega)
  have tT : ∀ _ : True, (FloatKind.f64.format.order Y 9007199254740992 == some Ordering.lt) = false := fun _ => (ord_lt Y _ Y3 (by decide)).trans (by rw [Y4, hq]; simp; omega)
  have tH : ∀ _ : True, (FloatKind.f64.format.order Y 9214364837600034815 == some Ordering.lt || FloatKind.f64.format.order Y 9214364837600034815 == some Ordering.eq) = false := fun _ => (ord_le Y _ Y3 (by decide)).trans (by rw [Y4, hp]; simp; omega)
  have hZ2 : Z < 2 * val Y := by rw [hZ]; exact Nat.mod_lt _ (by omega)
  have hXY := half_big X Y hfx (by omega)
  have aZ : val X = Z := by rw [hZ, Nat.mod_eq_of_lt hXY]
  have a1 := hfx
  obtain ⟨A1, A2, A3, A4⟩ := pos_rung X a1
  obtain ⟨h', k1, k2, k3⟩ := half_fit Y hfy (by omega)
  have rh : ∀ ty w, (binOp .mul ty (.float .f64 4602678819172646912) (.float .f64 Y)).run Try.prog w = .ok (.float .f64 h') w := fun ty w => run_float_arith w .mul ty .f64 _ Y _ k3
  obtain ⟨K1, K2, K3, K4⟩ := pos_rung h' k1
  have hlt := @val_lt_iff h' X
  have tg : ∀ _ : True, (FloatKind.f64.format.order X h' == some Ordering.gt) = true := fun _ => (ord_gt X h' A3 K3).trans (by rw [A4, K4]; simp; omega)
  obtain ⟨d, d1, d2, d3, d4⟩ := sub_near X Y a1 hfy (by omega) (by omega)
  rw [aZ] at d2 d3 d4
  have hdl : decide (Z < val Y) = false := by simp; omega
  rw [hdl] at d2
  have d5 := d3 (by omega)
  clear d3 d4 hdl
  obtain ⟨D1, D2, D3, D4⟩ := pos_rung d d1
  have rs : ∀ ty w, (binOp .sub ty (.float .f64 X) (.float .f64 Y)).run Try.prog w = .ok (.float .f64 d) w := fun ty w => run_float_arith w .sub ty .f64 _ Y _ d2
  have hlt2 := @val_lt_iff d h'
  have tg2 : ∀ _ : True, (FloatKind.f64.format.order d h' == some Ordering.gt || FloatKind.f64.format.order d h' == some Ordering.eq) = false := fun _ => (ord_ge _ h' D3 K3).trans (by rw [D4, K4]; simp; omega)
  rw [← d5, near_val true d (by omega)] at hW
  have ern := neg_wordX false d (by omega)
  have rn : ∀ w, (Op.unary .neg (.float .f64 d)).run Try.prog w = .ok (.float .f64 MW) w := fun w => by
    have g' : wordD false d ^^^ 9223372036854775808 = MW := ern.trans hW.symm
    rw [← g']; rfl
  clear ern
  have HALL := Lib.hid (And.intro aZ (And.intro hZ2 hYp))
  clear hW aZ hZ hZ2 hYp hc hbr hne hfx hfy h0x h0y hnx hny ix iy X1 X2 X3 X4 Y1 Y2 Y3 Y4 A1 A2 A3 A4 a1 hq hp hlt k1 k2 k3 K1 K2 K3 K4 hXY d1 d2 d5 D1 D2 D3 D4 hlt2
  have hyY : Y = y := wy
  clear wx wy ex ey hX hY
  subst hyY
  go_enter Try.func43, Try.ntmps43
  go_wp2_with fail
  refine (isNaN_any x false nx _).mono ?_
  rintro e w' ⟨rfl, rfl⟩
  go_wp2_with fail
  refine (isNaN_any Y false ny _).mono ?_
  rintro e w' ⟨rfl, rfl⟩
  go_wp2_with fail
  refine (ci _).mono ?_
  rintro e w' ⟨rfl, rfl⟩
  go_wp2_with fail
  refine (cj _).mono ?_
  rintro e w' ⟨rfl, rfl⟩
  go_wp2
  go_ret
  exact ⟨rfl, rfl⟩

set_option maxHeartbeats 400000 in
theorem rm_tf_B4 (x y : Nat) (hx : x < 18446744073709551616) (hy : y < 18446744073709551616) (hfx : rung x < 9218868437227405312) (hfy : rung y < 9218868437227405312) (h0x : rung x ≠ 0) (h0y : rung y ≠ 0) (hnx : negB x = true) (hny : negB y = false) (hne : rung x ≠ rung y) (hbr : 9214364837600034815 < rung y) (Z : Nat) (hZ : Z = val (rung x) % (2 * val (rung y))) (hc : val (rung y) ≤ Z ∧ val (rung y) ≤ 2 * (Z - val (rung y))) (w : World) :
    Calls Try.prog 43 #[.float .f64 x, .float .f64 y] w fun e w' => e = .returned (.float .f64 (remW x y)) ∧ w = w' := by
  have nx : isNan x = false := by unfold isNan; simp; omega
  have ny : isNan y = false := by unfold isNan; simp; omega
  have ix : isInf x = false := by unfold isInf; simp; omega
  have iy : isInf y = false := by unfold isInf; simp; omega
  have ci := fun w => isInf_zero x hx w
  rw [ix] at ci
  have cj := fun w => isInf_zero y hy w
  rw [iy] at cj
  have ty : ∀ _ : True, (FloatKind.f64.format.order y 0 == some Ordering.eq) = false := fun _ => y_not_zero y h0y
  have tx : ∀ _ : True, (FloatKind.f64.format.order x 0 == some Ordering.lt) = true := fun _ => (ord_lt x 0 nx nan_zero).trans (by rw [place_zero]; unfold place; rw [hnx]; simp; try omega)
  have tyl : ∀ _ : True, (FloatKind.f64.format.order y 0 == some Ordering.lt) = false := fun _ => (ord_lt y 0 ny nan_zero).trans (by rw [place_zero]; unfold place; rw [hny]; simp; try omega)
  have hout := rem_out x y Z (val_pos' _ h0y) hZ
  have hW := hout.2.2.2 hc.1 hc.2
  rw [hnx] at hW
  generalize remW x y = MW at *
  clear hout
  have ex := neg_num x hx
  have wx := word_of x hx
  rw [hnx] at ex wx
  have ey := neg_num y hy
  have wy := word_of y hy
  rw [hny] at ey wy
  obtain ⟨X, hX⟩ : ∃ X, X = rung x := ⟨_, rfl⟩
  obtain ⟨Y, hY⟩ : ∃ Y, Y = rung y := ⟨_, rfl⟩
  rw [← hX] at ex wx hfx hZ hne h0x
  rw [← hY] at ey wy hfy hZ hne hbr hc hW h0y
  have rx : ∀ w, (Op.unary .neg (.float .f64 x)).run Try.prog w = .ok (.float .f64 X) w := fun w => by
    have g : x ^^^ 9223372036854775808 = X := ex
    rw [← g]; rfl
  obtain ⟨X1, X2, X3, X4⟩ := pos_rung X hfx
  obtain ⟨Y1, Y2, Y3, Y4⟩ := pos_rung Y hfy
  have hYp := val_pos' Y h0y
  have hq : place 9007199254740992 = 9007199254740992 := by decide
  have hp : place 9214364837600034815 = 9214364837600034815 := by decide
  have teq : ∀ _ : True, (FloatKind.f64.format.order X Y == some Ordering.eq) = false := fun _ => (ord_eq X Y X3 Y3).trans (by rw [X4, Y4]; simp; omega)
  have tT : ∀ _ : True, (FloatKind.f64.format.order Y 9007199254740992 == some Ordering.lt) = false := fun _ => (ord_lt Y _ Y3 (by decide)).trans (by rw [Y4, hq]; simp; omega)
  have tH : ∀ _ : True, (FloatKind.f64.format.order Y 9214364837600034815 == some Ordering.lt || FloatKind.f64.format.order Y 9214364837600034815 == some Ordering.eq) = false := fun _ => (ord_le Y _ Y3 (by decide)).trans (by rw [Y4, hp]; simp; omega)
  have hZ2 : Z < 2 * val Y := by rw [hZ]; exact Nat.mod_lt _ (by omega)
  have hXY := half_big X Y hfx (by omega)
  have aZ : val X = Z := by rw [hZ, Nat.mod_eq_of_lt hXY]
  have a1 := hfx
  obtain ⟨A1, A2, A3, A4⟩ := pos_rung X a1
  obtain ⟨h', k1, k2, k3⟩ := half_fit Y hfy (by omega)
  have rh : ∀ ty w, (binOp .mul ty (.float .f64 4602678819172646912) (.float .f64 Y)).run Try.prog w = .ok (.float .f64 h') w := fun ty w => run_float_arith w .mul ty .f64 _ Y _ k3
  obtain ⟨K1, K2, K3, K4⟩ := pos_rung h' k1
  have hlt := @val_lt_iff h' X
  have tg : ∀ _ : True, (FloatKind.f64.format.order X h' == some Ordering.gt) = true := fun _ => (ord_gt X h' A3 K3).trans (by rw [A4, K4]; simp; omega)
  obtain ⟨d, d1, d2, d3, d4⟩ := sub_near X Y a1 hfy (by omega) (by omega)
  rw [aZ] at d2 d3 d4
  have hdl : decide (Z < val Y) = false := by simp; omega
  rw [hdl] at d2
  have d5 := d3 (by omega)
  clear d3 d4 hdl
  obtain ⟨D1, D2, D3, D4⟩ := pos_rung d d1
  have rs : ∀ ty w, (binOp .sub ty (.float .f64 X) (.float .f64 Y)).run Try.prog w = .ok (.float .f64 d) w := fun ty w => run_float_arith w .sub ty .f64 _ Y _ d2
  have hlt2 := @val_lt_iff d h'
  have tg2 : ∀ _ : True, (FloatKind.f64.format.order d h' == some Ordering.gt || FloatKind.f64.format.order d h' == some Ordering.eq) = true := fun _ => (ord_ge _ h' D3 K3).trans (by rw [D4, K4]; simp; omega)
  obtain ⟨g, g1, g2, g3, g4⟩ := sub_near d Y d1 hfy (by omega) (by omega)
  rw [d5] at g2 g3 g4
  have hgl : decide (Z - val Y < val Y) = true := by simp; omega
  rw [hgl] at g2
  have g5 := g4 (by omega)
  have rs2 : ∀ ty w, (binOp .sub ty (.float .f64 d) (.float .f64 Y)).run Try.prog w = .ok (.float .f64 (wordD true g)) w := fun ty w => run_float_arith w .sub ty .f64 _ Y _ g2
  rw [← g5, near_val (!true) g (by omega)] at hW
  clear g3 g4 hgl g2
  have ern := neg_wordX true g (by omega)
  have rn : ∀ w, (Op.unary .neg (.float .f64 (wordD true g))).run Try.prog w = .ok (.float .f64 MW) w := fun w => by
    have g' : wordD true g ^^^ 9223372036854775808 = MW := ern.trans hW.symm
    rw [← g']; rfl
  clear ern
  generalize wordD true g = rw' at *
  have HALL := Lib.hid (And.intro aZ (And.intro hZ2 hYp))
  clear hW aZ hZ hZ2 hYp hc hbr hne hfx hfy h0x h0y hnx hny ix iy X1 X2 X3 X4 Y1 Y2 Y3 Y4 A1 A2 A3 A4 a1 hq hp hlt k1 k2 k3 K1 K2 K3 K4 hXY d1 d2 d5 D1 D2 D3 D4 hlt2 g1 g5
  have hyY : Y = y := wy
  clear wx wy ex ey hX hY
  subst hyY
  go_enter Try.func43, Try.ntmps43
  go_wp2_with fail
  refine (isNaN_any x false nx _).mono ?_
  rintro e w' ⟨rfl, rfl⟩
  go_wp2_with fail
  refine (isNaN_any Y false ny _).mono ?_
  rintro e w' ⟨rfl, rfl⟩
  go_wp2_with fail
  refine (ci _).mono ?_
  rintro e w' ⟨rfl, rfl⟩
  go_wp2_with fail
  refine (cj _).mono ?_
  rintro e w' ⟨rfl, rfl⟩
  go_wp2
  go_ret
  exact ⟨rfl, rfl⟩

set_option maxHeartbeats 400000 in
theorem rm_ft_T1 (x y : Nat) (hx : x < 18446744073709551616) (hy : y < 18446744073709551616) (hfx : rung x < 9218868437227405312) (hfy : rung y < 9218868437227405312) (h0x : rung x ≠ 0) (h0y : rung y ≠ 0) (hnx : negB x = false) (hny : negB y = true) (hne : rung x ≠ rung y) (hbr : rung y < 9007199254740992) (Z : Nat) (hZ : Z = val (rung x) % (2 * val (rung y))) (hc : ¬ val (rung y) < 2 * Z) (w : World) :
    Calls Try.prog 43 #[.float .f64 x, .float .f64 y] w fun e w' => e = .returned (.float .f64 (remW x y)) ∧ w = w' := by
  have nx : isNan x = false := by unfold isNan; simp; omega
  have ny : isNan y = false := by unfold isNan; simp; omega
  have ix : isInf x = false := by unfold isInf; simp; omega
  have iy : isInf y = false := by unfold isInf; simp; omega
  have ci := fun w => isInf_zero x hx w
  rw [ix] at ci
  have cj := fun w => isInf_zero y hy w
  rw [iy] at cj
  have ty : ∀ _ : True, (FloatKind.f64.format.order y 0 == some Ordering.eq) = false := fun _ => y_not_zero y h0y
  have tx : ∀ _ : True, (FloatKind.f64.format.order x 0 == some Ordering.lt) = false := fun _ => (ord_lt x 0 nx nan_zero).trans (by rw [place_zero]; unfold place; rw [hnx]; simp; try omega)
  have tyl : ∀ _ : True, (FloatKind.f64.format.order y 0 == some Ordering.lt) = true := fun _ => (ord_lt y 0 ny nan_zero).trans (by rw [place_zero]; unfold place; rw [hny]; simp; try omega)
  have hout := rem_out x y Z (val_pos' _ h0y) hZ
  have hW := hout.1 hc
  rw [hnx] at hW
  generalize remW x y = MW at *
  clear hout
  have ex := neg_num x hx
  have wx := word_of x hx
  rw [hnx] at ex wx
  have ey := neg_num y hy
  have wy := word_of y hy
  rw [hny] at ey wy
  obtain ⟨X, hX⟩ : ∃ X, X = rung x := ⟨_, rfl⟩
  obtain ⟨Y, hY⟩ : ∃ Y, Y = rung y := ⟨_, rfl⟩
  rw [← hX] at ex wx hfx hZ hne h0x
  rw [← hY] at ey wy hfy hZ hne hbr hc h0y
  have ry : ∀ w, (Op.unary .neg (.float .f64 y)).run Try.prog w = .ok (.float .f64 Y) w := fun w => by
    have g : y ^^^ 9223372036854775808 = Y := ey
    rw [← g]; rfl
  obtain ⟨X1, X2, X3, X4⟩ := pos_rung X hfx
  obtain ⟨Y1, Y2, Y3, Y4⟩ := pos_rung Y hfy
  have hYp := val_pos' Y h0y
  have hq : place 9007199254740992 = 9007199254740992 := by decide
  have hp : place 9214364837600034815 = 9214364837600034815 := by decide
  have teq : ∀ _ : True, (FloatKind.f64.format.order X Y == some Ordering.eq) = false := fun _ => (ord_eq X Y X3 Y3).trans (by rw [X4, Y4]; simp; omega)
  have tT : ∀ _ : True, (FloatKind.f64.format.order Y 9007199254740992 == some Ordering.lt) = true := fun _ => (ord_lt Y _ Y3 (by decide)).trans (by rw [Y4, hq]; simp; omega)
  have tH : ∀ _ : True, (FloatKind.f64.format.order Y 9214364837600034815 == some Ordering.lt || FloatKind.f64.format.order Y 9214364837600034815 == some Ordering.eq) = true := fun _ => (ord_le Y _ Y3 (by decide)).trans (by rw [Y4, hp]; simp; omega)
  have hZ2 : Z < 2 * val Y := by rw [hZ]; exact Nat.mod_lt _ (by omega)
  obtain ⟨yy, a, y1, y0, y3, a1, a2, a3⟩ := rem_first X Y hfx hfy h0y (by omega)
  obtain ⟨q1, q2, q3, q4⟩ := pos_rung yy y1
  have cm := fun w => Mod_any X yy (by omega) (by omega) (by omega) (by omega) (by omega) w
  rw [a3] at cm
  have ryy : ∀ ty w, (binOp .add ty (.float .f64 Y) (.float .f64 Y)).run Try.prog w = .ok (.float .f64 yy) w := fun ty w => run_float_arith w .add ty .f64 Y Y yy y3
  have aZ : val a = Z := by rw [a2, hZ]
  clear a2 a3 q1 q2 q3 q4 y0 y1 y3
  obtain ⟨A1, A2, A3, A4⟩ := pos_rung a a1
  have hvt := val_tiny Y hbr
  obtain ⟨aa, b1, b2, b3⟩ := add_self a a1 false (by have := topU_big; omega)
  have raa : ∀ ty w, (binOp .add ty (.float .f64 a) (.float .f64 a)).run Try.prog w = .ok (.float .f64 aa) w := fun ty w => run_float_arith w .add ty .f64 _ _ aa b3
  obtain ⟨B1, B2, B3, B4⟩ := pos_rung aa b1
  have hlt := @val_lt_iff Y aa
  have tg : ∀ _ : True, (FloatKind.f64.format.order aa Y == some Ordering.gt) = false := fun _ => (ord_gt aa Y B3 Y3).trans (by rw [B4, Y4]; simp; omega)
  rw [← aZ, near_val false a (by omega)] at hW
  have hW2 : MW = a := hW
  rw [hW2]
  clear hW2
  have HALL := Lib.hid (And.intro aZ (And.intro hZ2 hYp))
  clear hW aZ hZ hZ2 hYp hc hbr hne hfx hfy h0x h0y hnx hny ix iy X1 X2 X3 X4 Y1 Y2 Y3 Y4 A1 A2 A3 A4 a1 hq hp hlt hvt b1 b2 b3 B1 B2 B3 B4
  have hxX : X = x := wx
  clear wx wy ex ey hX hY
  subst hxX
  go_enter Try.func43, Try.ntmps43
  go_wp2_with fail
  refine (isNaN_any X false nx _).mono ?_
  rintro e w' ⟨rfl, rfl⟩
  go_wp2_with fail
  refine (isNaN_any y false ny _).mono ?_
  rintro e w' ⟨rfl, rfl⟩
  go_wp2_with fail
  refine (ci _).mono ?_
  rintro e w' ⟨rfl, rfl⟩
  go_wp2_with fail
  refine (cj _).mono ?_
  rintro e w' ⟨rfl, rfl⟩
  go_wp2_with fail
  refine (cm _).mono ?_
  rintro e w' ⟨rfl, rfl⟩
  go_wp2
  go_ret
  exact ⟨rfl, rfl⟩

set_option maxHeartbeats 400000 in
theorem rm_ft_T2 (x y : Nat) (hx : x < 18446744073709551616) (hy : y < 18446744073709551616) (hfx : rung x < 9218868437227405312) (hfy : rung y < 9218868437227405312) (h0x : rung x ≠ 0) (h0y : rung y ≠ 0) (hnx : negB x = false) (hny : negB y = true) (hne : rung x ≠ rung y) (hbr : rung y < 9007199254740992) (Z : Nat) (hZ : Z = val (rung x) % (2 * val (rung y))) (hc : val (rung y) < 2 * Z ∧ Z < val (rung y)) (w : World) :
    Calls Try.prog 43 #[.float .f64 x, .float .f64 y] w fun e w' => e = .returned (.float .f64 (remW x y)) ∧ w = w' := by
  have nx : isNan x = false := by unfold isNan; simp; omega
  have ny : isNan y = false := by unfold isNan; simp; omega
  have ix : isInf x = false := by unfold isInf; simp; omega
  have iy : isInf y = false := by unfold isInf; simp; omega
  have ci := fun w => isInf_zero x hx w
  rw [ix] at ci
  have cj := fun w => isInf_zero y hy w
  rw [iy] at cj
  have ty : ∀ _ : True, (FloatKind.f64.format.order y 0 == some Ordering.eq) = false := fun _ => y_not_zero y h0y
  have tx : ∀ _ : True, (FloatKind.f64.format.order x 0 == some Ordering.lt) = false := fun _ => (ord_lt x 0 nx nan_zero).trans (by rw [place_zero]; unfold place; rw [hnx]; simp; try omega)
  have tyl : ∀ _ : True, (FloatKind.f64.format.order y 0 == some Ordering.lt) = true := fun _ => (ord_lt y 0 ny nan_zero).trans (by rw [place_zero]; unfold place; rw [hny]; simp; try omega)
  have hout := rem_out x y Z (val_pos' _ h0y) hZ
  have hW := hout.2.1 hc.1 hc.2
  rw [hnx] at hW
  generalize remW x y = MW at *
  clear hout
  have ex := neg_num x hx
  have wx := word_of x hx
  rw [hnx] at ex wx
  have ey := neg_num y hy
  have wy := word_of y hy
  rw [hny] at ey wy
  obtain ⟨X, hX⟩ : ∃ X, X = rung x := ⟨_, rfl⟩
  obtain ⟨Y, hY⟩ : ∃ Y, Y = rung y := ⟨_, rfl⟩
  rw [← hX] at ex wx hfx hZ hne h0x
  rw [← hY] at ey wy hfy hZ hne hbr hc hW h0y
  have ry : ∀ w, (Op.unary .neg (.float .f64 y)).run Try.prog w = .ok (.float .f64 Y) w := fun w => by
    have g : y ^^^ 9223372036854775808 = Y := ey
    rw [← g]; rfl
  obtain ⟨X1, X2, X3, X4⟩ := pos_rung X hfx
  obtain ⟨Y1, Y2, Y3, Y4⟩ := pos_rung Y hfy
  have hYp := val_pos' Y h0y
  have hq : place 9007199254740992 = 9007199254740992 := by decide
  have hp : place 9214364837600034815 = 9214364837600034815 := by decide
  have teq : ∀ _ : True, (FloatKind.f64.format.order X Y == some Ordering.eq) = false := fun _ => (ord_eq X Y X3 Y3).trans (by rw [X4, Y4]; simp; omega)
  have tT : ∀ _ : True, (FloatKind.f64.format.order Y 9007199254740992 == some Ordering.lt) = true := fun _ => (ord_lt Y _ Y3 (by decide)).trans (by rw [Y4, hq]; simp; omega)
  have tH : ∀ _ : True, (FloatKind.f64.format.order Y 9214364837600034815 == some Ordering.lt || FloatKind.f64.format.order Y 9214364837600034815 == some Ordering.eq) = true := fun _ => (ord_le Y _ Y3 (by decide)).trans (by rw [Y4, hp]; simp; omega)
  have hZ2 : Z < 2 * val Y := by rw [hZ]; exact Nat.mod_lt _ (by omega)
  obtain ⟨yy, a, y1, y0, y3, a1, a2, a3⟩ := rem_first X Y hfx hfy h0y (by omega)
  obtain ⟨q1, q2, q3, q4⟩ := pos_rung yy y1
  have cm := fun w => Mod_any X yy (by omega) (by omega) (by omega) (by omega) (by omega) w
  rw [a3] at cm
  have ryy : ∀ ty w, (binOp .add ty (.float .f64 Y) (.float .f64 Y)).run Try.prog w = .ok (.float .f64 yy) w := fun ty w => run_float_arith w .add ty .f64 Y Y yy y3
  have aZ : val a = Z := by rw [a2, hZ]
  clear a2 a3 q1 q2 q3 q4 y0 y1 y3
  obtain ⟨A1, A2, A3, A4⟩ := pos_rung a a1
  have hvt := val_tiny Y hbr
  obtain ⟨aa, b1, b2, b3⟩ := add_self a a1 false (by have := topU_big; omega)
  have raa : ∀ ty w, (binOp .add ty (.float .f64 a) (.float .f64 a)).run Try.prog w = .ok (.float .f64 aa) w := fun ty w => run_float_arith w .add ty .f64 _ _ aa b3
  obtain ⟨B1, B2, B3, B4⟩ := pos_rung aa b1
  have hlt := @val_lt_iff Y aa
  have tg : ∀ _ : True, (FloatKind.f64.format.order aa Y == some Ordering.gt) = true := fun _ => (ord_gt aa Y B3 Y3).trans (by rw [B4, Y4]; simp; omega)
  obtain ⟨d, d1, d2, d3, d4⟩ := sub_near a Y a1 hfy (by omega) (by omega)
  rw [aZ] at d2 d3 d4
  have hdl : decide (Z < val Y) = true := by simp; omega
  rw [hdl] at d2
  have d5 := d4 (by omega)
  clear d3 d4 hdl
  obtain ⟨pd1, pd2⟩ := place_word true d d1
  have rs : ∀ ty w, (binOp .sub ty (.float .f64 a) (.float .f64 Y)).run Try.prog w = .ok (.float .f64 (wordD true d)) w := fun ty w => run_float_arith w .sub ty .f64 _ Y _ d2
  rw [← d5, near_val (!false) d (by omega)] at hW
  obtain ⟨dd, f1, f2, f3⟩ := add_self d d1 true (by have := topU_big; omega)
  have rdd : ∀ ty w, (binOp .add ty (.float .f64 (wordD true d)) (.float .f64 (wordD true d))).run Try.prog w = .ok (.float .f64 (wordD true dd)) w := fun ty w => run_float_arith w .add ty .f64 _ _ _ f3
  obtain ⟨pe1, pe2⟩ := place_word true dd f1
  have tg2 : ∀ _ : True, (FloatKind.f64.format.order (wordD true dd) Y == some Ordering.gt || FloatKind.f64.format.order (wordD true dd) Y == some Ordering.eq) = false := fun _ => (ord_ge _ Y pe1 Y3).trans (by rw [pe2, Y4]; simp; omega)
  generalize wordD true dd = dw at *
  have hW2 : MW = (wordD true d) := hW
  rw [hW2]
  clear hW2
  generalize wordD true d = rw' at *
  have HALL := Lib.hid (And.intro aZ (And.intro hZ2 hYp))
  clear hW aZ hZ hZ2 hYp hc hbr hne hfx hfy h0x h0y hnx hny ix iy X1 X2 X3 X4 Y1 Y2 Y3 Y4 A1 A2 A3 A4 a1 hq hp hlt hvt b1 b2 b3 B1 B2 B3 B4 d1 d2 d5 pd1 pd2 f1 f2 f3 pe1 pe2
  have hxX : X = x := wx
  clear wx wy ex ey hX hY
  subst hxX
  go_enter Try.func43, Try.ntmps43
  go_wp2_with fail
  refine (isNaN_any X false nx _).mono ?_
  rintro e w' ⟨rfl, rfl⟩
  go_wp2_with fail
  refine (isNaN_any y false ny _).mono ?_
  rintro e w' ⟨rfl, rfl⟩
  go_wp2_with fail
  refine (ci _).mono ?_
  rintro e w' ⟨rfl, rfl⟩
  go_wp2_with fail
  refine (cj _).mono ?_
  rintro e w' ⟨rfl, rfl⟩
  go_wp2_with fail
  refine (cm _).mono ?_
  rintro e w' ⟨rfl, rfl⟩
  go_wp2
  go_ret
  exact ⟨rfl, rfl⟩

set_option maxHeartbeats 400000 in
theorem rm_ft_T3 (x y : Nat) (hx : x < 18446744073709551616) (hy : y < 18446744073709551616) (hfx : rung x < 9218868437227405312) (hfy : rung y < 9218868437227405312) (h0x : rung x ≠ 0) (h0y : rung y ≠ 0) (hnx : negB x = false) (hny : negB y = true) (hne : rung x ≠ rung y) (hbr : rung y < 9007199254740992) (Z : Nat) (hZ : Z = val (rung x) % (2 * val (rung y))) (hc : val (rung y) ≤ Z ∧ 2 * (Z - val (rung y)) < val (rung y)) (w : World) :
    Calls Try.prog 43 #[.float .f64 x, .float .f64 y] w fun e w' => e = .returned (.float .f64 (remW x y)) ∧ w = w' := by
  have nx : isNan x = false := by unfold isNan; simp; omega
  have ny : isNan y = false := by unfold isNan; simp; omega
  have ix : isInf x = false := by unfold isInf; simp; omega
  have iy : isInf y = false := by unfold isInf; simp; omega
  have ci := fun w => isInf_zero x hx w
  rw [ix] at ci
  have cj := fun w => isInf_zero y hy w
  rw [iy] at cj
  have ty : ∀ _ : True, (FloatKind.f64.format.order y 0 == some Ordering.eq) = false := fun _ => y_not_zero y h0y
  have tx : ∀ _ : True, (FloatKind.f64.format.order x 0 == some Ordering.lt) = false := fun _ => (ord_lt x 0 nx nan_zero).trans (by rw [place_zero]; unfold place; rw [hnx]; simp; try omega)
  have tyl : ∀ _ : True, (FloatKind.f64.format.order y 0 == some Ordering.lt) = true := fun _ => (ord_lt y 0 ny nan_zero).trans (by rw [place_zero]; unfold place; rw [hny]; simp; try omega)
  have hout := rem_out x y Z (val_pos' _ h0y) hZ
  have hW := hout.2.2.1 hc.1 hc.2
  rw [hnx] at hW
  generalize remW x y = MW at *
  clear hout
  have ex := neg_num x hx
  have wx := word_of x hx
  rw [hnx] at ex wx
  have ey := neg_num y hy
  have wy := word_of y hy
  rw [hny] at ey wy
  obtain ⟨X, hX⟩ : ∃ X, X = rung x := ⟨_, rfl⟩
  obtain ⟨Y, hY⟩ : ∃ Y, Y = rung y := ⟨_, rfl⟩
  rw [← hX] at ex wx hfx hZ hne h0x
  rw [← hY] at ey wy hfy hZ hne hbr hc hW h0y
  have ry : ∀ w, (Op.unary .neg (.float .f64 y)).run Try.prog w = .ok (.float .f64 Y) w := fun w => by
    have g : y ^^^ 9223372036854775808 = Y := ey
    rw [← g]; rfl
  obtain ⟨X1, X2, X3, X4⟩ := pos_rung X hfx
  obtain ⟨Y1, Y2, Y3, Y4⟩ := pos_rung Y hfy
  have hYp := val_pos' Y h0y
  have hq : place 9007199254740992 = 9007199254740992 := by decide
  have hp : place 9214364837600034815 = 9214364837600034815 := by decide
  have teq : ∀ _ : True, (FloatKind.f64.format.order X Y == some Ordering.eq) = false := fun _ => (ord_eq X Y X3 Y3).trans (by rw [X4, Y4]; simp; omega)
  have tT : ∀ _ : True, (FloatKind.f64.format.order Y 9007199254740992 == some Ordering.lt) = true := fun _ => (ord_lt Y _ Y3 (by decide)).trans (by rw [Y4, hq]; simp; omega)
  have tH : ∀ _ : True, (FloatKind.f64.format.order Y 9214364837600034815 == some Ordering.lt || FloatKind.f64.format.order Y 9214364837600034815 == some Ordering.eq) = true := fun _ => (ord_le Y _ Y3 (by decide)).trans (by rw [Y4, hp]; simp; omega)
  have hZ2 : Z < 2 * val Y := by rw [hZ]; exact Nat.mod_lt _ (by omega)
  obtain ⟨yy, a, y1, y0, y3, a1, a2, a3⟩ := rem_first X Y hfx hfy h0y (by omega)
  obtain ⟨q1, q2, q3, q4⟩ := pos_rung yy y1
  have cm := fun w => Mod_any X yy (by omega) (by omega) (by omega) (by omega) (by omega) w
  rw [a3] at cm
  have ryy : ∀ ty w, (binOp .add ty (.float .f64 Y) (.float .f64 Y)).run Try.prog w = .ok (.float .f64 yy) w := fun ty w => run_float_arith w .add ty .f64 Y Y yy y3
  have aZ : val a = Z := by rw [a2, hZ]
  clear a2 a3 q1 q2 q3 q4 y0 y1 y3
  obtain ⟨A1, A2, A3, A4⟩ := pos_rung a a1
  have hvt := val_tiny Y hbr
  obtain ⟨aa, b1, b2, b3⟩ := add_self a a1 false (by have := topU_big; omega)
  have raa : ∀ ty w, (binOp .add ty (.float .f64 a) (.float .f64 a)).run Try.prog w = .ok (.float .f64 aa) w := fun ty w => run_float_arith w .add ty .f64 _ _ aa b3
  obtain ⟨B1, B2, B3, B4⟩ := pos_rung aa b1
  have hlt := @val_lt_iff Y aa
  have tg : ∀ _ : True, (FloatKind.f64.format.order aa Y == some Ordering.gt) = true := fun _ => (ord_gt aa Y B3 Y3).trans (by rw [B4, Y4]; simp; omega)
  obtain ⟨d, d1, d2, d3, d4⟩ := sub_near a Y a1 hfy (by omega) (by omega)
  rw [aZ] at d2 d3 d4
  have hdl : decide (Z < val Y) = false := by simp; omega
  rw [hdl] at d2
  have d5 := d3 (by omega)
  clear d3 d4 hdl
  obtain ⟨D1, D2, D3, D4⟩ := pos_rung d d1
  have rs : ∀ ty w, (binOp .sub ty (.float .f64 a) (.float .f64 Y)).run Try.prog w = .ok (.float .f64 d) w := fun ty w => run_float_arith w .sub ty .f64 _ Y _ d2
  obtain ⟨dd, f1, f2, f3⟩ := add_self d d1 false (by have := topU_big; omega)
  have rdd : ∀ ty w, (binOp .add ty (.float .f64 d) (.float .f64 d)).run Try.prog w = .ok (.float .f64 dd) w := fun ty w => run_float_arith w .add ty .f64 _ _ _ f3
  obtain ⟨E1, E2, E3, E4⟩ := pos_rung dd f1
  have hlt2 := @val_lt_iff dd Y
  have tg2 : ∀ _ : True, (FloatKind.f64.format.order dd Y == some Ordering.gt || FloatKind.f64.format.order dd Y == some Ordering.eq) = false := fun _ => (ord_ge _ Y E3 Y3).trans (by rw [E4, Y4]; simp; omega)
  rw [← d5, near_val false d (by omega)] at hW
  have hW2 : MW = d := hW
  rw [hW2]
  clear hW2
  have HALL := Lib.hid (And.intro aZ (And.intro hZ2 hYp))
  clear hW aZ hZ hZ2 hYp hc hbr hne hfx hfy h0x h0y hnx hny ix iy X1 X2 X3 X4 Y1 Y2 Y3 Y4 A1 A2 A3 A4 a1 hq hp hlt hvt b1 b2 b3 B1 B2 B3 B4 d1 d2 d5 D1 D2 D3 D4 hlt2 f1 f2 f3 E1 E2 E3 E4
  have hxX : X = x := wx
  clear wx wy ex ey hX hY
  subst hxX
  go_enter Try.func43, Try.ntmps43
  go_wp2_with fail
  refine (isNaN_any X false nx _).mono ?_
  rintro e w' ⟨rfl, rfl⟩
  go_wp2_with fail
  refine (isNaN_any y false ny _).mono ?_
  rintro e w' ⟨rfl, rfl⟩
  go_wp2_with fail
  refine (ci _).mono ?_
  rintro e w' ⟨rfl, rfl⟩
  go_wp2_with fail
  refine (cj _).mono ?_
  rintro e w' ⟨rfl, rfl⟩
  go_wp2_with fail
  refine (cm _).mono ?_
  rintro e w' ⟨rfl, rfl⟩
  go_wp2
  go_ret
  exact ⟨rfl, rfl⟩

set_option maxHeartbeats 400000 in
theorem rm_ft_T4 (x y : Nat) (hx : x < 18446744073709551616) (hy : y < 18446744073709551616) (hfx : rung x < 9218868437227405312) (hfy : rung y < 9218868437227405312) (h0x : rung x ≠ 0) (h0y : rung y ≠ 0) (hnx : negB x = false) (hny : negB y = true) (hne : rung x ≠ rung y) (hbr : rung y < 9007199254740992) (Z : Nat) (hZ : Z = val (rung x) % (2 * val (rung y))) (hc : val (rung y) ≤ Z ∧ val (rung y) ≤ 2 * (Z - val (rung y))) (w : World) :
    Calls Try.prog 43 #[.float .f64 x, .float .f64 y] w fun e w' => e = .returned (.float .f64 (remW x y)) ∧ w = w' := by
  have nx : isNan x = false := by unfold isNan; simp; omega
  have ny : isNan y = false := by unfold isNan; simp; omega
  have ix : isInf x = false := by unfold isInf; simp; omega
  have iy : isInf y = false := by unfold isInf; simp; omega
  have ci := fun w => isInf_zero x hx w
  rw [ix] at ci
  have cj := fun w => isInf_zero y hy w
  rw [iy] at cj
  have ty : ∀ _ : True, (FloatKind.f64.format.order y 0 == some Ordering.eq) = false := fun _ => y_not_zero y h0y
  have tx : ∀ _ : True, (FloatKind.f64.format.order x 0 == some Ordering.lt) = false := fun _ => (ord_lt x 0 nx nan_zero).trans (by rw [place_zero]; unfold place; rw [hnx]; simp; try omega)
  have tyl : ∀ _ : True, (FloatKind.f64.format.order y 0 == some Ordering.lt) = true := fun _ => (ord_lt y 0 ny nan_zero).trans (by rw [place_zero]; unfold place; rw [hny]; simp; try omega)
  have hout := rem_out x y Z (val_pos' _ h0y) hZ
  have hW := hout.2.2.2 hc.1 hc.2
  rw [hnx] at hW
  generalize remW x y = MW at *
  clear hout
  have ex := neg_num x hx
  have wx := word_of x hx
  rw [hnx] at ex wx
  have ey := neg_num y hy
  have wy := word_of y hy
  rw [hny] at ey wy
  obtain ⟨X, hX⟩ : ∃ X, X = rung x := ⟨_, rfl⟩
  obtain ⟨Y, hY⟩ : ∃ Y, Y = rung y := ⟨_, rfl⟩
  rw [← hX] at ex wx hfx hZ hne h0x
  rw [← hY] at ey wy hfy hZ hne hbr hc hW h0y
  have ry : ∀ w, (Op.unary .neg (.float .f64 y)).run Try.prog w = .ok (.float .f64 Y) w := fun w => by
    have g : y ^^^ 9223372036854775808 = Y := ey
    rw [← g]; rfl
  obtain ⟨X1, X2, X3, X4⟩ := pos_rung X hfx
  obtain ⟨Y1, Y2, Y3, Y4⟩ := pos_rung Y hfy
  have hYp := val_pos' Y h0y
  have hq : place 9007199254740992 = 9007199254740992 := by decide
  have hp : place 9214364837600034815 = 9214364837600034815 := by decide
  have teq : ∀ _ : True, (FloatKind.f64.format.order X Y == some Ordering.eq) = false := fun _ => (ord_eq X Y X3 Y3).trans (by rw [X4, Y4]; simp; omega)
  have tT : ∀ _ : True, (FloatKind.f64.format.order Y 9007199254740992 == some Ordering.lt) = true := fun _ => (ord_lt Y _ Y3 (by decide)).trans (by rw [Y4, hq]; simp; omega)
  have tH : ∀ _ : True, (FloatKind.f64.format.order Y 9214364837600034815 == some Ordering.lt || FloatKind.f64.format.order Y 9214364837600034815 == some Ordering.eq) = true := fun _ => (ord_le Y _ Y3 (by decide)).trans (by rw [Y4, hp]; simp; omega)
  have hZ2 : Z < 2 * val Y := by rw [hZ]; exact Nat.mod_lt _ (by omega)
  obtain ⟨yy, a, y1, y0, y3, a1, a2, a3⟩ := rem_first X Y hfx hfy h0y (by omega)
  obtain ⟨q1, q2, q3, q4⟩ := pos_rung yy y1
  have cm := fun w => Mod_any X yy (by omega) (by omega) (by omega) (by omega) (by omega) w
  rw [a3] at cm
  have ryy : ∀ ty w, (binOp .add ty (.float .f64 Y) (.float .f64 Y)).run Try.prog w = .ok (.float .f64 yy) w := fun ty w => run_float_arith w .add ty .f64 Y Y yy y3
  have aZ : val a = Z := by rw [a2, hZ]
  clear a2 a3 q1 q2 q3 q4 y0 y1 y3
  obtain ⟨A1, A2, A3, A4⟩ := pos_rung a a1
  have hvt := val_tiny Y hbr
  obtain ⟨aa, b1, b2, b3⟩ := add_self a a1 false (by have := topU_big; omega)
  have raa : ∀ ty w, (binOp .add ty (.float .f64 a) (.float .f64 a)).run Try.prog w = .ok (.float .f64 aa) w := fun ty w => run_float_arith w .add ty .f64 _ _ aa b3
  obtain ⟨B1, B2, B3, B4⟩ := pos_rung aa b1
  have hlt := @val_lt_iff Y aa
  have tg : ∀ _ : True, (FloatKind.f64.format.order aa Y == some Ordering.gt) = true := fun _ => (ord_gt aa Y B3 Y3).trans (by rw [B4, Y4]; simp; omega)
  obtain ⟨d, d1, d2, d3, d4⟩ := sub_near a Y a1 hfy (by omega) (by omega)
  rw [aZ] at d2 d3 d4
  have hdl : decide (Z < val Y) = false := by simp; omega
  rw [hdl] at d2
  have d5 := d3 (by omega)
  clear d3 d4 hdl
  obtain ⟨D1, D2, D3, D4⟩ := pos_rung d d1
  have rs : ∀ ty w, (binOp .sub ty (.float .f64 a) (.float .f64 Y)).run Try.prog w = .ok (.float .f64 d) w := fun ty w => run_float_arith w .sub ty .f64 _ Y _ d2
  obtain ⟨dd, f1, f2, f3⟩ := add_self d d1 false (by have := topU_big; omega)
  have rdd : ∀ ty w, (binOp .add ty (.float .f64 d) (.float .f64 d)).run Try.prog w = .ok (.float .f64 dd) w := fun ty w => run_float_arith w .add ty .f64 _ _ _ f3
  obtain ⟨E1, E2, E3, E4⟩ := pos_rung dd f1
  have hlt2 := @val_lt_iff dd Y
  have tg2 : ∀ _ : True, (FloatKind.f64.format.order dd Y == some Ordering.gt || FloatKind.f64.format.order dd Y == some Ordering.eq) = true := fun _ => (ord_ge _ Y E3 Y3).trans (by rw [E4, Y4]; simp; omega)
  obtain ⟨g, g1, g2, g3, g4⟩ := sub_near d Y d1 hfy (by omega) (by omega)
  rw [d5] at g2 g3 g4
  have hgl : decide (Z - val Y < val Y) = true := by simp; omega
  rw [hgl] at g2
  have g5 := g4 (by omega)
  have rs2 : ∀ ty w, (binOp .sub ty (.float .f64 d) (.float .f64 Y)).run Try.prog w = .ok (.float .f64 (wordD true g)) w := fun ty w => run_float_arith w .sub ty .f64 _ Y _ g2
  rw [← g5, near_val (!false) g (by omega)] at hW
  clear g3 g4 hgl g2
  have hW2 : MW = (wordD true g) := hW
  rw [hW2]
  clear hW2
  generalize wordD true g = rw' at *
  have HALL := Lib.hid (And.intro aZ (And.intro hZ2 hYp))
  clear hW aZ hZ hZ2 hYp hc hbr hne hfx hfy h0x h0y hnx hny ix iy X1 X2 X3 X4 Y1 Y2 Y3 Y4 A1 A2 A3 A4 a1 hq hp hlt hvt b1 b2 b3 B1 B2 B3 B4 d1 d2 d5 D1 D2 D3 D4 hlt2 f1 f2 f3 E1 E2 E3 E4 g1 g5
  have hxX : X = x := wx
  clear wx wy ex ey hX hY
  subst hxX
  go_enter Try.func43, Try.ntmps43
  go_wp2_with fail
  refine (isNaN_any X false nx _).mono ?_
  rintro e w' ⟨rfl, rfl⟩
  go_wp2_with fail
  refine (isNaN_any y false ny _).mono ?_
  rintro e w' ⟨rfl, rfl⟩
  go_wp2_with fail
  refine (ci _).mono ?_
  rintro e w' ⟨rfl, rfl⟩
  go_wp2_with fail
  refine (cj _).mono ?_
  rintro e w' ⟨rfl, rfl⟩
  go_wp2_with fail
  refine (cm _).mono ?_
  rintro e w' ⟨rfl, rfl⟩
  go_wp2
  go_ret
  exact ⟨rfl, rfl⟩

set_option maxHeartbeats 400000 in
theorem rm_ft_M1 (x y : Nat) (hx : x < 18446744073709551616) (hy : y < 18446744073709551616) (hfx : rung x < 9218868437227405312) (hfy : rung y < 9218868437227405312) (h0x : rung x ≠ 0) (h0y : rung y ≠ 0) (hnx : negB x = false) (hny : negB y = true) (hne : rung x ≠ rung y) (hbr : 9007199254740992 ≤ rung y ∧ rung y ≤ 9214364837600034815) (Z : Nat) (hZ : Z = val (rung x) % (2 * val (rung y))) (hc : ¬ val (rung y) < 2 * Z) (w : World) :
    Calls Try.prog 43 #[.float .f64 x, .float .f64 y] w fun e w' => e = .returned (.float .f64 (remW x y)) ∧ w = w' := by
  have nx : isNan x = false := by unfold isNan; simp; omega
  have ny : isNan y = false := by unfold isNan; simp; omega
  have ix : isInf x = false := by unfold isInf; simp; omega
  have iy : isInf y = false := by unfold isInf; simp; omega
  have ci := fun w => isInf_zero x hx w
  rw [ix] at ci
  have cj := fun w => isInf_zero y hy w
  rw [iy] at cj
  have ty : ∀ _ : True, (FloatKind.f64.format.order y 0 == some Ordering.eq) = false := fun _ => y_not_zero y h0y
  have tx : ∀ _ : True, (FloatKind.f64.format.order x 0 == some Ordering.lt) = false := fun _ => (ord_lt x 0 nx nan_zero).trans (by rw [place_zero]; unfold place; rw [hnx]; simp; try omega)
  have tyl : ∀ _ : True, (FloatKind.f64.format.order y 0 == some Ordering.lt) = true := fun _ => (ord_lt y 0 ny nan_zero).trans (by rw [place_zero]; unfold place; rw [hny]; simp; try omega)
  have hout := rem_out x y Z (val_pos' _ h0y) hZ
  have hW := hout.1 hc
  rw [hnx] at hW
  generalize remW x y = MW at *
  clear hout
  have ex := neg_num x hx
  have wx := word_of x hx
  rw [hnx] at ex wx
  have ey := neg_num y hy
  have wy := word_of y hy
  rw [hny] at ey wy
  obtain ⟨X, hX⟩ : ∃ X, X = rung x := ⟨_, rfl⟩
  obtain ⟨Y, hY⟩ : ∃ Y, Y = rung y := ⟨_, rfl⟩
  rw [← hX] at ex wx hfx hZ hne h0x
  rw [← hY] at ey wy hfy hZ hne hbr hc h0y
  have ry : ∀ w, (Op.unary .neg (.float .f64 y)).run Try.prog w = .ok (.float .f64 Y) w := fun w => by
    have g : y ^^^ 9223372036854775808 = Y := ey
    rw [← g]; rfl
  obtain ⟨X1, X2, X3, X4⟩ := pos_rung X hfx
  obtain ⟨Y1, Y2, Y3, Y4⟩ := pos_rung Y hfy
  have hYp := val_pos' Y h0y
  have hq : place 9007199254740992 = 9007199254740992 := by decide
  have hp : place 9214364837600034815 = 9214364837600034815 := by decide
  have teq : ∀ _ : True, (FloatKind.f64.format.order X Y == some Ordering.eq) = false := fun _ => (ord_eq X Y X3 Y3).trans (by rw [X4, Y4]; simp; omega)
  have tT : ∀ _ : True, (FloatKind.f64.format.order Y 9007199254740992 == some Ordering.lt) = false := fun _ => (ord_lt Y _ Y3 (by decide)).trans (by rw [Y4, hq]; simp; omega)
  have tH : ∀ _ : True, (FloatKind.f64.format.order Y 9214364837600034815 == some Ordering.lt || FloatKind.f64.format.order Y 9214364837600034815 == some Ordering.eq) = true := fun _ => (ord_le Y _ Y3 (by decide)).trans (by rw [Y4, hp]; simp; omega)
  have hZ2 : Z < 2 * val Y := by rw [hZ]; exact Nat.mod_lt _ (by omega)
  obtain ⟨yy, a, y1, y0, y3, a1, a2, a3⟩ := rem_first X Y hfx hfy h0y (by omega)
  obtain ⟨q1, q2, q3, q4⟩ := pos_rung yy y1
  have cm := fun w => Mod_any X yy (by omega) (by omega) (by omega) (by omega) (by omega) w
  rw [a3] at cm
  have ryy : ∀ ty w, (binOp .add ty (.float .f64 Y) (.float .f64 Y)).run Try.prog w = .ok (.float .f64 yy) w := fun ty w => run_float_arith w .add ty .f64 Y Y yy y3
  have aZ : val a = Z := by rw [a2, hZ]
  clear a2 a3 q1 q2 q3 q4 y0 y1 y3
  obtain ⟨A1, A2, A3, A4⟩ := pos_rung a a1
  obtain ⟨h', k1, k2, k3⟩ := half_fit Y hfy (by omega)
  have rh : ∀ ty w, (binOp .mul ty (.float .f64 4602678819172646912) (.float .f64 Y)).run Try.prog w = .ok (.float .f64 h') w := fun ty w => run_float_arith w .mul ty .f64 _ Y _ k3
  obtain ⟨K1, K2, K3, K4⟩ := pos_rung h' k1
  have hlt := @val_lt_iff h' a
  have tg : ∀ _ : True, (FloatKind.f64.format.order a h' == some Ordering.gt) = false := fun _ => (ord_gt a h' A3 K3).trans (by rw [A4, K4]; simp; omega)
  rw [← aZ, near_val false a (by omega)] at hW
  have hW2 : MW = a := hW
  rw [hW2]
  clear hW2
  have HALL := Lib.hid (And.intro aZ (And.intro hZ2 hYp))
  clear hW aZ hZ hZ2 hYp hc hbr hne hfx hfy h0x h0y hnx hny ix iy X1 X2 X3 X4 Y1 Y2 Y3 Y4 A1 A2 A3 A4 a1 hq hp hlt k1 k2 k3 K1 K2 K3 K4
  have hxX : X = x := wx
  clear wx wy ex ey hX hY
  subst hxX
  go_enter Try.func43, Try.ntmps43
  go_wp2_with fail
  refine (isNaN_any X false nx _).mono ?_
  rintro e w' ⟨rfl, rfl⟩
  go_wp2_with fail
  refine (isNaN_any y false ny _).mono ?_
  rintro e w' ⟨rfl, rfl⟩
  go_wp2_with fail
  refine (ci _).mono ?_
  rintro e w' ⟨rfl, rfl⟩
  go_wp2_with fail
  refine (cj _).mono ?_
  rintro e w' ⟨rfl, rfl⟩
  go_wp2_with fail
  refine (cm _).mono ?_
  rintro e w' ⟨rfl, rfl⟩
  go_wp2
  go_ret
  exact ⟨rfl, rfl⟩

set_option maxHeartbeats 400000 in
theorem rm_ft_M2 (x y : Nat) (hx : x < 18446744073709551616) (hy : y < 18446744073709551616) (hfx : rung x < 9218868437227405312) (hfy : rung y < 9218868437227405312) (h0x : rung x ≠ 0) (h0y : rung y ≠ 0) (hnx : negB x = false) (hny : negB y = true) (hne : rung x ≠ rung y) (hbr : 9007199254740992 ≤ rung y ∧ rung y ≤ 9214364837600034815) (Z : Nat) (hZ : Z = val (rung x) % (2 * val (rung y))) (hc : val (rung y) < 2 * Z ∧ Z < val (rung y)) (w : World) :
    Calls Try.prog 43 #[.float .f64 x, .float .f64 y] w fun e w' => e = .returned (.float .f64 (remW x y)) ∧ w = w' := by
  have nx : isNan x = false := by unfold isNan; simp; omega
  have ny : isNan y = false := by unfold isNan; simp; omega
  have ix : isInf x = false := by unfold isInf; simp; omega
  have iy : isInf y = false := by unfold isInf; simp; omega
  have ci := fun w => isInf_zero x hx w
  rw [ix] at ci
  have cj := fun w => isInf_zero y hy w
  rw [iy] at cj
  have ty : ∀ _ : True, (FloatKind.f64.format.order y 0 == some Ordering.eq) = false := fun _ => y_not_zero y h0y
  have tx : ∀ _ : True, (FloatKind.f64.format.order x 0 == some Ordering.lt) = false := fun _ => (ord_lt x 0 nx nan_zero).trans (by rw [place_zero]; unfold place; rw [hnx]; simp; try omega)
  have tyl : ∀ _ : True, (FloatKind.f64.format.order y 0 == some Ordering.lt) = true := fun _ => (ord_lt y 0 ny nan_zero).trans (by rw [place_zero]; unfold place; rw [hny]; simp; try omega)
  have hout := rem_out x y Z (val_pos' _ h0y) hZ
  have hW := hout.2.1 hc.1 hc.2
  rw [hnx] at hW
  generalize remW x y = MW at *
  clear hout
  have ex := neg_num x hx
  have wx := word_of x hx
  rw [hnx] at ex wx
  have ey := neg_num y hy
  have wy := word_of y hy
  rw [hny] at ey wy
  obtain ⟨X, hX⟩ : ∃ X, X = rung x := ⟨_, rfl⟩
  obtain ⟨Y, hY⟩ : ∃ Y, Y = rung y := ⟨_, rfl⟩
  rw [← hX] at ex wx hfx hZ hne h0x
  rw [← hY] at ey wy hfy hZ hne hbr hc hW h0y
  have ry : ∀ w, (Op.unary .neg (.float .f64 y)).run Try.prog w = .ok (.float .f64 Y) w := fun w => by
    have g : y ^^^ 9223372036854775808 = Y := ey
    rw [← g]; rfl
  obtain ⟨X1, X2, X3, X4⟩ := pos_rung X hfx
  obtain ⟨Y1, Y2, Y3, Y4⟩ := pos_rung Y hfy
  have hYp := val_pos' Y h0y
  have hq : place 9007199254740992 = 9007199254740992 := by decide
  have hp : place 9214364837600034815 = 9214364837600034815 := by decide
  have teq : ∀ _ : True, (FloatKind.f64.format.order X Y == some Ordering.eq) = false := fun _ => (ord_eq X Y X3 Y3).trans (by rw [X4, Y4]; simp; omega)
  have tT : ∀ _ : True, (FloatKind.f64.format.order Y 9007199254740992 == some Ordering.lt) = false := fun _ => (ord_lt Y _ Y3 (by decide)).trans (by rw [Y4, hq]; simp; omega)
  have tH : ∀ _ : True, (FloatKind.f64.format.order Y 9214364837600034815 == some Ordering.lt || FloatKind.f64.format.order Y 9214364837600034815 == some Ordering.eq) = true := fun _ => (ord_le Y _ Y3 (by decide)).trans (by rw [Y4, hp]; simp; omega)
  have hZ2 : Z < 2 * val Y := by rw [hZ]; exact Nat.mod_lt _ (by omega)
  obtain ⟨yy, a, y1, y0, y3, a1, a2, a3⟩ := rem_first X Y hfx hfy h0y (by omega)
  obtain ⟨q1, q2, q3, q4⟩ := pos_rung yy y1
  have cm := fun w => Mod_any X yy (by omega) (by omega) (by omega) (by omega) (by omega) w
  rw [a3] at cm
  have ryy : ∀ ty w, (binOp .add ty (.float .f64 Y) (.float .f64 Y)).run Try.prog w = .ok (.float .f64 yy) w := fun ty w => run_float_arith w .add ty .f64 Y Y yy y3
  have aZ : val a = Z := by rw [a2, hZ]
  clear a2 a3 q1 q2 q3 q4 y0 y1 y3
  obtain ⟨A1, A2, A3, A4⟩ := pos_rung a a1
  obtain ⟨h', k1, k2, k3⟩ := half_fit Y hfy (by omega)
  have rh : ∀ ty w, (binOp .mul ty (.float .f64 4602678819172646912) (.float .f64 Y)).run Try.prog w = .ok (.float .f64 h') w := fun ty w => run_float_arith w .mul ty .f64 _ Y _ k3
  obtain ⟨K1, K2, K3, K4⟩ := pos_rung h' k1
  have hlt := @val_lt_iff h' a
  have tg : ∀ _ : True, (FloatKind.f64.format.order a h' == some Ordering.gt) = true := fun _ => (ord_gt a h' A3 K3).trans (by rw [A4, K4]; simp; omega)
  obtain ⟨d, d1, d2, d3, d4⟩ := sub_near a Y a1 hfy (by omega) (by omega)
  rw [aZ] at d2 d3 d4
  have hdl : decide (Z < val Y) = true := by simp; omega
  rw [hdl] at d2
  have d5 := d4 (by omega)
  clear d3 d4 hdl
  obtain ⟨pd1, pd2⟩ := place_word true d d1
  have rs : ∀ ty w, (binOp .sub ty (.float .f64 a) (.float .f64 Y)).run Try.prog w = .ok (.float .f64 (wordD true d)) w := fun ty w => run_float_arith w .sub ty .f64 _ Y _ d2
  rw [← d5, near_val (!false) d (by omega)] at hW
  have tg2 : ∀ _ : True, (FloatKind.f64.format.order (wordD true d) h' == some Ordering.gt || FloatKind.f64.format.order (wordD true d) h' == some Ordering.eq) = false := fun _ => (ord_ge _ h' pd1 K3).trans (by
    have hk0 : h' ≠ 0 := fun g => by rw [g, val_zero] at k2; omega
    rw [pd2, K4]; simp; omega)
  have hW2 : MW = (wordD true d) := hW
  rw [hW2]
  clear hW2
  generalize wordD true d = rw' at *
  have HALL := Lib.hid (And.intro aZ (And.intro hZ2 hYp))
  clear hW aZ hZ hZ2 hYp hc hbr hne hfx hfy h0x h0y hnx hny ix iy X1 X2 X3 X4 Y1 Y2 Y3 Y4 A1 A2 A3 A4 a1 hq hp hlt k1 k2 k3 K1 K2 K3 K4 d1 d2 d5 pd1 pd2
  have hxX : X = x := wx
  clear wx wy ex ey hX hY
  subst hxX
  go_enter Try.func43, Try.ntmps43
  go_wp2_with fail
  refine (isNaN_any X false nx _).mono ?_
  rintro e w' ⟨rfl, rfl⟩
  go_wp2_with fail
  refine (isNaN_any y false ny _).mono ?_
  rintro e w' ⟨rfl, rfl⟩
  go_wp2_with fail
  refine (ci _).mono ?_
  rintro e w' ⟨rfl, rfl⟩
  go_wp2_with fail
  refine (cj _).mono ?_
  rintro e w' ⟨rfl, rfl⟩
  go_wp2_with fail
  refine (cm _).mono ?_
  rintro e w' ⟨rfl, rfl⟩
  go_wp2
  go_ret
  exact ⟨rfl, rfl⟩

set_option maxHeartbeats 400000 in
theorem rm_ft_M3 (x y : Nat) (hx : x < 18446744073709551616) (hy : y < 18446744073709551616) (hfx : rung x < 9218868437227405312) (hfy : rung y < 9218868437227405312) (h0x : rung x ≠ 0) (h0y : rung y ≠ 0) (hnx : negB x = false) (hny : negB y = true) (hne : rung x ≠ rung y) (hbr : 9007199254740992 ≤ rung y ∧ rung y ≤ 9214364837600034815) (Z : Nat) (hZ : Z = val (rung x) % (2 * val (rung y))) (hc : val (rung y) ≤ Z ∧ 2 * (Z - val (rung y)) < val (rung y)) (w : World) :
    Calls Try.prog 43 #[.float .f64 x, .float .f64 y] w fun e w' => e = .returned (.float .f64 (remW x y)) ∧ w = w' := by
  have nx : isNan x = false := by unfold isNan; simp; omega
  have ny : isNan y = false := by unfold isNan; simp; omega
  have ix : isInf x = false := by unfold isInf; simp; omega
  have iy : isInf y = false := by unfold isInf; simp; omega
  have ci := fun w => isInf_zero x hx w
  rw [ix] at ci
  have cj := fun w => isInf_zero y hy w
  rw [iy] at cj
  have ty : ∀ _ : True, (FloatKind.f64.format.order y 0 == some Ordering.eq) = false := fun _ => y_not_zero y h0y
  have tx : ∀ _ : True, (FloatKind.f64.format.order x 0 == some Ordering.lt) = false := fun _ => (ord_lt x 0 nx nan_zero).trans (by rw [place_zero]; unfold place; rw [hnx]; simp; try omega)
  have tyl : ∀ _ : True, (FloatKind.f64.format.order y 0 == some Ordering.lt) = true := fun _ => (ord_lt y 0 ny nan_zero).trans (by rw [place_zero]; unfold place; rw [hny]; simp; try omega)
  have hout := rem_out x y Z (val_pos' _ h0y) hZ
  have hW := hout.2.2.1 hc.1 hc.2
  rw [hnx] at hW
  generalize remW x y = MW at *
  clear hout
  have ex := neg_num x hx
  have wx := word_of x hx
  rw [hnx] at ex wx
  have ey := neg_num y hy
  have wy := word_of y hy
  rw [hny] at ey wy
  obtain ⟨X, hX⟩ : ∃ X, X = rung x := ⟨_, rfl⟩
  obtain ⟨Y, hY⟩ : ∃ Y, Y = rung y := ⟨_, rfl⟩
  rw [← hX] at ex wx hfx hZ hne h0x
  rw [← hY] at ey wy hfy hZ hne hbr hc hW h0y
  have ry : ∀ w, (Op.unary .neg (.float .f64 y)).run Try.prog w = .ok (.float .f64 Y) w := fun w => by
    have g : y ^^^ 9223372036854775808 = Y := ey
    rw [← g]; rfl
  obtain ⟨X1, X2, X3, X4⟩ := pos_rung X hfx
  obtain ⟨Y1, Y2, Y3, Y4⟩ := pos_rung Y hfy
  have hYp := val_pos' Y h0y
  have hq : place 9007199254740992 = 9007199254740992 := by decide
  have hp : place 9214364837600034815 = 9214364837600034815 := by decide
  have teq : ∀ _ : True, (FloatKind.f64.format.order X Y == some Ordering.eq) = false := fun _ => (ord_eq X Y X3 Y3).trans (by rw [X4, Y4]; simp; omega)
  have tT : ∀ _ : True, (FloatKind.f64.format.order Y 9007199254740992 == some Ordering.lt) = false := fun _ => (ord_lt Y _ Y3 (by decide)).trans (by rw [Y4, hq]; simp; omega)
  have tH : ∀ _ : True, (FloatKind.f64.format.order Y 9214364837600034815 == some Ordering.lt || FloatKind.f64.format.order Y 9214364837600034815 == some Ordering.eq) = true := fun _ => (ord_le Y _ Y3 (by decide)).trans (by rw [Y4, hp]; simp; omega)
  have hZ2 : Z < 2 * val Y := by rw [hZ]; exact Nat.mod_lt _ (by omega)
  obtain ⟨yy, a, y1, y0, y3, a1, a2, a3⟩ := rem_first X Y hfx hfy h0y (by omega)
  obtain ⟨q1, q2, q3, q4⟩ := pos_rung yy y1
  have cm := fun w => Mod_any X yy (by omega) (by omega) (by omega) (by omega) (by omega) w
  rw [a3] at cm
  have ryy : ∀ ty w, (binOp .add ty (.float .f64 Y) (.float .f64 Y)).run Try.prog w = .ok (.float .f64 yy) w := fun ty w => run_float_arith w .add ty .f64 Y Y yy y3
  have aZ : val a = Z := by rw [a2, hZ]
  clear a2 a3 q1 q2 q3 q4 y0 y1 y3
  obtain ⟨A1, A2, A3, A4⟩ := pos_rung a a1
  obtain ⟨h', k1, k2, k3⟩ := half_fit Y hfy (by omega)
  have rh : ∀ ty w, (binOp .mul ty (.float .f64 4602678819172646912) (.float .f64 Y)).run Try.prog w = .ok (.float .f64 h') w := fun ty w => run_float_arith w .mul ty .f64 _ Y _ k3
  obtain ⟨K1, K2, K3, K4⟩ := pos_rung h' k1
  have hlt := @val_lt_iff h' a
  have tg : ∀ _ : True, (FloatKind.f64.format.order a h' == some Ordering.gt) = true := fun _ => (ord_gt a h' A3 K3).trans (by rw [A4, K4]; simp; omega)
  obtain ⟨d, d1, d2, d3, d4⟩ := sub_near a Y a1 hfy (by omega) (by omega)
  rw [aZ] at d2 d3 d4
  have hdl : decide (Z < val Y) = false := by simp; omega
  rw [hdl] at d2
  have d5 := d3 (by omega)
  clear d3 d4 hdl
  obtain ⟨D1, D2, D3, D4⟩ := pos_rung d d1
  have rs : ∀ ty w, (binOp .sub ty (.float .f64 a) (.float .f64 Y)).run Try.prog w = .ok (.float .f64 d) w := fun ty w => run_float_arith w .sub ty .f64 _ Y _ d2
  have hlt2 := @val_lt_iff d h'
  have tg2 : ∀ _ : True, (FloatKind.f64.format.order d h' == some Ordering.gt || FloatKind.f64.format.order d h' == some Ordering.eq) = false := fun _ => (ord_ge _ h' D3 K3).trans (by rw [D4, K4]; simp; omega)
  rw [← d5, near_val false d (by omega)] at hW
  have hW2 : MW = d := hW
  rw [hW2]
  clear hW2
  have HALL := Lib.hid (And.intro aZ (And.intro hZ2 hYp))
  clear hW aZ hZ hZ2 hYp hc hbr hne hfx hfy h0x h0y hnx hny ix iy X1 X2 X3 X4 Y1 Y2 Y3 Y4 A1 A2 A3 A4 a1 hq hp hlt k1 k2 k3 K1 K2 K3 K4 d1 d2 d5 D1 D2 D3 D4 hlt2
  have hxX : X = x := wx
  clear wx wy ex ey hX hY
  subst hxX
  go_enter Try.func43, Try.ntmps43
  go_wp2_with fail
  refine (isNaN_any X false nx _).mono ?_
  rintro e w' ⟨rfl, rfl⟩
  go_wp2_with fail
  refine (isNaN_any y false ny _).mono ?_
  rintro e w' ⟨rfl, rfl⟩
  go_wp2_with fail
  refine (ci _).mono ?_
  rintro e w' ⟨rfl, rfl⟩
  go_wp2_with fail
  refine (cj _).mono ?_
  rintro e w' ⟨rfl, rfl⟩
  go_wp2_with fail
  refine (cm _).mono ?_
  rintro e w' ⟨rfl, rfl⟩
  go_wp2
  go_ret
  exact ⟨rfl, rfl⟩

set_option maxHeartbeats 400000 in
theorem rm_ft_M4 (x y : Nat) (hx : x < 18446744073709551616) (hy : y < 18446744073709551616) (hfx : rung x < 9218868437227405312) (hfy : rung y < 9218868437227405312) (h0x : rung x ≠ 0) (h0y : rung y ≠ 0) (hnx : negB x = false) (hny : negB y = true) (hne : rung x ≠ rung y) (hbr : 9007199254740992 ≤ rung y ∧ rung y ≤ 9214364837600034815) (Z : Nat) (hZ : Z = val (rung x) % (2 * val (rung y))) (hc : val (rung y) ≤ Z ∧ val (rung y) ≤ 2 * (Z - val (rung y))) (w : World) :
    Calls Try.prog 43 #[.float .f64 x, .float .f64 y] w fun e w' => e = .returned (.float .f64 (remW x y)) ∧ w = w' := by
  have nx : isNan x = false := by unfold isNan; simp; omega
  have ny : isNan y = false := by unfold isNan; simp; omega
  have ix : isInf x = false := by unfold isInf; simp; omega
  have iy : isInf y = false := by unfold isInf; simp; omega
  have ci := fun w => isInf_zero x hx w
  rw [ix] at ci
  have cj := fun w => isInf_zero y hy w
  rw [iy] at cj
  have ty : ∀ _ : True, (FloatKind.f64.format.order y 0 == some Ordering.eq) = false := fun _ => y_not_zero y h0y
  have tx : ∀ _ : True, (FloatKind.f64.format.order x 0 == some Ordering.lt) = false := fun _ => (ord_lt x 0 nx nan_zero).trans (by rw [place_zero]; unfold place; rw [hnx]; simp; try omega)
  have tyl : ∀ _ : True, (FloatKind.f64.format.order y 0 == some Ordering.lt) = true := fun _ => (ord_lt y 0 ny nan_zero).trans (by rw [place_zero]; unfold place; rw [hny]; simp; try omega)
  have hout := rem_out x y Z (val_pos' _ h0y) hZ
  have hW := hout.2.2.2 hc.1 hc.2
  rw [hnx] at hW
  generalize remW x y = MW at *
  clear hout
  have ex := neg_num x hx
  have wx := word_of x hx
  rw [hnx] at ex wx
  have ey := neg_num y hy
  have wy := word_of y hy
  rw [hny] at ey wy
  obtain ⟨X, hX⟩ : ∃ X, X = rung x := ⟨_, rfl⟩
  obtain ⟨Y, hY⟩ : ∃ Y, Y = rung y := ⟨_, rfl⟩
  rw [← hX] at ex wx hfx hZ hne h0x
  rw [← hY] at ey wy hfy hZ hne hbr hc hW h0y
  have ry : ∀ w, (Op.unary .neg (.float .f64 y)).run Try.prog w = .ok (.float .f64 Y) w := fun w => by
    have g : y ^^^ 9223372036854775808 = Y := ey
    rw [← g]; rfl
  obtain ⟨X1, X2, X3, X4⟩ := pos_rung X hfx
  obtain ⟨Y1, Y2, Y3, Y4⟩ := pos_rung Y hfy
  have hYp := val_pos' Y h0y
  have hq : place 9007199254740992 = 9007199254740992 := by decide
  have hp : place 9214364837600034815 = 9214364837600034815 := by decide
  have teq : ∀ _ : True, (FloatKind.f64.format.order X Y == some Ordering.eq) = false := fun _ => (ord_eq X Y X3 Y3).trans (by rw [X4, Y4]; simp; omega)
  have tT : ∀ _ : True, (FloatKind.f64.format.order Y 9007199254740992 == some Ordering.lt) = false := fun _ => (ord_lt Y _ Y3 (by decide)).trans (by rw [Y4, hq]; simp; omega)
  have tH : ∀ _ : True, (FloatKind.f64.format.order Y 9214364837600034815 == some Ordering.lt || FloatKind.f64.format.order Y 9214364837600034815 == some Ordering.eq) = true := fun _ => (ord_le Y _ Y3 (by decide)).trans (by rw [Y4, hp]; simp; omega)
  have hZ2 : Z < 2 * val Y := by rw [hZ]; exact Nat.mod_lt _ (by omega)
  obtain ⟨yy, a, y1, y0, y3, a1, a2, a3⟩ := rem_first X Y hfx hfy h0y (by omega)
  obtain ⟨q1, q2, q3, q4⟩ := pos_rung yy y1
  have cm := fun w => Mod_any X yy (by omega) (by omega) (by omega) (by omega) (by omega) w
  rw [a3] at cm
  have ryy : ∀ ty w, (binOp .add ty (.float .f64 Y) (.float .f64 Y)).run Try.prog w = .ok (.float .f64 yy) w := fun ty w => run_float_arith w .add ty .f64 Y Y yy y3
  have aZ : val a = Z := by rw [a2, hZ]
  clear a2 a3 q1 q2 q3 q4 y0 y1 y3
  obtain ⟨A1, A2, A3, A4⟩ := pos_rung a a1
  obtain ⟨h', k1, k2, k3⟩ := half_fit Y hfy (by omega)
  have rh : ∀ ty w, (binOp .mul ty (.float .f64 4602678819172646912) (.float .f64 Y)).run Try.prog w = .ok (.float .f64 h') w := fun ty w => run_float_arith w .mul ty .f64 _ Y _ k3
  obtain ⟨K1, K2, K3, K4⟩ := pos_rung h' k1
  have hlt := @val_lt_iff h' a
  have tg : ∀ _ : True, (FloatKind.f64.format.order a h' == some Ordering.gt) = true := fun _ => (ord_gt a h' A3 K3).trans (by rw [A4, K4]; simp; omega)
  obtain ⟨d, d1, d2, d3, d4⟩ := sub_near a Y a1 hfy (by omega) (by omega)
  rw [aZ] at d2 d3 d4
  have hdl : decide (Z < val Y) = false := by simp; omega
  rw [hdl] at d2
  have d5 := d3 (by omega)
  clear d3 d4 hdl
  obtain ⟨D1, D2, D3, D4⟩ := pos_rung d d1
  have rs : ∀ ty w, (binOp .sub ty (.float .f64 a) (.float .f64 Y)).run Try.prog w = .ok (.float .f64 d) w := fun ty w => run_float_arith w .sub ty .f64 _ Y _ d2
  have hlt2 := @val_lt_iff d h'
  have tg2 : ∀ _ : True, (FloatKind.f64.format.order d h' == some Ordering.gt || FloatKind.f64.format.order d h' == some Ordering.eq) = true := fun _ => (ord_ge _ h' D3 K3).trans (by rw [D4, K4]; simp; omega)
  obtain ⟨g, g1, g2, g3, g4⟩ := sub_near d Y d1 hfy (by omega) (by omega)
  rw [d5] at g2 g3 g4
  have hgl : decide (Z - val Y < val Y) = true := by simp; omega
  rw [hgl] at g2
  have g5 := g4 (by omega)
  have rs2 : ∀ ty w, (binOp .sub ty (.float .f64 d) (.float .f64 Y)).run Try.prog w = .ok (.float .f64 (wordD true g)) w := fun ty w => run_float_arith w .sub ty .f64 _ Y _ g2
  rw [← g5, near_val (!false) g (by omega)] at hW
  clear g3 g4 hgl g2
  have hW2 : MW = (wordD true g) := hW
  rw [hW2]
  clear hW2
  generalize wordD true g = rw' at *
  have HALL := Lib.hid (And.intro aZ (And.intro hZ2 hYp))
  clear hW aZ hZ hZ2 hYp hc hbr hne hfx hfy h0x h0y hnx hny ix iy X1 X2 X3 X4 Y1 Y2 Y3 Y4 A1 A2 A3 A4 a1 hq hp hlt k1 k2 k3 K1 K2 K3 K4 d1 d2 d5 D1 D2 D3 D4 hlt2 g1 g5
  have hxX : X = x := wx
  clear wx wy ex ey hX hY
  subst hxX
  go_enter Try.func43, Try.ntmps43
  go_wp2_with fail
  refine (isNaN_any X false nx _).mono ?_
  rintro e w' ⟨rfl, rfl⟩
  go_wp2_with fail
  refine (isNaN_any y false ny _).mono ?_
  rintro e w' ⟨rfl, rfl⟩
  go_wp2_with fail
  refine (ci _).mono ?_
  rintro e w' ⟨rfl, rfl⟩
  go_wp2_with fail
  refine (cj _).mono ?_
  rintro e w' ⟨rfl, rfl⟩
  go_wp2_with fail
  refine (cm _).mono ?_
  rintro e w' ⟨rfl, rfl⟩
  go_wp2
  go_ret
  exact ⟨rfl, rfl⟩

set_option maxHeartbeats 400000 in
theorem rm_ft_B1 (x y : Nat) (hx : x < 18446744073709551616) (hy : y < 18446744073709551616) (hfx : rung x < 9218868437227405312) (hfy : rung y < 9218868437227405312) (h0x : rung x ≠ 0) (h0y : rung y ≠ 0) (hnx : negB x = false) (hny : negB y = true) (hne : rung x ≠ rung y) (hbr : 9214364837600034815 < rung y) (Z : Nat) (hZ : Z = val (rung x) % (2 * val (rung y))) (hc : ¬ val (rung y) < 2 * Z) (w : World) :
    Calls Try.prog 43 #[.float .f64 x, .float .f64 y] w fun e w' => e = .returned (.float .f64 (remW x y)) ∧ w = w' := by
  have nx : isNan x = false := by unfold isNan; simp; omega
  have ny : isNan y = false := by unfold isNan; simp; omega
  have ix : isInf x = false := by unfold isInf; simp; omega
  have iy : isInf y = false := by unfold isInf; simp; omega
  have ci := fun w => isInf_zero x hx w
  rw [ix] at ci
  have cj := fun w => isInf_zero y hy w
  rw [iy] at cj
  have ty : ∀ _ : True, (FloatKind.f64.format.order y 0 == some Ordering.eq) = false := fun _ => y_not_zero y h0y
  have tx : ∀ _ : True, (FloatKind.f64.format.order x 0 == some Ordering.lt) = false := fun _ => (ord_lt x 0 nx nan_zero).trans (by rw [place_zero]; unfold place; rw [hnx]; simp; try omega)
  have tyl : ∀ _ : True, (FloatKind.f64.format.order y 0 == some Ordering.lt) = true := fun _ => (ord_lt y 0 ny nan_zero).trans (by rw [place_zero]; unfold place; rw [hny]; simp; try omega)
  have hout := rem_out x y Z (val_pos' _ h0y) hZ
  have hW := hout.1 hc
  rw [hnx] at hW
  generalize remW x y = MW at *
  clear hout
  have ex := neg_num x hx
  have wx := word_of x hx
  rw [hnx] at ex wx
  have ey := neg_num y hy
  have wy := word_of y hy
  rw [hny] at ey wy
  obtain ⟨X, hX⟩ : ∃ X, X = rung x := ⟨_, rfl⟩
  obtain ⟨Y, hY⟩ : ∃ Y, Y = rung y := ⟨_, rfl⟩
  rw [← hX] at ex wx hfx hZ hne h0x
  rw [← hY] at ey wy hfy hZ hne hbr hc h0y
  have ry : ∀ w, (Op.unary .neg (.float .f64 y)).run Try.prog w = .ok (.float .f64 Y) w := fun w => by
    have g : y ^^^ 9223372036854775808 = Y := ey
    rw [← g]; rfl
  obtain ⟨X1, X2, X3, X4⟩ := pos_rung X hfx
  obtain ⟨Y1, Y2, Y3, Y4⟩ := pos_rung Y hfy
  have hYp := val_pos' Y h0y
  have hq : place 9007199254740992 = 9007199254740992 := by decide
  have hp : place 9214364837600034815 = 9214364837600034815 := by decide
  have teq : ∀ _ : True, (FloatKind.f64.format.order X Y == some Ordering.eq) = false := fun _ => (ord_eq X Y X3 Y3).trans (by rw [X4, Y4]; simp; omega)
  have tT : ∀ _ : True, (FloatKind.f64.format.order Y 9007199254740992 == some Ordering.lt) = false := fun _ => (ord_lt Y _ Y3 (by decide)).trans (by rw [Y4, hq]; simp; omega)
  have tH : ∀ _ : True, (FloatKind.f64.format.order Y 9214364837600034815 == some Ordering.lt || FloatKind.f64.format.order Y 9214364837600034815 == some Ordering.eq) = false := fun _ => (ord_le Y _ Y3 (by decide)).trans (by rw [Y4, hp]; simp; omega)
  have hZ2 : Z < 2 * val Y := by rw [hZ]; exact Nat.mod_lt _ (by omega)
  have hXY := half_big X Y hfx (by omega)
  have aZ : val X = Z := by rw [hZ, Nat.mod_eq_of_lt hXY]
  have a1 := hfx
  obtain ⟨A1, A2, A3, A4⟩ := pos_rung X a1
  obtain ⟨h', k1, k2, k3⟩ := half_fit Y hfy (by omega)
  have rh : ∀ ty w, (binOp .mul ty (.float .f64 4602678819172646912) (.float .f64 Y)).run Try.prog w = .ok (.float .f64 h') w := fun ty w => run_float_arith w .mul ty .f64 _ Y _ k3
  obtain ⟨K1, K2, K3, K4⟩ := pos_rung h' k1
  have hlt := @val_lt_iff h' X
  have tg : ∀ _ : True, (FloatKind.f64.format.order X h' == some Ordering.gt) = false := fun _ => (ord_gt X h' A3 K3).trans (by rw [A4, K4]; simp; omega)
  rw [← aZ, near_val false X (by omega)] at hW
  have hW2 : MW = X := hW
  rw [hW2]
  clear hW2
  have HALL := Lib.hid (And.intro aZ (And.intro hZ2 hYp))
  clear hW aZ hZ hZ2 hYp hc hbr hne hfx hfy h0x h0y hnx hny ix iy X1 X2 X3 X4 Y1 Y2 Y3 Y4 A1 A2 A3 A4 a1 hq hp hlt k1 k2 k3 K1 K2 K3 K4 hXY
  have hxX : X = x := wx
  clear wx wy ex ey hX hY
  subst hxX
  go_enter Try.func43, Try.ntmps43
  go_wp2_with fail
  refine (isNaN_any X false nx _).mono ?_
  rintro e w' ⟨rfl, rfl⟩
  go_wp2_with fail
  refine (isNaN_any y false ny _).mono ?_
  rintro e w' ⟨rfl, rfl⟩
  go_wp2_with fail
  refine (ci _).mono ?_
  rintro e w' ⟨rfl, rfl⟩
  go_wp2_with fail
  refine (cj _).mono ?_
  rintro e w' ⟨rfl, rfl⟩
  go_wp2
  go_ret
  exact ⟨rfl, rfl⟩

set_option maxHeartbeats 400000 in
theorem rm_ft_B2 (x y : Nat) (hx : x < 18446744073709551616) (hy : y < 18446744073709551616) (hfx : rung x < 9218868437227405312) (hfy : rung y < 9218868437227405312) (h0x : rung x ≠ 0) (h0y : rung y ≠ 0) (hnx : negB x = false) (hny : negB y = true) (hne : rung x ≠ rung y) (hbr : 9214364837600034815 < rung y) (Z : Nat) (hZ : Z = val (rung x) % (2 * val (rung y))) (hc : val (rung y) < 2 * Z ∧ Z < val (rung y)) (w : World) :
    Calls Try.prog 43 #[.float .f64 x, .float .f64 y] w fun e w' => e = .returned (.float .f64 (remW x y)) ∧ w = w' := by
  have nx : isNan x = false := by unfold isNan; simp; omega
  have ny : isNan y = false := by unfold isNan; simp; omega
  have ix : isInf x = false := by unfold isInf; simp; omega
  have iy : isInf y = false := by unfold isInf; simp; omega
  have ci := fun w => isInf_zero x hx w
  rw [ix] at ci
  have cj := fun w => isInf_zero y hy w
  rw [iy] at cj
  have ty : ∀ _ : True, (FloatKind.f64.format.order y 0 == some Ordering.eq) = false := fun _ => y_not_zero y h0y
  have tx : ∀ _ : True, (FloatKind.f64.format.order x 0 == some Ordering.lt) = false := fun _ => (ord_lt x 0 nx nan_zero).trans (by rw [place_zero]; unfold place; rw [hnx]; simp; try omega)
  have tyl : ∀ _ : True, (FloatKind.f64.format.order y 0 == some Ordering.lt) = true := fun _ => (ord_lt y 0 ny nan_zero).trans (by rw [place_zero]; unfold place; rw [hny]; simp; try omega)
  have hout := rem_out x y Z (val_pos' _ h0y) hZ
  have hW := hout.2.1 hc.1 hc.2
  rw [hnx] at hW
  generalize remW x y = MW at *
  clear hout
  have ex := neg_num x hx
  have wx := word_of x hx
  rw [hnx] at ex wx
  have ey := neg_num y hy
  have wy := word_of y hy
  rw [hny] at ey wy
  obtain ⟨X, hX⟩ : ∃ X, X = rung x := ⟨_, rfl⟩
  obtain ⟨Y, hY⟩ : ∃ Y, Y = rung y := ⟨_, rfl⟩
  rw [← hX] at ex wx hfx hZ hne h0x
  rw [← hY] at ey wy hfy hZ hne hbr hc hW h0y
  have ry : ∀ w, (Op.unary .neg (.float .f64 y)).run Try.prog w = .ok (.float .f64 Y) w := fun w => by
    have g : y ^^^ 9223372036854775808 = Y := ey
    rw [← g]; rfl
  obtain ⟨X1, X2, X3, X4⟩ := pos_rung X hfx
  obtain ⟨Y1, Y2, Y3, Y4⟩ := pos_rung Y hfy
  have hYp := val_pos' Y h0y
  have hq : place 9007199254740992 = 9007199254740992 := by decide
  have hp : place 9214364837600034815 = 9214364837600034815 := by decide
  have teq : ∀ _ : True, (FloatKind.f64.format.order X Y == some Ordering.eq) = false := fun _ => (ord_eq X Y X3 Y3).trans (by rw [X4, Y4]; simp; omega)
  have tT : ∀ _ : True, (FloatKind.f64.format.order Y 9007199254740992 == some Ordering.lt) = false := fun _ => (ord_lt Y _ Y3 (by decide)).trans (by rw [Y4, hq]; simp; omega)
  have tH : ∀ _ : True, (FloatKind.f64.format.order Y 9214364837600034815 == some Ordering.lt || FloatKind.f64.format.order Y 9214364837600034815 == some Ordering.eq) = false := fun _ => (ord_le Y _ Y3 (by decide)).trans (by rw [Y4, hp]; simp; omega)
  have hZ2 : Z < 2 * val Y := by rw [hZ]; exact Nat.mod_lt _ (by omega)
  have hXY := half_big X Y hfx (by omega)
  have aZ : val X = Z := by rw [hZ, Nat.mod_eq_of_lt hXY]
  have a1 := hfx
  obtain ⟨A1, A2, A3, A4⟩ := pos_rung X a1
  obtain ⟨h', k1, k2, k3⟩ := half_fit Y hfy (by omega)
  have rh : ∀ ty w, (binOp .mul ty (.float .f64 4602678819172646912) (.float .f64 Y)).run Try.prog w = .ok (.float .f64 h') w := fun ty w => run_float_arith w .mul ty .f64 _ Y _ k3
  obtain ⟨K1, K2, K3, K4⟩ := pos_rung h' k1
  have hlt := @val_lt_iff h' X
  have tg : ∀ _ : True, (FloatKind.f64.format.order X h' == some Ordering.gt) = true := fun _ => (ord_gt X h' A3 K3).trans (by rw [A4, K4]; simp; omega)
  obtain ⟨d, d1, d2, d3, d4⟩ := sub_near X Y a1 hfy (by omega) (by omega)
  rw [aZ] at d2 d3 d4
  have hdl : decide (Z < val Y) = true := by simp; omega
  rw [hdl] at d2
  have d5 := d4 (by omega)
  clear d3 d4 hdl
  obtain ⟨pd1, pd2⟩ := place_word true d d1
  have rs : ∀ ty w, (binOp .sub ty (.float .f64 X) (.float .f64 Y)).run Try.prog w = .ok (.float .f64 (wordD true d)) w := fun ty w => run_float_arith w .sub ty .f64 _ Y _ d2
  rw [← d5, near_val (!false) d (by omega)] at hW
  have tg2 : ∀ _ : True, (FloatKind.f64.format.order (wordD true d) h' == some Ordering.gt || FloatKind.f64.format.order (wordD true d) h' == some Ordering.eq) = false := fun _ => (ord_ge _ h' pd1 K3).trans (by
    have hk0 : h' ≠ 0 := fun g => by rw [g, val_zero] at k2; omega
    rw [pd2, K4]; simp; omega)
  have hW2 : MW = (wordD true d) := hW
  rw [hW2]
  clear hW2
  generalize wordD true d = rw' at *
  have HALL := Lib.hid (And.intro aZ (And.intro hZ2 hYp))
  clear hW aZ hZ hZ2 hYp hc hbr hne hfx hfy h0x h0y hnx hny ix iy X1 X2 X3 X4 Y1 Y2 Y3 Y4 A1 A2 A3 A4 a1 hq hp hlt k1 k2 k3 K1 K2 K3 K4 hXY d1 d2 d5 pd1 pd2
  have hxX : X = x := wx
  clear wx wy ex ey hX hY
  subst hxX
  go_enter Try.func43, Try.ntmps43
  go_wp2_with fail
  refine (isNaN_any X false nx _).mono ?_
  rintro e w' ⟨rfl, rfl⟩
  go_wp2_with fail
  refine (isNaN_any y false ny _).mono ?_
  rintro e w' ⟨rfl, rfl⟩
  go_wp2_with fail
  refine (ci _).mono ?_
  rintro e w' ⟨rfl, rfl⟩
  go_wp2_with fail
  refine (cj _).mono ?_
  rintro e w' ⟨rfl, rfl⟩
  go_wp2
  go_ret
  exact ⟨rfl, rfl⟩

set_option maxHeartbeats 400000 in
theorem rm_ft_B3 (x y : Nat) (hx : x < 18446744073709551616) (hy : y < 18446744073709551616) (hfx : rung x < 9218868437227405312) (hfy : rung y < 9218868437227405312) (h0x : rung x ≠ 0) (h0y : rung y ≠ 0) (hnx : negB x = false) (hny : negB y = true) (hne : rung x ≠ rung y) (hbr : 9214364837600034815 < rung y) (Z : Nat) (hZ : Z = val (rung x) % (2 * val (rung y))) (hc : val (rung y) ≤ Z ∧ 2 * (Z - val (rung y)) < val (rung y)) (w : World) :
    Calls Try.prog 43 #[.float .f64 x, .float .f64 y] w fun e w' => e = .returned (.float .f64 (remW x y)) ∧ w = w' := by
  have nx : isNan x = false := by unfold isNan; simp; omega
  have ny : isNan y = false := by unfold isNan; simp; omega
  have ix : isInf x = false := by unfold isInf; simp; omega
  have iy : isInf y = false := by unfold isInf; simp; omega
  have ci := fun w => isInf_zero x hx w
  rw [ix] at ci
  have cj := fun w => isInf_zero y hy w
  rw [iy] at cj
  have ty : ∀ _ : True, (FloatKind.f64.format.order y 0 == some Ordering.eq) = false := fun _ => y_not_zero y h0y
  have tx : ∀ _ : True, (FloatKind.f64.format.order x 0 == some Ordering.lt) = false := fun _ => (ord_lt x 0 nx nan_zero).trans (by rw [place_zero]; unfold place; rw [hnx]; simp; try omega)
  have tyl : ∀ _ : True, (FloatKind.f64.format.order y 0 == some Ordering.lt) = true := fun _ => (ord_lt y 0 ny nan_zero).trans (by rw [place_zero]; unfold place; rw [hny]; simp; try omega)
  have hout := rem_out x y Z (val_pos' _ h0y) hZ
  have hW := hout.2.2.1 hc.1 hc.2
  rw [hnx] at hW
  generalize remW x y = MW at *
  clear hout
  have ex := neg_num x hx
  have wx := word_of x hx
  rw [hnx] at ex wx
  have ey := neg_num y hy
  have wy := word_of y hy
  rw [hny] at ey wy
  obtain ⟨X, hX⟩ : ∃ X, X = rung x := ⟨_, rfl⟩
  obtain ⟨Y, hY⟩ : ∃ Y, Y = rung y := ⟨_, rfl⟩
  rw [← hX] at ex wx hfx hZ hne h0x
  rw [← hY] at ey wy hfy hZ hne hbr hc hW h0y
  have ry : ∀ w, (Op.unary .neg (.float .f64 y)).run Try.prog w = .ok (.float .f64 Y) w := fun w => by
    have g : y ^^^ 9223372036854775808 = Y := ey
    rw [← g]; rfl
  obtain ⟨X1, X2, X3, X4⟩ := pos_rung X hfx
  obtain ⟨Y1, Y2, Y3, Y4⟩ := pos_rung Y hfy
  have hYp := val_pos' Y h0y
  have hq : place 9007199254740992 = 9007199254740992 := by decide
  have hp : place 9214364837600034815 = 9214364837600034815 := by decide
  have teq : ∀ _ : True, (FloatKind.f64.format.order X Y == some Ordering.eq) = false := fun _ => (ord_eq X Y X3 Y3).trans (by rw [X4, Y4]; simp; omega)
  have tT : ∀ _ : True, (FloatKind.f64.format.order Y 9007199254740992 == some Ordering.lt) = false := fun _ => (ord_lt Y _ Y3 (by decide)).trans (by rw [Y4, hq]; simp; omega)
  have tH : ∀ _ : True, (FloatKind.f64.format.order Y 9214364837600034815 == some Ordering.lt || FloatKind.f64.format.order Y 9214364837600034815 == some Ordering.eq) = false := fun _ => (ord_le Y _ Y3 (by decide)).trans (by rw [Y4, hp]; simp; omega)
  have hZ2 : Z < 2 * val Y := by rw [hZ]; exact Nat.mod_lt _ (by omega)
  have hXY := half_big X Y hfx (by omega)
  have aZ : val X = Z := by rw [hZ, Nat.mod_eq_of_lt hXY]
  have a1 := hfx
  obtain ⟨A1, A2, A3, A4⟩ := pos_rung X a1
  obtain ⟨h', k1, k2, k3⟩ := half_fit Y hfy (by omega)
  have rh : ∀ ty w, (binOp .mul ty (.float .f64 4602678819172646912) (.float .f64 Y)).run Try.prog w = .ok (.float .f64 h') w := fun ty w => run_float_arith w .mul ty .f64 _ Y _ k3
  obtain ⟨K1, K2, K3, K4⟩ := pos_rung h' k1
  have hlt := @val_lt_iff h' X
  have tg : ∀ _ : True, (FloatKind.f64.format.order X h' == some Ordering.gt) = true := fun _ => (ord_gt X h' A3 K3).trans (by rw [A4, K4]; simp; omega)
  obtain ⟨d, d1, d2, d3, d4⟩ := sub_near X Y a1 hfy (by omega) (by omega)
  rw [aZ] at d2 d3 d4
  have hdl : decide (Z < val Y) = false := by simp; omega
  rw [hdl] at d2
  have d5 := d3 (by omega)
  clear d3 d4 hdl
  obtain ⟨D1, D2, D3, D4⟩ := pos_rung d d1
  have rs : ∀ ty w, (binOp .sub ty (.float .f64 X) (.float .f64 Y)).run Try.prog w = .ok (.float .f64 d) w := fun ty w => run_float_arith w .sub ty .f64 _ Y _ d2
  have hlt2 := @val_lt_iff d h'
  have tg2 : ∀ _ : True, (FloatKind.f64.format.order d h' == some Ordering.gt || FloatKind.f64.format.order d h' == some Ordering.eq) = false := fun _ => (ord_ge _ h' D3 K3).trans (by rw [D4, K4]; simp; omega)
  rw [← d5, near_val false d (by omega)] at hW
  have hW2 : MW = d := hW
  rw [hW2]
  clear hW2
  have HALL := Lib.hid (And.intro aZ (And.intro hZ2 hYp))
  clear hW aZ hZ hZ2 hYp hc hbr hne hfx hfy h0x h0y hnx hny ix iy X1 X2 X3 X4 Y1 Y2 Y3 Y4 A1 A2 A3 A4 a1 hq hp hlt k1 k2 k3 K1 K2 K3 K4 hXY d1 d2 d5 D1 D2 D3 D4 hlt2
  have hxX : X = x := wx
  clear wx wy ex ey hX hY
  subst hxX
  go_enter Try.func43, Try.ntmps43
  go_wp2_with fail
  refine (isNaN_any X false nx _).mono ?_
  rintro e w' ⟨rfl, rfl⟩
  go_wp2_with fail
  refine (isNaN_any y false ny _).mono ?_
  rintro e w' ⟨rfl, rfl⟩
  go_wp2_with fail
  refine (ci _).mono ?_
  rintro e w' ⟨rfl, rfl⟩
  go_wp2_with fail
  refine (cj _).mono ?_
  rintro e w' ⟨rfl, rfl⟩
  go_wp2
  go_ret
  exact ⟨rfl, rfl⟩

set_option maxHeartbeats 400000 in
theorem rm_ft_B4 (x y : Nat) (hx : x < 18446744073709551616) (hy : y < 18446744073709551616) (hfx : rung x < 9218868437227405312) (hfy : rung y < 9218868437227405312) (h0x : rung x ≠ 0) (h0y : rung y ≠ 0) (hnx : negB x = false) (hny : negB y = true) (hne : rung x ≠ rung y) (hbr : 9214364837600034815 < rung y) (Z : Nat) (hZ : Z = val (rung x) % (2 * val (rung y))) (hc : val (rung y) ≤ Z ∧ val (rung y) ≤ 2 * (Z - val (rung y))) (w : World) :
    Calls Try.prog 43 #[.float .f64 x, .float .f64 y] w fun e w' => e = .returned (.float .f64 (remW x y)) ∧ w = w' := by
  have nx : isNan x = false := by unfold isNan; simp; omega
  have ny : isNan y = false := by unfold isNan; simp; omega
  have ix : isInf x = false := by unfold isInf; simp; omega
  have iy : isInf y = false := by unfold isInf; simp; omega
  have ci := fun w => isInf_zero x hx w
  rw [ix] at ci
  have cj := fun w => isInf_zero y hy w
  rw [iy] at cj
  have ty : ∀ _ : True, (FloatKind.f64.format.order y 0 == some Ordering.eq) = false := fun _ => y_not_zero y h0y
  have tx : ∀ _ : True, (FloatKind.f64.format.order x 0 == some Ordering.lt) = false := fun _ => (ord_lt x 0 nx nan_zero).trans (by rw [place_zero]; unfold place; rw [hnx]; simp; try omega)
  have tyl : ∀ _ : True, (FloatKind.f64.format.order y 0 == some Ordering.lt) = true := fun _ => (ord_lt y 0 ny nan_zero).trans (by rw [place_zero]; unfold place; rw [hny]; simp; try omega)
  have hout := rem_out x y Z (val_pos' _ h0y) hZ
  have hW := hout.2.2.2 hc.1 hc.2
  rw [hnx] at hW
  generalize remW x y = MW at *
  clear hout
  have ex := neg_num x hx
  have wx := word_of x hx
  rw [hnx] at ex wx
  have ey := neg_num y hy
  have wy := word_of y hy
  rw [hny] at ey wy
  obtain ⟨X, hX⟩ : ∃ X, X = rung x := ⟨_, rfl⟩
  obtain ⟨Y, hY⟩ : ∃ Y, Y = rung y := ⟨_, rfl⟩
  rw [← hX] at ex wx hfx hZ hne h0x
  rw [← hY] at ey wy hfy hZ hne hbr hc hW h0y
  have ry : ∀ w, (Op.unary .neg (.float .f64 y)).run Try.prog w = .ok (.float .f64 Y) w := fun w => by
    have g : y ^^^ 9223372036854775808 = Y := ey
    rw [← g]; rfl
  obtain ⟨X1, X2, X3, X4⟩ := pos_rung X hfx
  obtain ⟨Y1, Y2, Y3, Y4⟩ := pos_rung Y hfy
  have hYp := val_pos' Y h0y
  have hq : place 9007199254740992 = 9007199254740992 := by decide
  have hp : place 9214364837600034815 = 9214364837600034815 := by decide
  have teq : ∀ _ : True, (FloatKind.f64.format.order X Y == some Ordering.eq) = false := fun _ => (ord_eq X Y X3 Y3).trans (by rw [X4, Y4]; simp; omega)
  have tT : ∀ _ : True, (FloatKind.f64.format.order Y 9007199254740992 == some Ordering.lt) = false := fun _ => (ord_lt Y _ Y3 (by decide)).trans (by rw [Y4, hq]; simp; omega)
  have tH : ∀ _ : True, (FloatKind.f64.format.order Y 9214364837600034815 == some Ordering.lt || FloatKind.f64.format.order Y 9214364837600034815 == some Ordering.eq) = false := fun _ => (ord_le Y _ Y3 (by decide)).trans (by rw [Y4, hp]; simp; omega)
  have hZ2 : Z < 2 * val Y := by rw [hZ]; exact Nat.mod_lt _ (by omega)
  have hXY := half_big X Y hfx (by omega)
  have aZ : val X = Z := by rw [hZ, Nat.mod_eq_of_lt hXY]
  have a1 := hfx
  obtain ⟨A1, A2, A3, A4⟩ := pos_rung X a1
  obtain ⟨h', k1, k2, k3⟩ := half_fit Y hfy (by omega)
  have rh : ∀ ty w, (binOp .mul ty (.float .f64 4602678819172646912) (.float .f64 Y)).run Try.prog w = .ok (.float .f64 h') w := fun ty w => run_float_arith w .mul ty .f64 _ Y _ k3
  obtain ⟨K1, K2, K3, K4⟩ := pos_rung h' k1
  have hlt := @val_lt_iff h' X
  have tg : ∀ _ : True, (FloatKind.f64.format.order X h' == some Ordering.gt) = true := fun _ => (ord_gt X h' A3 K3).trans (by rw [A4, K4]; simp; omega)
  obtain ⟨d, d1, d2, d3, d4⟩ := sub_near X Y a1 hfy (by omega) (by omega)
  rw [aZ] at d2 d3 d4
  have hdl : decide (Z < val Y) = false := by simp; omega
  rw [hdl] at d2
  have d5 := d3 (by omega)
  clear d3 d4 hdl
  obtain ⟨D1, D2, D3, D4⟩ := pos_rung d d1
  have rs : ∀ ty w, (binOp .sub ty (.float .f64 X) (.float .f64 Y)).run Try.prog w = .ok (.float .f64 d) w := fun ty w => run_float_arith w .sub ty .f64 _ Y _ d2
  have hlt2 := @val_lt_iff d h'
  have tg2 : ∀ _ : True, (FloatKind.f64.format.order d h' == some Ordering.gt || FloatKind.f64.format.order d h' == some Ordering.eq) = true := fun _ => (ord_ge _ h' D3 K3).trans (by rw [D4, K4]; simp; omega)
  obtain ⟨g, g1, g2, g3, g4⟩ := sub_near d Y d1 hfy (by omega) (by omega)
  rw [d5] at g2 g3 g4
  have hgl : decide (Z - val Y < val Y) = true := by simp; omega
  rw [hgl] at g2
  have g5 := g4 (by omega)
  have rs2 : ∀ ty w, (binOp .sub ty (.float .f64 d) (.float .f64 Y)).run Try.prog w = .ok (.float .f64 (wordD true g)) w := fun ty w => run_float_arith w .sub ty .f64 _ Y _ g2
  rw [← g5, near_val (!false) g (by omega)] at hW
  clear g3 g4 hgl g2
  have hW2 : MW = (wordD true g) := hW
  rw [hW2]
  clear hW2
  generalize wordD true g = rw' at *
  have HALL := Lib.hid (And.intro aZ (And.intro hZ2 hYp))
  clear hW aZ hZ hZ2 hYp hc hbr hne hfx hfy h0x h0y hnx hny ix iy X1 X2 X3 X4 Y1 Y2 Y3 Y4 A1 A2 A3 A4 a1 hq hp hlt k1 k2 k3 K1 K2 K3 K4 hXY d1 d2 d5 D1 D2 D3 D4 hlt2 g1 g5
  have hxX : X = x := wx
  clear wx wy ex ey hX hY
  subst hxX
  go_enter Try.func43, Try.ntmps43
  go_wp2_with fail
  refine (isNaN_any X false nx _).mono ?_
  rintro e w' ⟨rfl, rfl⟩
  go_wp2_with fail
  refine (isNaN_any y false ny _).mono ?_
  rintro e w' ⟨rfl, rfl⟩
  go_wp2_with fail
  refine (ci _).mono ?_
  rintro e w' ⟨rfl, rfl⟩
  go_wp2_with fail
  refine (cj _).mono ?_
  rintro e w' ⟨rfl, rfl⟩
  go_wp2
  go_ret
  exact ⟨rfl, rfl⟩

set_option maxHeartbeats 400000 in
theorem rm_ff_T1 (x y : Nat) (hx : x < 18446744073709551616) (hy : y < 18446744073709551616) (hfx : rung x < 9218868437227405312) (hfy : rung y < 9218868437227405312) (h0x : rung x ≠ 0) (h0y : rung y ≠ 0) (hnx : negB x = false) (hny : negB y = false) (hne : rung x ≠ rung y) (hbr : rung y < 9007199254740992) (Z : Nat) (hZ : Z = val (rung x) % (2 * val (rung y))) (hc : ¬ val (rung y) < 2 * Z) (w : World) :
    Calls Try.prog 43 #[.float .f64 x, .float .f64 y] w fun e w' => e = .returned (.float .f64 (remW x y)) ∧ w = w' := by
  have nx : isNan x = false := by unfold isNan; simp; omega
  have ny : isNan y = false := by unfold isNan; simp; omega
  have ix : isInf x = false := by unfold isInf; simp; omega
  have iy : isInf y = false := by unfold isInf; simp; omega
  have ci := fun w => isInf_zero x hx w
  rw [ix] at ci
  have cj := fun w => isInf_zero y hy w
  rw [iy] at cj
  have ty : ∀ _ : True, (FloatKind.f64.format.order y 0 == some Ordering.eq) = false := fun _ => y_not_zero y h0y
  have tx : ∀ _ : True, (FloatKind.f64.format.order x 0 == some Ordering.lt) = false := fun _ => (ord_lt x 0 nx nan_zero).trans (by rw [place_zero]; unfold place; rw [hnx]; simp; try omega)
  have tyl : ∀ _ : True, (FloatKind.f64.format.order y 0 == some Ordering.lt) = false := fun _ => (ord_lt y 0 ny nan_zero).trans (by rw [place_zero]; unfold place; rw [hny]; simp; try omega)
  have hout := rem_out x y Z (val_pos' _ h0y) hZ
  have hW := hout.1 hc
  rw [hnx] at hW
  generalize remW x y = MW at *
  clear hout
  have ex := neg_num x hx
  have wx := word_of x hx
  rw [hnx] at ex wx
  have ey := neg_num y hy
  have wy := word_of y hy
  rw [hny] at ey wy
  obtain ⟨X, hX⟩ : ∃ X, X = rung x := ⟨_, rfl⟩
  obtain ⟨Y, hY⟩ : ∃ Y, Y = rung y := ⟨_, rfl⟩
  rw [← hX] at ex wx hfx hZ hne h0x
  rw [← hY] at ey wy hfy hZ hne hbr hc h0y
  obtain ⟨X1, X2, X3, X4⟩ := pos_rung X hfx
  obtain ⟨Y1, Y2, Y3, Y4⟩ := pos_rung Y hfy
  have hYp := val_pos' Y h0y
  have hq : place 9007199254740992 = 9007199254740992 := by decide
  have hp : place 9214364837600034815 = 9214364837600034815 := by decide
  have teq : ∀ _ : True, (FloatKind.f64.format.order X Y == some Ordering.eq) = false := fun _ => (ord_eq X Y X3 Y3).trans (by rw [X4, Y4]; simp; omega)
  have tT : ∀ _ : True, (FloatKind.f64.format.order Y 9007199254740992 == some Ordering.lt) = true := fun _ => (ord_lt Y _ Y3 (by decide)).trans (by rw [Y4, hq]; simp; omega)
  have tH : ∀ _ : True, (FloatKind.f64.format.order Y 9214364837600034815 == some Ordering.lt || FloatKind.f64.format.order Y 9214364837600034815 == some Ordering.eq) = true := fun _ => (ord_le Y _ Y3 (by decide)).trans (by rw [Y4, hp]; simp; omega)
  have hZ2 : Z < 2 * val Y := by rw [hZ]; exact Nat.mod_lt _ (by omega)
  obtain ⟨yy, a, y1, y0, y3, a1, a2, a3⟩ := rem_first X Y hfx hfy h0y (by omega)
  obtain ⟨q1, q2, q3, q4⟩ := pos_rung yy y1
  have cm := fun w => Mod_any X yy (by omega) (by omega) (by omega) (by omega) (by omega) w
  rw [a3] at cm
  have ryy : ∀ ty w, (binOp .add ty (.float .f64 Y) (.float .f64 Y)).run Try.prog w = .ok (.float .f64 yy) w := fun ty w => run_float_arith w .add ty .f64 Y Y yy y3
  have aZ : val a = Z := by rw [a2, hZ]
  clear a2 a3 q1 q2 q3 q4 y0 y1 y3
  obtain ⟨A1, A2, A3, A4⟩ := pos_rung a a1
  have hvt := val_tiny Y hbr
  obtain ⟨aa, b1, b2, b3⟩ := add_self a a1 false (by have := topU_big; omega)
  have raa : ∀ ty w, (binOp .add ty (.float .f64 a) (.float .f64 a)).run Try.prog w = .ok (.float .f64 aa) w := fun ty w => run_float_arith w .add ty .f64 _ _ aa b3
  obtain ⟨B1, B2, B3, B4⟩ := pos_rung aa b1
  have hlt := @val_lt_iff Y aa
  have tg : ∀ _ : True, (FloatKind.f64.format.order aa Y == some Ordering.gt) = false := fun _ => (ord_gt aa Y B3 Y3).trans (by rw [B4, Y4]; simp; omega)
  rw [← aZ, near_val false a (by omega)] at hW
  have hW2 : MW = a := hW
  rw [hW2]
  clear hW2
  have HALL := Lib.hid (And.intro aZ (And.intro hZ2 hYp))
  clear hW aZ hZ hZ2 hYp hc hbr hne hfx hfy h0x h0y hnx hny ix iy X1 X2 X3 X4 Y1 Y2 Y3 Y4 A1 A2 A3 A4 a1 hq hp hlt hvt b1 b2 b3 B1 B2 B3 B4
  have hxX : X = x := wx
  have hyY : Y = y := wy
  clear wx wy ex ey hX hY
  subst hxX
  subst hyY
  go_enter Try.func43, Try.ntmps43
  go_wp2_with fail
  refine (isNaN_any X false nx _).mono ?_
  rintro e w' ⟨rfl, rfl⟩
  go_wp2_with fail
  refine (isNaN_any Y false ny _).mono ?_
  rintro e w' ⟨rfl, rfl⟩
  go_wp2_with fail
  refine (ci _).mono ?_
  rintro e w' ⟨rfl, rfl⟩
  go_wp2_with fail
  refine (cj _).mono ?_
  rintro e w' ⟨rfl, rfl⟩
  go_wp2_with fail
  refine (cm _).mono ?_
  rintro e w' ⟨rfl, rfl⟩
  go_wp2
  go_ret
  exact ⟨rfl, rfl⟩

set_option maxHeartbeats 400000 in
theorem rm_ff_T2 (x y : Nat) (hx : x < 18446744073709551616) (hy : y < 18446744073709551616) (hfx : rung x < 9218868437227405312) (hfy : rung y < 9218868437227405312) (h0x : rung x ≠ 0) (h0y : rung y ≠ 0) (hnx : negB x = false) (hny : negB y = false) (hne : rung x ≠ rung y) (hbr : rung y < 9007199254740992) (Z : Nat) (hZ : Z = val (rung x) % (2 * val (rung y))) (hc : val (rung y) < 2 * Z ∧ Z < val (rung y)) (w : World) :
    Calls Try.prog 43 #[.float .f64 x, .float .f64 y] w fun e w' => e = .returned (.float .f64 (remW x y)) ∧ w = w' := by
  have nx : isNan x = false := by unfold isNan; simp; omega
  have ny : isNan y = false := by unfold isNan; simp; omega
  have ix : isInf x = false := by unfold isInf; simp; omega
  have iy : isInf y = false := by unfold isInf; simp; omega
  have ci := fun w => isInf_zero x hx w
  rw [ix] at ci
  have cj := fun w => isInf_zero y hy w
  rw [iy] at cj
  have ty : ∀ _ : True, (FloatKind.f64.format.order y 0 == some Ordering.eq) = false := fun _ => y_not_zero y h0y
  have tx : ∀ _ : True, (FloatKind.f64.format.order x 0 == some Ordering.lt) = false := fun _ => (ord_lt x 0 nx nan_zero).trans (by rw [place_zero]; unfold place; rw [hnx]; simp; try omega)
  have tyl : ∀ _ : True, (FloatKind.f64.format.order y 0 == some Ordering.lt) = false := fun _ => (ord_lt y 0 ny nan_zero).trans (by rw [place_zero]; unfold place; rw [hny]; simp; try omega)
  have hout := rem_out x y Z (val_pos' _ h0y) hZ
  have hW := hout.2.1 hc.1 hc.2
  rw [hnx] at hW
  generalize remW x y = MW at *
  clear hout
  have ex := neg_num x hx
  have wx := word_of x hx
  rw [hnx] at ex wx
  have ey := neg_num y hy
  have wy := word_of y hy
  rw [hny] at ey wy
  obtain ⟨X, hX⟩ : ∃ X, X = rung x := ⟨_, rfl⟩
  obtain ⟨Y, hY⟩ : ∃ Y, Y = rung y := ⟨_, rfl⟩
  rw [← hX] at ex wx hfx hZ hne h0x
  rw [← hY] at ey wy hfy hZ hne hbr hc hW h0y
  obtain ⟨X1, X2, X3, X4⟩ := pos_rung X hfx
  obtain ⟨Y1, Y2, Y3, Y4⟩ := pos_rung Y hfy
  have hYp := val_pos' Y h0y
  have hq : place 9007199254740992 = 9007199254740992 := by decide
  have hp : place 9214364837600034815 = 9214364837600034815 := by decide
  have teq : ∀ _ : True, (FloatKind.f64.format.order X Y == some Ordering.eq) = false := fun _ => (ord_eq X Y X3 Y3).trans (by rw [X4, Y4]; simp; omega)
  have tT : ∀ _ : True, (FloatKind.f64.format.order Y 9007199254740992 == some Ordering.lt) = true := fun _ => (ord_lt Y _ Y3 (by decide)).trans (by rw [Y4, hq]; simp; omega)
  have tH : ∀ _ : True, (FloatKind.f64.format.order Y 9214364837600034815 == some Ordering.lt || FloatKind.f64.format.order Y 9214364837600034815 == some Ordering.eq) = true := fun _ => (ord_le Y _ Y3 (by decide)).trans (by rw [Y4, hp]; simp; omega)
  have hZ2 : Z < 2 * val Y := by rw [hZ]; exact Nat.mod_lt _ (by omega)
  obtain ⟨yy, a, y1, y0, y3, a1, a2, a3⟩ := rem_first X Y hfx hfy h0y (by omega)
  obtain ⟨q1, q2, q3, q4⟩ := pos_rung yy y1
  have cm := fun w => Mod_any X yy (by omega) (by omega) (by omega) (by omega) (by omega) w
  rw [a3] at cm
  have ryy : ∀ ty w, (binOp .add ty (.float .f64 Y) (.float .f64 Y)).run Try.prog w = .ok (.float .f64 yy) w := fun ty w => run_float_arith w .add ty .f64 Y Y yy y3
  have aZ : val a = Z := by rw [a2, hZ]
  clear a2 a3 q1 q2 q3 q4 y0 y1 y3
  obtain ⟨A1, A2, A3, A4⟩ := pos_rung a a1
  have hvt := val_tiny Y hbr
  obtain ⟨aa, b1, b2, b3⟩ := add_self a a1 false (by have := topU_big; omega)
  have raa : ∀ ty w, (binOp .add ty (.float .f64 a) (.float .f64 a)).run Try.prog w = .ok (.float .f64 aa) w := fun ty w => run_float_arith w .add ty .f64 _ _ aa b3
  obtain ⟨B1, B2, B3, B4⟩ := pos_rung aa b1
  have hlt := @val_lt_iff Y aa
  have tg : ∀ _ : True, (FloatKind.f64.format.order aa Y == some Ordering.gt) = true := fun _ => (ord_gt aa Y B3 Y3).trans (by rw [B4, Y4]; simp; omega)
  obtain ⟨d, d1, d2, d3, d4⟩ := sub_near a Y a1 hfy (by omega) (by omega)
  rw [aZ] at d2 d3 d4
  have hdl : decide (Z < val Y) = true := by simp; omega
  rw [hdl] at d2
  have d5 := d4 (by omega)
  clear d3 d4 hdl
  obtain ⟨pd1, pd2⟩ := place_word true d d1
  have rs : ∀ ty w, (binOp .sub ty (.float .f64 a) (.float .f64 Y)).run Try.prog w = .ok (.float .f64 (wordD true d)) w := fun ty w => run_float_arith w .sub ty .f64 _ Y _ d2
  rw [← d5, near_val (!false) d (by omega)] at hW
  obtain ⟨dd, f1, f2, f3⟩ := add_self d d1 true (by have := topU_big; omega)
  have rdd : ∀ ty w, (binOp .add ty (.float .f64 (wordD true d)) (.float .f64 (wordD true d))).run Try.prog w = .ok (.float .f64 (wordD true dd)) w := fun ty w => run_float_arith w .add ty .f64 _ _ _ f3
  obtain ⟨pe1, pe2⟩ := place_word true dd f1
  have tg2 : ∀ _ : True, (FloatKind.f64.format.order (wordD true dd) Y == some Ordering.gt || FloatKind.f64.format.order (wordD true dd) Y == some Ordering.eq) = false := fun _ => (ord_ge _ Y pe1 Y3).trans (by rw [pe2, Y4]; simp; omega)
  generalize wordD true dd = dw at *
  have hW2 : MW = (wordD true d) := hW
  rw [hW2]
  clear hW2
  generalize wordD true d = rw' at *
  have HALL := Lib.hid (And.intro aZ (And.intro hZ2 hYp))
  clear hW aZ hZ hZ2 hYp hc hbr hne hfx hfy h0x h0y hnx hny ix iy X1 X2 X3 X4 Y1 Y2 Y3 Y4 A1 A2 A3 A4 a1 hq hp hlt hvt b1 b2 b3 B1 B2 B3 B4 d1 d2 d5 pd1 pd2 f1 f2 f3 pe1 pe2
  have hxX : X = x := wx
  have hyY : Y = y := wy
  clear wx wy ex ey hX hY
  subst hxX
  subst hyY
  go_enter Try.func43, Try.ntmps43
  go_wp2_with fail
  refine (isNaN_any X false nx _).mono ?_
  rintro e w' ⟨rfl, rfl⟩
  go_wp2_with fail
  refine (isNaN_any Y false ny _).mono ?_
  rintro e w' ⟨rfl, rfl⟩
  go_wp2_with fail
  refine (ci _).mono ?_
  rintro e w' ⟨rfl, rfl⟩
  go_wp2_with fail
  refine (cj _).mono ?_
  rintro e w' ⟨rfl, rfl⟩
  go_wp2_with fail
  refine (cm _).mono ?_
  rintro e w' ⟨rfl, rfl⟩
  go_wp2
  go_ret
  exact ⟨rfl, rfl⟩

set_option maxHeartbeats 400000 in
theorem rm_ff_T3 (x y : Nat) (hx : x < 18446744073709551616) (hy : y < 18446744073709551616) (hfx : rung x < 9218868437227405312) (hfy : rung y < 9218868437227405312) (h0x : rung x ≠ 0) (h0y : rung y ≠ 0) (hnx : negB x = false) (hny : negB y = false) (hne : rung x ≠ rung y) (hbr : rung y < 9007199254740992) (Z : Nat) (hZ : Z = val (rung x) % (2 * val (rung y))) (hc : val (rung y) ≤ Z ∧ 2 * (Z - val (rung y)) < val (rung y)) (w : World) :
    Calls Try.prog 43 #[.float .f64 x, .float .f64 y] w fun e w' => e = .returned (.float .f64 (remW x y)) ∧ w = w' := by
  have nx : isNan x = false := by unfold isNan; simp; omega
  have ny : isNan y = false := by unfold isNan; simp; omega
  have ix : isInf x = false := by unfold isInf; simp; omega
  have iy : isInf y = false := by unfold isInf; simp; omega
  have ci := fun w => isInf_zero x hx w
  rw [ix] at ci
  have cj := fun w => isInf_zero y hy w
  rw [iy] at cj
  have ty : ∀ _ : True, (FloatKind.f64.format.order y 0 == some Ordering.eq) = false := fun _ => y_not_zero y h0y
  have tx : ∀ _ : True, (FloatKind.f64.format.order x 0 == some Ordering.lt) = false := fun _ => (ord_lt x 0 nx nan_zero).trans (by rw [place_zero]; unfold place; rw [hnx]; simp; try omega)
  have tyl : ∀ _ : True, (FloatKind.f64.format.order y 0 == some Ordering.lt) = false := fun _ => (ord_lt y 0 ny nan_zero).trans (by rw [place_zero]; unfold place; rw [hny]; simp; try omega)
  have hout := rem_out x y Z (val_pos' _ h0y) hZ
  have hW := hout.2.2.1 hc.1 hc.2
  rw [hnx] at hW
  generalize remW x y = MW at *
  clear hout
  have ex := neg_num x hx
  have wx := word_of x hx
  rw [hnx] at ex wx
  have ey := neg_num y hy
  have wy := word_of y hy
  rw [hny] at ey wy
  obtain ⟨X, hX⟩ : ∃ X, X = rung x := ⟨_, rfl⟩
  obtain ⟨Y, hY⟩ : ∃ Y, Y = rung y := ⟨_, rfl⟩
  rw [← hX] at ex wx hfx hZ hne h0x
  rw [← hY] at ey wy hfy hZ hne hbr hc hW h0y
  obtain ⟨X1, X2, X3, X4⟩ := pos_rung X hfx
  obtain ⟨Y1, Y2, Y3, Y4⟩ := pos_rung Y hfy
  have hYp := val_pos' Y h0y
  have hq : place 9007199254740992 = 9007199254740992 := by decide
  have hp : place 9214364837600034815 = 9214364837600034815 := by decide
  have teq : ∀ _ : True, (FloatKind.f64.format.order X Y == some Ordering.eq) = false := fun _ => (ord_eq X Y X3 Y3).trans (by rw [X4, Y4]; simp; omega)
  have tT : ∀ _ : True, (FloatKind.f64.format.order Y 9007199254740992 == some Ordering.lt) = true := fun _ => (ord_lt Y _ Y3 (by decide)).trans (by rw [Y4, hq]; simp; omega)
  have tH : ∀ _ : True, (FloatKind.f64.format.order Y 9214364837600034815 == some Ordering.lt || FloatKind.f64.format.order Y 9214364837600034815 == some Ordering.eq) = true := fun _ => (ord_le Y _ Y3 (by decide)).trans (by rw [Y4, hp]; simp; omega)
  have hZ2 : Z < 2 * val Y := by rw [hZ]; exact Nat.mod_lt _ (by omega)
  obtain ⟨yy, a, y1, y0, y3, a1, a2, a3⟩ := rem_first X Y hfx hfy h0y (by omega)
  obtain ⟨q1, q2, q3, q4⟩ := pos_rung yy y1
  have cm := fun w => Mod_any X yy (by omega) (by omega) (by omega) (by omega) (by omega) w
  rw [a3] at cm
  have ryy : ∀ ty w, (binOp .add ty (.float .f64 Y) (.float .f64 Y)).run Try.prog w = .ok (.float .f64 yy) w := fun ty w => run_float_arith w .add ty .f64 Y Y yy y3
  have aZ : val a = Z := by rw [a2, hZ]
  clear a2 a3 q1 q2 q3 q4 y0 y1 y3
  obtain ⟨A1, A2, A3, A4⟩ := pos_rung a a1
  have hvt := val_tiny Y hbr
  obtain ⟨aa, b1, b2, b3⟩ := add_self a a1 false (by have := topU_big; omega)
  have raa : ∀ ty w, (binOp .add ty (.float .f64 a) (.float .f64 a)).run Try.prog w = .ok (.float .f64 aa) w := fun ty w => run_float_arith w .add ty .f64 _ _ aa b3
  obtain ⟨B1, B2, B3, B4⟩ := pos_rung aa b1
  have hlt := @val_lt_iff Y aa
  have tg : ∀ _ : True, (FloatKind.f64.format.order aa Y == some Ordering.gt) = true := fun _ => (ord_gt aa Y B3 Y3).trans (by rw [B4, Y4]; simp; omega)
  obtain ⟨d, d1, d2, d3, d4⟩ := sub_near a Y a1 hfy (by omega) (by omega)
  rw [aZ] at d2 d3 d4
  have hdl : decide (Z < val Y) = false := by simp; omega
  rw [hdl] at d2
  have d5 := d3 (by omega)
  clear d3 d4 hdl
  obtain ⟨D1, D2, D3, D4⟩ := pos_rung d d1
  have rs : ∀ ty w, (binOp .sub ty (.float .f64 a) (.float .f64 Y)).run Try.prog w = .ok (.float .f64 d) w := fun ty w => run_float_arith w .sub ty .f64 _ Y _ d2
  obtain ⟨dd, f1, f2, f3⟩ := add_self d d1 false (by have := topU_big; omega)
  have rdd : ∀ ty w, (binOp .add ty (.float .f64 d) (.float .f64 d)).run Try.prog w = .ok (.float .f64 dd) w := fun ty w => run_float_arith w .add ty .f64 _ _ _ f3
  obtain ⟨E1, E2, E3, E4⟩ := pos_rung dd f1
  have hlt2 := @val_lt_iff dd Y
  have tg2 : ∀ _ : True, (FloatKind.f64.format.order dd Y == some Ordering.gt || FloatKind.f64.format.order dd Y == some Ordering.eq) = false := fun _ => (ord_ge _ Y E3 Y3).trans (by rw [E4, Y4]; simp; omega)
  rw [← d5, near_val false d (by omega)] at hW
  have hW2 : MW = d := hW
  rw [hW2]
  clear hW2
  have HALL := Lib.hid (And.intro aZ (And.intro hZ2 hYp))
  clear hW aZ hZ hZ2 hYp hc hbr hne hfx hfy h0x h0y hnx hny ix iy X1 X2 X3 X4 Y1 Y2 Y3 Y4 A1 A2 A3 A4 a1 hq hp hlt hvt b1 b2 b3 B1 B2 B3 B4 d1 d2 d5 D1 D2 D3 D4 hlt2 f1 f2 f3 E1 E2 E3 E4
  have hxX : X = x := wx
  have hyY : Y = y := wy
  clear wx wy ex ey hX hY
  subst hxX
  subst hyY
  go_enter Try.func43, Try.ntmps43
  go_wp2_with fail
  refine (isNaN_any X false nx _).mono ?_
  rintro e w' ⟨rfl, rfl⟩
  go_wp2_with fail
  refine (isNaN_any Y false ny _).mono ?_
  rintro e w' ⟨rfl, rfl⟩
  go_wp2_with fail
  refine (ci _).mono ?_
  rintro e w' ⟨rfl, rfl⟩
  go_wp2_with fail
  refine (cj _).mono ?_
  rintro e w' ⟨rfl, rfl⟩
  go_wp2_with fail
  refine (cm _).mono ?_
  rintro e w' ⟨rfl, rfl⟩
  go_wp2
  go_ret
  exact ⟨rfl, rfl⟩

set_option maxHeartbeats 400000 in
theorem rm_ff_T4 (x y : Nat) (hx : x < 18446744073709551616) (hy : y < 18446744073709551616) (hfx : rung x < 9218868437227405312) (hfy : rung y < 9218868437227405312) (h0x : rung x ≠ 0) (h0y : rung y ≠ 0) (hnx : negB x = false) (hny : negB y = false) (hne : rung x ≠ rung y) (hbr : rung y < 9007199254740992) (Z : Nat) (hZ : Z = val (rung x) % (2 * val (rung y))) (hc : val (rung y) ≤ Z ∧ val (rung y) ≤ 2 * (Z - val (rung y))) (w : World) :
    Calls Try.prog 43 #[.float .f64 x, .float .f64 y] w fun e w' => e = .returned (.float .f64 (remW x y)) ∧ w = w' := by
  have nx : isNan x = false := by unfold isNan; simp; omega
  have ny : isNan y = false := by unfold isNan; simp; omega
  have ix : isInf x = false := by unfold isInf; simp; omega
  have iy : isInf y = false := by unfold isInf; simp; omega
  have ci := fun w => isInf_zero x hx w
  rw [ix] at ci
  have cj := fun w => isInf_zero y hy w
  rw [iy] at cj
  have ty : ∀ _ : True, (FloatKind.f64.format.order y 0 == some Ordering.eq) = false := fun _ => y_not_zero y h0y
  have tx : ∀ _ : True, (FloatKind.f64.format.order x 0 == some Ordering.lt) = false := fun _ => (ord_lt x 0 nx nan_zero).trans (by rw [place_zero]; unfold place; rw [hnx]; simp; try omega)
  have tyl : ∀ _ : True, (FloatKind.f64.format.order y 0 == some Ordering.lt) = false := fun _ => (ord_lt y 0 ny nan_zero).trans (by rw [place_zero]; unfold place; rw [hny]; simp; try omega)
  have hout := rem_out x y Z (val_pos' _ h0y) hZ
  have hW := hout.2.2.2 hc.1 hc.2
  rw [hnx] at hW
  generalize remW x y = MW at *
  clear hout
  have ex := neg_num x hx
  have wx := word_of x hx
  rw [hnx] at ex wx
  have ey := neg_num y hy
  have wy := word_of y hy
  rw [hny] at ey wy
  obtain ⟨X, hX⟩ : ∃ X, X = rung x := ⟨_, rfl⟩
  obtain ⟨Y, hY⟩ : ∃ Y, Y = rung y := ⟨_, rfl⟩
  rw [← hX] at ex wx hfx hZ hne h0x
  rw [← hY] at ey wy hfy hZ hne hbr hc hW h0y
  obtain ⟨X1, X2, X3, X4⟩ := pos_rung X hfx
  obtain ⟨Y1, Y2, Y3, Y4⟩ := pos_rung Y hfy
  have hYp := val_pos' Y h0y
  have hq : place 9007199254740992 = 9007199254740992 := by decide
  have hp : place 9214364837600034815 = 9214364837600034815 := by decide
  have teq : ∀ _ : True, (FloatKind.f64.format.order X Y == some Ordering.eq) = false := fun _ => (ord_eq X Y X3 Y3).trans (by rw [X4, Y4]; simp; omega)
  have tT : ∀ _ : True, (FloatKind.f64.format.order Y 9007199254740992 == some Ordering.lt) = true := fun _ => (ord_lt Y _ Y3 (by decide)).trans (by rw [Y4, hq]; simp; omega)
  have tH : ∀ _ : True, (FloatKind.f64.format.order Y 9214364837600034815 == some Ordering.lt || FloatKind.f64.format.order Y 9214364837600034815 == some Ordering.eq) = true := fun _ => (ord_le Y _ Y3 (by decide)).trans (by rw [Y4, hp]; simp; omega)
  have hZ2 : Z < 2 * val Y := by rw [hZ]; exact Nat.mod_lt _ (by omega)
  obtain ⟨yy, a, y1, y0, y3, a1, a2, a3⟩ := rem_first X Y hfx hfy h0y (by omega)
  obtain ⟨q1, q2, q3, q4⟩ := pos_rung yy y1
  have cm := fun w => Mod_any X yy (by omega) (by omega) (by omega) (by omega) (by omega) w
  rw [a3] at cm
  have ryy : ∀ ty w, (binOp .add ty (.float .f64 Y) (.float .f64 Y)).run Try.prog w = .ok (.float .f64 yy) w := fun ty w => run_float_arith w .add ty .f64 Y Y yy y3
  have aZ : val a = Z := by rw [a2, hZ]
  clear a2 a3 q1 q2 q3 q4 y0 y1 y3
  obtain ⟨A1, A2, A3, A4⟩ := pos_rung a a1
  have hvt := val_tiny Y hbr
  obtain ⟨aa, b1, b2, b3⟩ := add_self a a1 false (by have := topU_big; omega)
  have raa : ∀ ty w, (binOp .add ty (.float .f64 a) (.float .f64 a)).run Try.prog w = .ok (.float .f64 aa) w := fun ty w => run_float_arith w .add ty .f64 _ _ aa b3
  obtain ⟨B1, B2, B3, B4⟩ := pos_rung aa b1
  have hlt := @val_lt_iff Y aa
  have tg : ∀ _ : True, (FloatKind.f64.format.order aa Y == some Ordering.gt) = true := fun _ => (ord_gt aa Y B3 Y3).trans (by rw [B4, Y4]; simp; omega)
  obtain ⟨d, d1, d2, d3, d4⟩ := sub_near a Y a1 hfy (by omega) (by omega)
  rw [aZ] at d2 d3 d4
  have hdl : decide (Z < val Y) = false := by simp; omega
  rw [hdl] at d2
  have d5 := d3 (by omega)
  clear d3 d4 hdl
  obtain ⟨D1, D2, D3, D4⟩ := pos_rung d d1
  have rs : ∀ ty w, (binOp .sub ty (.float .f64 a) (.float .f64 Y)).run Try.prog w = .ok (.float .f64 d) w := fun ty w => run_float_arith w .sub ty .f64 _ Y _ d2
  obtain ⟨dd, f1, f2, f3⟩ := add_self d d1 false (by have := topU_big; omega)
  have rdd : ∀ ty w, (binOp .add ty (.float .f64 d) (.float .f64 d)).run Try.prog w = .ok (.float .f64 dd) w := fun ty w => run_float_arith w .add ty .f64 _ _ _ f3
  obtain ⟨E1, E2, E3, E4⟩ := pos_rung dd f1
  have hlt2 := @val_lt_iff dd Y
  have tg2 : ∀ _ : True, (FloatKind.f64.format.order dd Y == some Ordering.gt || FloatKind.f64.format.order dd Y == some Ordering.eq) = true := fun _ => (ord_ge _ Y E3 Y3).trans (by rw [E4, Y4]; simp; omega)
  obtain ⟨g, g1, g2, g3, g4⟩ := sub_near d Y d1 hfy (by omega) (by omega)
  rw [d5] at g2 g3 g4
  have hgl : decide (Z - val Y < val Y) = true := by simp; omega
  rw [hgl] at g2
  have g5 := g4 (by omega)
  have rs2 : ∀ ty w, (binOp .sub ty (.float .f64 d) (.float .f64 Y)).run Try.prog w = .ok (.float .f64 (wordD true g)) w := fun ty w => run_float_arith w .sub ty .f64 _ Y _ g2
  rw [← g5, near_val (!false) g (by omega)] at hW
  clear g3 g4 hgl g2
  have hW2 : MW = (wordD true g) := hW
  rw [hW2]
  clear hW2
  generalize wordD true g = rw' at *
  have HALL := Lib.hid (And.intro aZ (And.intro hZ2 hYp))
  clear hW aZ hZ hZ2 hYp hc hbr hne hfx hfy h0x h0y hnx hny ix iy X1 X2 X3 X4 Y1 Y2 Y3 Y4 A1 A2 A3 A4 a1 hq hp hlt hvt b1 b2 b3 B1 B2 B3 B4 d1 d2 d5 D1 D2 D3 D4 hlt2 f1 f2 f3 E1 E2 E3 E4 g1 g5
  have hxX : X = x := wx
  have hyY : Y = y := wy
  clear wx wy ex ey hX hY
  subst hxX
  subst hyY
  go_enter Try.func43, Try.ntmps43
  go_wp2_with fail
  refine (isNaN_any X false nx _).mono ?_
  rintro e w' ⟨rfl, rfl⟩
  go_wp2_with fail
  refine (isNaN_any Y false ny _).mono ?_
  rintro e w' ⟨rfl, rfl⟩
  go_wp2_with fail
  refine (ci _).mono ?_
  rintro e w' ⟨rfl, rfl⟩
  go_wp2_with fail
  refine (cj _).mono ?_
  rintro e w' ⟨rfl, rfl⟩
  go_wp2_with fail
  refine (cm _).mono ?_
  rintro e w' ⟨rfl, rfl⟩
  go_wp2
  go_ret
  exact ⟨rfl, rfl⟩

set_option maxHeartbeats 400000 in
theorem rm_ff_M1 (x y : Nat) (hx : x < 18446744073709551616) (hy : y < 18446744073709551616) (hfx : rung x < 9218868437227405312) (hfy : rung y < 9218868437227405312) (h0x : rung x ≠ 0) (h0y : rung y ≠ 0) (hnx : negB x = false) (hny : negB y = false) (hne : rung x ≠ rung y) (hbr : 9007199254740992 ≤ rung y ∧ rung y ≤ 9214364837600034815) (Z : Nat) (hZ : Z = val (rung x) % (2 * val (rung y))) (hc : ¬ val (rung y) < 2 * Z) (w : World) :
    Calls Try.prog 43 #[.float .f64 x, .float .f64 y] w fun e w' => e = .returned (.float .f64 (remW x y)) ∧ w = w' := by
  have nx : isNan x = false := by unfold isNan; simp; omega
  have ny : isNan y = false := by unfold isNan; simp; omega
  have ix : isInf x = false := by unfold isInf; simp; omega
  have iy : isInf y = false := by unfold isInf; simp; omega
  have ci := fun w => isInf_zero x hx w
  rw [ix] at ci
  have cj := fun w => isInf_zero y hy w
  rw [iy] at cj
  have ty : ∀ _ : True, (FloatKind.f64.format.order y 0 == some Ordering.eq) = false := fun _ => y_not_zero y h0y
  have tx : ∀ _ : True, (FloatKind.f64.format.order x 0 == some Ordering.lt) = false := fun _ => (ord_lt x 0 nx nan_zero).trans (by rw [place_zero]; unfold place; rw [hnx]; simp; try omega)
  have tyl : ∀ _ : True, (FloatKind.f64.format.order y 0 == some Ordering.lt) = false := fun _ => (ord_lt y 0 ny nan_zero).trans (by rw [place_zero]; unfold place; rw [hny]; simp; try omega)
  have hout := rem_out x y Z (val_pos' _ h0y) hZ
  have hW := hout.1 hc
  rw [hnx] at hW
  generalize remW x y = MW at *
  clear hout
  have ex := neg_num x hx
  have wx := word_of x hx
  rw [hnx] at ex wx
  have ey := neg_num y hy
  have wy := word_of y hy
  rw [hny] at ey wy
  obtain ⟨X, hX⟩ : ∃ X, X = rung x := ⟨_, rfl⟩
  obtain ⟨Y, hY⟩ : ∃ Y, Y = rung y := ⟨_, rfl⟩
  rw [← hX] at ex wx hfx hZ hne h0x
  rw [← hY] at ey wy hfy hZ hne hbr hc h0y
  obtain ⟨X1, X2, X3, X4⟩ := pos_rung X hfx
  obtain ⟨Y1, Y2, Y3, Y4⟩ := pos_rung Y hfy
  have hYp := val_pos' Y h0y
  have hq : place 9007199254740992 = 9007199254740992 := by decide
  have hp : place 9214364837600034815 = 9214364837600034815 := by decide
  have teq : ∀ _ : True, (FloatKind.f64.format.order X Y == some Ordering.eq) = false := fun _ => (ord_eq X Y X3 Y3).trans (by rw [X4, Y4]; simp; omega)
  have tT : ∀ _ : True, (FloatKind.f64.format.order Y 9007199254740992 == some Ordering.lt) = false := fun _ => (ord_lt Y _ Y3 (by decide)).trans (by rw [Y4, hq]; simp; omega)
  have tH : ∀ _ : True, (FloatKind.f64.format.order Y 9214364837600034815 == some Ordering.lt || FloatKind.f64.format.order Y 9214364837600034815 == some Ordering.eq) = true := fun _ => (ord_le Y _ Y3 (by decide)).trans (by rw [Y4, hp]; simp; omega)
  have hZ2 : Z < 2 * val Y := by rw [hZ]; exact Nat.mod_lt _ (by omega)
  obtain ⟨yy, a, y1, y0, y3, a1, a2, a3⟩ := rem_first X Y hfx hfy h0y (by omega)
  obtain ⟨q1, q2, q3, q4⟩ := pos_rung yy y1
  have cm := fun w => Mod_any X yy (by omega) (by omega) (by omega) (by omega) (by omega) w
  rw [a3] at cm
  have ryy : ∀ ty w, (binOp .add ty (.float .f64 Y) (.float .f64 Y)).run Try.prog w = .ok (.float .f64 yy) w := fun ty w => run_float_arith w .add ty .f64 Y Y yy y3
  have aZ : val a = Z := by rw [a2, hZ]
  clear a2 a3 q1 q2 q3 q4 y0 y1 y3
  obtain ⟨A1, A2, A3, A4⟩ := pos_rung a a1
  obtain ⟨h', k1, k2, k3⟩ := half_fit Y hfy (by omega)
  have rh : ∀ ty w, (binOp .mul ty (.float .f64 4602678819172646912) (.float .f64 Y)).run Try.prog w = .ok (.float .f64 h') w := fun ty w => run_float_arith w .mul ty .f64 _ Y _ k3
  obtain ⟨K1, K2, K3, K4⟩ := pos_rung h' k1
  have hlt := @val_lt_iff h' a
  have tg : ∀ _ : True, (FloatKind.f64.format.order a h' == some Ordering.gt) = false := fun _ => (ord_gt a h' A3 K3).trans (by rw [A4, K4]; simp; omega)
  rw [← aZ, near_val false a (by omega)] at hW
  have hW2 : MW = a := hW
  rw [hW2]
  clear hW2
  have HALL := Lib.hid (And.intro aZ (And.intro hZ2 hYp))
  clear hW aZ hZ hZ2 hYp hc hbr hne hfx hfy h0x h0y hnx hny ix iy X1 X2 X3 X4 Y1 Y2 Y3 Y4 A1 A2 A3 A4 a1 hq hp hlt k1 k2 k3 K1 K2 K3 K4
  have hxX : X = x := wx
  have hyY : Y = y := wy
  clear wx wy ex ey hX hY
  subst hxX
  subst hyY
  go_enter Try.func43, Try.ntmps43
  go_wp2_with fail
  refine (isNaN_any X false nx _).mono ?_
  rintro e w' ⟨rfl, rfl⟩
  go_wp2_with fail
  refine (isNaN_any Y false ny _).mono ?_
  rintro e w' ⟨rfl, rfl⟩
  go_wp2_with fail
  refine (ci _).mono ?_
  rintro e w' ⟨rfl, rfl⟩
  go_wp2_with fail
  refine (cj _).mono ?_
  rintro e w' ⟨rfl, rfl⟩
  go_wp2_with fail
  refine (cm _).mono ?_
  rintro e w' ⟨rfl, rfl⟩
  go_wp2
  go_ret
  exact ⟨rfl, rfl⟩

set_option maxHeartbeats 400000 in
theorem rm_ff_M2 (x y : Nat) (hx : x < 18446744073709551616) (hy : y < 18446744073709551616) (hfx : rung x < 9218868437227405312) (hfy : rung y < 9218868437227405312) (h0x : rung x ≠ 0) (h0y : rung y ≠ 0) (hnx : negB x = false) (hny : negB y = false) (hne : rung x ≠ rung y) (hbr : 9007199254740992 ≤ rung y ∧ rung y ≤ 9214364837600034815) (Z : Nat) (hZ : Z = val (rung x) % (2 * val (rung y))) (hc : val (rung y) < 2 * Z ∧ Z < val (rung y)) (w : World) :
    Calls Try.prog 43 #[.float .f64 x, .float .f64 y] w fun e w' => e = .returned (.float .f64 (remW x y)) ∧ w = w' := by
  have nx : isNan x = false := by unfold isNan; simp; omega
  have ny : isNan y = false := by unfold isNan; simp; omega
  have ix : isInf x = false := by unfold isInf; simp; omega
  have iy : isInf y = false := by unfold isInf; simp; omega
  have ci := fun w => isInf_zero x hx w
  rw [ix] at ci
  have cj := fun w => isInf_zero y hy w
  rw [iy] at cj
  have ty : ∀ _ : True, (FloatKind.f64.format.order y 0 == some Ordering.eq) = false := fun _ => y_not_zero y h0y
  have tx : ∀ _ : True, (FloatKind.f64.format.order x 0 == some Ordering.lt) = false := fun _ => (ord_lt x 0 nx nan_zero).trans (by rw [place_zero]; unfold place; rw [hnx]; simp; try omega)
  have tyl : ∀ _ : True, (FloatKind.f64.format.order y 0 == some Ordering.lt) = false := fun _ => (ord_lt y 0 ny nan_zero).trans (by rw [place_zero]; unfold place; rw [hny]; simp; try omega)
  have hout := rem_out x y Z (val_pos' _ h0y) hZ
  have hW := hout.2.1 hc.1 hc.2
  rw [hnx] at hW
  generalize remW x y = MW at *
  clear hout
  have ex := neg_num x hx
  have wx := word_of x hx
  rw [hnx] at ex wx
  have ey := neg_num y hy
  have wy := word_of y hy
  rw [hny] at ey wy
  obtain ⟨X, hX⟩ : ∃ X, X = rung x := ⟨_, rfl⟩
  obtain ⟨Y, hY⟩ : ∃ Y, Y = rung y := ⟨_, rfl⟩
  rw [← hX] at ex wx hfx hZ hne h0x
  rw [← hY] at ey wy hfy hZ hne hbr hc hW h0y
  obtain ⟨X1, X2, X3, X4⟩ := pos_rung X hfx
  obtain ⟨Y1, Y2, Y3, Y4⟩ := pos_rung Y hfy
  have hYp := val_pos' Y h0y
  have hq : place 9007199254740992 = 9007199254740992 := by decide
  have hp : place 9214364837600034815 = 9214364837600034815 := by decide
  have teq : ∀ _ : True, (FloatKind.f64.format.order X Y == some Ordering.eq) = false := fun _ => (ord_eq X Y X3 Y3).trans (by rw [X4, Y4]; simp; omega)
  have tT : ∀ _ : True, (FloatKind.f64.format.order Y 9007199254740992 == some Ordering.lt) = false := fun _ => (ord_lt Y _ Y3 (by decide)).trans (by rw [Y4, hq]; simp; omega)
  have tH : ∀ _ : True, (FloatKind.f64.format.order Y 9214364837600034815 == some Ordering.lt || FloatKind.f64.format.order Y 9214364837600034815 == some Ordering.eq) = true := fun _ => (ord_le Y _ Y3 (by decide)).trans (by rw [Y4, hp]; simp; omega)
  have hZ2 : Z < 2 * val Y := by rw [hZ]; exact Nat.mod_lt _ (by omega)
  obtain ⟨yy, a, y1, y0, y3, a1, a2, a3⟩ := rem_first X Y hfx hfy h0y (by omega)
  obtain ⟨q1, q2, q3, q4⟩ := pos_rung yy y1
  have cm := fun w => Mod_any X yy (by omega) (by omega) (by omega) (by omega) (by omega) w
  rw [a3] at cm
  have ryy : ∀ ty w, (binOp .add ty (.float .f64 Y) (.float .f64 Y)).run Try.prog w = .ok (.float .f64 yy) w := fun ty w => run_float_arith w .add ty .f64 Y Y yy y3
  have aZ : val a = Z := by rw [a2, hZ]
  clear a2 a3 q1 q2 q3 q4 y0 y1 y3
  obtain ⟨A1, A2, A3, A4⟩ := pos_rung a a1
  obtain ⟨h', k1, k2, k3⟩ := half_fit Y hfy (by omega)
  have rh : ∀ ty w, (binOp .mul ty (.float .f64 4602678819172646912) (.float .f64 Y)).run Try.prog w = .ok (.float .f64 h') w := fun ty w => run_float_arith w .mul ty .f64 _ Y _ k3
  obtain ⟨K1, K2, K3, K4⟩ := pos_rung h' k1
  have hlt := @val_lt_iff h' a
  have tg : ∀ _ : True, (FloatKind.f64.format.order a h' == some Ordering.gt) = true := fun _ => (ord_gt a h' A3 K3).trans (by rw [A4, K4]; simp; omega)
  obtain ⟨d, d1, d2, d3, d4⟩ := sub_near a Y a1 hfy (by omega) (by omega)
  rw [aZ] at d2 d3 d4
  have hdl : decide (Z < val Y) = true := by simp; omega
  rw [hdl] at d2
  have d5 := d4 (by omega)
  clear d3 d4 hdl
  obtain ⟨pd1, pd2⟩ := place_word true d d1
  have rs : ∀ ty w, (binOp .sub ty (.float .f64 a) (.float .f64 Y)).run Try.prog w = .ok (.float .f64 (wordD true d)) w := fun ty w => run_float_arith w .sub ty .f64 _ Y _ d2
  rw [← d5, near_val (!false) d (by omega)] at hW
  have tg2 : ∀ _ : True, (FloatKind.f64.format.order (wordD true d) h' == some Ordering.gt || FloatKind.f64.format.order (wordD true d) h' == some Ordering.eq) = false := fun _ => (ord_ge _ h' pd1 K3).trans (by
    have hk0 : h' ≠ 0 := fun g => by rw [g, val_zero] at k2; omega
    rw [pd2, K4]; simp; omega)
  have hW2 : MW = (wordD true d) := hW
  rw [hW2]
  clear hW2
  generalize wordD true d = rw' at *
  have HALL := Lib.hid (And.intro aZ (And.intro hZ2 hYp))
  clear hW aZ hZ hZ2 hYp hc hbr hne hfx hfy h0x h0y hnx hny ix iy X1 X2 X3 X4 Y1 Y2 Y3 Y4 A1 A2 A3 A4 a1 hq hp hlt k1 k2 k3 K1 K2 K3 K4 d1 d2 d5 pd1 pd2
  have hxX : X = x := wx
  have hyY : Y = y := wy
  clear wx wy ex ey hX hY
  subst hxX
  subst hyY
  go_enter Try.func43, Try.ntmps43
  go_wp2_with fail
  refine (isNaN_any X false nx _).mono ?_
  rintro e w' ⟨rfl, rfl⟩
  go_wp2_with fail
  refine (isNaN_any Y false ny _).mono ?_
  rintro e w' ⟨rfl, rfl⟩
  go_wp2_with fail
  refine (ci _).mono ?_
  rintro e w' ⟨rfl, rfl⟩
  go_wp2_with fail
  refine (cj _).mono ?_
  rintro e w' ⟨rfl, rfl⟩
  go_wp2_with fail
  refine (cm _).mono ?_
  rintro e w' ⟨rfl, rfl⟩
  go_wp2
  go_ret
  exact ⟨rfl, rfl⟩

set_option maxHeartbeats 400000 in
theorem rm_ff_M3 (x y : Nat) (hx : x < 18446744073709551616) (hy : y < 18446744073709551616) (hfx : rung x < 9218868437227405312) (hfy : rung y < 9218868437227405312) (h0x : rung x ≠ 0) (h0y : rung y ≠ 0) (hnx : negB x = false) (hny : negB y = false) (hne : rung x ≠ rung y) (hbr : 9007199254740992 ≤ rung y ∧ rung y ≤ 9214364837600034815) (Z : Nat) (hZ : Z = val (rung x) % (2 * val (rung y))) (hc : val (rung y) ≤ Z ∧ 2 * (Z - val (rung y)) < val (rung y)) (w : World) :
    Calls Try.prog 43 #[.float .f64 x, .float .f64 y] w fun e w' => e = .returned (.float .f64 (remW x y)) ∧ w = w' := by
  have nx : isNan x = false := by unfold isNan; simp; omega
  have ny : isNan y = false := by unfold isNan; simp; omega
  have ix : isInf x = false := by unfold isInf; simp; omega
  have iy : isInf y = false := by unfold isInf; simp; omega
  have ci := fun w => isInf_zero x hx w
  rw [ix] at ci
  have cj := fun w => isInf_zero y hy w
  rw [iy] at cj
  have ty : ∀ _ : True, (FloatKind.f64.format.order y 0 == some Ordering.eq) = false := fun _ => y_not_zero y h0y
  have tx : ∀ _ : True, (FloatKind.f64.format.order x 0 == some Ordering.lt) = false := fun _ => (ord_lt x 0 nx nan_zero).trans (by rw [place_zero]; unfold place; rw [hnx]; simp; try omega)
  have tyl : ∀ _ : True, (FloatKind.f64.format.order y 0 == some Ordering.lt) = false := fun _ => (ord_lt y 0 ny nan_zero).trans (by rw [place_zero]; unfold place; rw [hny]; simp; try omega)
  have hout := rem_out x y Z (val_pos' _ h0y) hZ
  have hW := hout.2.2.1 hc.1 hc.2
  rw [hnx] at hW
  generalize remW x y = MW at *
  clear hout
  have ex := neg_num x hx
  have wx := word_of x hx
  rw [hnx] at ex wx
  have ey := neg_num y hy
  have wy := word_of y hy
  rw [hny] at ey wy
  obtain ⟨X, hX⟩ : ∃ X, X = rung x := ⟨_, rfl⟩
  obtain ⟨Y, hY⟩ : ∃ Y, Y = rung y := ⟨_, rfl⟩
  rw [← hX] at ex wx hfx hZ hne h0x
  rw [← hY] at ey wy hfy hZ hne hbr hc hW h0y
  obtain ⟨X1, X2, X3, X4⟩ := pos_rung X hfx
  obtain ⟨Y1, Y2, Y3, Y4⟩ := pos_rung Y hfy
  have hYp := val_pos' Y h0y
  have hq : place 9007199254740992 = 9007199254740992 := by decide
  have hp : place 9214364837600034815 = 9214364837600034815 := by decide
  have teq : ∀ _ : True, (FloatKind.f64.format.order X Y == some Ordering.eq) = false := fun _ => (ord_eq X Y X3 Y3).trans (by rw [X4, Y4]; simp; omega)
  have tT : ∀ _ : True, (FloatKind.f64.format.order Y 9007199254740992 == some Ordering.lt) = false := fun _ => (ord_lt Y _ Y3 (by decide)).trans (by rw [Y4, hq]; simp; omega)
  have tH : ∀ _ : True, (FloatKind.f64.format.order Y 9214364837600034815 == some Ordering.lt || FloatKind.f64.format.order Y 9214364837600034815 == some Ordering.eq) = true := fun _ => (ord_le Y _ Y3 (by decide)).trans (by rw [Y4, hp]; simp; omega)
  have hZ2 : Z < 2 * val Y := by rw [hZ]; exact Nat.mod_lt _ (by omega)
  obtain ⟨yy, a, y1, y0, y3, a1, a2, a3⟩ := rem_first X Y hfx hfy h0y (by omega)
  obtain ⟨q1, q2, q3, q4⟩ := pos_rung yy y1
  have cm := fun w => Mod_any X yy (by omega) (by omega) (by omega) (by omega) (by omega) w
  rw [a3] at cm
  have ryy : ∀ ty w, (binOp .add ty (.float .f64 Y) (.float .f64 Y)).run Try.prog w = .ok (.float .f64 yy) w := fun ty w => run_float_arith w .add ty .f64 Y Y yy y3
  have aZ : val a = Z := by rw [a2, hZ]
  clear a2 a3 q1 q2 q3 q4 y0 y1 y3
  obtain ⟨A1, A2, A3, A4⟩ := pos_rung a a1
  obtain ⟨h', k1, k2, k3⟩ := half_fit Y hfy (by omega)
  have rh : ∀ ty w, (binOp .mul ty (.float .f64 4602678819172646912) (.float .f64 Y)).run Try.prog w = .ok (.float .f64 h') w := fun ty w => run_float_arith w .mul ty .f64 _ Y _ k3
  obtain ⟨K1, K2, K3, K4⟩ := pos_rung h' k1
  have hlt := @val_lt_iff h' a
  have tg : ∀ _ : True, (FloatKind.f64.format.order a h' == some Ordering.gt) = true := fun _ => (ord_gt a h' A3 K3).trans (by rw [A4, K4]; simp; omega)
  obtain ⟨d, d1, d2, d3, d4⟩ := sub_near a Y a1 hfy (by omega) (by omega)
  rw [aZ] at d2 d3 d4
  have hdl : decide (Z < val Y) = false := by simp; omega
  rw [hdl] at d2
  have d5 := d3 (by omega)
  clear d3 d4 hdl
  obtain ⟨D1, D2, D3, D4⟩ := pos_rung d d1
  have rs : ∀ ty w, (binOp .sub ty (.float .f64 a) (.float .f64 Y)).run Try.prog w = .ok (.float .f64 d) w := fun ty w => run_float_arith w .sub ty .f64 _ Y _ d2
  have hlt2 := @val_lt_iff d h'
  have tg2 : ∀ _ : True, (FloatKind.f64.format.order d h' == some Ordering.gt || FloatKind.f64.format.order d h' == some Ordering.eq) = false := fun _ => (ord_ge _ h' D3 K3).trans (by rw [D4, K4]; simp; omega)
  rw [← d5, near_val false d (by omega)] at hW
  have hW2 : MW = d := hW
  rw [hW2]
  clear hW2
  have HALL := Lib.hid (And.intro aZ (And.intro hZ2 hYp))
  clear hW aZ hZ hZ2 hYp hc hbr hne hfx hfy h0x h0y hnx hny ix iy X1 X2 X3 X4 Y1 Y2 Y3 Y4 A1 A2 A3 A4 a1 hq hp hlt k1 k2 k3 K1 K2 K3 K4 d1 d2 d5 D1 D2 D3 D4 hlt2
  have hxX : X = x := wx
  have hyY : Y = y := wy
  clear wx wy ex ey hX hY
  subst hxX
  subst hyY
  go_enter Try.func43, Try.ntmps43
  go_wp2_with fail
  refine (isNaN_any X false nx _).mono ?_
  rintro e w' ⟨rfl, rfl⟩
  go_wp2_with fail
  refine (isNaN_any Y false ny _).mono ?_
  rintro e w' ⟨rfl, rfl⟩
  go_wp2_with fail
  refine (ci _).mono ?_
  rintro e w' ⟨rfl, rfl⟩
  go_wp2_with fail
  refine (cj _).mono ?_
  rintro e w' ⟨rfl, rfl⟩
  go_wp2_with fail
  refine (cm _).mono ?_
  rintro e w' ⟨rfl, rfl⟩
  go_wp2
  go_ret
  exact ⟨rfl, rfl⟩

set_option maxHeartbeats 400000 in
theorem rm_ff_M4 (x y : Nat) (hx : x < 18446744073709551616) (hy : y < 18446744073709551616) (hfx : rung x < 9218868437227405312) (hfy : rung y < 9218868437227405312) (h0x : rung x ≠ 0) (h0y : rung y ≠ 0) (hnx : negB x = false) (hny : negB y = false) (hne : rung x ≠ rung y) (hbr : 9007199254740992 ≤ rung y ∧ rung y ≤ 9214364837600034815) (Z : Nat) (hZ : Z = val (rung x) % (2 * val (rung y))) (hc : val (rung y) ≤ Z ∧ val (rung y) ≤ 2 * (Z - val (rung y))) (w : World) :
    Calls Try.prog 43 #[.float .f64 x, .float .f64 y] w fun e w' => e = .returned (.float .f64 (remW x y)) ∧ w = w' := by
  have nx : isNan x = false := by unfold isNan; simp; omega
  have ny : isNan y = false := by unfold isNan; simp; omega
  have ix : isInf x = false := by unfold isInf; simp; omega
  have iy : isInf y = false := by unfold isInf; simp; omega
  have ci := fun w => isInf_zero x hx w
  rw [ix] at ci
  have cj := fun w => isInf_zero y hy w
  rw [iy] at cj
  have ty : ∀ _ : True, (FloatKind.f64.format.order y 0 == some Ordering.eq) = false := fun _ => y_not_zero y h0y
  have tx : ∀ _ : True, (FloatKind.f64.format.order x 0 == some Ordering.lt) = false := fun _ => (ord_lt x 0 nx nan_zero).trans (by rw [place_zero]; unfold place; rw [hnx]; simp; try omega)
  have tyl : ∀ _ : True, (FloatKind.f64.format.order y 0 == some Ordering.lt) = false := fun _ => (ord_lt y 0 ny nan_zero).trans (by rw [place_zero]; unfold place; rw [hny]; simp; try omega)
  have hout := rem_out x y Z (val_pos' _ h0y) hZ
  have hW := hout.2.2.2 hc.1 hc.2
  rw [hnx] at hW
  generalize remW x y = MW at *
  clear hout
  have ex := neg_num x hx
  have wx := word_of x hx
  rw [hnx] at ex wx
  have ey := neg_num y hy
  have wy := word_of y hy
  rw [hny] at ey wy
  obtain ⟨X, hX⟩ : ∃ X, X = rung x := ⟨_, rfl⟩
  obtain ⟨Y, hY⟩ : ∃ Y, Y = rung y := ⟨_, rfl⟩
  rw [← hX] at ex wx hfx hZ hne h0x
  rw [← hY] at ey wy hfy hZ hne hbr hc hW h0y
  obtain ⟨X1, X2, X3, X4⟩ := pos_rung X hfx
  obtain ⟨Y1, Y2, Y3, Y4⟩ := pos_rung Y hfy
  have hYp := val_pos' Y h0y
  have hq : place 9007199254740992 = 9007199254740992 := by decide
  have hp : place 9214364837600034815 = 9214364837600034815 := by decide
  have teq : ∀ _ : True, (FloatKind.f64.format.order X Y == some Ordering.eq) = false := fun _ => (ord_eq X Y X3 Y3).trans (by rw [X4, Y4]; simp; omega)
  have tT : ∀ _ : True, (FloatKind.f64.format.order Y 9007199254740992 == some Ordering.lt) = false := fun _ => (ord_lt Y _ Y3 (by decide)).trans (by rw [Y4, hq]; simp; omega)
  have tH : ∀ _ : True, (FloatKind.f64.format.order Y 9214364837600034815 == some Ordering.lt || FloatKind.f64.format.order Y 9214364837600034815 == some Ordering.eq) = true := fun _ => (ord_le Y _ Y3 (by decide)).trans (by rw [Y4, hp]; simp; omega)
  have hZ2 : Z < 2 * val Y := by rw [hZ]; exact Nat.mod_lt _ (by omega)
  obtain ⟨yy, a, y1, y0, y3, a1, a2, a3⟩ := rem_first X Y hfx hfy h0y (by omega)
  obtain ⟨q1, q2, q3, q4⟩ := pos_rung yy y1
  have cm := fun w => Mod_any X yy (by omega) (by omega) (by omega) (by omega) (by omega) w
  rw [a3] at cm
  have ryy : ∀ ty w, (binOp .add ty (.float .f64 Y) (.float .f64 Y)).run Try.prog w = .ok (.float .f64 yy) w := fun ty w => run_float_arith w .add ty .f64 Y Y yy y3
  have aZ : val a = Z := by rw [a2, hZ]
  clear a2 a3 q1 q2 q3 q4 y0 y1 y3
  obtain ⟨A1, A2, A3, A4⟩ := pos_rung a a1
  obtain ⟨h', k1, k2, k3⟩ := half_fit Y hfy (by omega)
  have rh : ∀ ty w, (binOp .mul ty (.float .f64 4602678819172646912) (.float .f64 Y)).run Try.prog w = .ok (.float .f64 h') w := fun ty w => run_float_arith w .mul ty .f64 _ Y _ k3
  obtain ⟨K1, K2, K3, K4⟩ := pos_rung h' k1
  have hlt := @val_lt_iff h' a
  have tg : ∀ _ : True, (FloatKind.f64.format.order a h' == some Ordering.gt) = true := fun _ => (ord_gt a h' A3 K3).trans (by rw [A4, K4]; simp; omega)
  obtain ⟨d, d1, d2, d3, d4⟩ := sub_near a Y a1 hfy (by omega) (by omega)
  rw [aZ] at d2 d3 d4
  have hdl : decide (Z < val Y) = false := by simp; omega
  rw [hdl] at d2
  have d5 := d3 (by omega)
  clear d3 d4 hdl
  obtain ⟨D1, D2, D3, D4⟩ := pos_rung d d1
  have rs : ∀ ty w, (binOp .sub ty (.float .f64 a) (.float .f64 Y)).run Try.prog w = .ok (.float .f64 d) w := fun ty w => run_float_arith w .sub ty .f64 _ Y _ d2
  have hlt2 := @val_lt_iff d h'
  have tg2 : ∀ _ : True, (FloatKind.f64.format.order d h' == some Ordering.gt || FloatKind.f64.format.order d h' == some Ordering.eq) = true := fun _ => (ord_ge _ h' D3 K3).trans (by rw [D4, K4]; simp; omega)
  obtain ⟨g, g1, g2, g3, g4⟩ := sub_near d Y d1 hfy (by omega) (by omega)
  rw [d5] at g2 g3 g4
  have hgl : decide (Z - val Y < val Y) = true := by simp; omega
  rw [hgl] at g2
  have g5 := g4 (by omega)
  have rs2 : ∀ ty w, (binOp .sub ty (.float .f64 d) (.float .f64 Y)).run Try.prog w = .ok (.float .f64 (wordD true g)) w := fun ty w => run_float_arith w .sub ty .f64 _ Y _ g2
  rw [← g5, near_val (!false) g (by omega)] at hW
  clear g3 g4 hgl g2
  have hW2 : MW = (wordD true g) := hW
  rw [hW2]
  clear hW2
  generalize wordD true g = rw' at *
  have HALL := Lib.hid (And.intro aZ (And.intro hZ2 hYp))
  clear hW aZ hZ hZ2 hYp hc hbr hne hfx hfy h0x h0y hnx hny ix iy X1 X2 X3 X4 Y1 Y2 Y3 Y4 A1 A2 A3 A4 a1 hq hp hlt k1 k2 k3 K1 K2 K3 K4 d1 d2 d5 D1 D2 D3 D4 hlt2 g1 g5
  have hxX : X = x := wx
  have hyY : Y = y := wy
  clear wx wy ex ey hX hY
  subst hxX
  subst hyY
  go_enter Try.func43, Try.ntmps43
  go_wp2_with fail
  refine (isNaN_any X false nx _).mono ?_
  rintro e w' ⟨rfl, rfl⟩
  go_wp2_with fail
  refine (isNaN_any Y false ny _).mono ?_
  rintro e w' ⟨rfl, rfl⟩
  go_wp2_with fail
  refine (ci _).mono ?_
  rintro e w' ⟨rfl, rfl⟩
  go_wp2_with fail
  refine (cj _).mono ?_
  rintro e w' ⟨rfl, rfl⟩
  go_wp2_with fail
  refine (cm _).mono ?_
  rintro e w' ⟨rfl, rfl⟩
  go_wp2
  go_ret
  exact ⟨rfl, rfl⟩

set_option maxHeartbeats 400000 in
theorem rm_ff_B1 (x y : Nat) (hx : x < 18446744073709551616) (hy : y < 18446744073709551616) (hfx : rung x < 9218868437227405312) (hfy : rung y < 9218868437227405312) (h0x : rung x ≠ 0) (h0y : rung y ≠ 0) (hnx : negB x = false) (hny : negB y = false) (hne : rung x ≠ rung y) (hbr : 9214364837600034815 < rung y) (Z : Nat) (hZ : Z = val (rung x) % (2 * val (rung y))) (hc : ¬ val (rung y) < 2 * Z) (w : World) :
    Calls Try.prog 43 #[.float .f64 x, .float .f64 y] w fun e w' => e = .returned (.float .f64 (remW x y)) ∧ w = w' := by
  have nx : isNan x = false := by unfold isNan; simp; omega
  have ny : isNan y = false := by unfold isNan; simp; omega
  have ix : isInf x = false := by unfold isInf; simp; omega
  have iy : isInf y = false := by unfold isInf; simp; omega
  have ci := fun w => isInf_zero x hx w
  rw [ix] at ci
  have cj := fun w => isInf_zero y hy w
  rw [iy] at cj
  have ty : ∀ _ : True, (FloatKind.f64.format.order y 0 == some Ordering.eq) = false := fun _ => y_not_zero y h0y
  have tx : ∀ _ : True, (FloatKind.f64.format.order x 0 == some Ordering.lt) = false := fun _ => (ord_lt x 0 nx nan_zero).trans (by rw [place_zero]; unfold place; rw [hnx]; simp; try omega)
  have tyl : ∀ _ : True, (FloatKind.f64.format.order y 0 == some Ordering.lt) = false := fun _ => (ord_lt y 0 ny nan_zero).trans (by rw [place_zero]; unfold place; rw [hny]; simp; try omega)
  have hout := rem_out x y Z (val_pos' _ h0y) hZ
  have hW := hout.1 hc
  rw [hnx] at hW
  generalize remW x y = MW at *
  clear hout
  have ex := neg_num x hx
  have wx := word_of x hx
  rw [hnx] at ex wx
  have ey := neg_num y hy
  have wy := word_of y hy
  rw [hny] at ey wy
  obtain ⟨X, hX⟩ : ∃ X, X = rung x := ⟨_, rfl⟩
  obtain ⟨Y, hY⟩ : ∃ Y, Y = rung y := ⟨_, rfl⟩
  rw [← hX] at ex wx hfx hZ hne h0x
  rw [← hY] at ey wy hfy hZ hne hbr hc h0y
  obtain ⟨X1, X2, X3, X4⟩ := pos_rung X hfx
  obtain ⟨Y1, Y2, Y3, Y4⟩ := pos_rung Y hfy
  have hYp := val_pos' Y h0y
  have hq : place 9007199254740992 = 9007199254740992 := by decide
  have hp : place 9214364837600034815 = 9214364837600034815 := by decide
  have teq : ∀ _ : True, (FloatKind.f64.format.order X Y == some Ordering.eq) = false := fun _ => (ord_eq X Y X3 Y3).trans (by rw [X4, Y4]; simp; omega)
  have tT : ∀ _ : True, (FloatKind.f64.format.order Y 9007199254740992 == some Ordering.lt) = false := fun _ => (ord_lt Y _ Y3 (by decide)).trans (by rw [Y4, hq]; simp; omega)
  have tH : ∀ _ : True, (FloatKind.f64.format.order Y 9214364837600034815 == some Ordering.lt || FloatKind.f64.format.order Y 9214364837600034815 == some Ordering.eq) = false := fun _ => (ord_le Y _ Y3 (by decide)).trans (by rw [Y4, hp]; simp; omega)
  have hZ2 : Z < 2 * val Y := by rw [hZ]; exact Nat.mod_lt _ (by omega)
  have hXY := half_big X Y hfx (by omega)
  have aZ : val X = Z := by rw [hZ, Nat.mod_eq_of_lt hXY]
  have a1 := hfx
  obtain ⟨A1, A2, A3, A4⟩ := pos_rung X a1
  obtain ⟨h', k1, k2, k3⟩ := half_fit Y hfy (by omega)
  have rh : ∀ ty w, (binOp .mul ty (.float .f64 4602678819172646912) (.float .f64 Y)).run Try.prog w = .ok (.float .f64 h') w := fun ty w => run_float_arith w .mul ty .f64 _ Y _ k3
  obtain ⟨K1, K2, K3, K4⟩ := pos_rung h' k1
  have hlt := @val_lt_iff h' X
  have tg : ∀ _ : True, (FloatKind.f64.format.order X h' == some Ordering.gt) = false := fun _ => (ord_gt X h' A3 K3).trans (by rw [A4, K4]; simp; omega)
  rw [← aZ, near_val false X (by omega)] at hW
  have hW2 : MW = X := hW
  rw [hW2]
  clear hW2
  have HALL := Lib.hid (And.intro aZ (And.intro hZ2 hYp))
  clear hW aZ hZ hZ2 hYp hc hbr hne hfx hfy h0x h0y hnx hny ix iy X1 X2 X3 X4 Y1 Y2 Y3 Y4 A1 A2 A3 A4 a1 hq hp hlt k1 k2 k3 K1 K2 K3 K4 hXY
  have hxX : X = x := wx
  have hyY : Y = y := wy
  clear wx wy ex ey hX hY
  subst hxX
  subst hyY
  go_enter Try.func43, Try.ntmps43
  go_wp2_with fail
  refine (isNaN_any X false nx _).mono ?_
  rintro e w' ⟨rfl, rfl⟩
  go_wp2_with fail
  refine (isNaN_any Y false ny _).mono ?_
  rintro e w' ⟨rfl, rfl⟩
  go_wp2_with fail
  refine (ci _).mono ?_
  rintro e w' ⟨rfl, rfl⟩
  go_wp2_with fail
  refine (cj _).mono ?_
  rintro e w' ⟨rfl, rfl⟩
  go_wp2
  go_ret
  exact ⟨rfl, rfl⟩

set_option maxHeartbeats 400000 in
theorem rm_ff_B2 (x y : Nat) (hx : x < 18446744073709551616) (hy : y < 18446744073709551616) (hfx : rung x < 9218868437227405312) (hfy : rung y < 9218868437227405312) (h0x : rung x ≠ 0) (h0y : rung y ≠ 0) (hnx : negB x = false) (hny : negB y = false) (hne : rung x ≠ rung y) (hbr : 9214364837600034815 < rung y) (Z : Nat) (hZ : Z = val (rung x) % (2 * val (rung y))) (hc : val (rung y) < 2 * Z ∧ Z < val (rung y)) (w : World) :
    Calls Try.prog 43 #[.float .f64 x, .float .f64 y] w fun e w' => e = .returned (.float .f64 (remW x y)) ∧ w = w' := by
  have nx : isNan x = false := by unfold isNan; simp; omega
  have ny : isNan y = false := by unfold isNan; simp; omega
  have ix : isInf x = false := by unfold isInf; simp; omega
  have iy : isInf y = false := by unfold isInf; simp; omega
  have ci := fun w => isInf_zero x hx w
  rw [ix] at ci
  have cj := fun w => isInf_zero y hy w
  rw [iy] at cj
  have ty : ∀ _ : True, (FloatKind.f64.format.order y 0 == some Ordering.eq) = false := fun _ => y_not_zero y h0y
  have tx : ∀ _ : True, (FloatKind.f64.format.order x 0 == some Ordering.lt) = false := fun _ => (ord_lt x 0 nx nan_zero).trans (by rw [place_zero]; unfold place; rw [hnx]; simp; try omega)
  have tyl : ∀ _ : True, (FloatKind.f64.format.order y 0 == some Ordering.lt) = false := fun _ => (ord_lt y 0 ny nan_zero).trans (by rw [place_zero]; unfold place; rw [hny]; simp; try omega)
  have hout := rem_out x y Z (val_pos' _ h0y) hZ
  have hW := hout.2.1 hc.1 hc.2
  rw [hnx] at hW
  generalize remW x y = MW at *
  clear hout
  have ex := neg_num x hx
  have wx := word_of x hx
  rw [hnx] at ex wx
  have ey := neg_num y hy
  have wy := word_of y hy
  rw [hny] at ey wy
  obtain ⟨X, hX⟩ : ∃ X, X = rung x := ⟨_, rfl⟩
  obtain ⟨Y, hY⟩ : ∃ Y, Y = rung y := ⟨_, rfl⟩
  rw [← hX] at ex wx hfx hZ hne h0x
  rw [← hY] at ey wy hfy hZ hne hbr hc hW h0y
  obtain ⟨X1, X2, X3, X4⟩ := pos_rung X hfx
  obtain ⟨Y1, Y2, Y3, Y4⟩ := pos_rung Y hfy
  have hYp := val_pos' Y h0y
  have hq : place 9007199254740992 = 9007199254740992 := by decide
  have hp : place 9214364837600034815 = 9214364837600034815 := by decide
  have teq : ∀ _ : True, (FloatKind.f64.format.order X Y == some Ordering.eq) = false := fun _ => (ord_eq X Y X3 Y3).trans (by rw [X4, Y4]; simp; omega)
  have tT : ∀ _ : True, (FloatKind.f64.format.order Y 9007199254740992 == some Ordering.lt) = false := fun _ => (ord_lt Y _ Y3 (by decide)).trans (by rw [Y4, hq]; simp; omega)
  have tH : ∀ _ : True, (FloatKind.f64.format.order Y 9214364837600034815 == some Ordering.lt || FloatKind.f64.format.order Y 9214364837600034815 == some Ordering.eq) = false := fun _ => (ord_le Y _ Y3 (by decide)).trans (by rw [Y4, hp]; simp; omega)
  have hZ2 : Z < 2 * val Y := by rw [hZ]; exact Nat.mod_lt _ (by omega)
  have hXY := half_big X Y hfx (by omega)
  have aZ : val X = Z := by rw [hZ, Nat.mod_eq_of_lt hXY]
  have a1 := hfx
  obtain ⟨A1, A2, A3, A4⟩ := pos_rung X a1
  obtain ⟨h', k1, k2, k3⟩ := half_fit Y hfy (by omega)
  have rh : ∀ ty w, (binOp .mul ty (.float .f64 4602678819172646912) (.float .f64 Y)).run Try.prog w = .ok (.float .f64 h') w := fun ty w => run_float_arith w .mul ty .f64 _ Y _ k3
  obtain ⟨K1, K2, K3, K4⟩ := pos_rung h' k1
  have hlt := @val_lt_iff h' X
  have tg : ∀ _ : True, (FloatKind.f64.format.order X h' == some Ordering.gt) = true := fun _ => (ord_gt X h' A3 K3).trans (by rw [A4, K4]; simp; omega)
  obtain ⟨d, d1, d2, d3, d4⟩ := sub_near X Y a1 hfy (by omega) (by omega)
  rw [aZ] at d2 d3 d4
  have hdl : decide (Z < val Y) = true := by simp; omega
  rw [hdl] at d2
  have d5 := d4 (by omega)
  clear d3 d4 hdl
  obtain ⟨pd1, pd2⟩ := place_word true d d1
  have rs : ∀ ty w, (binOp .sub ty (.float .f64 X) (.float .f64 Y)).run Try.prog w = .ok (.float .f64 (wordD true d)) w := fun ty w => run_float_arith w .sub ty .f64 _ Y _ d2
  rw [← d5, near_val (!false) d (by omega)] at hW
  have tg2 : ∀ _ : True, (FloatKind.f64.format.order (wordD true d) h' == some Ordering.gt || FloatKind.f64.format.order (wordD true d) h' == some Ordering.eq) = false := fun _ => (ord_ge _ h' pd1 K3).trans (by
    have hk0 : h' ≠ 0 := fun g => by rw [g, val_zero] at k2; omega
    rw [pd2, K4]; simp; omega)
  have hW2 : MW = (wordD true d) := hW
  rw [hW2]
  clear hW2
  generalize wordD true d = rw' at *
  have HALL := Lib.hid (And.intro aZ (And.intro hZ2 hYp))
  clear hW aZ hZ hZ2 hYp hc hbr hne hfx hfy h0x h0y hnx hny ix iy X1 X2 X3 X4 Y1 Y2 Y3 Y4 A1 A2 A3 A4 a1 hq hp hlt k1 k2 k3 K1 K2 K3 K4 hXY d1 d2 d5 pd1 pd2
  have hxX : X = x := wx
  have hyY : Y = y := wy
  clear wx wy ex ey hX hY
  subst hxX
  subst hyY
  go_enter Try.func43, Try.ntmps43
  go_wp2_with fail
  refine (isNaN_any X false nx _).mono ?_
  rintro e w' ⟨rfl, rfl⟩
  go_wp2_with fail
  refine (isNaN_any Y false ny _).mono ?_
  rintro e w' ⟨rfl, rfl⟩
  go_wp2_with fail
  refine (ci _).mono ?_
  rintro e w' ⟨rfl, rfl⟩
  go_wp2_with fail
  refine (cj _).mono ?_
  rintro e w' ⟨rfl, rfl⟩
  go_wp2
  go_ret
  exact ⟨rfl, rfl⟩

set_option maxHeartbeats 400000 in
theorem rm_ff_B3 (x y : Nat) (hx : x < 18446744073709551616) (hy : y < 18446744073709551616) (hfx : rung x < 9218868437227405312) (hfy : rung y < 9218868437227405312) (h0x : rung x ≠ 0) (h0y : rung y ≠ 0) (hnx : negB x = false) (hny : negB y = false) (hne : rung x ≠ rung y) (hbr : 9214364837600034815 < rung y) (Z : Nat) (hZ : Z = val (rung x) % (2 * val (rung y))) (hc : val (rung y) ≤ Z ∧ 2 * (Z - val (rung y)) < val (rung y)) (w : World) :
    Calls Try.prog 43 #[.float .f64 x, .float .f64 y] w fun e w' => e = .returned (.float .f64 (remW x y)) ∧ w = w' := by
  have nx : isNan x = false := by unfold isNan; simp; omega
  have ny : isNan y = false := by unfold isNan; simp; omega
  have ix : isInf x = false := by unfold isInf; simp; omega
  have iy : isInf y = false := by unfold isInf; simp; omega
  have ci := fun w => isInf_zero x hx w
  rw [ix] at ci
  have cj := fun w => isInf_zero y hy w
  rw [iy] at cj
  have ty : ∀ _ : True, (FloatKind.f64.format.order y 0 == some Ordering.eq) = false := fun _ => y_not_zero y h0y
  have tx : ∀ _ : True, (FloatKind.f64.format.order x 0 == some Ordering.lt) = false := fun _ => (ord_lt x 0 nx nan_zero).trans (by rw [place_zero]; unfold place; rw [hnx]; simp; try omega)
  have tyl : ∀ _ : True, (FloatKind.f64.format.order y 0 == some Ordering.lt) = false := fun _ => (ord_lt y 0 ny nan_zero).trans (by rw [place_zero]; unfold place; rw [hny]; simp; try omega)
  have hout := rem_out x y Z (val_pos' _ h0y) hZ
  have hW := hout.2.2.1 hc.1 hc.2
  rw [hnx] at hW
  generalize remW x y = MW at *
  clear hout
  have ex := neg_num x hx
  have wx := word_of x hx
  rw [hnx] at ex wx
  have ey := neg_num y hy
  have wy := word_of y hy
  rw [hny] at ey wy
  obtain ⟨X, hX⟩ : ∃ X, X = rung x := ⟨_, rfl⟩
  obtain ⟨Y, hY⟩ : ∃ Y, Y = rung y := ⟨_, rfl⟩
  rw [← hX] at ex wx hfx hZ hne h0x
  rw [← hY] at ey wy hfy hZ hne hbr hc hW h0y
  obtain ⟨X1, X2, X3, X4⟩ := pos_rung X hfx
  obtain ⟨Y1, Y2, Y3, Y4⟩ := pos_rung Y hfy
  have hYp := val_pos' Y h0y
  have hq : place 9007199254740992 = 9007199254740992 := by decide
  have hp : place 9214364837600034815 = 9214364837600034815 := by decide
  have teq : ∀ _ : True, (FloatKind.f64.format.order X Y == some Ordering.eq) = false := fun _ => (ord_eq X Y X3 Y3).trans (by rw [X4, Y4]; simp; omega)
  have tT : ∀ _ : True, (FloatKind.f64.format.order Y 9007199254740992 == some Ordering.lt) = false := fun _ => (ord_lt Y _ Y3 (by decide)).trans (by rw [Y4, hq]; simp; omega)
  have tH : ∀ _ : True, (FloatKind.f64.format.order Y 9214364837600034815 == some Ordering.lt || FloatKind.f64.format.order Y 9214364837600034815 == some Ordering.eq) = false := fun _ => (ord_le Y _ Y3 (by decide)).trans (by rw [Y4, hp]; simp; omega)
  have hZ2 : Z < 2 * val Y := by rw [hZ]; exact Nat.mod_lt _ (by omega)
  have hXY := half_big X Y hfx (by omega)
  have aZ : val X = Z := by rw [hZ, Nat.mod_eq_of_lt hXY]
  have a1 := hfx
  obtain ⟨A1, A2, A3, A4⟩ := pos_rung X a1
  obtain ⟨h', k1, k2, k3⟩ := half_fit Y hfy (by omega)
  have rh : ∀ ty w, (binOp .mul ty (.float .f64 4602678819172646912) (.float .f64 Y)).run Try.prog w = .ok (.float .f64 h') w := fun ty w => run_float_arith w .mul ty .f64 _ Y _ k3
  obtain ⟨K1, K2, K3, K4⟩ := pos_rung h' k1
  have hlt := @val_lt_iff h' X
  have tg : ∀ _ : True, (FloatKind.f64.format.order X h' == some Ordering.gt) = true := fun _ => (ord_gt X h' A3 K3).trans (by rw [A4, K4]; simp; omega)
  obtain ⟨d, d1, d2, d3, d4⟩ := sub_near X Y a1 hfy (by omega) (by omega)
  rw [aZ] at d2 d3 d4
  have hdl : decide (Z < val Y) = false := by simp; omega
  rw [hdl] at d2
  have d5 := d3 (by omega)
  clear d3 d4 hdl
  obtain ⟨D1, D2, D3, D4⟩ := pos_rung d d1
  have rs : ∀ ty w, (binOp .sub ty (.float .f64 X) (.float .f64 Y)).run Try.prog w = .ok (.float .f64 d) w := fun ty w => run_float_arith w .sub ty .f64 _ Y _ d2
  have hlt2 := @val_lt_iff d h'
  have tg2 : ∀ _ : True, (FloatKind.f64.format.order d h' == some Ordering.gt || FloatKind.f64.format.order d h' == some Ordering.eq) = false := fun _ => (ord_ge _ h' D3 K3).trans (by rw [D4, K4]; simp; omega)
  rw [← d5, near_val false d (by omega)] at hW
  have hW2 : MW = d := hW
  rw [hW2]
  clear hW2
  have HALL := Lib.hid (And.intro aZ (And.intro hZ2 hYp))
  clear hW aZ hZ hZ2 hYp hc hbr hne hfx hfy h0x h0y hnx hny ix iy X1 X2 X3 X4 Y1 Y2 Y3 Y4 A1 A2 A3 A4 a1 hq hp hlt k1 k2 k3 K1 K2 K3 K4 hXY d1 d2 d5 D1 D2 D3 D4 hlt2
  have hxX : X = x := wx
  have hyY : Y = y := wy
  clear wx wy ex ey hX hY
  subst hxX
  subst hyY
  go_enter Try.func43, Try.ntmps43
  go_wp2_with fail
  refine (isNaN_any X false nx _).mono ?_
  rintro e w' ⟨rfl, rfl⟩
  go_wp2_with fail
  refine (isNaN_any Y false ny _).mono ?_
  rintro e w' ⟨rfl, rfl⟩
  go_wp2_with fail
  refine (ci _).mono ?_
  rintro e w' ⟨rfl, rfl⟩
  go_wp2_with fail
  refine (cj _).mono ?_
  rintro e w' ⟨rfl, rfl⟩
  go_wp2
  go_ret
  exact ⟨rfl, rfl⟩

set_option maxHeartbeats 400000 in
theorem rm_ff_B4 (x y : Nat) (hx : x < 18446744073709551616) (hy : y < 18446744073709551616) (hfx : rung x < 9218868437227405312) (hfy : rung y < 9218868437227405312) (h0x : rung x ≠ 0) (h0y : rung y ≠ 0) (hnx : negB x = false) (hny : negB y = false) (hne : rung x ≠ rung y) (hbr : 9214364837600034815 < rung y) (Z : Nat) (hZ : Z = val (rung x) % (2 * val (rung y))) (hc : val (rung y) ≤ Z ∧ val (rung y) ≤ 2 * (Z - val (rung y))) (w : World) :
    Calls Try.prog 43 #[.float .f64 x, .float .f64 y] w fun e w' => e = .returned (.float .f64 (remW x y)) ∧ w = w' := by
  have nx : isNan x = false := by unfold isNan; simp; omega
  have ny : isNan y = false := by unfold isNan; simp; omega
  have ix : isInf x = false := by unfold isInf; simp; omega
  have iy : isInf y = false := by unfold isInf; simp; omega
  have ci := fun w => isInf_zero x hx w
  rw [ix] at ci
  have cj := fun w => isInf_zero y hy w
  rw [iy] at cj
  have ty : ∀ _ : True, (FloatKind.f64.format.order y 0 == some Ordering.eq) = false := fun _ => y_not_zero y h0y
  have tx : ∀ _ : True, (FloatKind.f64.format.order x 0 == some Ordering.lt) = false := fun _ => (ord_lt x 0 nx nan_zero).trans (by rw [place_zero]; unfold place; rw [hnx]; simp; try omega)
  have tyl : ∀ _ : True, (FloatKind.f64.format.order y 0 == some Ordering.lt) = false := fun _ => (ord_lt y 0 ny nan_zero).trans (by rw [place_zero]; unfold place; rw [hny]; simp; try omega)
  have hout := rem_out x y Z (val_pos' _ h0y) hZ
  have hW := hout.2.2.2 hc.1 hc.2
  rw [hnx] at hW
  generalize remW x y = MW at *
  clear hout
  have ex := neg_num x hx
  have wx := word_of x hx
  rw [hnx] at ex wx
  have ey := neg_num y hy
  have wy := word_of y hy
  rw [hny] at ey wy
  obtain ⟨X, hX⟩ : ∃ X, X = rung x := ⟨_, rfl⟩
  obtain ⟨Y, hY⟩ : ∃ Y, Y = rung y := ⟨_, rfl⟩
  rw [← hX] at ex wx hfx hZ hne h0x
  rw [← hY] at ey wy hfy hZ hne hbr hc hW h0y
  obtain ⟨X1, X2, X3, X4⟩ := pos_rung X hfx
  obtain ⟨Y1, Y2, Y3, Y4⟩ := pos_rung Y hfy
  have hYp := val_pos' Y h0y
  have hq : place 9007199254740992 = 9007199254740992 := by decide
  have hp : place 9214364837600034815 = 9214364837600034815 := by decide
  have teq : ∀ _ : True, (FloatKind.f64.format.order X Y == some Ordering.eq) = false := fun _ => (ord_eq X Y X3 Y3).trans (by rw [X4, Y4]; simp; omega)
  have tT : ∀ _ : True, (FloatKind.f64.format.order Y 9007199254740992 == some Ordering.lt) = false := fun _ => (ord_lt Y _ Y3 (by decide)).trans (by rw [Y4, hq]; simp; omega)
  have tH : ∀ _ : True, (FloatKind.f64.format.order Y 9214364837600034815 == some Ordering.lt || FloatKind.f64.format.order Y 9214364837600034815 == some Ordering.eq) = false := fun _ => (ord_le Y _ Y3 (by decide)).trans (by rw [Y4, hp]; simp; omega)
  have hZ2 : Z < 2 * val Y := by rw [hZ]; exact Nat.mod_lt _ (by omega)
  have hXY := half_big X Y hfx (by omega)
  have aZ : val X = Z := by rw [hZ, Nat.mod_eq_of_lt hXY]
  have a1 := hfx
  obtain ⟨A1, A2, A3, A4⟩ := pos_rung X a1
  obtain ⟨h', k1, k2, k3⟩ := half_fit Y hfy (by omega)
  have rh : ∀ ty w, (binOp .mul ty (.float .f64 4602678819172646912) (.float .f64 Y)).run Try.prog w = .ok (.float .f64 h') w := fun ty w => run_float_arith w .mul ty .f64 _ Y _ k3
  obtain ⟨K1, K2, K3, K4⟩ := pos_rung h' k1
  have hlt := @val_lt_iff h' X
  have tg : ∀ _ : True, (FloatKind.f64.format.order X h' == some Ordering.gt) = true := fun _ => (ord_gt X h' A3 K3).trans (by rw [A4, K4]; simp; omega)
  obtain ⟨d, d1, d2, d3, d4⟩ := sub_near X Y a1 hfy (by omega) (by omega)
  rw [aZ] at d2 d3 d4
  have hdl : decide (Z < val Y) = false := by simp; omega
  rw [hdl] at d2
  have d5 := d3 (by omega)
  clear d3 d4 hdl
  obtain ⟨D1, D2, D3, D4⟩ := pos_rung d d1
  have rs : ∀ ty w, (binOp .sub ty (.float .f64 X) (.float .f64 Y)).run Try.prog w = .ok (.float .f64 d) w := fun ty w => run_float_arith w .sub ty .f64 _ Y _ d2
  have hlt2 := @val_lt_iff d h'
  have tg2 : ∀ _ : True, (FloatKind.f64.format.order d h' == some Ordering.gt || FloatKind.f64.format.order d h' == some Ordering.eq) = true := fun _ => (ord_ge _ h' D3 K3).trans (by rw [D4, K4]; simp; omega)
  obtain ⟨g, g1, g2, g3, g4⟩ := sub_near d Y d1 hfy (by omega) (by omega)
  rw [d5] at g2 g3 g4
  have hgl : decide (Z - val Y < val Y) = true := by simp; omega
  rw [hgl] at g2
  have g5 := g4 (by omega)
  have rs2 : ∀ ty w, (binOp .sub ty (.float .f64 d) (.float .f64 Y)).run Try.prog w = .ok (.float .f64 (wordD true g)) w := fun ty w => run_float_arith w .sub ty .f64 _ Y _ g2
  rw [← g5, near_val (!false) g (by omega)] at hW
  clear g3 g4 hgl g2
  have hW2 : MW = (wordD true g) := hW
  rw [hW2]
  clear hW2
  generalize wordD true g = rw' at *
  have HALL := Lib.hid (And.intro aZ (And.intro hZ2 hYp))
  clear hW aZ hZ hZ2 hYp hc hbr hne hfx hfy h0x h0y hnx hny ix iy X1 X2 X3 X4 Y1 Y2 Y3 Y4 A1 A2 A3 A4 a1 hq hp hlt k1 k2 k3 K1 K2 K3 K4 hXY d1 d2 d5 D1 D2 D3 D4 hlt2 g1 g5
  have hxX : X = x := wx
  have hyY : Y = y := wy
  clear wx wy ex ey hX hY
  subst hxX
  subst hyY
  go_enter Try.func43, Try.ntmps43
  go_wp2_with fail
  refine (isNaN_any X false nx _).mono ?_
  rintro e w' ⟨rfl, rfl⟩
  go_wp2_with fail
  refine (isNaN_any Y false ny _).mono ?_
  rintro e w' ⟨rfl, rfl⟩
  go_wp2_with fail
  refine (ci _).mono ?_
  rintro e w' ⟨rfl, rfl⟩
  go_wp2_with fail
  refine (cj _).mono ?_
  rintro e w' ⟨rfl, rfl⟩
  go_wp2
  go_ret
  exact ⟨rfl, rfl⟩

end Go.Proofs.Ytbpggopjiogimaa
