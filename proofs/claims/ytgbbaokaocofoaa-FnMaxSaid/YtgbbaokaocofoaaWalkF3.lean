/- The contracts of the reference's Place and Next (64 bits) and of the package's Nextafter: by the bits. -/
import Derived.Test.YtgbbaokaocofoaaWalkF2
import Derived.Test.YtgbbaokaocofoaaFOrd
set_option linter.unusedVariables false
namespace Go.Proofs.Ytgbbaokaocofoaa
open Go.RowKit Go.Proofs.Ytgbbaokaocofoaa.Plain

set_option maxHeartbeats 400000 in
theorem place_any (b : Nat) (hb : b < 18446744073709551616) (w : World) :
    Calls Try.prog 15 #[.int .u64 (b : Int), .int .i64 64] w fun e w' => e = .returned (.int .i64 (place b)) ∧ w = w' := by
  have e := place_num b hb
  generalize place b = p at e ⊢
  by_cases h : 9223372036854775808 ≤ b
  · rw [if_pos h] at e
    have t1 : ∀ _ : True, decide ((9223372036854775808 : Int) ≤ (b : Int)) = true := fun _ => by simp; omega
    have r1 : ∀ _ : True, IntKind.u64.wrap ((b : Int) - 9223372036854775808) = ((b - 9223372036854775808 : Nat) : Int) := fun _ => sub_topN b hb h
    obtain ⟨q, hq⟩ : ∃ q, q = b - 9223372036854775808 := ⟨_, rfl⟩
    rw [← hq] at r1
    have r2 : ∀ _ : True, wrap64 (q : Int) = (q : Int) := fun _ => by unfold wrap64; omega
    have r3 : ∀ _ : True, wrap64 (-(q : Int)) = p := fun _ => by unfold wrap64; omega
    have r4 : ∀ _ : True, wrap64 (0 - (q : Int)) = p := fun _ => by unfold wrap64; omega
    clear e h hb hq
    go_enter Try.func15, Try.ntmps15
    go_wp2
    go_ret
    exact ⟨ret_int (r3 trivial), rfl⟩
  rw [if_neg h] at e
  have t1 : ∀ _ : True, decide ((9223372036854775808 : Int) ≤ (b : Int)) = false := fun _ => by simp; omega
  have r2 : ∀ _ : True, wrap64 (b : Int) = p := fun _ => by unfold wrap64; omega
  clear e h hb
  go_enter Try.func15, Try.ntmps15
  go_wp2
  go_ret
  exact ⟨ret_int (r2 trivial), rfl⟩

set_option maxHeartbeats 400000 in
theorem na_nanx (x y : Nat) (hx : x < 18446744073709551616) (hy : y < 18446744073709551616) (nx : isNan x = true) (w : World) :
    Calls Try.prog 26 #[.float .f64 x, .float .f64 y] w fun e w' => e = .returned (.float .f64 9221120237041090561) ∧ w = w' := by
  go_enter Try.func26, Try.ntmps26
  go_wp2_with (first | (go_at_call 32; refine (isNaN_any _ _ (by assumption) _).mono ?_; rintro e w' ⟨rfl, rfl⟩) | (go_at_call 34; refine (nanOf_any _).mono ?_; rintro e w' ⟨rfl, rfl⟩))
  go_ret
  exact ⟨rfl, rfl⟩

set_option maxHeartbeats 400000 in
theorem na_nany (x y : Nat) (hx : x < 18446744073709551616) (hy : y < 18446744073709551616) (nx : isNan x = false) (ny : isNan y = true) (w : World) :
    Calls Try.prog 26 #[.float .f64 x, .float .f64 y] w fun e w' => e = .returned (.float .f64 9221120237041090561) ∧ w = w' := by
  go_enter Try.func26, Try.ntmps26
  go_wp2_with (first | (go_at_call 32; refine (isNaN_any _ _ (by assumption) _).mono ?_; rintro e w' ⟨rfl, rfl⟩) | (go_at_call 34; refine (nanOf_any _).mono ?_; rintro e w' ⟨rfl, rfl⟩))
  go_ret
  exact ⟨rfl, rfl⟩

set_option maxHeartbeats 400000 in
theorem na_eq (x y : Nat) (hx : x < 18446744073709551616) (hy : y < 18446744073709551616) (nx : isNan x = false) (ny : isNan y = false) (h : place x = place y) (w : World) :
    Calls Try.prog 26 #[.float .f64 x, .float .f64 y] w fun e w' => e = .returned (.float .f64 x) ∧ w = w' := by
  have t1 : ∀ _ : True, _ = true := fun _ => (ord_eq x y nx ny).trans (by simpa using h)
  clear h
  go_enter Try.func26, Try.ntmps26
  go_wp2_with (first | (go_at_call 32; refine (isNaN_any _ _ (by assumption) _).mono ?_; rintro e w' ⟨rfl, rfl⟩) | (go_at_call 34; refine (nanOf_any _).mono ?_; rintro e w' ⟨rfl, rfl⟩))
  go_ret
  exact ⟨rfl, rfl⟩

set_option maxHeartbeats 400000 in
theorem na_zero (x y : Nat) (hx : x < 18446744073709551616) (hy : y < 18446744073709551616) (nx : isNan x = false) (ny : isNan y = false) (h : place x ≠ place y) (h0 : rung x = 0) (w : World) :
    Calls Try.prog 26 #[.float .f64 x, .float .f64 y] w fun e w' => e = .returned (.float .f64 (wordD (negB y) 1)) ∧ w = w' := by
  have t1 : ∀ _ : True, _ = false := fun _ => (ord_eq x y nx ny).trans (by simpa using h)
  have t2 : ∀ _ : True, _ = true := fun _ => (ord_eq x 0 nx nan_zero).trans (by rw [place_zero]; simpa using (place_eq_zero x).2 h0)
  have c := fun w => copysign_any 1 y (by omega) hy w
  have f1 := fun w => frombits_any 1 w
  rw [show rung 1 = 1 by decide] at c
  generalize wordD (negB y) 1 = v at c ⊢
  clear h h0
  go_enter Try.func26, Try.ntmps26
  go_wp2_with (first | (go_at_call 32; refine (isNaN_any _ _ (by assumption) _).mono ?_; rintro e w' ⟨rfl, rfl⟩) | (go_at_call 34; refine (nanOf_any _).mono ?_; rintro e w' ⟨rfl, rfl⟩) | (go_at_call 35; refine (c _).mono ?_; rintro e w' ⟨rfl, rfl⟩) | (go_at_call 38; refine (f1 _).mono ?_; rintro e w' ⟨rfl, rfl⟩))
  go_ret
  exact ⟨rfl, rfl⟩

set_option maxHeartbeats 400000 in
theorem na_up (x y : Nat) (hx : x < 18446744073709551616) (hy : y < 18446744073709551616) (nx : isNan x = false) (ny : isNan y = false) (h : place x ≠ place y) (h0 : rung x ≠ 0) (hg : decide (place x < place y) = !negB x) (w : World) :
    Calls Try.prog 26 #[.float .f64 x, .float .f64 y] w fun e w' => e = .returned (.float .f64 (x + 1)) ∧ w = w' := by
  have t1 : ∀ _ : True, _ = false := fun _ => (ord_eq x y nx ny).trans (by simpa using h)
  have t2 : ∀ _ : True, _ = false := fun _ => (ord_eq x 0 nx nan_zero).trans (by rw [place_zero]; simpa using fun g => h0 ((place_eq_zero x).1 g))
  have e3 := ord_gt y x ny nx
  have e4 := ord_gt x 0 nx nan_zero
  rw [place_zero, place_pos x h0] at e4
  rw [hg] at e3
  generalize (!negB x) = u at e3 e4 hg
  have r5 : ∀ _ : True, IntKind.u64.wrap ((x : Int) + 1) = ((x + 1 : Nat) : Int) := fun _ => add_oneN x (next_lt x hx nx)
  obtain ⟨z, hz⟩ : ∃ z, z = x + 1 := ⟨_, rfl⟩
  rw [← hz] at r5 ⊢
  clear hz
  have t3 : ∀ _ : True, _ = _ := fun _ => e3
  have t4 : ∀ _ : True, _ = _ := fun _ => e4
  clear h h0 e3 e4 hg
  cases u <;>
  go_enter Try.func26, Try.ntmps26
  go_wp2_with (first | (go_at_call 32; refine (isNaN_any _ _ (by assumption) _).mono ?_; rintro e w' ⟨rfl, rfl⟩) | (go_at_call 37; refine (bits_any _ _).mono ?_; rintro e w' ⟨rfl, rfl⟩) | (go_at_call 38; refine (frombits_any _ _).mono ?_; rintro e w' ⟨rfl, rfl⟩))
  all_goals go_ret
  all_goals exact ⟨rfl, rfl⟩

set_option maxHeartbeats 400000 in
theorem na_down (x y : Nat) (hx : x < 18446744073709551616) (hy : y < 18446744073709551616) (nx : isNan x = false) (ny : isNan y = false) (h : place x ≠ place y) (h0 : rung x ≠ 0) (hg : ¬ decide (place x < place y) = !negB x) (w : World) :
    Calls Try.prog 26 #[.float .f64 x, .float .f64 y] w fun e w' => e = .returned (.float .f64 (x - 1)) ∧ w = w' := by
  have t1 : ∀ _ : True, _ = false := fun _ => (ord_eq x y nx ny).trans (by simpa using h)
  have t2 : ∀ _ : True, _ = false := fun _ => (ord_eq x 0 nx nan_zero).trans (by rw [place_zero]; simpa using fun g => h0 ((place_eq_zero x).1 g))
  have e3 := ord_gt y x ny nx
  have e4 := ord_gt x 0 nx nan_zero
  rw [place_zero, place_pos x h0] at e4
  generalize (!negB x) = u at e4 hg
  generalize decide (place x < place y) = u2 at e3 hg
  have hu : u2 = !u := by cases u <;> cases u2 <;> simp at hg ⊢
  subst hu
  have r5 : ∀ _ : True, IntKind.u64.wrap ((x : Int) - 1) = ((x - 1 : Nat) : Int) := fun _ => sub_oneN x hx (by unfold rung at h0; omega)
  obtain ⟨z, hz⟩ : ∃ z, z = x - 1 := ⟨_, rfl⟩
  rw [← hz] at r5 ⊢
  clear hz
  have t3 : ∀ _ : True, _ = _ := fun _ => e3
  have t4 : ∀ _ : True, _ = _ := fun _ => e4
  clear h h0 e3 e4 hg
  cases u <;>
  go_enter Try.func26, Try.ntmps26
  go_wp2_with (first | (go_at_call 32; refine (isNaN_any _ _ (by assumption) _).mono ?_; rintro e w' ⟨rfl, rfl⟩) | (go_at_call 37; refine (bits_any _ _).mono ?_; rintro e w' ⟨rfl, rfl⟩) | (go_at_call 38; refine (frombits_any _ _).mono ?_; rintro e w' ⟨rfl, rfl⟩))
  all_goals go_ret
  all_goals exact ⟨rfl, rfl⟩

theorem nextafter_any (x y : Nat) (hx : x < 18446744073709551616) (hy : y < 18446744073709551616) (w : World) :
    Calls Try.prog 26 #[.float .f64 x, .float .f64 y] w fun e w' => e = .returned (.float .f64 (nextW x y)) ∧ w = w' := by
  unfold nextW
  cases nx : isNan x
  · cases ny : isNan y
    · simp only [Bool.or_self, Bool.false_eq_true, if_false]
      split
      · exact na_eq x y hx hy nx ny (by assumption) w
      · split
        · exact na_zero x y hx hy nx ny (by assumption) (by assumption) w
        · split
          · exact na_up x y hx hy nx ny (by assumption) (by assumption) (by assumption) w
          · exact na_down x y hx hy nx ny (by assumption) (by assumption) (by assumption) w
    · exact na_nany x y hx hy nx ny w
  · exact na_nanx x y hx hy nx w

set_option maxHeartbeats 400000 in
theorem i_nextafter (x y : Nat) (hx : x < 18446744073709551616) (hy : y < 18446744073709551616) (w : World) :
    Calls Try.prog 14 #[.int .u64 (x : Int), .int .u64 (y : Int)] w fun e w' => e = .returned (.int .u64 (nextW x y : Int)) ∧ w = w' := by
  go_enter Try.func14, Try.ntmps14
  go_wp2_with (first | (go_at_call 27; refine (float_any _ _).mono ?_; rintro e w' ⟨rfl, rfl⟩) | (go_at_call 25; refine (bitsOf_any _ _).mono ?_; rintro e w' ⟨rfl, rfl⟩) | (go_at_call 26; refine (nextafter_any _ _ hx hy _).mono ?_; rintro e w' ⟨rfl, rfl⟩))
  go_ret
  exact ⟨rfl, rfl⟩

set_option maxHeartbeats 400000 in
theorem nx_eq (x y : Nat) (hx : x < 18446744073709551616) (hy : y < 18446744073709551616) (nx : isNan x = false) (ny : isNan y = false) (h : place x = place y) (w : World) :
    Calls Try.prog 13 #[.int .u64 (x : Int), .int .u64 (y : Int), .int .i64 64] w fun e w' => e = .returned (.int .u64 (x : Int)) ∧ w = w' := by
  have e0 := low63 x
  have t1 : ∀ _ : True, (place x == place y) = true := fun _ => by simpa using h
  clear e0 h
  go_enter Try.func13, Try.ntmps13
  go_wp2_with (first | (go_at_call 15; refine (place_any _ (by assumption) _).mono ?_; rintro e w' ⟨rfl, rfl⟩))
  all_goals go_ret
  all_goals exact ⟨rfl, rfl⟩

set_option maxHeartbeats 400000 in
theorem nx_zup (x y : Nat) (hx : x < 18446744073709551616) (hy : y < 18446744073709551616) (nx : isNan x = false) (ny : isNan y = false) (h : place x ≠ place y) (h0 : rung x = 0) (hg : place x < place y) (w : World) :
    Calls Try.prog 13 #[.int .u64 (x : Int), .int .u64 (y : Int), .int .i64 64] w fun e w' => e = .returned (.int .u64 1) ∧ w = w' := by
  have e0 := low63 x
  have t1 : ∀ _ : True, (place x == place y) = false := fun _ => by simpa using h
  have t2 : ∀ _ : True, ((rung x : Int) == 0) = true := fun _ => by simp [h0]
  have t3 : ∀ _ : True, decide (place x < place y) = true := fun _ => by simpa using hg
  clear h0 hg
  have r0 : ∀ _ : True, _ = _ := fun _ => e0
  generalize rung x = r at r0 t2
  clear e0 h
  go_enter Try.func13, Try.ntmps13
  go_wp2_with (first | (go_at_call 15; refine (place_any _ (by assumption) _).mono ?_; rintro e w' ⟨rfl, rfl⟩))
  all_goals go_ret
  all_goals exact ⟨rfl, rfl⟩

set_option maxHeartbeats 400000 in
theorem nx_zdn (x y : Nat) (hx : x < 18446744073709551616) (hy : y < 18446744073709551616) (nx : isNan x = false) (ny : isNan y = false) (h : place x ≠ place y) (h0 : rung x = 0) (hg : ¬ place x < place y) (w : World) :
    Calls Try.prog 13 #[.int .u64 (x : Int), .int .u64 (y : Int), .int .i64 64] w fun e w' => e = .returned (.int .u64 9223372036854775809) ∧ w = w' := by
  have e0 := low63 x
  have t1 : ∀ _ : True, (place x == place y) = false := fun _ => by simpa using h
  have t2 : ∀ _ : True, ((rung x : Int) == 0) = true := fun _ => by simp [h0]
  have t3 : ∀ _ : True, decide (place x < place y) = false := fun _ => by simpa using hg
  clear h0 hg
  have r0 : ∀ _ : True, _ = _ := fun _ => e0
  generalize rung x = r at r0 t2
  clear e0 h
  go_enter Try.func13, Try.ntmps13
  go_wp2_with (first | (go_at_call 15; refine (place_any _ (by assumption) _).mono ?_; rintro e w' ⟨rfl, rfl⟩))
  all_goals go_ret
  all_goals exact ⟨rfl, rfl⟩

set_option maxHeartbeats 400000 in
theorem nx_up (x y : Nat) (hx : x < 18446744073709551616) (hy : y < 18446744073709551616) (nx : isNan x = false) (ny : isNan y = false) (h : place x ≠ place y) (h0 : rung x ≠ 0) (hg : decide (place x < place y) = !negB x) (w : World) :
    Calls Try.prog 13 #[.int .u64 (x : Int), .int .u64 (y : Int), .int .i64 64] w fun e w' => e = .returned (.int .u64 ((x + 1 : Nat) : Int)) ∧ w = w' := by
  have e0 := low63 x
  have t1 : ∀ _ : True, (place x == place y) = false := fun _ => by simpa using h
  have t2 : ∀ _ : True, ((rung x : Int) == 0) = false := fun _ => by simp [h0]
  have n0 : decide ((x : Int) < 9223372036854775808) = !negB x := by rw [negB_iff x hx]; by_cases g : 9223372036854775808 ≤ x <;> simp [g] <;> omega
  generalize (!negB x) = u at n0 hg
  have t3 : ∀ _ : True, _ = _ := fun _ => hg
  have t4 : ∀ _ : True, _ = _ := fun _ => n0
  have r5 : ∀ _ : True, IntKind.u64.wrap ((x : Int) + 1) = ((x + 1 : Nat) : Int) := fun _ => add_oneN x (next_lt x hx nx)
  obtain ⟨z, hz⟩ : ∃ z, z = x + 1 := ⟨_, rfl⟩
  rw [← hz] at r5 ⊢
  clear hz h0 hg n0
  have r0 : ∀ _ : True, _ = _ := fun _ => e0
  generalize rung x = r at r0 t2
  clear e0 h
  go_enter Try.func13, Try.ntmps13
  cases u <;>
  go_wp2_with (first | (go_at_call 15; refine (place_any _ (by assumption) _).mono ?_; rintro e w' ⟨rfl, rfl⟩))
  all_goals go_ret
  all_goals exact ⟨rfl, rfl⟩

set_option maxHeartbeats 400000 in
theorem nx_down (x y : Nat) (hx : x < 18446744073709551616) (hy : y < 18446744073709551616) (nx : isNan x = false) (ny : isNan y = false) (h : place x ≠ place y) (h0 : rung x ≠ 0) (hg : ¬ decide (place x < place y) = !negB x) (w : World) :
    Calls Try.prog 13 #[.int .u64 (x : Int), .int .u64 (y : Int), .int .i64 64] w fun e w' => e = .returned (.int .u64 ((x - 1 : Nat) : Int)) ∧ w = w' := by
  have e0 := low63 x
  have t1 : ∀ _ : True, (place x == place y) = false := fun _ => by simpa using h
  have t2 : ∀ _ : True, ((rung x : Int) == 0) = false := fun _ => by simp [h0]
  have n0 : decide ((x : Int) < 9223372036854775808) = !negB x := by rw [negB_iff x hx]; by_cases g : 9223372036854775808 ≤ x <;> simp [g] <;> omega
  generalize (!negB x) = u at n0 hg
  obtain ⟨u2, hu2⟩ : ∃ u2, u2 = decide (place x < place y) := ⟨_, rfl⟩
  rw [← hu2] at hg
  have hu : u2 = !u := by cases u <;> cases u2 <;> simp at hg ⊢
  have t3 : ∀ _ : True, decide (place x < place y) = !u := fun _ => by rw [← hu2, hu]
  have t4 : ∀ _ : True, _ = _ := fun _ => n0
  have r5 : ∀ _ : True, IntKind.u64.wrap ((x : Int) - 1) = ((x - 1 : Nat) : Int) := fun _ => sub_oneN x hx (by unfold rung at h0; omega)
  obtain ⟨z, hz⟩ : ∃ z, z = x - 1 := ⟨_, rfl⟩
  rw [← hz] at r5 ⊢
  clear hz h0 hg n0 hu hu2 u2
  have r0 : ∀ _ : True, _ = _ := fun _ => e0
  generalize rung x = r at r0 t2
  clear e0 h
  go_enter Try.func13, Try.ntmps13
  cases u <;>
  go_wp2_with (first | (go_at_call 15; refine (place_any _ (by assumption) _).mono ?_; rintro e w' ⟨rfl, rfl⟩))
  all_goals go_ret
  all_goals exact ⟨rfl, rfl⟩

theorem next_any (x y : Nat) (hx : x < 18446744073709551616) (hy : y < 18446744073709551616) (nx : isNan x = false) (ny : isNan y = false) (w : World) :
    Calls Try.prog 13 #[.int .u64 (x : Int), .int .u64 (y : Int), .int .i64 64] w fun e w' => e = .returned (.int .u64 (nextW x y : Int)) ∧ w = w' := by
  unfold nextW
  rw [nx, ny]
  simp only [Bool.or_self, Bool.false_eq_true, if_false]
  split
  · exact nx_eq x y hx hy nx ny (by assumption) w
  · split
    · rename_i h h0
      have hp := (place_eq_zero x).2 h0
      by_cases hg : place x < place y
      · have : negB y = false := by unfold place at hg hp; cases g : negB y <;> simp [g] at hg ⊢ <;> omega
        rw [this]
        exact nx_zup x y hx hy nx ny (by assumption) (by assumption) hg w
      · have : negB y = true := by unfold place at hg hp h; cases g : negB y <;> simp [g] at hg h ⊢ <;> omega
        rw [this]
        exact nx_zdn x y hx hy nx ny (by assumption) (by assumption) hg w
    · split
      · exact nx_up x y hx hy nx ny (by assumption) (by assumption) (by assumption) w
      · exact nx_down x y hx hy nx ny (by assumption) (by assumption) (by assumption) w

end Go.Proofs.Ytgbbaokaocofoaa
