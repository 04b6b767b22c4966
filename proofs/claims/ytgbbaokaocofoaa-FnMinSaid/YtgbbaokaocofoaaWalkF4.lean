/- The contracts of the package's max and min and of what calls them: by the bits. -/
import Derived.Test.YtgbbaokaocofoaaWalkF3
import Derived.Test.YtgbbaokaocofoaaFMax
set_option linter.unusedVariables false
namespace Go.Proofs.Ytgbbaokaocofoaa
open Go.RowKit Go.Proofs.Ytgbbaokaocofoaa.Plain

set_option maxHeartbeats 400000 in
theorem isInf_mx (b : Nat) (hb : b < 18446744073709551616) (v : Bool) (hv : decide (b = 9218868437227405312) = v) (w : World) :
    Calls Try.prog 31 #[.float .f64 b, .int .i64 1] w fun e w' => e = .returned (.bool v) ∧ w = w' := by
  have c := isInf_pos b hb (1) (by decide) w
  rw [isInfS_one b hb, hv] at c
  exact c

set_option maxHeartbeats 400000 in
theorem mx_infx (x y : Nat) (hx : x < 18446744073709551616) (hy : y < 18446744073709551616) (ix : decide (x = 9218868437227405312) = true) (w : World) :
    Calls Try.prog 39 #[.float .f64 x, .float .f64 y] w fun e w' => e = .returned (.float .f64 9218868437227405312) ∧ w = w' := by
  go_enter Try.func39, Try.ntmps39
  go_wp2_with (first | (go_at_call 31; refine (isInf_mx _ (by assumption) _ (by assumption) _).mono ?_; rintro e w' ⟨rfl, rfl⟩) | (go_at_call 30; refine (inf_pos 1 (by decide) _).mono ?_; rintro e w' ⟨rfl, rfl⟩))
  go_ret
  exact ⟨rfl, rfl⟩

set_option maxHeartbeats 400000 in
theorem mx_infy (x y : Nat) (hx : x < 18446744073709551616) (hy : y < 18446744073709551616) (ix : decide (x = 9218868437227405312) = false) (iy : decide (y = 9218868437227405312) = true) (w : World) :
    Calls Try.prog 39 #[.float .f64 x, .float .f64 y] w fun e w' => e = .returned (.float .f64 9218868437227405312) ∧ w = w' := by
  go_enter Try.func39, Try.ntmps39
  go_wp2_with (first | (go_at_call 31; refine (isInf_mx _ (by assumption) _ (by assumption) _).mono ?_; rintro e w' ⟨rfl, rfl⟩) | (go_at_call 30; refine (inf_pos 1 (by decide) _).mono ?_; rintro e w' ⟨rfl, rfl⟩))
  go_ret
  exact ⟨rfl, rfl⟩

set_option maxHeartbeats 400000 in
theorem mx_nanx (x y : Nat) (hx : x < 18446744073709551616) (hy : y < 18446744073709551616) (ix : decide (x = 9218868437227405312) = false) (iy : decide (y = 9218868437227405312) = false) (nx : isNan x = true) (w : World) :
    Calls Try.prog 39 #[.float .f64 x, .float .f64 y] w fun e w' => e = .returned (.float .f64 9221120237041090561) ∧ w = w' := by
  go_enter Try.func39, Try.ntmps39
  go_wp2_with (first | (go_at_call 31; refine (isInf_mx _ (by assumption) _ (by assumption) _).mono ?_; rintro e w' ⟨rfl, rfl⟩) | (go_at_call 32; refine (isNaN_any _ _ (by assumption) _).mono ?_; rintro e w' ⟨rfl, rfl⟩) | (go_at_call 34; refine (nanOf_any _).mono ?_; rintro e w' ⟨rfl, rfl⟩))
  go_ret
  exact ⟨rfl, rfl⟩

set_option maxHeartbeats 400000 in
theorem mx_nany (x y : Nat) (hx : x < 18446744073709551616) (hy : y < 18446744073709551616) (ix : decide (x = 9218868437227405312) = false) (iy : decide (y = 9218868437227405312) = false) (nx : isNan x = false) (ny : isNan y = true) (w : World) :
    Calls Try.prog 39 #[.float .f64 x, .float .f64 y] w fun e w' => e = .returned (.float .f64 9221120237041090561) ∧ w = w' := by
  go_enter Try.func39, Try.ntmps39
  go_wp2_with (first | (go_at_call 31; refine (isInf_mx _ (by assumption) _ (by assumption) _).mono ?_; rintro e w' ⟨rfl, rfl⟩) | (go_at_call 32; refine (isNaN_any _ _ (by assumption) _).mono ?_; rintro e w' ⟨rfl, rfl⟩) | (go_at_call 34; refine (nanOf_any _).mono ?_; rintro e w' ⟨rfl, rfl⟩))
  go_ret
  exact ⟨rfl, rfl⟩

set_option maxHeartbeats 400000 in
theorem mx_zn (x y : Nat) (hx : x < 18446744073709551616) (hy : y < 18446744073709551616) (ix : decide (x = 9218868437227405312) = false) (iy : decide (y = 9218868437227405312) = false) (nx : isNan x = false) (ny : isNan y = false) (h0 : place x = 0) (h : place x = place y) (hs : negB x = true) (w : World) :
    Calls Try.prog 39 #[.float .f64 x, .float .f64 y] w fun e w' => e = .returned (.float .f64 y) ∧ w = w' := by
  have t1 : ∀ _ : True, _ = true := fun _ => (ord_eq x 0 nx nan_zero).trans (by rw [place_zero]; simpa using h0)
  have t2 : ∀ _ : True, _ = true := fun _ => (ord_eq x y nx ny).trans (by simpa using h)
  have c0 := fun w => signbit_any x hx w
  rw [hs] at c0
  clear h0 h hs
  go_enter Try.func39, Try.ntmps39
  go_wp2_with (first | (go_at_call 31; refine (isInf_mx _ (by assumption) _ (by assumption) _).mono ?_; rintro e w' ⟨rfl, rfl⟩) | (go_at_call 32; refine (isNaN_any _ _ (by assumption) _).mono ?_; rintro e w' ⟨rfl, rfl⟩) | (go_at_call 44; refine (c0 _).mono ?_; rintro e w' ⟨rfl, rfl⟩))
  go_ret
  exact ⟨rfl, rfl⟩

set_option maxHeartbeats 400000 in
theorem mx_zp (x y : Nat) (hx : x < 18446744073709551616) (hy : y < 18446744073709551616) (ix : decide (x = 9218868437227405312) = false) (iy : decide (y = 9218868437227405312) = false) (nx : isNan x = false) (ny : isNan y = false) (h0 : place x = 0) (h : place x = place y) (hs : negB x = false) (w : World) :
    Calls Try.prog 39 #[.float .f64 x, .float .f64 y] w fun e w' => e = .returned (.float .f64 x) ∧ w = w' := by
  have t1 : ∀ _ : True, _ = true := fun _ => (ord_eq x 0 nx nan_zero).trans (by rw [place_zero]; simpa using h0)
  have t2 : ∀ _ : True, _ = true := fun _ => (ord_eq x y nx ny).trans (by simpa using h)
  have c0 := fun w => signbit_any x hx w
  rw [hs] at c0
  clear h0 h hs
  go_enter Try.func39, Try.ntmps39
  go_wp2_with (first | (go_at_call 31; refine (isInf_mx _ (by assumption) _ (by assumption) _).mono ?_; rintro e w' ⟨rfl, rfl⟩) | (go_at_call 32; refine (isNaN_any _ _ (by assumption) _).mono ?_; rintro e w' ⟨rfl, rfl⟩) | (go_at_call 44; refine (c0 _).mono ?_; rintro e w' ⟨rfl, rfl⟩))
  go_ret
  exact ⟨rfl, rfl⟩

set_option maxHeartbeats 400000 in
theorem mx_zx (x y : Nat) (hx : x < 18446744073709551616) (hy : y < 18446744073709551616) (ix : decide (x = 9218868437227405312) = false) (iy : decide (y = 9218868437227405312) = false) (nx : isNan x = false) (ny : isNan y = false) (h0 : place x = 0) (h : place x ≠ place y) (hg : place y < place x) (w : World) :
    Calls Try.prog 39 #[.float .f64 x, .float .f64 y] w fun e w' => e = .returned (.float .f64 x) ∧ w = w' := by
  have t1 : ∀ _ : True, _ = true := fun _ => (ord_eq x 0 nx nan_zero).trans (by rw [place_zero]; simpa using h0)
  have t2 : ∀ _ : True, _ = false := fun _ => (ord_eq x y nx ny).trans (by simpa using h)
  have t3 : ∀ _ : True, _ = true := fun _ => (ord_gt x y nx ny).trans (by simpa using hg)
  clear h0 hg h
  go_enter Try.func39, Try.ntmps39
  go_wp2_with (first | (go_at_call 31; refine (isInf_mx _ (by assumption) _ (by assumption) _).mono ?_; rintro e w' ⟨rfl, rfl⟩) | (go_at_call 32; refine (isNaN_any _ _ (by assumption) _).mono ?_; rintro e w' ⟨rfl, rfl⟩) | (go_at_call 44; refine (c0 _).mono ?_; rintro e w' ⟨rfl, rfl⟩))
  go_ret
  exact ⟨rfl, rfl⟩

set_option maxHeartbeats 400000 in
theorem mx_zy (x y : Nat) (hx : x < 18446744073709551616) (hy : y < 18446744073709551616) (ix : decide (x = 9218868437227405312) = false) (iy : decide (y = 9218868437227405312) = false) (nx : isNan x = false) (ny : isNan y = false) (h0 : place x = 0) (h : place x ≠ place y) (hg : ¬ place y < place x) (w : World) :
    Calls Try.prog 39 #[.float .f64 x, .float .f64 y] w fun e w' => e = .returned (.float .f64 y) ∧ w = w' := by
  have t1 : ∀ _ : True, _ = true := fun _ => (ord_eq x 0 nx nan_zero).trans (by rw [place_zero]; simpa using h0)
  have t2 : ∀ _ : True, _ = false := fun _ => (ord_eq x y nx ny).trans (by simpa using h)
  have t3 : ∀ _ : True, _ = false := fun _ => (ord_gt x y nx ny).trans (by simpa using hg)
  clear h0 hg h
  go_enter Try.func39, Try.ntmps39
  go_wp2_with (first | (go_at_call 31; refine (isInf_mx _ (by assumption) _ (by assumption) _).mono ?_; rintro e w' ⟨rfl, rfl⟩) | (go_at_call 32; refine (isNaN_any _ _ (by assumption) _).mono ?_; rintro e w' ⟨rfl, rfl⟩) | (go_at_call 44; refine (c0 _).mono ?_; rintro e w' ⟨rfl, rfl⟩))
  go_ret
  exact ⟨rfl, rfl⟩

set_option maxHeartbeats 400000 in
theorem mx_cx (x y : Nat) (hx : x < 18446744073709551616) (hy : y < 18446744073709551616) (ix : decide (x = 9218868437227405312) = false) (iy : decide (y = 9218868437227405312) = false) (nx : isNan x = false) (ny : isNan y = false) (h0 : place x ≠ 0) (hg : place y < place x) (w : World) :
    Calls Try.prog 39 #[.float .f64 x, .float .f64 y] w fun e w' => e = .returned (.float .f64 x) ∧ w = w' := by
  have t1 : ∀ _ : True, _ = false := fun _ => (ord_eq x 0 nx nan_zero).trans (by rw [place_zero]; simpa using h0)
  have t3 : ∀ _ : True, _ = true := fun _ => (ord_gt x y nx ny).trans (by simpa using hg)
  clear h0 hg 
  go_enter Try.func39, Try.ntmps39
  go_wp2_with (first | (go_at_call 31; refine (isInf_mx _ (by assumption) _ (by assumption) _).mono ?_; rintro e w' ⟨rfl, rfl⟩) | (go_at_call 32; refine (isNaN_any _ _ (by assumption) _).mono ?_; rintro e w' ⟨rfl, rfl⟩) | (go_at_call 44; refine (c0 _).mono ?_; rintro e w' ⟨rfl, rfl⟩))
  go_ret
  exact ⟨rfl, rfl⟩

set_option maxHeartbeats 400000 in
theorem mx_cy (x y : Nat) (hx : x < 18446744073709551616) (hy : y < 18446744073709551616) (ix : decide (x = 9218868437227405312) = false) (iy : decide (y = 9218868437227405312) = false) (nx : isNan x = false) (ny : isNan y = false) (h0 : place x ≠ 0) (hg : ¬ place y < place x) (w : World) :
    Calls Try.prog 39 #[.float .f64 x, .float .f64 y] w fun e w' => e = .returned (.float .f64 y) ∧ w = w' := by
  have t1 : ∀ _ : True, _ = false := fun _ => (ord_eq x 0 nx nan_zero).trans (by rw [place_zero]; simpa using h0)
  have t3 : ∀ _ : True, _ = false := fun _ => (ord_gt x y nx ny).trans (by simpa using hg)
  clear h0 hg 
  go_enter Try.func39, Try.ntmps39
  go_wp2_with (first | (go_at_call 31; refine (isInf_mx _ (by assumption) _ (by assumption) _).mono ?_; rintro e w' ⟨rfl, rfl⟩) | (go_at_call 32; refine (isNaN_any _ _ (by assumption) _).mono ?_; rintro e w' ⟨rfl, rfl⟩) | (go_at_call 44; refine (c0 _).mono ?_; rintro e w' ⟨rfl, rfl⟩))
  go_ret
  exact ⟨rfl, rfl⟩

theorem i_mx (x y v : Nat) (c : ∀ w, Calls Try.prog 39 #[.float .f64 x, .float .f64 y] w fun e w' => e = .returned (.float .f64 v) ∧ w = w') (w : World) :
    Calls Try.prog 17 #[.int .u64 (x : Int), .int .u64 (y : Int)] w fun e w' => e = .returned (.int .u64 (v : Int)) ∧ w = w' := by
  have d : ∀ w, Calls Try.prog 28 #[.float .f64 x, .float .f64 y] w fun e w' => e = .returned (.float .f64 v) ∧ w = w' := by
    intro w
    go_enter Try.func28, Try.ntmps28
    go_wp2_with (first | (go_at_call 39; refine (c _).mono ?_; rintro e w' ⟨rfl, rfl⟩))
    go_ret
    exact ⟨rfl, rfl⟩
  clear c
  go_enter Try.func17, Try.ntmps17
  go_wp2_with (first | (go_at_call 27; refine (float_any _ _).mono ?_; rintro e w' ⟨rfl, rfl⟩) | (go_at_call 25; refine (bitsOf_any _ _).mono ?_; rintro e w' ⟨rfl, rfl⟩) | (go_at_call 28; refine (d _).mono ?_; rintro e w' ⟨rfl, rfl⟩))
  go_ret
  exact ⟨rfl, rfl⟩

set_option maxHeartbeats 400000 in
theorem isInf_mn (b : Nat) (hb : b < 18446744073709551616) (v : Bool) (hv : decide (b = 18442240474082181120) = v) (w : World) :
    Calls Try.prog 31 #[.float .f64 b, .int .i64 (-1)] w fun e w' => e = .returned (.bool v) ∧ w = w' := by
  have c := isInf_neg b hb (-1) (by decide) w
  rw [isInfS_minus b hb, hv] at c
  exact c

set_option maxHeartbeats 400000 in
theorem mn_infx (x y : Nat) (hx : x < 18446744073709551616) (hy : y < 18446744073709551616) (ix : decide (x = 18442240474082181120) = true) (w : World) :
    Calls Try.prog 40 #[.float .f64 x, .float .f64 y] w fun e w' => e = .returned (.float .f64 18442240474082181120) ∧ w = w' := by
  go_enter Try.func40, Try.ntmps40
  go_wp2_with (first | (go_at_call 31; refine (isInf_mn _ (by assumption) _ (by assumption) _).mono ?_; rintro e w' ⟨rfl, rfl⟩) | (go_at_call 30; refine (inf_neg (-1) (by decide) _).mono ?_; rintro e w' ⟨rfl, rfl⟩))
  go_ret
  exact ⟨rfl, rfl⟩

set_option maxHeartbeats 400000 in
theorem mn_infy (x y : Nat) (hx : x < 18446744073709551616) (hy : y < 18446744073709551616) (ix : decide (x = 18442240474082181120) = false) (iy : decide (y = 18442240474082181120) = true) (w : World) :
    Calls Try.prog 40 #[.float .f64 x, .float .f64 y] w fun e w' => e = .returned (.float .f64 18442240474082181120) ∧ w = w' := by
  go_enter Try.func40, Try.ntmps40
  go_wp2_with (first | (go_at_call 31; refine (isInf_mn _ (by assumption) _ (by assumption) _).mono ?_; rintro e w' ⟨rfl, rfl⟩) | (go_at_call 30; refine (inf_neg (-1) (by decide) _).mono ?_; rintro e w' ⟨rfl, rfl⟩))
  go_ret
  exact ⟨rfl, rfl⟩

set_option maxHeartbeats 400000 in
theorem mn_nanx (x y : Nat) (hx : x < 18446744073709551616) (hy : y < 18446744073709551616) (ix : decide (x = 18442240474082181120) = false) (iy : decide (y = 18442240474082181120) = false) (nx : isNan x = true) (w : World) :
    Calls Try.prog 40 #[.float .f64 x, .float .f64 y] w fun e w' => e = .returned (.float .f64 9221120237041090561) ∧ w = w' := by
  go_enter Try.func40, Try.ntmps40
  go_wp2_with (first | (go_at_call 31; refine (isInf_mn _ (by assumption) _ (by assumption) _).mono ?_; rintro e w' ⟨rfl, rfl⟩) | (go_at_call 32; refine (isNaN_any _ _ (by assumption) _).mono ?_; rintro e w' ⟨rfl, rfl⟩) | (go_at_call 34; refine (nanOf_any _).mono ?_; rintro e w' ⟨rfl, rfl⟩))
  go_ret
  exact ⟨rfl, rfl⟩

set_option maxHeartbeats 400000 in
theorem mn_nany (x y : Nat) (hx : x < 18446744073709551616) (hy : y < 18446744073709551616) (ix : decide (x = 18442240474082181120) = false) (iy : decide (y = 18442240474082181120) = false) (nx : isNan x = false) (ny : isNan y = true) (w : World) :
    Calls Try.prog 40 #[.float .f64 x, .float .f64 y] w fun e w' => e = .returned (.float .f64 9221120237041090561) ∧ w = w' := by
  go_enter Try.func40, Try.ntmps40
  go_wp2_with (first | (go_at_call 31; refine (isInf_mn _ (by assumption) _ (by assumption) _).mono ?_; rintro e w' ⟨rfl, rfl⟩) | (go_at_call 32; refine (isNaN_any _ _ (by assumption) _).mono ?_; rintro e w' ⟨rfl, rfl⟩) | (go_at_call 34; refine (nanOf_any _).mono ?_; rintro e w' ⟨rfl, rfl⟩))
  go_ret
  exact ⟨rfl, rfl⟩

set_option maxHeartbeats 400000 in
theorem mn_zn (x y : Nat) (hx : x < 18446744073709551616) (hy : y < 18446744073709551616) (ix : decide (x = 18442240474082181120) = false) (iy : decide (y = 18442240474082181120) = false) (nx : isNan x = false) (ny : isNan y = false) (h0 : place x = 0) (h : place x = place y) (hs : negB x = true) (w : World) :
    Calls Try.prog 40 #[.float .f64 x, .float .f64 y] w fun e w' => e = .returned (.float .f64 x) ∧ w = w' := by
  have t1 : ∀ _ : True, _ = true := fun _ => (ord_eq x 0 nx nan_zero).trans (by rw [place_zero]; simpa using h0)
  have t2 : ∀ _ : True, _ = true := fun _ => (ord_eq x y nx ny).trans (by simpa using h)
  have c0 := fun w => signbit_any x hx w
  rw [hs] at c0
  clear h0 h hs
  go_enter Try.func40, Try.ntmps40
  go_wp2_with (first | (go_at_call 31; refine (isInf_mn _ (by assumption) _ (by assumption) _).mono ?_; rintro e w' ⟨rfl, rfl⟩) | (go_at_call 32; refine (isNaN_any _ _ (by assumption) _).mono ?_; rintro e w' ⟨rfl, rfl⟩) | (go_at_call 44; refine (c0 _).mono ?_; rintro e w' ⟨rfl, rfl⟩))
  go_ret
  exact ⟨rfl, rfl⟩

set_option maxHeartbeats 400000 in
theorem mn_zp (x y : Nat) (hx : x < 18446744073709551616) (hy : y < 18446744073709551616) (ix : decide (x = 18442240474082181120) = false) (iy : decide (y = 18442240474082181120) = false) (nx : isNan x = false) (ny : isNan y = false) (h0 : place x = 0) (h : place x = place y) (hs : negB x = false) (w : World) :
    Calls Try.prog 40 #[.float .f64 x, .float .f64 y] w fun e w' => e = .returned (.float .f64 y) ∧ w = w' := by
  have t1 : ∀ _ : True, _ = true := fun _ => (ord_eq x 0 nx nan_zero).trans (by rw [place_zero]; simpa using h0)
  have t2 : ∀ _ : True, _ = true := fun _ => (ord_eq x y nx ny).trans (by simpa using h)
  have c0 := fun w => signbit_any x hx w
  rw [hs] at c0
  clear h0 h hs
  go_enter Try.func40, Try.ntmps40
  go_wp2_with (first | (go_at_call 31; refine (isInf_mn _ (by assumption) _ (by assumption) _).mono ?_; rintro e w' ⟨rfl, rfl⟩) | (go_at_call 32; refine (isNaN_any _ _ (by assumption) _).mono ?_; rintro e w' ⟨rfl, rfl⟩) | (go_at_call 44; refine (c0 _).mono ?_; rintro e w' ⟨rfl, rfl⟩))
  go_ret
  exact ⟨rfl, rfl⟩

set_option maxHeartbeats 400000 in
theorem mn_zx (x y : Nat) (hx : x < 18446744073709551616) (hy : y < 18446744073709551616) (ix : decide (x = 18442240474082181120) = false) (iy : decide (y = 18442240474082181120) = false) (nx : isNan x = false) (ny : isNan y = false) (h0 : place x = 0) (h : place x ≠ place y) (hg : place x < place y) (w : World) :
    Calls Try.prog 40 #[.float .f64 x, .float .f64 y] w fun e w' => e = .returned (.float .f64 x) ∧ w = w' := by
  have t1 : ∀ _ : True, _ = true := fun _ => (ord_eq x 0 nx nan_zero).trans (by rw [place_zero]; simpa using h0)
  have t2 : ∀ _ : True, _ = false := fun _ => (ord_eq x y nx ny).trans (by simpa using h)
  have t3 : ∀ _ : True, _ = true := fun _ => (ord_lt x y nx ny).trans (by simpa using hg)
  clear h0 hg h
  go_enter Try.func40, Try.ntmps40
  go_wp2_with (first | (go_at_call 31; refine (isInf_mn _ (by assumption) _ (by assumption) _).mono ?_; rintro e w' ⟨rfl, rfl⟩) | (go_at_call 32; refine (isNaN_any _ _ (by assumption) _).mono ?_; rintro e w' ⟨rfl, rfl⟩) | (go_at_call 44; refine (c0 _).mono ?_; rintro e w' ⟨rfl, rfl⟩))
  go_ret
  exact ⟨rfl, rfl⟩

set_option maxHeartbeats 400000 in
theorem mn_zy (x y : Nat) (hx : x < 18446744073709551616) (hy : y < 18446744073709551616) (ix : decide (x = 18442240474082181120) = false) (iy : decide (y = 18442240474082181120) = false) (nx : isNan x = false) (ny : isNan y = false) (h0 : place x = 0) (h : place x ≠ place y) (hg : ¬ place x < place y) (w : World) :
    Calls Try.prog 40 #[.float .f64 x, .float .f64 y] w fun e w' => e = .returned (.float .f64 y) ∧ w = w' := by
  have t1 : ∀ _ : True, _ = true := fun _ => (ord_eq x 0 nx nan_zero).trans (by rw [place_zero]; simpa using h0)
  have t2 : ∀ _ : True, _ = false := fun _ => (ord_eq x y nx ny).trans (by simpa using h)
  have t3 : ∀ _ : True, _ = false := fun _ => (ord_lt x y nx ny).trans (by simpa using hg)
  clear h0 hg h
  go_enter Try.func40, Try.ntmps40
  go_wp2_with (first | (go_at_call 31; refine (isInf_mn _ (by assumption) _ (by assumption) _).mono ?_; rintro e w' ⟨rfl, rfl⟩) | (go_at_call 32; refine (isNaN_any _ _ (by assumption) _).mono ?_; rintro e w' ⟨rfl, rfl⟩) | (go_at_call 44; refine (c0 _).mono ?_; rintro e w' ⟨rfl, rfl⟩))
  go_ret
  exact ⟨rfl, rfl⟩

set_option maxHeartbeats 400000 in
theorem mn_cx (x y : Nat) (hx : x < 18446744073709551616) (hy : y < 18446744073709551616) (ix : decide (x = 18442240474082181120) = false) (iy : decide (y = 18442240474082181120) = false) (nx : isNan x = false) (ny : isNan y = false) (h0 : place x ≠ 0) (hg : place x < place y) (w : World) :
    Calls Try.prog 40 #[.float .f64 x, .float .f64 y] w fun e w' => e = .returned (.float .f64 x) ∧ w = w' := by
  have t1 : ∀ _ : True, _ = false := fun _ => (ord_eq x 0 nx nan_zero).trans (by rw [place_zero]; simpa using h0)
  have t3 : ∀ _ : True, _ = true := fun _ => (ord_lt x y nx ny).trans (by simpa using hg)
  clear h0 hg 
  go_enter Try.func40, Try.ntmps40
  go_wp2_with (first | (go_at_call 31; refine (isInf_mn _ (by assumption) _ (by assumption) _).mono ?_; rintro e w' ⟨rfl, rfl⟩) | (go_at_call 32; refine (isNaN_any _ _ (by assumption) _).mono ?_; rintro e w' ⟨rfl, rfl⟩) | (go_at_call 44; refine (c0 _).mono ?_; rintro e w' ⟨rfl, rfl⟩))
  go_ret
  exact ⟨rfl, rfl⟩

set_option maxHeartbeats 400000 in
theorem mn_cy (x y : Nat) (hx : x < 18446744073709551616) (hy : y < 18446744073709551616) (ix : decide (x = 18442240474082181120) = false) (iy : decide (y = 18442240474082181120) = false) (nx : isNan x = false) (ny : isNan y = false) (h0 : place x ≠ 0) (hg : ¬ place x < place y) (w : World) :
    Calls Try.prog 40 #[.float .f64 x, .float .f64 y] w fun e w' => e = .returned (.float .f64 y) ∧ w = w' := by
  have t1 : ∀ _ : True, _ = false := fun _ => (ord_eq x 0 nx nan_zero).trans (by rw [place_zero]; simpa using h0)
  have t3 : ∀ _ : True, _ = false := fun _ => (ord_lt x y nx ny).trans (by simpa using hg)
  clear h0 hg 
  go_enter Try.func40, Try.ntmps40
  go_wp2_with (first | (go_at_call 31; refine (isInf_mn _ (by assumption) _ (by assumption) _).mono ?_; rintro e w' ⟨rfl, rfl⟩) | (go_at_call 32; refine (isNaN_any _ _ (by assumption) _).mono ?_; rintro e w' ⟨rfl, rfl⟩) | (go_at_call 44; refine (c0 _).mono ?_; rintro e w' ⟨rfl, rfl⟩))
  go_ret
  exact ⟨rfl, rfl⟩

theorem i_mn (x y v : Nat) (c : ∀ w, Calls Try.prog 40 #[.float .f64 x, .float .f64 y] w fun e w' => e = .returned (.float .f64 v) ∧ w = w') (w : World) :
    Calls Try.prog 18 #[.int .u64 (x : Int), .int .u64 (y : Int)] w fun e w' => e = .returned (.int .u64 (v : Int)) ∧ w = w' := by
  have d : ∀ w, Calls Try.prog 29 #[.float .f64 x, .float .f64 y] w fun e w' => e = .returned (.float .f64 v) ∧ w = w' := by
    intro w
    go_enter Try.func29, Try.ntmps29
    go_wp2_with (first | (go_at_call 40; refine (c _).mono ?_; rintro e w' ⟨rfl, rfl⟩))
    go_ret
    exact ⟨rfl, rfl⟩
  clear c
  go_enter Try.func18, Try.ntmps18
  go_wp2_with (first | (go_at_call 27; refine (float_any _ _).mono ?_; rintro e w' ⟨rfl, rfl⟩) | (go_at_call 25; refine (bitsOf_any _ _).mono ?_; rintro e w' ⟨rfl, rfl⟩) | (go_at_call 29; refine (d _).mono ?_; rintro e w' ⟨rfl, rfl⟩))
  go_ret
  exact ⟨rfl, rfl⟩

end Go.Proofs.Ytgbbaokaocofoaa
