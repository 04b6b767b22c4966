/- The contracts of the package's Nextafter32 and of what it reaches, of the reference's Place and Next of 32 bits and of nan32: by the bits. -/
import Derived.Test.YtgbbaokaocofoaaWalkF1
import Derived.Test.YtgbbaokaocofoaaFP32b
import Derived.Test.YtgbbaokaocofoaaFOrd
set_option linter.unusedVariables false
namespace Go.Proofs.Ytgbbaokaocofoaa
open Go.RowKit Go.Proofs.Ytgbbaokaocofoaa.Plain
theorem run_bits32 (b : Nat) (w : World) : (callFunc 33 #[.float .f32 b]).run Try.prog w = .ok (.value (.int .u32 (b : Int))) w := by
  rw [run_callFunc_extern (e := Extern.MathFloatBits.float32bits) Try.func33 (by kernel_rfl) (by kernel_rfl) (by kernel_rfl) (by kernel_rfl)]
  rfl
theorem run_frombits32 (n : Nat) (w : World) : (callFunc 36 #[.int .u32 (n : Int)]).run Try.prog w = .ok (.value (.float .f32 n)) w := by
  rw [run_callFunc_extern (e := Extern.MathFloatBits.float32frombits) Try.func36 (by kernel_rfl) (by kernel_rfl) (by kernel_rfl) (by kernel_rfl)]
  rfl
theorem run_widen (b r : Nat) (h : floatToFloatBits .f32 b .f64 = some r) (w : World) : (convert 37 42 (.float .f32 b)).run Try.prog w = .ok (.float .f64 r) w :=
  run_convert_float_float w 37 42 .f32 .f64 b r (by rw [Try.underlying37]; rfl) Try.underlying42 h
theorem run_narrow (b r : Nat) (h : floatToFloatBits .f64 b .f32 = some r) (w : World) : (convert 42 37 (.float .f64 b)).run Try.prog w = .ok (.float .f32 r) w :=
  run_convert_float_float w 42 37 .f64 .f32 b r (by rw [Try.underlying42]; rfl) Try.underlying37 h
theorem run_widen_nan (b : Nat) (h : S32.isNan b = true) (w : World) : (convert 37 42 (.float .f32 b)).run Try.prog w = .ok (.float .f64 (nanD w (.nanConv .f64 b))) w.drew := by
  have he := S32.decode_nan b h
  simp [convert, run_underlying Try.underlying37, run_underlying Try.underlying42, Conv.floatToFloat, he, nanD, Question.forced]
theorem run_narrow_nan (w : World) : (convert 42 37 (.float .f64 9221120237041090561)).run Try.prog w = .ok (.float .f32 (nanD w (.nanConv .f32 9221120237041090561))) w.drew := by
  obtain ⟨sg, f, he⟩ := S32.decode_nan64
  simp [convert, run_underlying Try.underlying37, run_underlying Try.underlying42, Conv.floatToFloat, he, nanD, Question.forced]

set_option maxHeartbeats 400000 in
theorem bits32_any (b : Nat) (w : World) :
    Calls Try.prog 22 #[.float .f32 b] w fun e w' => e = .returned (.int .u32 (b : Int)) ∧ w = w' := by
  have h := run_bits32
  go_enter Try.func22, Try.ntmps22
  go_wp2
  go_ret
  exact ⟨rfl, rfl⟩

set_option maxHeartbeats 400000 in
theorem frombits32_any (b : Nat) (w : World) :
    Calls Try.prog 24 #[.int .u32 (b : Int)] w fun e w' => e = .returned (.float .f32 b) ∧ w = w' := by
  have h := run_frombits32
  go_enter Try.func24, Try.ntmps24
  go_wp2
  go_ret
  exact ⟨rfl, rfl⟩

set_option maxHeartbeats 400000 in
theorem nan32_any (b : Nat) (v : Bool) (hv : S32.isNan b = v) (w : World) :
    Calls Try.prog 12 #[.int .u32 (b : Int)] w fun e w' => e = .returned (.bool v) ∧ w = w' := by
  have e1 := S32.ef_num b
  have e2 := S32.mf_num b
  rw [S32.nan_fields] at hv
  generalize S32.ef b = E at e1 hv
  generalize S32.mf b = m at e2 hv
  have r1 : ∀ _ : True, _ = _ := fun _ => e1
  have r2 : ∀ _ : True, _ = _ := fun _ => e2
  clear e1 e2
  by_cases h1 : E = 255
  · have t1 : ∀ _ : True, ((E : Int) == 255) = true := fun _ => by simp; omega
    have t2 : ∀ _ : True, (!((m : Int) == 0)) = v := fun _ => by rw [← hv, beq0]; simp [h1]
    have t3 : ∀ _ : True, ((m : Int) != 0) = v := fun _ => by rw [← t2 trivial]; rfl
    clear h1 hv
    go_enter Try.func12, Try.ntmps12
    go_wp2
    go_ret
    exact ⟨rfl, rfl⟩
  have t1 : ∀ _ : True, ((E : Int) == 255) = false := fun _ => by simp; omega
  have hv : v = false := by rw [← hv]; simp [h1]
  subst hv
  clear h1
  go_enter Try.func12, Try.ntmps12
  go_wp2
  go_ret
  exact ⟨rfl, rfl⟩

set_option maxHeartbeats 400000 in
theorem n32_nanx (x y : Nat) (hx : x < 4294967296) (hy : y < 4294967296) (nx : S32.isNan x = true) (w : World) :
    Calls Try.prog 23 #[.float .f32 x, .float .f32 y] w fun e w' => (∃ v, v < 4294967296 ∧ S32.isNan v = true ∧ e = .returned (.float .f32 v)) ∧ Grown w w' := by
  have r1 := run_widen_nan x nx
  have r2 := run_narrow_nan
  clear nx
  go_enter Try.func23, Try.ntmps23
  go_wp2_with fail
  refine (isNaN_any _ true (S32.nan_conv64 _ _).1 _).mono ?_
  rintro e w' ⟨rfl, rfl⟩
  go_wp2_with fail
  refine (nanOf_any _).mono ?_
  rintro e w' ⟨rfl, rfl⟩
  go_wp2
  go_ret
  exact ⟨⟨_, (S32.nan_conv32 _ _).2, (S32.nan_conv32 _ _).1, rfl⟩, (Grown.refl _).drew.drew⟩

set_option maxHeartbeats 400000 in
theorem n32_nany (x y : Nat) (hx : x < 4294967296) (hy : y < 4294967296) (nx : S32.isNan x = false) (ny : S32.isNan y = true) (w : World) :
    Calls Try.prog 23 #[.float .f32 x, .float .f32 y] w fun e w' => (∃ v, v < 4294967296 ∧ S32.isNan v = true ∧ e = .returned (.float .f32 v)) ∧ Grown w w' := by
  obtain ⟨u, hu, hu2, hu3, hu4⟩ := S32.widen x hx nx
  have r0 := run_widen x u hu
  have r1 := run_widen_nan y ny
  have r2 := run_narrow_nan
  clear nx ny hu
  go_enter Try.func23, Try.ntmps23
  go_wp2_with fail
  refine (isNaN_any u false hu3 _).mono ?_
  rintro e w' ⟨rfl, rfl⟩
  go_wp2_with fail
  refine (isNaN_any _ true (S32.nan_conv64 _ _).1 _).mono ?_
  rintro e w' ⟨rfl, rfl⟩
  go_wp2_with fail
  refine (nanOf_any _).mono ?_
  rintro e w' ⟨rfl, rfl⟩
  go_wp2
  go_ret
  exact ⟨⟨_, (S32.nan_conv32 _ _).2, (S32.nan_conv32 _ _).1, rfl⟩, (Grown.refl _).drew.drew⟩

set_option maxHeartbeats 400000 in
theorem n32_eq (x y : Nat) (hx : x < 4294967296) (hy : y < 4294967296) (nx : S32.isNan x = false) (ny : S32.isNan y = false) (h : S32.place x = S32.place y) (w : World) :
    Calls Try.prog 23 #[.float .f32 x, .float .f32 y] w fun e w' => e = .returned (.float .f32 x) ∧ w = w' := by
  obtain ⟨u, hu, hu2, hu3, hu4⟩ := S32.widen x hx nx
  obtain ⟨v, hv, hv2, hv3, hv4⟩ := S32.widen y hy ny
  have r0 := run_widen x u hu
  have r1 := run_widen y v hv
  clear hu hv
  have t1 : ∀ _ : True, _ = true := fun _ => (S32.ord_eq x y nx ny).trans (by simpa using h)
  clear h
  go_enter Try.func23, Try.ntmps23
  go_wp2_with fail
  refine (isNaN_any u false hu3 _).mono ?_
  rintro e w' ⟨rfl, rfl⟩
  go_wp2_with fail
  refine (isNaN_any v false hv3 _).mono ?_
  rintro e w' ⟨rfl, rfl⟩
  go_wp2
  go_ret
  exact ⟨rfl, rfl⟩

set_option maxHeartbeats 400000 in
theorem n32_zero (x y : Nat) (hx : x < 4294967296) (hy : y < 4294967296) (nx : S32.isNan x = false) (ny : S32.isNan y = false) (h : S32.place x ≠ S32.place y) (h0 : S32.rung x = 0) (w : World) :
    Calls Try.prog 23 #[.float .f32 x, .float .f32 y] w fun e w' => e = .returned (.float .f32 (S32.wordD (S32.negB y) 1)) ∧ w = w' := by
  obtain ⟨u, hu, hu2, hu3, hu4⟩ := S32.widen x hx nx
  obtain ⟨v, hv, hv2, hv3, hv4⟩ := S32.widen y hy ny
  have r0 := run_widen x u hu
  have r1 := run_widen y v hv
  clear hu hv
  have t1 : ∀ _ : True, _ = false := fun _ => (S32.ord_eq x y nx ny).trans (by simpa using h)
  have t2 : ∀ _ : True, _ = true := fun _ => (S32.ord_eq x 0 nx S32.nan_zero).trans (by rw [S32.place_zero]; simpa using (S32.place_eq_zero x).2 h0)
  have c := fun w => copysign_any 3936146074321813504 v (by omega) hv2 w
  have f1 := fun w => frombits32_any 1 w
  have r3 := run_widen 1 _ S32.widen_one
  have r4 := run_narrow _ _ (S32.narrow_one (S32.negB y))
  rw [show rung 3936146074321813504 = 3936146074321813504 by decide, hv4] at c
  generalize S32.wordD (S32.negB y) 1 = o at *
  generalize wordD (S32.negB y) 3936146074321813504 = o2 at *
  clear h h0
  go_enter Try.func23, Try.ntmps23
  go_wp2_with fail
  refine (isNaN_any u false hu3 _).mono ?_
  rintro e w' ⟨rfl, rfl⟩
  go_wp2_with fail
  refine (isNaN_any v false hv3 _).mono ?_
  rintro e w' ⟨rfl, rfl⟩
  go_wp2_with fail
  refine (f1 _).mono ?_
  rintro e w' ⟨rfl, rfl⟩
  go_wp2_with fail
  refine (c _).mono ?_
  rintro e w' ⟨rfl, rfl⟩
  go_wp2
  go_ret
  exact ⟨rfl, rfl⟩

set_option maxHeartbeats 400000 in
theorem n32_up (x y : Nat) (hx : x < 4294967296) (hy : y < 4294967296) (nx : S32.isNan x = false) (ny : S32.isNan y = false) (h : S32.place x ≠ S32.place y) (h0 : S32.rung x ≠ 0) (hg : decide (S32.place x < S32.place y) = !S32.negB x) (w : World) :
    Calls Try.prog 23 #[.float .f32 x, .float .f32 y] w fun e w' => e = .returned (.float .f32 (x + 1)) ∧ w = w' := by
  obtain ⟨u, hu, hu2, hu3, hu4⟩ := S32.widen x hx nx
  obtain ⟨v, hv, hv2, hv3, hv4⟩ := S32.widen y hy ny
  have r0 := run_widen x u hu
  have r1 := run_widen y v hv
  clear hu hv
  have t1 : ∀ _ : True, _ = false := fun _ => (S32.ord_eq x y nx ny).trans (by simpa using h)
  have t2 : ∀ _ : True, _ = false := fun _ => (S32.ord_eq x 0 nx S32.nan_zero).trans (by rw [S32.place_zero]; simpa using fun g => h0 ((S32.place_eq_zero x).1 g))
  have e3 := S32.ord_gt y x ny nx
  have e4 := S32.ord_gt x 0 nx S32.nan_zero
  rw [S32.place_zero, S32.place_pos x h0] at e4
  rw [hg] at e3
  generalize (!S32.negB x) = s at e3 e4 hg
  have hl := S32.next_lt x hx nx
  obtain ⟨z, hz⟩ : ∃ z, z = x + 1 := ⟨_, rfl⟩
  have r5 : ∀ _ : True, IntKind.u32.wrap ((x : Int) + 1) = (z : Int) := fun _ => by rw [show (x : Int) + 1 = ((x + 1 : Nat) : Int) from rfl, wrap32N, Nat.mod_eq_of_lt hl, hz]
  rw [← hz]
  clear hz hl
  have t3 : ∀ _ : True, _ = _ := fun _ => e3
  have t4 : ∀ _ : True, _ = _ := fun _ => e4
  clear h h0 e3 e4 hg
  cases s
  · skip
    go_enter Try.func23, Try.ntmps23
    go_wp2_with fail
    refine (isNaN_any u false hu3 _).mono ?_
    rintro e w' ⟨rfl, rfl⟩
    go_wp2_with fail
    refine (isNaN_any v false hv3 _).mono ?_
    rintro e w' ⟨rfl, rfl⟩
    go_wp2_with fail
    refine (bits32_any _ _).mono ?_
    rintro e w' ⟨rfl, rfl⟩
    go_wp2_with fail
    refine (frombits32_any _ _).mono ?_
    rintro e w' ⟨rfl, rfl⟩
    go_wp2
    go_ret
    exact ⟨rfl, rfl⟩
  · skip
    go_enter Try.func23, Try.ntmps23
    go_wp2_with fail
    refine (isNaN_any u false hu3 _).mono ?_
    rintro e w' ⟨rfl, rfl⟩
    go_wp2_with fail
    refine (isNaN_any v false hv3 _).mono ?_
    rintro e w' ⟨rfl, rfl⟩
    go_wp2_with fail
    refine (bits32_any _ _).mono ?_
    rintro e w' ⟨rfl, rfl⟩
    go_wp2_with fail
    refine (frombits32_any _ _).mono ?_
    rintro e w' ⟨rfl, rfl⟩
    go_wp2
    go_ret
    exact ⟨rfl, rfl⟩

set_option maxHeartbeats 400000 in
theorem n32_down (x y : Nat) (hx : x < 4294967296) (hy : y < 4294967296) (nx : S32.isNan x = false) (ny : S32.isNan y = false) (h : S32.place x ≠ S32.place y) (h0 : S32.rung x ≠ 0) (hg : ¬ decide (S32.place x < S32.place y) = !S32.negB x) (w : World) :
    Calls Try.prog 23 #[.float .f32 x, .float .f32 y] w fun e w' => e = .returned (.float .f32 (x - 1)) ∧ w = w' := by
  obtain ⟨u, hu, hu2, hu3, hu4⟩ := S32.widen x hx nx
  obtain ⟨v, hv, hv2, hv3, hv4⟩ := S32.widen y hy ny
  have r0 := run_widen x u hu
  have r1 := run_widen y v hv
  clear hu hv
  have t1 : ∀ _ : True, _ = false := fun _ => (S32.ord_eq x y nx ny).trans (by simpa using h)
  have t2 : ∀ _ : True, _ = false := fun _ => (S32.ord_eq x 0 nx S32.nan_zero).trans (by rw [S32.place_zero]; simpa using fun g => h0 ((S32.place_eq_zero x).1 g))
  have e3 := S32.ord_gt y x ny nx
  have e4 := S32.ord_gt x 0 nx S32.nan_zero
  rw [S32.place_zero, S32.place_pos x h0] at e4
  generalize (!S32.negB x) = s at e4 hg
  generalize decide (S32.place x < S32.place y) = s2 at e3 hg
  have hu : s2 = !s := by cases s <;> cases s2 <;> simp at hg ⊢
  subst hu
  have hl : 1 ≤ x := by unfold S32.rung at h0; omega
  obtain ⟨z, hz⟩ : ∃ z, z = x - 1 := ⟨_, rfl⟩
  have r5 : ∀ _ : True, IntKind.u32.wrap ((x : Int) - 1) = (z : Int) := fun _ => by
    have e := sub32N x 1
    rw [show (((1 : Nat) : Int)) = 1 from rfl] at e
    rw [e, hz]; omega
  rw [← hz]
  clear hz hl
  have t3 : ∀ _ : True, _ = _ := fun _ => e3
  have t4 : ∀ _ : True, _ = _ := fun _ => e4
  clear h h0 e3 e4 hg
  cases s
  · skip
    go_enter Try.func23, Try.ntmps23
    go_wp2_with fail
    refine (isNaN_any u false hu3 _).mono ?_
    rintro e w' ⟨rfl, rfl⟩
    go_wp2_with fail
    refine (isNaN_any v false hv3 _).mono ?_
    rintro e w' ⟨rfl, rfl⟩
    go_wp2_with fail
    refine (bits32_any _ _).mono ?_
    rintro e w' ⟨rfl, rfl⟩
    go_wp2_with fail
    refine (frombits32_any _ _).mono ?_
    rintro e w' ⟨rfl, rfl⟩
    go_wp2
    go_ret
    exact ⟨rfl, rfl⟩
  · skip
    go_enter Try.func23, Try.ntmps23
    go_wp2_with fail
    refine (isNaN_any u false hu3 _).mono ?_
    rintro e w' ⟨rfl, rfl⟩
    go_wp2_with fail
    refine (isNaN_any v false hv3 _).mono ?_
    rintro e w' ⟨rfl, rfl⟩
    go_wp2_with fail
    refine (bits32_any _ _).mono ?_
    rintro e w' ⟨rfl, rfl⟩
    go_wp2_with fail
    refine (frombits32_any _ _).mono ?_
    rintro e w' ⟨rfl, rfl⟩
    go_wp2
    go_ret
    exact ⟨rfl, rfl⟩

theorem n32_any (x y : Nat) (hx : x < 4294967296) (hy : y < 4294967296) (nx : S32.isNan x = false) (ny : S32.isNan y = false) (w : World) :
    Calls Try.prog 23 #[.float .f32 x, .float .f32 y] w fun e w' => e = .returned (.float .f32 (S32.nextW x y)) ∧ w = w' := by
  unfold S32.nextW
  split
  · exact n32_eq x y hx hy nx ny (by assumption) w
  · split
    · exact n32_zero x y hx hy nx ny (by assumption) (by assumption) w
    · split
      · exact n32_up x y hx hy nx ny (by assumption) (by assumption) (by assumption) w
      · exact n32_down x y hx hy nx ny (by assumption) (by assumption) (by assumption) w

set_option maxHeartbeats 400000 in
theorem i_n32 (x y : Nat) (hx : x < 4294967296) (hy : y < 4294967296) (nx : S32.isNan x = false) (ny : S32.isNan y = false) (w : World) :
    Calls Try.prog 11 #[.int .u32 (x : Int), .int .u32 (y : Int)] w fun e w' => e = .returned (.int .u32 (S32.nextW x y : Int)) ∧ w = w' := by
  have c := fun w => n32_any x y hx hy nx ny w
  generalize S32.nextW x y = m at *
  clear nx ny
  go_enter Try.func11, Try.ntmps11
  go_wp2_with (first | (go_at_call 22; refine (bits32_any _ _).mono ?_; rintro e w' ⟨rfl, rfl⟩) | (go_at_call 24; refine (frombits32_any _ _).mono ?_; rintro e w' ⟨rfl, rfl⟩) | (go_at_call 23; refine (c _).mono ?_; rintro e w' ⟨rfl, rfl⟩))
  go_ret
  exact ⟨rfl, rfl⟩

set_option maxHeartbeats 400000 in
theorem i_n32_nan (x y : Nat) (hx : x < 4294967296) (hy : y < 4294967296) (h : S32.isNan x = true ∨ S32.isNan y = true) (w : World) :
    Calls Try.prog 11 #[.int .u32 (x : Int), .int .u32 (y : Int)] w fun e w' => (∃ v : Nat, v < 4294967296 ∧ S32.isNan v = true ∧ e = .returned (.int .u32 (v : Int))) ∧ Grown w w' := by
  have c : ∀ w, Calls Try.prog 23 #[.float .f32 x, .float .f32 y] w fun e w' => (∃ v, v < 4294967296 ∧ S32.isNan v = true ∧ e = .returned (.float .f32 v)) ∧ Grown w w' := fun w => by
    rcases Bool.eq_false_or_eq_true (S32.isNan x) with nx | nx
    · exact n32_nanx x y hx hy nx w
    · rcases h with h | h
      · rw [nx] at h; cases h
      · exact n32_nany x y hx hy nx h w
  clear h
  go_enter Try.func11, Try.ntmps11
  go_wp2_with (first | (go_at_call 22; refine (bits32_any _ _).mono ?_; rintro e w' ⟨rfl, rfl⟩) | (go_at_call 24; refine (frombits32_any _ _).mono ?_; rintro e w' ⟨rfl, rfl⟩) | (go_at_call 23; refine (c _).mono ?_; rintro e w' ⟨⟨v, hv, hn, rfl⟩, hg⟩))
  go_ret
  exact ⟨⟨v, hv, hn, rfl⟩, hg⟩

set_option maxHeartbeats 400000 in
theorem place32_any (b : Nat) (hb : b < 4294967296) (w : World) :
    Calls Try.prog 15 #[.int .u64 (b : Int), .int .i64 32] w fun e w' => e = .returned (.int .i64 (S32.place b)) ∧ w = w' := by
  have e := S32.place_num b hb
  generalize S32.place b = p at e ⊢
  by_cases h : 2147483648 ≤ b
  · rw [if_pos h] at e
    have t1 : ∀ _ : True, decide ((2147483648 : Int) ≤ (b : Int)) = true := fun _ => by simp; omega
    obtain ⟨q, hq⟩ : ∃ q, q = b - 2147483648 := ⟨_, rfl⟩
    have r1 : ∀ _ : True, IntKind.u64.wrap ((b : Int) - 2147483648) = (q : Int) := fun _ => by rw [IntKind.wrap_u64]; omega
    have r2 : ∀ _ : True, wrap64 (q : Int) = (q : Int) := fun _ => by unfold wrap64; omega
    have r3 : ∀ _ : True, wrap64 (-(q : Int)) = p := fun _ => by unfold wrap64; omega
    have r4 : ∀ _ : True, wrap64 (0 - (q : Int)) = p := fun _ => by unfold wrap64; omega
    clear e h hb hq
    go_enter Try.func15, Try.ntmps15
    go_wp2
    go_ret
    exact ⟨ret_int (r3 trivial), rfl⟩
  rw [if_neg h] at e
  have t1 : ∀ _ : True, decide ((2147483648 : Int) ≤ (b : Int)) = false := fun _ => by simp; omega
  have r2 : ∀ _ : True, wrap64 (b : Int) = p := fun _ => by unfold wrap64; omega
  clear e h hb
  go_enter Try.func15, Try.ntmps15
  go_wp2
  go_ret
  exact ⟨ret_int (r2 trivial), rfl⟩

set_option maxHeartbeats 400000 in
theorem x32_eq (x y : Nat) (hx : x < 4294967296) (hy : y < 4294967296) (nx : S32.isNan x = false) (ny : S32.isNan y = false) (h : S32.place x = S32.place y) (w : World) :
    Calls Try.prog 13 #[.int .u64 (x : Int), .int .u64 (y : Int), .int .i64 32] w fun e w' => e = .returned (.int .u64 (x : Int)) ∧ w = w' := by
  have e0 := S32.low31 x hx
  have t1 : ∀ _ : True, (S32.place x == S32.place y) = true := fun _ => by simpa using h
  clear e0 h
  go_enter Try.func13, Try.ntmps13
  go_wp2_with (first | (go_at_call 15; refine (place32_any _ (by assumption) _).mono ?_; rintro e w' ⟨rfl, rfl⟩))
  all_goals go_ret
  all_goals exact ⟨rfl, rfl⟩

set_option maxHeartbeats 400000 in
theorem x32_zup (x y : Nat) (hx : x < 4294967296) (hy : y < 4294967296) (nx : S32.isNan x = false) (ny : S32.isNan y = false) (h : S32.place x ≠ S32.place y) (h0 : S32.rung x = 0) (hg : S32.place x < S32.place y) (w : World) :
    Calls Try.prog 13 #[.int .u64 (x : Int), .int .u64 (y : Int), .int .i64 32] w fun e w' => e = .returned (.int .u64 1) ∧ w = w' := by
  have e0 := S32.low31 x hx
  have t1 : ∀ _ : True, (S32.place x == S32.place y) = false := fun _ => by simpa using h
  have t2 : ∀ _ : True, ((S32.rung x : Int) == 0) = true := fun _ => by simp [h0]
  have t3 : ∀ _ : True, decide (S32.place x < S32.place y) = true := fun _ => by simpa using hg
  clear h0 hg
  have r0 : ∀ _ : True, _ = _ := fun _ => e0
  generalize S32.rung x = r at r0 t2
  clear e0 h
  go_enter Try.func13, Try.ntmps13
  go_wp2_with (first | (go_at_call 15; refine (place32_any _ (by assumption) _).mono ?_; rintro e w' ⟨rfl, rfl⟩))
  all_goals go_ret
  all_goals exact ⟨rfl, rfl⟩

set_option maxHeartbeats 400000 in
theorem x32_zdn (x y : Nat) (hx : x < 4294967296) (hy : y < 4294967296) (nx : S32.isNan x = false) (ny : S32.isNan y = false) (h : S32.place x ≠ S32.place y) (h0 : S32.rung x = 0) (hg : ¬ S32.place x < S32.place y) (w : World) :
    Calls Try.prog 13 #[.int .u64 (x : Int), .int .u64 (y : Int), .int .i64 32] w fun e w' => e = .returned (.int .u64 2147483649) ∧ w = w' := by
  have e0 := S32.low31 x hx
  have t1 : ∀ _ : True, (S32.place x == S32.place y) = false := fun _ => by simpa using h
  have t2 : ∀ _ : True, ((S32.rung x : Int) == 0) = true := fun _ => by simp [h0]
  have t3 : ∀ _ : True, decide (S32.place x < S32.place y) = false := fun _ => by simpa using hg
  clear h0 hg
  have r0 : ∀ _ : True, _ = _ := fun _ => e0
  generalize S32.rung x = r at r0 t2
  clear e0 h
  go_enter Try.func13, Try.ntmps13
  go_wp2_with (first | (go_at_call 15; refine (place32_any _ (by assumption) _).mono ?_; rintro e w' ⟨rfl, rfl⟩))
  all_goals go_ret
  all_goals exact ⟨rfl, rfl⟩

set_option maxHeartbeats 400000 in
theorem x32_up (x y : Nat) (hx : x < 4294967296) (hy : y < 4294967296) (nx : S32.isNan x = false) (ny : S32.isNan y = false) (h : S32.place x ≠ S32.place y) (h0 : S32.rung x ≠ 0) (hg : decide (S32.place x < S32.place y) = !S32.negB x) (w : World) :
    Calls Try.prog 13 #[.int .u64 (x : Int), .int .u64 (y : Int), .int .i64 32] w fun e w' => e = .returned (.int .u64 ((x + 1 : Nat) : Int)) ∧ w = w' := by
  have e0 := S32.low31 x hx
  have t1 : ∀ _ : True, (S32.place x == S32.place y) = false := fun _ => by simpa using h
  have t2 : ∀ _ : True, ((S32.rung x : Int) == 0) = false := fun _ => by simp [h0]
  have n0 : decide ((x : Int) < 2147483648) = !S32.negB x := by rw [S32.negB_iff x hx]; by_cases g : 2147483648 ≤ x <;> simp [g] <;> omega
  generalize (!S32.negB x) = u at n0 hg
  have t3 : ∀ _ : True, _ = _ := fun _ => hg
  have t4 : ∀ _ : True, _ = _ := fun _ => n0
  obtain ⟨z, hz⟩ : ∃ z, z = x + 1 := ⟨_, rfl⟩
  have r5 : ∀ _ : True, IntKind.u64.wrap ((x : Int) + 1) = (z : Int) := fun _ => by rw [IntKind.wrap_u64]; omega
  rw [← hz]
  clear hz h0 hg n0
  have r0 : ∀ _ : True, _ = _ := fun _ => e0
  generalize S32.rung x = r at r0 t2
  clear e0 h
  go_enter Try.func13, Try.ntmps13
  cases u <;>
  go_wp2_with (first | (go_at_call 15; refine (place32_any _ (by assumption) _).mono ?_; rintro e w' ⟨rfl, rfl⟩))
  all_goals go_ret
  all_goals exact ⟨rfl, rfl⟩

set_option maxHeartbeats 400000 in
theorem x32_down (x y : Nat) (hx : x < 4294967296) (hy : y < 4294967296) (nx : S32.isNan x = false) (ny : S32.isNan y = false) (h : S32.place x ≠ S32.place y) (h0 : S32.rung x ≠ 0) (hg : ¬ decide (S32.place x < S32.place y) = !S32.negB x) (w : World) :
    Calls Try.prog 13 #[.int .u64 (x : Int), .int .u64 (y : Int), .int .i64 32] w fun e w' => e = .returned (.int .u64 ((x - 1 : Nat) : Int)) ∧ w = w' := by
  have e0 := S32.low31 x hx
  have t1 : ∀ _ : True, (S32.place x == S32.place y) = false := fun _ => by simpa using h
  have t2 : ∀ _ : True, ((S32.rung x : Int) == 0) = false := fun _ => by simp [h0]
  have n0 : decide ((x : Int) < 2147483648) = !S32.negB x := by rw [S32.negB_iff x hx]; by_cases g : 2147483648 ≤ x <;> simp [g] <;> omega
  generalize (!S32.negB x) = u at n0 hg
  obtain ⟨u2, hu2⟩ : ∃ u2, u2 = decide (S32.place x < S32.place y) := ⟨_, rfl⟩
  rw [← hu2] at hg
  have hu : u2 = !u := by cases u <;> cases u2 <;> simp at hg ⊢
  have t3 : ∀ _ : True, decide (S32.place x < S32.place y) = !u := fun _ => by rw [← hu2, hu]
  have t4 : ∀ _ : True, _ = _ := fun _ => n0
  have hl : 1 ≤ x := by unfold S32.rung at h0; omega
  obtain ⟨z, hz⟩ : ∃ z, z = x - 1 := ⟨_, rfl⟩
  have r5 : ∀ _ : True, IntKind.u64.wrap ((x : Int) - 1) = (z : Int) := fun _ => by rw [IntKind.wrap_u64]; omega
  rw [← hz]
  clear hz h0 hg n0 hu hu2 u2 hl
  have r0 : ∀ _ : True, _ = _ := fun _ => e0
  generalize S32.rung x = r at r0 t2
  clear e0 h
  go_enter Try.func13, Try.ntmps13
  cases u <;>
  go_wp2_with (first | (go_at_call 15; refine (place32_any _ (by assumption) _).mono ?_; rintro e w' ⟨rfl, rfl⟩))
  all_goals go_ret
  all_goals exact ⟨rfl, rfl⟩

theorem x32_any (x y : Nat) (hx : x < 4294967296) (hy : y < 4294967296) (nx : S32.isNan x = false) (ny : S32.isNan y = false) (w : World) :
    Calls Try.prog 13 #[.int .u64 (x : Int), .int .u64 (y : Int), .int .i64 32] w fun e w' => e = .returned (.int .u64 (S32.nextW x y : Int)) ∧ w = w' := by
  unfold S32.nextW
  split
  · exact x32_eq x y hx hy nx ny (by assumption) w
  · split
    · rename_i h h0
      have hp := (S32.place_eq_zero x).2 h0
      by_cases hg : S32.place x < S32.place y
      · have : S32.negB y = false := by unfold S32.place at hg hp; cases g : S32.negB y <;> simp [g] at hg ⊢ <;> omega
        rw [this]
        exact x32_zup x y hx hy nx ny (by assumption) (by assumption) hg w
      · have : S32.negB y = true := by unfold S32.place at hg hp h; cases g : S32.negB y <;> simp [g] at hg h ⊢ <;> omega
        rw [this]
        exact x32_zdn x y hx hy nx ny (by assumption) (by assumption) hg w
    · split
      · exact x32_up x y hx hy nx ny (by assumption) (by assumption) (by assumption) w
      · exact x32_down x y hx hy nx ny (by assumption) (by assumption) (by assumption) w

end Go.Proofs.Ytgbbaokaocofoaa
