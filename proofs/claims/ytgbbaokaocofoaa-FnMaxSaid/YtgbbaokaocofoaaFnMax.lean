/- Proved: FnMax returns true for every input, and its arguments read afterwards as before. No conditions. -/
import Derived.Test.YtgbbaokaocofoaaRows
import Derived.WalkKit
import Derived.ProofKit
import Derived.OpenShut
import Derived.ShutString
import Derived.Test.YtgbbaokaocofoaaWalkF4
namespace Go.Proofs.Ytgbbaokaocofoaa.fnMax
open Go.ChangeShapes Go.WideShapes Go.ChangeAt Go.RowKit Go.Proofs.Ytgbbaokaocofoaa.Plain
set_option linter.unusedVariables false

theorem own : ownKnob Try.prog.godebug = none := by kernel_rfl

set_option maxHeartbeats 1000000 in
theorem walk (a0 : Int) (a1 : Int) (w0 : (Lit.int .u64 a0).wf = true) (w1 : (Lit.int .u64 a1).wf = true) (w : World) :
    Calls Try.prog 6 #[.int .u64 a0, .int .u64 a1] w fun e w' => e = .returned (.bool true) ∧ Grown w w' := by
  obtain ⟨x, rfl, hx⟩ := wf_u64 w0
  clear w0
  obtain ⟨y, rfl, hy⟩ := wf_u64 w1
  clear w1
  by_cases h1 : x = 9218868437227405312
  · have c := fun w => i_mx x y _ (mx_infx x y hx hy (by simp [h1])) w
    have tx : ∀ _ : True, ((x : Int) == 9218868437227405312) = true := fun _ => by simp; omega
    clear h1
    have C := Lib.hid c
    clear c
    go_enter Try.func6, Try.ntmps6
    go_wp2_with (first | (go_at_call 17; refine (C.out _).mono ?_; rintro e w' ⟨rfl, rfl⟩))
    go_ret
    exact ⟨rfl, Grown.refl _⟩
  have ix : decide (x = 9218868437227405312) = false := by simp [h1]
  have tx : ∀ _ : True, ((x : Int) == 9218868437227405312) = false := fun _ => by simp; omega
  by_cases h2 : y = 9218868437227405312
  · have c := fun w => i_mx x y _ (mx_infy x y hx hy ix (by simp [h2])) w
    have ty : ∀ _ : True, ((y : Int) == 9218868437227405312) = true := fun _ => by simp; omega
    clear h1 h2 ix
    have C := Lib.hid c
    clear c
    go_enter Try.func6, Try.ntmps6
    go_wp2_with (first | (go_at_call 17; refine (C.out _).mono ?_; rintro e w' ⟨rfl, rfl⟩))
    go_ret
    exact ⟨rfl, Grown.refl _⟩
  have iy : decide (y = 9218868437227405312) = false := by simp [h2]
  have ty : ∀ _ : True, ((y : Int) == 9218868437227405312) = false := fun _ => by simp; omega
  have nq : isNan 9221120237041090561 = true := by decide
  cases nx : isNan x
  case true =>
    have c := fun w => i_mx x y _ (mx_nanx x y hx hy ix iy nx) w
    clear h1 h2 ix iy
    go_enter Try.func6, Try.ntmps6
    go_wp2_with fail
    refine (c _).mono ?_
    rintro e w' ⟨rfl, rfl⟩
    go_wp2_with fail
    refine (nan_any x true nx _).mono ?_
    rintro e w' ⟨rfl, rfl⟩
    go_wp2_with fail
    refine (nan_any 9221120237041090561 true nq _).mono ?_
    rintro e w' ⟨rfl, rfl⟩
    go_wp2
    go_ret
    exact ⟨rfl, Grown.refl _⟩
  cases ny : isNan y
  case true =>
    have c := fun w => i_mx x y _ (mx_nany x y hx hy ix iy nx ny) w
    clear h1 h2 ix iy
    go_enter Try.func6, Try.ntmps6
    go_wp2_with fail
    refine (c _).mono ?_
    rintro e w' ⟨rfl, rfl⟩
    go_wp2_with fail
    refine (nan_any x false nx _).mono ?_
    rintro e w' ⟨rfl, rfl⟩
    go_wp2_with fail
    refine (nan_any y true ny _).mono ?_
    rintro e w' ⟨rfl, rfl⟩
    go_wp2_with fail
    refine (nan_any 9221120237041090561 true nq _).mono ?_
    rintro e w' ⟨rfl, rfl⟩
    go_wp2
    go_ret
    exact ⟨rfl, Grown.refl _⟩
  have e1 := or_abs x y hx hy
  have r1 : ∀ _ : True, _ = _ := fun _ => e1
  have e2 := rung_or_zero x y
  have k1 := place_eq_zero x
  have k2 := place_eq_zero y
  by_cases hz : rung x = 0 ∧ rung y = 0
  · have p1 := k1.2 hz.1
    have p2 := k2.2 hz.2
    rcases zero_word x hx hz.1 with rfl | rfl <;> rcases zero_word y hy hz.2 with rfl | rfl
    · have c := fun w => i_mx 0 0 _ (mx_zp 0 0 hx hy ix iy nx ny p1 (p1.trans p2.symm) (by decide)) w
      have n1 := fun w => nan_any 0 false nx w
      have n2 := fun w => nan_any 0 false ny w
      clear e1 r1 e2 k1 k2 p1 p2 hz h1 h2 ix iy tx ty
      go_enter Try.func6, Try.ntmps6
      go_wp2_with fail
      refine (c _).mono ?_
      rintro e w' ⟨rfl, rfl⟩
      go_wp2_with fail
      refine (n1 _).mono ?_
      rintro e w' ⟨rfl, rfl⟩
      go_wp2_with fail
      refine (n2 _).mono ?_
      rintro e w' ⟨rfl, rfl⟩
      go_wp2
      go_ret
      exact ⟨rfl, Grown.refl _⟩
    · have c := fun w => i_mx 0 9223372036854775808 _ (mx_zp 0 9223372036854775808 hx hy ix iy nx ny p1 (p1.trans p2.symm) (by decide)) w
      have n1 := fun w => nan_any 0 false nx w
      have n2 := fun w => nan_any 9223372036854775808 false ny w
      clear e1 r1 e2 k1 k2 p1 p2 hz h1 h2 ix iy tx ty
      go_enter Try.func6, Try.ntmps6
      go_wp2_with fail
      refine (c _).mono ?_
      rintro e w' ⟨rfl, rfl⟩
      go_wp2_with fail
      refine (n1 _).mono ?_
      rintro e w' ⟨rfl, rfl⟩
      go_wp2_with fail
      refine (n2 _).mono ?_
      rintro e w' ⟨rfl, rfl⟩
      go_wp2
      go_ret
      exact ⟨rfl, Grown.refl _⟩
    · have c := fun w => i_mx 9223372036854775808 0 _ (mx_zn 9223372036854775808 0 hx hy ix iy nx ny p1 (p1.trans p2.symm) (by decide)) w
      have n1 := fun w => nan_any 9223372036854775808 false nx w
      have n2 := fun w => nan_any 0 false ny w
      clear e1 r1 e2 k1 k2 p1 p2 hz h1 h2 ix iy tx ty
      go_enter Try.func6, Try.ntmps6
      go_wp2_with fail
      refine (c _).mono ?_
      rintro e w' ⟨rfl, rfl⟩
      go_wp2_with fail
      refine (n1 _).mono ?_
      rintro e w' ⟨rfl, rfl⟩
      go_wp2_with fail
      refine (n2 _).mono ?_
      rintro e w' ⟨rfl, rfl⟩
      go_wp2
      go_ret
      exact ⟨rfl, Grown.refl _⟩
    · have c := fun w => i_mx 9223372036854775808 9223372036854775808 _ (mx_zn 9223372036854775808 9223372036854775808 hx hy ix iy nx ny p1 (p1.trans p2.symm) (by decide)) w
      have n1 := fun w => nan_any 9223372036854775808 false nx w
      have n2 := fun w => nan_any 9223372036854775808 false ny w
      clear e1 r1 e2 k1 k2 p1 p2 hz h1 h2 ix iy tx ty
      go_enter Try.func6, Try.ntmps6
      go_wp2_with fail
      refine (c _).mono ?_
      rintro e w' ⟨rfl, rfl⟩
      go_wp2_with fail
      refine (n1 _).mono ?_
      rintro e w' ⟨rfl, rfl⟩
      go_wp2_with fail
      refine (n2 _).mono ?_
      rintro e w' ⟨rfl, rfl⟩
      go_wp2
      go_ret
      exact ⟨rfl, Grown.refl _⟩
  have tz : ∀ _ : True, _ = false := fun _ => e2.trans (by simpa using hz)
  generalize rung (x ||| y) = z at r1 tz
  clear e1 e2
  by_cases hg : place y < place x
  · have tg : ∀ _ : True, decide (place y < place x) = true := fun _ => by simpa using hg
    have c : ∀ w, Calls Try.prog 17 #[.int .u64 (x : Int), .int .u64 (y : Int)] w fun e w' => e = .returned (.int .u64 (x : Int)) ∧ w = w' := by
      intro w
      by_cases h0 : place x = 0
      · have hne : place x ≠ place y := fun h => hz ⟨k1.1 h0, k2.1 (by omega)⟩
        exact i_mx x y _ (mx_zx x y hx hy ix iy nx ny h0 hne hg) w
      · exact i_mx x y _ (mx_cx x y hx hy ix iy nx ny h0 hg) w
    have C := Lib.hid c
    clear c hg k1 k2 hz h1 h2 ix iy
    go_enter Try.func6, Try.ntmps6
    go_wp2_with (first | (go_at_call 17; refine (C.out _).mono ?_; rintro e w' ⟨rfl, rfl⟩) | (go_at_call 16; refine (nan_any _ _ (by assumption) _).mono ?_; rintro e w' ⟨rfl, rfl⟩) | (go_at_call 15; refine (place_any _ (by assumption) _).mono ?_; rintro e w' ⟨rfl, rfl⟩))
    go_ret
    exact ⟨rfl, Grown.refl _⟩
  · have tg : ∀ _ : True, decide (place y < place x) = false := fun _ => by simpa using hg
    have c : ∀ w, Calls Try.prog 17 #[.int .u64 (x : Int), .int .u64 (y : Int)] w fun e w' => e = .returned (.int .u64 (y : Int)) ∧ w = w' := by
      intro w
      by_cases h0 : place x = 0
      · have hne : place x ≠ place y := fun h => hz ⟨k1.1 h0, k2.1 (by omega)⟩
        exact i_mx x y _ (mx_zy x y hx hy ix iy nx ny h0 hne hg) w
      · exact i_mx x y _ (mx_cy x y hx hy ix iy nx ny h0 hg) w
    have C := Lib.hid c
    clear c hg k1 k2 hz h1 h2 ix iy
    go_enter Try.func6, Try.ntmps6
    go_wp2_with (first | (go_at_call 17; refine (C.out _).mono ?_; rintro e w' ⟨rfl, rfl⟩) | (go_at_call 16; refine (nan_any _ _ (by assumption) _).mono ?_; rintro e w' ⟨rfl, rfl⟩) | (go_at_call 15; refine (place_any _ (by assumption) _).mono ?_; rintro e w' ⟨rfl, rfl⟩))
    go_ret
    exact ⟨rfl, Grown.refl _⟩

set_option maxRecDepth 100000 in
theorem lifted (os : Os) (started : os.Started) (H : Type) (enc : TypeId × Value → H) :
    ReturnsInHanded {} Try.checked os 6 .any (Rows.fnMaxSpec.pre6 enc Try.prog Try.f6 Rows.fnMaxRow.domain false) (Rows.fnMaxSpec.post enc Try.prog Try.f6 false true false false) := by
  refine returnsInHanded_of_change (C := Try.checked) own started (by kernel_rfl) Try.func6
    (ChangeSpec.witness6 (enc := enc) (C := Try.checked) false ⟨#[], #[.int .u64 0, .int .u64 0], []⟩ 8 (by kernel_rfl) (by kernel_rfl) (by kernel_rfl) (by kernel_rfl)) ?_
  intro W base args ds gs before hval0 hW hcnd _
  have hval : ∀ (j : Nat) t v, Try.f6.params[j]? = some t → args[j]? = some v → Value.okWide Try.prog W .any base t v := hval0
  have hW' := hW
  obtain ⟨p, q, hA0, hV, rfl, hfz, hnd⟩ := hW
  have hA : DataW.TrodAll enc Try.prog W 0 (fun _ => true) true Try.f6.params.toList args.toList ds p := hA0
  rw [Try.params6] at hA hval
  obtain ⟨v0, vs0, d0, ds0, p0, q0, hargs, rfl, rfl, h0, r0⟩ := trodAll_cons hA
  obtain ⟨v1, vs1, d1, ds1, p1, q1, rfl, rfl, rfl, h1, r1⟩ := trodAll_cons r0
  obtain ⟨rfl, rfl, rfl⟩ := trodAll_nil r1
  obtain rfl : args = #[v0, v1] := by cases args; simp_all
  obtain ⟨rfl, rfl⟩ := trodVars_none hV
  obtain ⟨a0, rfl, rfl, rfl, w0⟩ := open_int Try.underlying25 (hval 0 25 v0 rfl rfl) h0
  obtain ⟨a1, rfl, rfl, rfl, w1⟩ := open_int Try.underlying25 (hval 1 25 v1 rfl rfl) h1
  clear hA0 hval0
  simp only [List.append_nil] at hW'
  refine (walk a0 a1 w0 w1 W).mono fun e W' ⟨he, hg⟩ => ?_
  subst he
  exact ⟨_, rfl, post_of_same (pa := []) (pv := []) hW' (fun _ _ _ => (trodAll_cons_mk (shut_bool Try.underlying4 _) trodAll_mk0)) (fun sp _ => (trodAll_cons_mk (shut_int Try.underlying25 w0) (trodAll_cons_mk (shut_int Try.underlying25 w1) trodAll_mk0))) (fun _ _ => rfl) rfl
    (hg.frame _) hg.2.1 (ok_one (by kernel_rfl) rfl (okWide_bool_mk Try.underlying4 _))⟩

theorem over : Rows.fnMaxRow.holds Try.pinned (OpenSpec.ofChange Rows.fnMaxSpec) :=
  OpenClaim.holds_of_wide 6 Try.f6 rfl rfl rfl rfl rfl rfl rfl ⟨rfl, rfl, rfl, rfl, rfl⟩ rfl rfl rfl rfl rfl (by kernel_rfl) Try.func6 (by kernel_rfl)
    (of_decide_eq_true (by kernel_rfl)) (by unfold Func.isWrapper; first | (rw [if_pos (by decide +kernel)]; kernel_rfl) | (rw [if_neg (by decide +kernel)]; exact ⟨rfl, rfl⟩))
    (fun os started H enc _ => lifted os started H enc)

theorem proved : Rows.FnMaxSaid := over
#print axioms proved
end Go.Proofs.Ytgbbaokaocofoaa.fnMax
