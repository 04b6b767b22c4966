/- Proved: FnRemainder returns true for every input, and its arguments read afterwards as before. No conditions. -/
import Derived.Test.YtbpggopjiogimaaRows
import Derived.WalkKit
import Derived.ProofKit
import Derived.OpenShut
import Derived.ShutString
import Derived.Test.YtbpggopjiogimaaWalkF23
import Derived.Test.YtbpggopjiogimaaWalkF25
namespace Go.Proofs.Ytbpggopjiogimaa.fnRemainder
open Go.ChangeShapes Go.WideShapes Go.ChangeAt Go.RowKit Go.Proofs.Ytbpggopjiogimaa.Plain
set_option linter.unusedVariables false

theorem own : ownKnob Try.prog.godebug = none := by kernel_rfl

set_option maxHeartbeats 1000000 in
theorem walk (a0 : Int) (a1 : Int) (w0 : (Lit.int .u64 a0).wf = true) (w1 : (Lit.int .u64 a1).wf = true) (w : World) :
    Calls Try.prog 5 #[.int .u64 a0, .int .u64 a1] w fun e w' => e = .returned (.bool true) ∧ Grown w w' := by
  obtain ⟨x, rfl, hx⟩ := wf_u64 w0
  clear w0
  obtain ⟨y, rfl, hy⟩ := wf_u64 w1
  clear w1
  have r0 : ∀ _ : True, _ = _ := fun _ => abs_num y hy
  cases nx : isNan x
  case true =>
    have c := fun w => i_rm_none x y hx hy (Or.inr (Or.inr (Or.inl nx))) w
    generalize rung y = Y at *
    go_enter Try.func5, Try.ntmps5
    go_wp2_with fail
    refine (c _).mono ?_
    rintro e w' ⟨rfl, rfl⟩
    go_wp2_with fail
    refine (nan_any x true nx _).mono ?_
    rintro e w' ⟨rfl, rfl⟩
    go_wp2_with fail
    refine (nan_any 9221120237041090561 true (by decide) _).mono ?_
    rintro e w' ⟨rfl, rfl⟩
    go_wp2
    go_ret
    exact ⟨rfl, Grown.refl _⟩
  cases ny : isNan y
  case true =>
    have c := fun w => i_rm_none x y hx hy (Or.inr (Or.inr (Or.inr ny))) w
    generalize rung y = Y at *
    go_enter Try.func5, Try.ntmps5
    go_wp2_with fail
    refine (c _).mono ?_
    rintro e w' ⟨rfl, rfl⟩
    go_wp2_with fail
    refine (nan_any x false nx _).mono ?_
    rintro e w' ⟨rfl, rfl⟩
    go_wp2_with fail
    refine (nan_any y true ny _).mono ?_
    rintro e w' ⟨rfl, rfl⟩
    go_wp2_with fail
    refine (nan_any 9221120237041090561 true (by decide) _).mono ?_
    rintro e w' ⟨rfl, rfl⟩
    go_wp2
    go_ret
    exact ⟨rfl, Grown.refl _⟩
  cases ix : isInf x
  case true =>
    have c := fun w => i_rm_none x y hx hy (Or.inr (Or.inl ix)) w
    generalize rung y = Y at *
    go_enter Try.func5, Try.ntmps5
    go_wp2_with fail
    refine (c _).mono ?_
    rintro e w' ⟨rfl, rfl⟩
    go_wp2_with fail
    refine (nan_any x false nx _).mono ?_
    rintro e w' ⟨rfl, rfl⟩
    go_wp2_with fail
    refine (nan_any y false ny _).mono ?_
    rintro e w' ⟨rfl, rfl⟩
    go_wp2_with fail
    refine (infinite_any x true ix _).mono ?_
    rintro e w' ⟨rfl, rfl⟩
    go_wp2_with fail
    refine (nan_any 9221120237041090561 true (by decide) _).mono ?_
    rintro e w' ⟨rfl, rfl⟩
    go_wp2
    go_ret
    exact ⟨rfl, Grown.refl _⟩
  have hfx : rung x < 9218868437227405312 := by
    unfold isNan at nx; unfold isInf at ix; simp at nx ix; omega
  by_cases h0 : rung y = 0
  · have c := fun w => i_rm_none x y hx hy (Or.inl h0) w
    have t0 : ∀ _ : True, ((rung y : Int) == 0) = true := fun _ => by rw [h0]; rfl
    generalize rung y = Y at *
    clear h0 hfx
    go_enter Try.func5, Try.ntmps5
    go_wp2_with fail
    refine (c _).mono ?_
    rintro e w' ⟨rfl, rfl⟩
    go_wp2_with fail
    refine (nan_any x false nx _).mono ?_
    rintro e w' ⟨rfl, rfl⟩
    go_wp2_with fail
    refine (nan_any y false ny _).mono ?_
    rintro e w' ⟨rfl, rfl⟩
    go_wp2_with fail
    refine (infinite_any x false ix _).mono ?_
    rintro e w' ⟨rfl, rfl⟩
    go_wp2_with fail
    refine (nan_any 9221120237041090561 true (by decide) _).mono ?_
    rintro e w' ⟨rfl, rfl⟩
    go_wp2
    go_ret
    exact ⟨rfl, Grown.refl _⟩
  have t0 : ∀ _ : True, ((rung y : Int) == 0) = false := fun _ => by simp; omega
  cases iy : isInf y
  case true =>
    have hyi : rung y = 9218868437227405312 := by unfold isInf at iy; simpa using iy
    have c := fun w => i_rm_inf x y hx hy hyi hfx w
    generalize rung y = Y at *
    clear h0 hfx hyi
    go_enter Try.func5, Try.ntmps5
    go_wp2_with fail
    refine (c _).mono ?_
    rintro e w' ⟨rfl, rfl⟩
    go_wp2_with fail
    refine (nan_any x false nx _).mono ?_
    rintro e w' ⟨rfl, rfl⟩
    go_wp2_with fail
    refine (nan_any y false ny _).mono ?_
    rintro e w' ⟨rfl, rfl⟩
    go_wp2_with fail
    refine (infinite_any x false ix _).mono ?_
    rintro e w' ⟨rfl, rfl⟩
    go_wp2_with fail
    refine (infinite_any y true iy _).mono ?_
    rintro e w' ⟨rfl, rfl⟩
    go_wp2
    go_ret
    exact ⟨rfl, Grown.refl _⟩
  have hfy : rung y < 9218868437227405312 := by
    unfold isNan at ny; unfold isInf at iy; simp at ny iy; omega
  have c := fun w => i_rm_any x y hx hy h0 hfx hfy w
  have d := fun w => srm_any x y hx hy h0 w
  generalize remW x y = m at *
  generalize rung y = Y at *
  clear h0 hfx hfy
  go_enter Try.func5, Try.ntmps5
  go_wp2_with fail
  refine (c _).mono ?_
  rintro e w' ⟨rfl, rfl⟩
  go_wp2_with fail
  refine (nan_any x false nx _).mono ?_
  rintro e w' ⟨rfl, rfl⟩
  go_wp2_with fail
  refine (nan_any y false ny _).mono ?_
  rintro e w' ⟨rfl, rfl⟩
  go_wp2_with fail
  refine (infinite_any x false ix _).mono ?_
  rintro e w' ⟨rfl, rfl⟩
  go_wp2_with fail
  refine (infinite_any y false iy _).mono ?_
  rintro e w' ⟨rfl, rfl⟩
  go_wp2_with fail
  refine (d _).mono ?_
  rintro e w1 ⟨rfl, hg⟩
  go_wp2
  go_ret
  exact ⟨rfl, hg⟩

set_option maxRecDepth 100000 in
theorem lifted (os : Os) (started : os.Started) (H : Type) (enc : TypeId × Value → H) :
    ReturnsInHanded {} Try.checked os 5 .any (Rows.fnRemainderSpec.pre6 enc Try.prog Try.f5 Rows.fnRemainderRow.domain false) (Rows.fnRemainderSpec.post enc Try.prog Try.f5 false true false false) := by
  refine returnsInHanded_of_change (C := Try.checked) own started (by kernel_rfl) Try.func5
    (ChangeSpec.witness6 (enc := enc) (C := Try.checked) false ⟨#[], #[.int .u64 0, .int .u64 0], []⟩ 8 (by kernel_rfl) (by kernel_rfl) (by kernel_rfl) (by kernel_rfl)) ?_
  intro W base args ds gs before hval0 hW hcnd _
  have hval : ∀ (j : Nat) t v, Try.f5.params[j]? = some t → args[j]? = some v → Value.okWide Try.prog W .any base t v := hval0
  have hW' := hW
  obtain ⟨p, q, hA0, hV, rfl, hfz, hnd⟩ := hW
  have hA : DataW.TrodAll enc Try.prog W 0 (fun _ => true) true Try.f5.params.toList args.toList ds p := hA0
  rw [Try.params5] at hA hval
  obtain ⟨v0, vs0, d0, ds0, p0, q0, hargs, rfl, rfl, h0, r0⟩ := trodAll_cons hA
  obtain ⟨v1, vs1, d1, ds1, p1, q1, rfl, rfl, rfl, h1, r1⟩ := trodAll_cons r0
  obtain ⟨rfl, rfl, rfl⟩ := trodAll_nil r1
  obtain rfl : args = #[v0, v1] := by cases args; simp_all
  obtain ⟨rfl, rfl⟩ := trodVars_none hV
  obtain ⟨a0, rfl, rfl, rfl, w0⟩ := open_int Try.underlying22 (hval 0 22 v0 rfl rfl) h0
  obtain ⟨a1, rfl, rfl, rfl, w1⟩ := open_int Try.underlying22 (hval 1 22 v1 rfl rfl) h1
  clear hA0 hval0
  simp only [List.append_nil] at hW'
  refine (walk a0 a1 w0 w1 W).mono fun e W' ⟨he, hg⟩ => ?_
  subst he
  exact ⟨_, rfl, post_of_same (pa := []) (pv := []) hW' (fun _ _ _ => (trodAll_cons_mk (shut_bool Try.underlying4 _) trodAll_mk0)) (fun sp _ => (trodAll_cons_mk (shut_int Try.underlying22 w0) (trodAll_cons_mk (shut_int Try.underlying22 w1) trodAll_mk0))) (fun _ _ => rfl) rfl
    (hg.frame _) hg.2.1 (ok_one (by kernel_rfl) rfl (okWide_bool_mk Try.underlying4 _))⟩

theorem over : Rows.fnRemainderRow.holds Try.pinned (OpenSpec.ofChange Rows.fnRemainderSpec) :=
  OpenClaim.holds_of_wide 5 Try.f5 rfl rfl rfl rfl rfl rfl rfl ⟨rfl, rfl, rfl, rfl, rfl⟩ rfl rfl rfl rfl rfl (by kernel_rfl) Try.func5 (by kernel_rfl)
    (of_decide_eq_true (by kernel_rfl)) (by unfold Func.isWrapper; first | (rw [if_pos (by decide +kernel)]; kernel_rfl) | (rw [if_neg (by decide +kernel)]; exact ⟨rfl, rfl⟩))
    (fun os started H enc _ => lifted os started H enc)

theorem proved : Rows.FnRemainderSaid := over
#print axioms proved
end Go.Proofs.Ytbpggopjiogimaa.fnRemainder
