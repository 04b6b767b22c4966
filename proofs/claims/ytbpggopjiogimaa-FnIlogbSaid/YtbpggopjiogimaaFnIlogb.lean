/- Proved: FnIlogb returns true for every input, and its arguments read afterwards as before. No conditions. -/
import Derived.Test.YtbpggopjiogimaaRows
import Derived.WalkKit
import Derived.ProofKit
import Derived.OpenShut
import Derived.ShutString
import Derived.Test.YtbpggopjiogimaaWalkF15
import Derived.Test.YtbpggopjiogimaaFNext
namespace Go.Proofs.Ytbpggopjiogimaa.fnIlogb
open Go.ChangeShapes Go.WideShapes Go.ChangeAt Go.RowKit Go.Proofs.Ytbpggopjiogimaa.Plain
set_option linter.unusedVariables false

theorem own : ownKnob Try.prog.godebug = none := by kernel_rfl

set_option maxHeartbeats 1000000 in
theorem walk (a0 : Int) (w0 : (Lit.int .u64 a0).wf = true) (w : World) :
    Calls Try.prog 10 #[.int .u64 a0] w fun e w' => e = .returned (.bool true) ∧ Grown w w' := by
  obtain ⟨x, rfl, hx⟩ := wf_u64 w0
  clear w0
  have r0 : ∀ _ : True, _ = _ := fun _ => abs_num x hx
  have r1 : ∀ _ : True, _ = _ := fun _ => exp_and x
  by_cases h1 : ef x = 2047
  · have t1 : ∀ _ : True, (((ef x * 4503599627370496 : Nat) : Int) == 9218868437227405312) = true := fun _ => by rw [h1]; rfl
    have hN : isNan x = true ∨ rung x = 9218868437227405312 := by
      have := rung_fields x; unfold isNan; simp; omega
    have c : ∀ w, Calls Try.prog 24 #[.int .u64 (x : Int)] w fun e w' => e = .returned (.int .i64 2147483647) ∧ w = w' := fun w => by
      rcases hN with h | h
      · exact i_ilogb_nan x hx h w
      · exact i_ilogb_inf x hx h w
    generalize ef x * 4503599627370496 = ez at *
    clear h1 hN
    go_enter Try.func10, Try.ntmps10
    go_wp2_with fail
    refine (c _).mono ?_
    rintro e w' ⟨rfl, rfl⟩
    go_wp2
    go_ret
    exact ⟨rfl, Grown.refl _⟩
  have hfe := fin_ef x
  have hEl := ef_lt x
  have t1 : ∀ _ : True, (((ef x * 4503599627370496 : Nat) : Int) == 9218868437227405312) = false := fun _ => by
    rw [show (9218868437227405312 : Int) = ((9218868437227405312 : Nat) : Int) from rfl]; simp; omega
  by_cases hz : rung x = 0
  · have t0 : ∀ _ : True, ((rung x : Int) == 0) = true := fun _ => by rw [hz]; rfl
    have c := fun w => i_ilogb_zero x hx hz w
    generalize ef x * 4503599627370496 = ez at *
    generalize rung x = r at *
    clear h1 hfe hEl hz
    go_enter Try.func10, Try.ntmps10
    go_wp2_with fail
    refine (c _).mono ?_
    rintro e w' ⟨rfl, rfl⟩
    go_wp2
    go_ret
    exact ⟨rfl, Grown.refl _⟩
  have hf : rung x < 9218868437227405312 := by omega
  have t0 : ∀ _ : True, ((rung x : Int) == 0) = false := fun _ => by simp; omega
  have c := fun w => i_ilogb_fin x hx hf hz w
  have d := fun w => log_any x hx hz w
  generalize nExp x + 52 = z at *
  generalize ef x * 4503599627370496 = ez at *
  generalize rung x = r at *
  clear h1 hfe hEl hz hf
  go_enter Try.func10, Try.ntmps10
  go_wp2_with fail
  refine (c _).mono ?_
  rintro e w' ⟨rfl, rfl⟩
  go_wp2_with fail
  refine (d _).mono ?_
  rintro e w1 ⟨rfl, hg⟩
  go_wp2
  go_ret
  exact ⟨rfl, hg⟩

set_option maxRecDepth 100000 in
theorem lifted (os : Os) (started : os.Started) (H : Type) (enc : TypeId × Value → H) :
    ReturnsInHanded {} Try.checked os 10 .any (Rows.fnIlogbSpec.pre6 enc Try.prog Try.f10 Rows.fnIlogbRow.domain false) (Rows.fnIlogbSpec.post enc Try.prog Try.f10 false true false false) := by
  refine returnsInHanded_of_change (C := Try.checked) own started (by kernel_rfl) Try.func10
    (ChangeSpec.witness6 (enc := enc) (C := Try.checked) false ⟨#[], #[.int .u64 0], []⟩ 8 (by kernel_rfl) (by kernel_rfl) (by kernel_rfl) (by kernel_rfl)) ?_
  intro W base args ds gs before hval0 hW hcnd _
  have hval : ∀ (j : Nat) t v, Try.f10.params[j]? = some t → args[j]? = some v → Value.okWide Try.prog W .any base t v := hval0
  have hW' := hW
  obtain ⟨p, q, hA0, hV, rfl, hfz, hnd⟩ := hW
  have hA : DataW.TrodAll enc Try.prog W 0 (fun _ => true) true Try.f10.params.toList args.toList ds p := hA0
  rw [Try.params10] at hA hval
  obtain ⟨v0, vs0, d0, ds0, p0, q0, hargs, rfl, rfl, h0, r0⟩ := trodAll_cons hA
  obtain ⟨rfl, rfl, rfl⟩ := trodAll_nil r0
  obtain rfl : args = #[v0] := by cases args; simp_all
  obtain ⟨rfl, rfl⟩ := trodVars_none hV
  obtain ⟨a0, rfl, rfl, rfl, w0⟩ := open_int Try.underlying22 (hval 0 22 v0 rfl rfl) h0
  clear hA0 hval0
  simp only [List.append_nil] at hW'
  refine (walk a0 w0 W).mono fun e W' ⟨he, hg⟩ => ?_
  subst he
  exact ⟨_, rfl, post_of_same (pa := []) (pv := []) hW' (fun _ _ _ => (trodAll_cons_mk (shut_bool Try.underlying4 _) trodAll_mk0)) (fun sp _ => (trodAll_cons_mk (shut_int Try.underlying22 w0) trodAll_mk0)) (fun _ _ => rfl) rfl
    (hg.frame _) hg.2.1 (ok_one (by kernel_rfl) rfl (okWide_bool_mk Try.underlying4 _))⟩

theorem over : Rows.fnIlogbRow.holds Try.pinned (OpenSpec.ofChange Rows.fnIlogbSpec) :=
  OpenClaim.holds_of_wide 10 Try.f10 rfl rfl rfl rfl rfl rfl rfl ⟨rfl, rfl, rfl, rfl, rfl⟩ rfl rfl rfl rfl rfl (by kernel_rfl) Try.func10 (by kernel_rfl)
    (of_decide_eq_true (by kernel_rfl)) (by unfold Func.isWrapper; first | (rw [if_pos (by decide +kernel)]; kernel_rfl) | (rw [if_neg (by decide +kernel)]; exact ⟨rfl, rfl⟩))
    (fun os started H enc _ => lifted os started H enc)

theorem proved : Rows.FnIlogbSaid := over
#print axioms proved
end Go.Proofs.Ytbpggopjiogimaa.fnIlogb
