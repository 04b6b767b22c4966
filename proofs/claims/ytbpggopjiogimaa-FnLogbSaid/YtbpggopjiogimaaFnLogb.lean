/- Proved: FnLogb returns true for every input, and its arguments read afterwards as before. No conditions. -/
import Derived.Test.YtbpggopjiogimaaRows
import Derived.WalkKit
import Derived.ProofKit
import Derived.OpenShut
import Derived.ShutString
import Derived.Test.YtbpggopjiogimaaWalkF15
namespace Go.Proofs.Ytbpggopjiogimaa.fnLogb
open Go.ChangeShapes Go.WideShapes Go.ChangeAt Go.RowKit Go.Proofs.Ytbpggopjiogimaa.Plain
set_option linter.unusedVariables false

theorem own : ownKnob Try.prog.godebug = none := by kernel_rfl

set_option maxHeartbeats 1000000 in
theorem walk (a0 : Int) (w0 : (Lit.int .u64 a0).wf = true) (w : World) :
    Calls Try.prog 11 #[.int .u64 a0] w fun e w' => e = .returned (.bool true) ∧ Grown w w' := by
  obtain ⟨x, rfl, hx⟩ := wf_u64 w0
  clear w0
  have r0 : ∀ _ : True, _ = _ := fun _ => abs_num x hx
  have hfe := fin_ef x
  cases nx : isNan x
  case true =>
    have c := fun w => i_logb_nan x hx nx w
    clear hfe
    go_enter Try.func11, Try.ntmps11
    go_wp2_with fail
    refine (c _).mono ?_
    rintro e w' ⟨rfl, rfl⟩
    go_wp2_with fail
    refine (nan_any x true nx _).mono ?_
    rintro e w' ⟨rfl, rfl⟩
    go_wp2_with fail
    refine (nan_any x true nx _).mono ?_
    rintro e w' ⟨rfl, rfl⟩
    go_wp2
    go_ret
    exact ⟨rfl, Grown.refl _⟩
  cases ix : isInf x
  case true =>
    have hi : rung x = 9218868437227405312 := by unfold isInf at ix; simpa using ix
    have c := fun w => i_logb_inf x hx hi w
    clear hfe hi
    go_enter Try.func11, Try.ntmps11
    go_wp2_with fail
    refine (c _).mono ?_
    rintro e w' ⟨rfl, rfl⟩
    go_wp2_with fail
    refine (nan_any x false nx _).mono ?_
    rintro e w' ⟨rfl, rfl⟩
    go_wp2_with fail
    refine (infinite_any x true ix _).mono ?_
    rintro e w' ⟨rfl, rfl⟩
    go_wp2
    go_ret
    exact ⟨rfl, Grown.refl _⟩
  by_cases hz : rung x = 0
  · skip
    have t0 : ∀ _ : True, ((rung x : Int) == 0) = true := fun _ => by rw [hz]; rfl
    have c := fun w => i_logb_zero x hx hz w
    generalize rung x = r at *
    clear hz hfe
    go_enter Try.func11, Try.ntmps11
    go_wp2_with fail
    refine (c _).mono ?_
    rintro e w' ⟨rfl, rfl⟩
    go_wp2_with fail
    refine (nan_any x false nx _).mono ?_
    rintro e w' ⟨rfl, rfl⟩
    go_wp2_with fail
    refine (infinite_any x false ix _).mono ?_
    rintro e w' ⟨rfl, rfl⟩
    go_wp2
    go_ret
    exact ⟨rfl, Grown.refl _⟩
  have hf : rung x < 9218868437227405312 := by
    unfold isNan at nx; unfold isInf at ix; simp at nx ix; omega
  have t0 : ∀ _ : True, ((rung x : Int) == 0) = false := fun _ => by simp; omega
  have c := fun w => i_logb_fin x hx hf hz w
  have d := fun w => log_any x hx hz w
  have h1 : mantW x ≠ 0 := fun g => hz ((mantW_zero x).1 g)
  have hl := lgW_le x h1
  have hE := expW_lo x
  have hzr : -1200 < nExp x + 52 ∧ nExp x + 52 < 1200 := by unfold nExp; omega
  generalize nExp x + 52 = z at *
  have db := fun w => bits_near (decide (z < 0)) z.natAbs 0 (by omega) (by omega) (by omega) w
  generalize near (decide (z < 0)) z.natAbs 0 = v at *
  generalize rung x = r at *
  clear hfe hz hf h1 hl hE
  obtain ⟨a, ha⟩ : ∃ a : Nat, a = z.natAbs := ⟨_, rfl⟩
  rw [← ha] at db
  have q4 : ∀ _ : True, IntKind.u64.wrap (a : Int) = (a : Int) := fun _ => by rw [IntKind.wrap_u64]; omega
  rcases Classical.em (z < 0) with g | g
  · have ge : decide (z < 0) = true := by simpa using g
    rw [ge] at db
    have q2 : ∀ _ : True, decide (z < 0) = true := fun _ => ge
    have q0 : ∀ _ : True, wrap64 (-z) = (a : Int) := fun _ => by unfold wrap64; omega
    have q1 : ∀ _ : True, IntKind.i64.wrap (-z) = (a : Int) := fun _ => by rw [IntKind.wrap_i64]; omega
    have hlt : z < (a : Int) := by omega
    clear ha hzr g ge
    go_enter Try.func11, Try.ntmps11
    go_wp2_with fail
    refine (c _).mono ?_
    rintro e w' ⟨rfl, rfl⟩
    go_wp2_with fail
    refine (nan_any x false nx _).mono ?_
    rintro e w' ⟨rfl, rfl⟩
    go_wp2_with fail
    refine (infinite_any x false ix _).mono ?_
    rintro e w' ⟨rfl, rfl⟩
    go_wp2_with fail
    refine (d _).mono ?_
    rintro e w1 ⟨rfl, hg⟩
    go_wp2_with fail
    refine (db _).mono ?_
    rintro e w2 ⟨rfl, hg2⟩
    go_wp2
    go_ret
    exact ⟨rfl, fgrownT hg hg2⟩
  · have ge : decide (z < 0) = false := by simpa using g
    rw [ge] at db
    obtain rfl : z = (a : Int) := by omega
    obtain ⟨y, hy⟩ : ∃ y : Int, y = -(a : Int) := ⟨_, rfl⟩
    have q0 : ∀ _ : True, wrap64 (-(a : Int)) = y := fun _ => by unfold wrap64; omega
    have q1 : ∀ _ : True, IntKind.i64.wrap (-(a : Int)) = y := fun _ => by rw [IntKind.wrap_i64]; omega
    have q2 : ∀ _ : True, decide ((a : Int) < 0) = false := fun _ => ge
    have hlt : y ≤ (a : Int) := by omega
    clear ha hzr g ge hy
    go_enter Try.func11, Try.ntmps11
    go_wp2_with fail
    refine (c _).mono ?_
    rintro e w' ⟨rfl, rfl⟩
    go_wp2_with fail
    refine (nan_any x false nx _).mono ?_
    rintro e w' ⟨rfl, rfl⟩
    go_wp2_with fail
    refine (infinite_any x false ix _).mono ?_
    rintro e w' ⟨rfl, rfl⟩
    go_wp2_with fail
    refine (d _).mono ?_
    rintro e w1 ⟨rfl, hg⟩
    go_wp2_with fail
    refine (db _).mono ?_
    rintro e w2 ⟨rfl, hg2⟩
    go_wp2
    go_ret
    exact ⟨rfl, fgrownT hg hg2⟩

set_option maxRecDepth 100000 in
theorem lifted (os : Os) (started : os.Started) (H : Type) (enc : TypeId × Value → H) :
    ReturnsInHanded {} Try.checked os 11 .any (Rows.fnLogbSpec.pre6 enc Try.prog Try.f11 Rows.fnLogbRow.domain false) (Rows.fnLogbSpec.post enc Try.prog Try.f11 false true false false) := by
  refine returnsInHanded_of_change (C := Try.checked) own started (by kernel_rfl) Try.func11
    (ChangeSpec.witness6 (enc := enc) (C := Try.checked) false ⟨#[], #[.int .u64 0], []⟩ 8 (by kernel_rfl) (by kernel_rfl) (by kernel_rfl) (by kernel_rfl)) ?_
  intro W base args ds gs before hval0 hW hcnd _
  have hval : ∀ (j : Nat) t v, Try.f11.params[j]? = some t → args[j]? = some v → Value.okWide Try.prog W .any base t v := hval0
  have hW' := hW
  obtain ⟨p, q, hA0, hV, rfl, hfz, hnd⟩ := hW
  have hA : DataW.TrodAll enc Try.prog W 0 (fun _ => true) true Try.f11.params.toList args.toList ds p := hA0
  rw [Try.params11] at hA hval
  obtain ⟨v0, vs0, d0, ds0, p0, q0, hargs, rfl, rfl, h0, r0⟩ := trodAll_cons hA
  obtain ⟨rfl, rfl, rfl⟩ := trodAll_nil r0
  obtain rfl : args = #[v0] := by cases args; simp_all
  obtain ⟨rfl, rfl⟩ := trodVars_none hV
  obtain ⟨a0, rfl, rfl, rfl, w0⟩ := open_int Try.underlying22 (hval 0 22 v0 rfl rfl) h0
  clear hA0 hval0
  simp only [List.append_nil] at hW'
  refine (walk a0 w0 W).mono fun e W' ⟨he, hg⟩ => ?_
  subst he
  exact ⟨_, rfl, post_of_same (pa := []) (pv := []) hW' (fun _ _ _ => (trodAll_cons_mk (shut_bool Try.underlying4 _) trodAll_mk0)) (fun sp _ => (trodAll_cons_mk (shut_int Try.underlying22 w0) trodAll_mk0)) (fun _ _ => rfl) rfl
    (hg.frame _) hg.2.1 (ok_one (by kernel_rfl) rfl (okWide_bool_mk Try.underlying4 _))⟩

theorem over : Rows.fnLogbRow.holds Try.pinned (OpenSpec.ofChange Rows.fnLogbSpec) :=
  OpenClaim.holds_of_wide 11 Try.f11 rfl rfl rfl rfl rfl rfl rfl ⟨rfl, rfl, rfl, rfl, rfl⟩ rfl rfl rfl rfl rfl (by kernel_rfl) Try.func11 (by kernel_rfl)
    (of_decide_eq_true (by kernel_rfl)) (by unfold Func.isWrapper; first | (rw [if_pos (by decide +kernel)]; kernel_rfl) | (rw [if_neg (by decide +kernel)]; exact ⟨rfl, rfl⟩))
    (fun os started H enc _ => lifted os started H enc)

theorem proved : Rows.FnLogbSaid := over
#print axioms proved
end Go.Proofs.Ytbpggopjiogimaa.fnLogb
