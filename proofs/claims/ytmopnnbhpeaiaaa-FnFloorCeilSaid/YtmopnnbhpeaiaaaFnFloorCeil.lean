/- Proved: FnFloorCeil returns true for every input, and its arguments read afterwards as before. No conditions. -/
import Derived.Test.YtmopnnbhpeaiaaaRows
import Derived.WalkKit
import Derived.ProofKit
import Derived.OpenShut
import Derived.ShutString
import Derived.Test.YtmopnnbhpeaiaaaWalkF3
import Derived.Test.YtmopnnbhpeaiaaaWalkF13
import Derived.Test.YtmopnnbhpeaiaaaFBetween
namespace Go.Proofs.Ytmopnnbhpeaiaaa.fnFloorCeil
open Go.ChangeShapes Go.WideShapes Go.ChangeAt Go.RowKit Go.Proofs.Ytmopnnbhpeaiaaa.Plain
set_option linter.unusedVariables false

theorem own : ownKnob Try.prog.godebug = none := by kernel_rfl

set_option maxHeartbeats 1000000 in
theorem walk (a0 : Int) (w0 : (Lit.int .u64 a0).wf = true) (w : World) :
    Calls Try.prog 8 #[.int .u64 a0] w fun e w' => e = .returned (.bool true) ∧ Grown w w' := by
  obtain ⟨x, rfl, hx⟩ := wf_u64 w0
  clear w0
  cases nx : isNan x
  case true =>
    go_enter Try.func8, Try.ntmps8
    go_wp2_with fail
    refine (nan_any x true nx _).mono ?_
    rintro e w' ⟨rfl, rfl⟩
    go_wp2
    go_ret
    exact ⟨rfl, Grown.refl _⟩
  have ca := fun w => i_floor x hx w
  have cb := fun w => i_ceil x hx w
  have co := fun w => i_floor (oppW x) (oppW_lt x) w
  have c1 := fun w => i_floor 4607182418800017408 (by omega) w
  rw [floor_one] at c1
  have pa := fun w => place_any (floorW x) (floorW_lt x hx) w
  have px := fun w => place_any x hx w
  have pb := fun w => place_any (ceilW x) (ceilW_lt x) w
  have l1 : ∀ _ : True, decide (place (floorW x) ≤ place x) = true := fun _ => by simpa using floor_le x hx
  have l2 : ∀ _ : True, decide (place x ≤ place (ceilW x)) = true := fun _ => by simpa using ceil_ge x
  have r1 : ∀ _ : True, _ = _ := fun _ => neg_bits x hx
  have r2 : ∀ _ : True, _ = _ := fun _ => neg_bits (ceilW x) (ceilW_lt x)
  rw [show wordD (!negB (ceilW x)) (rung (ceilW x)) = oppW (ceilW x) from rfl, opp_ceil] at r2
  rw [show wordD (!negB x) (rung x) = oppW x from rfl] at r1
  generalize floorW (oppW x) = fo at *
  generalize oppW x = o at *
  generalize floorW x = a at *
  generalize ceilW x = b at *
  generalize place a = pla at *
  generalize place b = plb at *
  generalize place x = plx at *
  go_enter Try.func8, Try.ntmps8
  go_wp2_with fail
  refine (nan_any x false nx _).mono ?_
  rintro e w' ⟨rfl, rfl⟩
  go_wp2_with fail
  refine (ca _).mono ?_
  rintro e w' ⟨rfl, rfl⟩
  go_wp2_with fail
  refine (cb _).mono ?_
  rintro e w' ⟨rfl, rfl⟩
  go_wp2_with fail
  refine (pa _).mono ?_
  rintro e w' ⟨rfl, rfl⟩
  go_wp2_with fail
  refine (px _).mono ?_
  rintro e w' ⟨rfl, rfl⟩
  go_wp2_with fail
  refine (px _).mono ?_
  rintro e w' ⟨rfl, rfl⟩
  go_wp2_with fail
  refine (pb _).mono ?_
  rintro e w' ⟨rfl, rfl⟩
  go_wp2_with fail
  refine (co _).mono ?_
  rintro e w' ⟨rfl, rfl⟩
  go_wp2_with fail
  refine (c1 _).mono ?_
  rintro e w' ⟨rfl, rfl⟩
  go_wp2
  go_ret
  exact ⟨rfl, Grown.refl _⟩

set_option maxRecDepth 100000 in
theorem lifted (os : Os) (started : os.Started) (H : Type) (enc : TypeId × Value → H) :
    ReturnsInHanded {} Try.checked os 8 .any (Rows.fnFloorCeilSpec.pre6 enc Try.prog Try.f8 Rows.fnFloorCeilRow.domain false) (Rows.fnFloorCeilSpec.post enc Try.prog Try.f8 false true false false) := by
  refine returnsInHanded_of_change (C := Try.checked) own started (by kernel_rfl) Try.func8
    (ChangeSpec.witness6 (enc := enc) (C := Try.checked) false ⟨#[], #[.int .u64 0], []⟩ 8 (by kernel_rfl) (by kernel_rfl) (by kernel_rfl) (by kernel_rfl)) ?_
  intro W base args ds gs before hval0 hW hcnd _
  have hval : ∀ (j : Nat) t v, Try.f8.params[j]? = some t → args[j]? = some v → Value.okWide Try.prog W .any base t v := hval0
  have hW' := hW
  obtain ⟨p, q, hA0, hV, rfl, hfz, hnd⟩ := hW
  have hA : DataW.TrodAll enc Try.prog W 0 (fun _ => true) true Try.f8.params.toList args.toList ds p := hA0
  rw [Try.params8] at hA hval
  obtain ⟨v0, vs0, d0, ds0, p0, q0, hargs, rfl, rfl, h0, r0⟩ := trodAll_cons hA
  obtain ⟨rfl, rfl, rfl⟩ := trodAll_nil r0
  obtain rfl : args = #[v0] := by cases args; simp_all
  obtain ⟨rfl, rfl⟩ := trodVars_none hV
  obtain ⟨a0, rfl, rfl, rfl, w0⟩ := open_int Try.underlying22 (hval 0 22 v0 rfl rfl) h0
  clear hA0 hval0
  simp only [List.append_nil] at hW'
  refine (walk a0 w0 W).mono fun e W' ⟨he, hg⟩ => ?_
  subst he
  exact ⟨_, rfl, post_of_same (pa := []) (pv := []) hW' (fun _ _ _ => (trodAll_cons_mk (shut_bool Try.underlying4 _) trodAll_mk0)) (fun sp _ => (trodAll_cons_mk (shut_int Try.underlying22 w0) trodAll_mk0)) (fun _ _ => rfl) rfl
    (hg.frame _) hg.2.1 (ok_one (by kernel_rfl) rfl (okWide_bool_mk Try.underlying4 _))⟩

theorem over : Rows.fnFloorCeilRow.holds Try.pinned (OpenSpec.ofChange Rows.fnFloorCeilSpec) :=
  OpenClaim.holds_of_wide 8 Try.f8 rfl rfl rfl rfl rfl rfl rfl ⟨rfl, rfl, rfl, rfl, rfl⟩ rfl rfl rfl rfl rfl (by kernel_rfl) Try.func8 (by kernel_rfl)
    (of_decide_eq_true (by kernel_rfl)) (by unfold Func.isWrapper; first | (rw [if_pos (by decide +kernel)]; kernel_rfl) | (rw [if_neg (by decide +kernel)]; exact ⟨rfl, rfl⟩))
    (fun os started H enc _ => lifted os started H enc)

theorem proved : Rows.FnFloorCeilSaid := over
#print axioms proved
end Go.Proofs.Ytmopnnbhpeaiaaa.fnFloorCeil
