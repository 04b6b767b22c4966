/- Proved: FnModf returns true for every input, and its arguments read afterwards as before. No conditions. -/
import Derived.Test.YtmopnnbhpeaiaaaRows
import Derived.WalkKit
import Derived.ProofKit
import Derived.OpenShut
import Derived.ShutString
import Derived.Test.YtmopnnbhpeaiaaaWalkF12
namespace Go.Proofs.Ytmopnnbhpeaiaaa.fnModf
open Go.ChangeShapes Go.WideShapes Go.ChangeAt Go.RowKit Go.Proofs.Ytmopnnbhpeaiaaa.Plain
set_option linter.unusedVariables false

theorem own : ownKnob Try.prog.godebug = none := by kernel_rfl

set_option maxHeartbeats 1000000 in
theorem walk (a0 : Int) (w0 : (Lit.int .u64 a0).wf = true) (w : World) :
    Calls Try.prog 10 #[.int .u64 a0] w fun e w' => e = .returned (.bool true) ∧ Grown w w' := by
  obtain ⟨x, rfl, hx⟩ := wf_u64 w0
  clear w0
  have hfin : isNan x = true ∨ isInf x = true → ¬ rung x < 9218868437227405312 := fun h => by
    rcases h with h | h
    · unfold isNan at h; simp at h; omega
    · unfold isInf at h; simp at h; omega
  cases nx : isNan x
  case true =>
    have c := fun w => i_modf_bad x hx (hfin (Or.inl nx)) w
    clear hfin
    go_enter Try.func10, Try.ntmps10
    go_wp2_with fail
    refine (c _).mono ?_
    rintro e w' ⟨⟨v, hv, hn, rfl⟩, hg⟩
    go_wp2_with fail
    refine (nan_any x true nx _).mono ?_
    rintro e w' ⟨rfl, rfl⟩
    go_wp2_with fail
    refine (nan_any x true nx _).mono ?_
    rintro e w' ⟨rfl, rfl⟩
    go_wp2_with fail
    refine (nan_any v true hn _).mono ?_
    rintro e w' ⟨rfl, rfl⟩
    go_wp2
    go_ret
    exact ⟨rfl, hg⟩
  cases ix : isInf x
  case true =>
    have c := fun w => i_modf_bad x hx (hfin (Or.inr ix)) w
    clear hfin
    go_enter Try.func10, Try.ntmps10
    go_wp2_with fail
    refine (c _).mono ?_
    rintro e w' ⟨⟨v, hv, hn, rfl⟩, hg⟩
    go_wp2_with fail
    refine (nan_any x false nx _).mono ?_
    rintro e w' ⟨rfl, rfl⟩
    go_wp2_with fail
    refine (infinite_any x true ix _).mono ?_
    rintro e w' ⟨rfl, rfl⟩
    go_wp2_with fail
    refine (nan_any v true hn _).mono ?_
    rintro e w' ⟨rfl, rfl⟩
    go_wp2
    go_ret
    exact ⟨rfl, hg⟩
  clear hfin
  have hf : rung x < 9218868437227405312 := by
    unfold isNan at nx; unfold isInf at ix; simp at nx ix; omega
  have c := fun w => i_modf_fin x hx hf w
  have d : ∀ w, Calls Try.prog 18 #[.int .u64 (x : Int), .int .i64 0] w fun e w' => e = .returned (.int .u64 (truncW x : Int)) ∧ Grown w w' := by
    intro w
    by_cases he : expW x < 0
    · rw [trunc_near x hx he]; exact whole_cut x hx he w
    · rw [trunc_whole x (by omega)]; exact whole_pos x hx 0 (by omega) w
  have d2 := fun w => fraction_any x hx w
  generalize truncW x = t at c d
  generalize fracW x = f at c d2
  clear hf
  go_enter Try.func10, Try.ntmps10
  go_wp2_with fail
  refine (c _).mono ?_
  rintro e w' ⟨rfl, rfl⟩
  go_wp2_with fail
  refine (nan_any x false nx _).mono ?_
  rintro e w' ⟨rfl, rfl⟩
  go_wp2_with fail
  refine (infinite_any x false ix _).mono ?_
  rintro e w' ⟨rfl, rfl⟩
  go_wp2_with fail
  refine (d _).mono ?_
  rintro e w1 ⟨rfl, hg⟩
  go_wp2_with fail
  refine (d2 _).mono ?_
  rintro e w2 ⟨rfl, hg2⟩
  go_wp2
  go_ret
  exact ⟨rfl, fgrownT hg hg2⟩

set_option maxRecDepth 100000 in
theorem lifted (os : Os) (started : os.Started) (H : Type) (enc : TypeId × Value → H) :
    ReturnsInHanded {} Try.checked os 10 .any (Rows.fnModfSpec.pre6 enc Try.prog Try.f10 Rows.fnModfRow.domain false) (Rows.fnModfSpec.post enc Try.prog Try.f10 false true false false) := by
  refine returnsInHanded_of_change (C := Try.checked) own started (by kernel_rfl) Try.func10
    (ChangeSpec.witness6 (enc := enc) (C := Try.checked) false ⟨#[], #[.int .u64 0], []⟩ 8 (by kernel_rfl) (by kernel_rfl) (by kernel_rfl) (by kernel_rfl)) ?_
  intro W base args ds gs before hval0 hW hcnd _
  have hval : ∀ (j : Nat) t v, Try.f10.params[j]? = some t → args[j]? = some v → Value.okWide Try.prog W .any base t v := hval0
  have hW' := hW
  obtain ⟨p, q, hA0, hV, rfl, hfz, hnd⟩ := hW
  have hA : DataW.TrodAll enc Try.prog W 0 (fun _ => true) true Try.f10.params.toList args.toList ds p := hA0
  rw [Try.params10] at hA hval
  obtain ⟨v0, vs0, d0, ds0, p0, q0, hargs, rfl, rfl, h0, r0⟩ := trodAll_cons hA
  obtain ⟨rfl, rfl, rfl⟩ := trodAll_nil r0
  obtain rfl : args = #[v0] := by cases args; simp_all
  obtain ⟨rfl, rfl⟩ := trodVars_none hV
  obtain ⟨a0, rfl, rfl, rfl, w0⟩ := open_int Try.underlying22 (hval 0 22 v0 rfl rfl) h0
  clear hA0 hval0
  simp only [List.append_nil] at hW'
  refine (walk a0 w0 W).mono fun e W' ⟨he, hg⟩ => ?_
  subst he
  exact ⟨_, rfl, post_of_same (pa := []) (pv := []) hW' (fun _ _ _ => (trodAll_cons_mk (shut_bool Try.underlying4 _) trodAll_mk0)) (fun sp _ => (trodAll_cons_mk (shut_int Try.underlying22 w0) trodAll_mk0)) (fun _ _ => rfl) rfl
    (hg.frame _) hg.2.1 (ok_one (by kernel_rfl) rfl (okWide_bool_mk Try.underlying4 _))⟩

theorem over : Rows.fnModfRow.holds Try.pinned (OpenSpec.ofChange Rows.fnModfSpec) :=
  OpenClaim.holds_of_wide 10 Try.f10 rfl rfl rfl rfl rfl rfl rfl ⟨rfl, rfl, rfl, rfl, rfl⟩ rfl rfl rfl rfl rfl (by kernel_rfl) Try.func10 (by kernel_rfl)
    (of_decide_eq_true (by kernel_rfl)) (by unfold Func.isWrapper; first | (rw [if_pos (by decide +kernel)]; kernel_rfl) | (rw [if_neg (by decide +kernel)]; exact ⟨rfl, rfl⟩))
    (fun os started H enc _ => lifted os started H enc)

theorem proved : Rows.FnModfSaid := over
#print axioms proved
end Go.Proofs.Ytmopnnbhpeaiaaa.fnModf
