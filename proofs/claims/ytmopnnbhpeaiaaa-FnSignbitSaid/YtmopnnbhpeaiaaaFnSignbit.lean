/- Proved: FnSignbit returns true for every input, and its arguments read afterwards as before. No conditions. -/
import Derived.Test.YtmopnnbhpeaiaaaRows
import Derived.WalkKit
import Derived.ProofKit
import Derived.OpenShut
import Derived.ShutString
import Derived.Test.YtmopnnbhpeaiaaaWalkF2
namespace Go.Proofs.Ytmopnnbhpeaiaaa.fnSignbit
open Go.ChangeShapes Go.WideShapes Go.ChangeAt Go.RowKit Go.Proofs.Ytmopnnbhpeaiaaa.Plain
set_option linter.unusedVariables false

theorem own : ownKnob Try.prog.godebug = none := by kernel_rfl

set_option maxHeartbeats 1000000 in
theorem walk (a0 : Int) (w0 : (Lit.int .u64 a0).wf = true) (w : World) :
    Calls Try.prog 14 #[.int .u64 a0] w fun e w' => e = .returned (.bool true) ∧ Grown w w' := by
  obtain ⟨x, rfl, hx⟩ := wf_u64 w0
  clear w0
  have e1 := negB_iff x hx
  have c := fun w => i_signbit x hx w
  cases hN : isNan x
  · have n1 := fun w => nan_any x false hN w
    have t1 : ∀ _ : True, decide ((9223372036854775808 : Int) ≤ (x : Int)) = negB x := fun _ => by rw [e1, Bool.eq_iff_iff]; simp; omega
    generalize negB x = v at t1 c
    clear e1 hN
    go_enter Try.func14, Try.ntmps14
    go_wp2_with (first | (go_at_call 16; refine (n1 _).mono ?_; rintro e w' ⟨rfl, rfl⟩) | (go_at_call 30; refine (c _).mono ?_; rintro e w' ⟨rfl, rfl⟩))
    go_wp2
    go_ret
    refine ⟨ret_bool ?_, Grown.refl _⟩
    cases v <;> rfl
  · have n1 := fun w => nan_any x true hN w
    clear e1 hN
    go_enter Try.func14, Try.ntmps14
    go_wp2_with (first | (go_at_call 16; refine (n1 _).mono ?_; rintro e w' ⟨rfl, rfl⟩))
    go_ret
    exact ⟨rfl, Grown.refl _⟩

set_option maxRecDepth 100000 in
theorem lifted (os : Os) (started : os.Started) (H : Type) (enc : TypeId × Value → H) :
    ReturnsInHanded {} Try.checked os 14 .any (Rows.fnSignbitSpec.pre6 enc Try.prog Try.f14 Rows.fnSignbitRow.domain false) (Rows.fnSignbitSpec.post enc Try.prog Try.f14 false true false false) := by
  refine returnsInHanded_of_change (C := Try.checked) own started (by kernel_rfl) Try.func14
    (ChangeSpec.witness6 (enc := enc) (C := Try.checked) false ⟨#[], #[.int .u64 0], []⟩ 8 (by kernel_rfl) (by kernel_rfl) (by kernel_rfl) (by kernel_rfl)) ?_
  intro W base args ds gs before hval0 hW hcnd _
  have hval : ∀ (j : Nat) t v, Try.f14.params[j]? = some t → args[j]? = some v → Value.okWide Try.prog W .any base t v := hval0
  have hW' := hW
  obtain ⟨p, q, hA0, hV, rfl, hfz, hnd⟩ := hW
  have hA : DataW.TrodAll enc Try.prog W 0 (fun _ => true) true Try.f14.params.toList args.toList ds p := hA0
  rw [Try.params14] at hA hval
  obtain ⟨v0, vs0, d0, ds0, p0, q0, hargs, rfl, rfl, h0, r0⟩ := trodAll_cons hA
  obtain ⟨rfl, rfl, rfl⟩ := trodAll_nil r0
  obtain rfl : args = #[v0] := by cases args; simp_all
  obtain ⟨rfl, rfl⟩ := trodVars_none hV
  obtain ⟨a0, rfl, rfl, rfl, w0⟩ := open_int Try.underlying22 (hval 0 22 v0 rfl rfl) h0
  clear hA0 hval0
  simp only [List.append_nil] at hW'
  refine (walk a0 w0 W).mono fun e W' ⟨he, hg⟩ => ?_
  subst he
  exact ⟨_, rfl, post_of_same (pa := []) (pv := []) hW' (fun _ _ _ => (trodAll_cons_mk (shut_bool Try.underlying4 _) trodAll_mk0)) (fun sp _ => (trodAll_cons_mk (shut_int Try.underlying22 w0) trodAll_mk0)) (fun _ _ => rfl) rfl
    (hg.frame _) hg.2.1 (ok_one (by kernel_rfl) rfl (okWide_bool_mk Try.underlying4 _))⟩

theorem over : Rows.fnSignbitRow.holds Try.pinned (OpenSpec.ofChange Rows.fnSignbitSpec) :=
  OpenClaim.holds_of_wide 14 Try.f14 rfl rfl rfl rfl rfl rfl rfl ⟨rfl, rfl, rfl, rfl, rfl⟩ rfl rfl rfl rfl rfl (by kernel_rfl) Try.func14 (by kernel_rfl)
    (of_decide_eq_true (by kernel_rfl)) (by unfold Func.isWrapper; first | (rw [if_pos (by decide +kernel)]; kernel_rfl) | (rw [if_neg (by decide +kernel)]; exact ⟨rfl, rfl⟩))
    (fun os started H enc _ => lifted os started H enc)

theorem proved : Rows.FnSignbitSaid := over
#print axioms proved
end Go.Proofs.Ytmopnnbhpeaiaaa.fnSignbit
