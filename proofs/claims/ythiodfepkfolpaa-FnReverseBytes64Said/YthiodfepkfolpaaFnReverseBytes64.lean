/- Proved: FnReverseBytes64 returns true for every input, and its arguments read afterwards as before. No conditions. -/
import Derived.Test.YthiodfepkfolpaaRows
import Derived.WalkKit
import Derived.ProofKit
import Derived.OpenShut
import Derived.ShutString
import Derived.Test.YthiodfepkfolpaaWalk2
namespace Go.Proofs.Ythiodfepkfolpaa.fnReverseBytes64
open Go.ChangeShapes Go.WideShapes Go.ChangeAt Go.RowKit Go.Proofs.Ythiodfepkfolpaa.Plain
set_option linter.unusedVariables false

theorem own : ownKnob Try.prog.godebug = none := by kernel_rfl

theorem walk (a0 : Int) (w0 : (Lit.int .u64 a0).wf = true) (w : World) :
    Calls Try.prog 9 #[.int .u64 a0] w fun e w' => e = .returned (.bool true) ∧ Grown w w' := by
  obtain ⟨x, rfl, hx⟩ := wf_u64 w0
  go_enter Try.func9, Try.ntmps9
  go_wp2_with (first | (go_at_call 23; go_in) | (go_at_call 41; refine (rb64_any x hx _).mono ?_; rintro e w' ⟨rfl, rfl⟩) | (go_at_call 21; refine (turnedB_any x 64 (by omega) (by omega) (by decide) _).mono ?_; rintro e w2 ⟨rfl, hg2⟩))
  go_ret
  refine ⟨ret_bool ?_, hg2⟩
  have hp : placedB x (fun i => 56 - i / 8 * 8 + i % 8) 64 < 18446744073709551616 := placedB_lt _ _ 64
  have e : placedB x (fun i => 64 - 8 - i / 8 * 8 + i % 8) 64 = placedB x (fun i => 56 - i / 8 * 8 + i % 8) 64 := placedB_congr _ _ _ _ (fun i _ => by omega)
  rw [e, rb64_eq x hx]
  generalize placedB x (fun i => 56 - i / 8 * 8 + i % 8) 64 = p at *
  simp only [beq_iff_eq]
  

set_option maxRecDepth 100000 in
theorem lifted (os : Os) (started : os.Started) (H : Type) (enc : TypeId × Value → H) :
    ReturnsInHanded {} Try.checked os 9 .any (Rows.fnReverseBytes64Spec.pre6 enc Try.prog Try.f9 Rows.fnReverseBytes64Row.domain false) (Rows.fnReverseBytes64Spec.post enc Try.prog Try.f9 false true false false) := by
  refine returnsInHanded_of_change (C := Try.checked) own started (by kernel_rfl) Try.func9
    (ChangeSpec.witness6 (enc := enc) (C := Try.checked) false ⟨#[], #[.int .u64 0], []⟩ 8 (by kernel_rfl) (by kernel_rfl) (by kernel_rfl) (by kernel_rfl)) ?_
  intro W base args ds gs before hval0 hW hcnd _
  have hval : ∀ (j : Nat) t v, Try.f9.params[j]? = some t → args[j]? = some v → Value.okWide Try.prog W .any base t v := hval0
  have hW' := hW
  obtain ⟨p, q, hA0, hV, rfl, hfz, hnd⟩ := hW
  have hA : DataW.TrodAll enc Try.prog W 0 (fun _ => true) true Try.f9.params.toList args.toList ds p := hA0
  rw [Try.params9] at hA hval
  obtain ⟨v0, vs0, d0, ds0, p0, q0, hargs, rfl, rfl, h0, r0⟩ := trodAll_cons hA
  obtain ⟨rfl, rfl, rfl⟩ := trodAll_nil r0
  obtain rfl : args = #[v0] := by cases args; simp_all
  obtain ⟨rfl, rfl⟩ := trodVars_none hV
  obtain ⟨a0, rfl, rfl, rfl, w0⟩ := open_int Try.underlying23 (hval 0 23 v0 rfl rfl) h0
  clear hA0 hval0
  simp only [List.append_nil] at hW'
  refine (walk a0 w0 W).mono fun e W' ⟨he, hg⟩ => ?_
  subst he
  exact ⟨_, rfl, post_of_same (pa := []) (pv := []) hW' (fun _ _ _ => (trodAll_cons_mk (shut_bool Try.underlying4 _) trodAll_mk0)) (fun sp _ => (trodAll_cons_mk (shut_int Try.underlying23 w0) trodAll_mk0)) (fun _ _ => rfl) rfl
    (hg.frame _) hg.2.1 (ok_one (by kernel_rfl) rfl (okWide_bool_mk Try.underlying4 _))⟩

theorem over : Rows.fnReverseBytes64Row.holds Try.pinned (OpenSpec.ofChange Rows.fnReverseBytes64Spec) :=
  OpenClaim.holds_of_wide 9 Try.f9 rfl rfl rfl rfl rfl rfl rfl ⟨rfl, rfl, rfl, rfl, rfl⟩ rfl rfl rfl rfl rfl (by kernel_rfl) Try.func9 (by kernel_rfl)
    (of_decide_eq_true (by kernel_rfl)) (by unfold Func.isWrapper; first | (rw [if_pos (by decide +kernel)]; kernel_rfl) | (rw [if_neg (by decide +kernel)]; exact ⟨rfl, rfl⟩))
    (fun os started H enc _ => lifted os started H enc)

theorem proved : Rows.FnReverseBytes64Said := over
#print axioms proved
end Go.Proofs.Ythiodfepkfolpaa.fnReverseBytes64
