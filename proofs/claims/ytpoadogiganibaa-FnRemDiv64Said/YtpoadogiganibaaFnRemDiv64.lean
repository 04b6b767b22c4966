/- Proved: FnRemDiv64 returns true for every input, and its arguments read afterwards as before. No conditions. -/
import Derived.Test.YtpoadogiganibaaRows
import Derived.WalkKit
import Derived.ProofKit
import Derived.OpenShut
import Derived.ShutString
import Derived.Test.YtpoadogiganibaaWalk3
namespace Go.Proofs.Ytpoadogiganibaa.fnRemDiv64
open Go.ChangeShapes Go.WideShapes Go.ChangeAt Go.RowKit Go.Proofs.Ytpoadogiganibaa.Plain
set_option linter.unusedVariables false

theorem own : ownKnob Try.prog.godebug = none := by kernel_rfl

set_option maxHeartbeats 1000000 in
theorem walk (a0 : Int) (a1 : Int) (a2 : Int) (w0 : (Lit.int .u64 a0).wf = true) (w1 : (Lit.int .u64 a1).wf = true) (w2 : (Lit.int .u64 a2).wf = true) (w : World) :
    Calls Try.prog 11 #[.int .u64 a0, .int .u64 a1, .int .u64 a2] w fun e w' => e = .returned (.bool true) ∧ Grown w w' := by
  obtain ⟨hi, rfl, hh⟩ := wf_u64 w0
  obtain ⟨lo, rfl, hl⟩ := wf_u64 w1
  obtain ⟨y, rfl, hy⟩ := wf_u64 w2
  clear w0 w1 w2
  by_cases h0 : y ≤ hi
  · have d0 : decide (y ≤ hi) = true := by simpa using h0
    go_enter Try.func11, Try.ntmps11
    go_wp2
    go_ret
    exact ⟨rfl, Grown.refl _⟩
  · have d0 : decide (y ≤ hi) = false := by simpa using h0
    have hp : hi < y := by omega
    have hp0 : 0 < y := by omega
    have hr : divR 18446744073709551616 hi lo y < y := Nat.mod_lt _ hp0
    have c2 := fun w => rem64_i hi lo y hh hl hp0 hy w
    rw [Nat.mod_eq_of_lt hp] at c2
    have c3 := fun w => rem64_i 0 7 4 (by decide) (by decide) (by decide) (by decide) w
    have f3 : divR 18446744073709551616 (0 % 4) 7 4 = 3 := by decide
    rw [f3] at c3
    have C2 := Lib.hid c2
    have C3 := Lib.hid c3
    clear h0 c2 c3 f3
    go_enter Try.func11, Try.ntmps11
    go_wp2_with fail
    refine (div64_i hi lo y hp hl hy _).mono ?_
    rintro e w1 ⟨rfl, hg⟩
    go_wp2_with fail
    refine (C2.out _).mono ?_
    rintro e w2 ⟨rfl, hg2⟩
    go_wp2_with fail
    refine (C3.out _).mono ?_
    rintro e w3 ⟨rfl, hg3⟩
    go_wp2
    go_ret
    exact ⟨rfl, grownT3 (grownD hg) (grownT3 (grownD hg2) (grownD hg3))⟩

set_option maxRecDepth 100000 in
theorem lifted (os : Os) (started : os.Started) (H : Type) (enc : TypeId × Value → H) :
    ReturnsInHanded {} Try.checked os 11 .any (Rows.fnRemDiv64Spec.pre6 enc Try.prog Try.f11 Rows.fnRemDiv64Row.domain false) (Rows.fnRemDiv64Spec.post enc Try.prog Try.f11 false true false false) := by
  refine returnsInHanded_of_change (C := Try.checked) own started (by kernel_rfl) Try.func11
    (ChangeSpec.witness6 (enc := enc) (C := Try.checked) false ⟨#[], #[.int .u64 0, .int .u64 0, .int .u64 0], []⟩ 8 (by kernel_rfl) (by kernel_rfl) (by kernel_rfl) (by kernel_rfl)) ?_
  intro W base args ds gs before hval0 hW hcnd _
  have hval : ∀ (j : Nat) t v, Try.f11.params[j]? = some t → args[j]? = some v → Value.okWide Try.prog W .any base t v := hval0
  have hW' := hW
  obtain ⟨p, q, hA0, hV, rfl, hfz, hnd⟩ := hW
  have hA : DataW.TrodAll enc Try.prog W 0 (fun _ => true) true Try.f11.params.toList args.toList ds p := hA0
  rw [Try.params11] at hA hval
  obtain ⟨v0, vs0, d0, ds0, p0, q0, hargs, rfl, rfl, h0, r0⟩ := trodAll_cons hA
  obtain ⟨v1, vs1, d1, ds1, p1, q1, rfl, rfl, rfl, h1, r1⟩ := trodAll_cons r0
  obtain ⟨v2, vs2, d2, ds2, p2, q2, rfl, rfl, rfl, h2, r2⟩ := trodAll_cons r1
  obtain ⟨rfl, rfl, rfl⟩ := trodAll_nil r2
  obtain rfl : args = #[v0, v1, v2] := by cases args; simp_all
  obtain ⟨rfl, rfl⟩ := trodVars_none hV
  obtain ⟨a0, rfl, rfl, rfl, w0⟩ := open_int Try.underlying26 (hval 0 26 v0 rfl rfl) h0
  obtain ⟨a1, rfl, rfl, rfl, w1⟩ := open_int Try.underlying26 (hval 1 26 v1 rfl rfl) h1
  obtain ⟨a2, rfl, rfl, rfl, w2⟩ := open_int Try.underlying26 (hval 2 26 v2 rfl rfl) h2
  clear hA0 hval0
  simp only [List.append_nil] at hW'
  refine (walk a0 a1 a2 w0 w1 w2 W).mono fun e W' ⟨he, hg⟩ => ?_
  subst he
  exact ⟨_, rfl, post_of_same (pa := []) (pv := []) hW' (fun _ _ _ => (trodAll_cons_mk (shut_bool Try.underlying4 _) trodAll_mk0)) (fun sp _ => (trodAll_cons_mk (shut_int Try.underlying26 w0) (trodAll_cons_mk (shut_int Try.underlying26 w1) (trodAll_cons_mk (shut_int Try.underlying26 w2) trodAll_mk0)))) (fun _ _ => rfl) rfl
    (hg.frame _) hg.2.1 (ok_one (by kernel_rfl) rfl (okWide_bool_mk Try.underlying4 _))⟩

theorem over : Rows.fnRemDiv64Row.holds Try.pinned (OpenSpec.ofChange Rows.fnRemDiv64Spec) :=
  OpenClaim.holds_of_wide 11 Try.f11 rfl rfl rfl rfl rfl rfl rfl ⟨rfl, rfl, rfl, rfl, rfl⟩ rfl rfl rfl rfl rfl (by kernel_rfl) Try.func11 (by kernel_rfl)
    (of_decide_eq_true (by kernel_rfl)) (by unfold Func.isWrapper; first | (rw [if_pos (by decide +kernel)]; kernel_rfl) | (rw [if_neg (by decide +kernel)]; exact ⟨rfl, rfl⟩))
    (fun os started H enc _ => lifted os started H enc)

theorem proved : Rows.FnRemDiv64Said := over
#print axioms proved
end Go.Proofs.Ytpoadogiganibaa.fnRemDiv64
