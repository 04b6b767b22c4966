/- Proved: FnDiv32 returns true for every input, and its arguments read afterwards as before. No conditions. -/
import Derived.Test.YtnlcmcpbkjikeaaRows
import Derived.WalkKit
import Derived.ProofKit
import Derived.OpenShut
import Derived.ShutString
import Derived.Test.YtnlcmcpbkjikeaaWalk3
namespace Go.Proofs.Ytnlcmcpbkjikeaa.fnDiv32
open Go.ChangeShapes Go.WideShapes Go.ChangeAt Go.RowKit Go.Proofs.Ytnlcmcpbkjikeaa.Plain
set_option linter.unusedVariables false

theorem own : ownKnob Try.prog.godebug = none := by kernel_rfl

set_option maxHeartbeats 1000000 in
theorem walk (a0 : Int) (a1 : Int) (a2 : Int) (w0 : (Lit.int .u32 a0).wf = true) (w1 : (Lit.int .u32 a1).wf = true) (w2 : (Lit.int .u32 a2).wf = true) (w : World) :
    Calls Try.prog 10 #[.int .u32 a0, .int .u32 a1, .int .u32 a2] w fun e w' => e = .returned (.bool true) ∧ Grown w w' := by
  obtain ⟨hi, rfl, hh⟩ := wf_u32 w0
  obtain ⟨lo, rfl, hl⟩ := wf_u32 w1
  obtain ⟨y, rfl, hy⟩ := wf_u32 w2
  clear w0 w1 w2
  by_cases h0 : y ≤ hi
  · have d0 : decide (y ≤ hi) = true := by simpa using h0
    go_enter Try.func10, Try.ntmps10
    go_wp2
    go_ret
    exact ⟨rfl, Grown.refl _⟩
  · have d0 : decide (y ≤ hi) = false := by simpa using h0
    have hp : hi < y := by omega
    have e := orHi hi lo hh hl
    obtain ⟨z, hz⟩ : ∃ z, z = hi * 4294967296 + lo := ⟨_, rfl⟩
    rw [← hz] at e
    have r1 : ∀ _ : True, _ = _ := fun _ => e
    have eq : ((z : Int) / (y : Int)) = (divQ 4294967296 hi lo y : Int) := by unfold divQ; rw [← hz, divC]
    have er : ((z : Int) % (y : Int)) = (divR 4294967296 hi lo y : Int) := by unfold divR; rw [← hz, modC]
    have r2 : ∀ _ : True, _ = _ := fun _ => eq
    have r3 : ∀ _ : True, _ = _ := fun _ => er
    have hry : divR 4294967296 hi lo y < y := Nat.mod_lt _ (by omega)
    have r7 : ∀ _ : True, IntKind.u64.wrap (divR 4294967296 hi lo y : Int) = (divR 4294967296 hi lo y : Int) := fun _ => by rw [wrap64N, Nat.mod_eq_of_lt (by omega)]
    have n4 : ∀ _ : True, ¬ ((y : Int) = 0) := fun _ => by omega
    have hz0 : (0 : Int) ≤ (z : Int) := by omega
    have hy1 : (1 : Int) ≤ (y : Int) := by omega
    have n1 : ((y : Int) == 0) = false := by simp; omega
    have q1 : divQ 4294967296 hi lo y < 4294967296 := by
      unfold divQ
      rw [Nat.div_lt_iff_lt_mul (by omega)]
      have : (hi + 1) * 4294967296 ≤ y * 4294967296 := Nat.mul_le_mul_right _ (by omega)
      rw [Nat.mul_comm 4294967296 y]; omega
    have r4 : ∀ _ : True, IntKind.u64.wrap (divQ 4294967296 hi lo y : Int) = (divQ 4294967296 hi lo y : Int) := fun _ => by rw [wrap64N, Nat.mod_eq_of_lt (by omega)]
    clear e hz eq er h0
    go_enter Try.func10, Try.ntmps10
    go_wp2_with fail
    refine (div32_i hi lo y hh hl hy hp _).mono ?_
    rintro e w1 ⟨rfl, hg⟩
    go_wp2
    go_ret
    exact ⟨rfl, grownD hg⟩

set_option maxRecDepth 100000 in
theorem lifted (os : Os) (started : os.Started) (H : Type) (enc : TypeId × Value → H) :
    ReturnsInHanded {} Try.checked os 10 .any (Rows.fnDiv32Spec.pre6 enc Try.prog Try.f10 Rows.fnDiv32Row.domain false) (Rows.fnDiv32Spec.post enc Try.prog Try.f10 false true false false) := by
  refine returnsInHanded_of_change (C := Try.checked) own started (by kernel_rfl) Try.func10
    (ChangeSpec.witness6 (enc := enc) (C := Try.checked) false ⟨#[], #[.int .u32 0, .int .u32 0, .int .u32 0], []⟩ 8 (by kernel_rfl) (by kernel_rfl) (by kernel_rfl) (by kernel_rfl)) ?_
  intro W base args ds gs before hval0 hW hcnd _
  have hval : ∀ (j : Nat) t v, Try.f10.params[j]? = some t → args[j]? = some v → Value.okWide Try.prog W .any base t v := hval0
  have hW' := hW
  obtain ⟨p, q, hA0, hV, rfl, hfz, hnd⟩ := hW
  have hA : DataW.TrodAll enc Try.prog W 0 (fun _ => true) true Try.f10.params.toList args.toList ds p := hA0
  rw [Try.params10] at hA hval
  obtain ⟨v0, vs0, d0, ds0, p0, q0, hargs, rfl, rfl, h0, r0⟩ := trodAll_cons hA
  obtain ⟨v1, vs1, d1, ds1, p1, q1, rfl, rfl, rfl, h1, r1⟩ := trodAll_cons r0
  obtain ⟨v2, vs2, d2, ds2, p2, q2, rfl, rfl, rfl, h2, r2⟩ := trodAll_cons r1
  obtain ⟨rfl, rfl, rfl⟩ := trodAll_nil r2
  obtain rfl : args = #[v0, v1, v2] := by cases args; simp_all
  obtain ⟨rfl, rfl⟩ := trodVars_none hV
  obtain ⟨a0, rfl, rfl, rfl, w0⟩ := open_int Try.underlying27 (hval 0 27 v0 rfl rfl) h0
  obtain ⟨a1, rfl, rfl, rfl, w1⟩ := open_int Try.underlying27 (hval 1 27 v1 rfl rfl) h1
  obtain ⟨a2, rfl, rfl, rfl, w2⟩ := open_int Try.underlying27 (hval 2 27 v2 rfl rfl) h2
  clear hA0 hval0
  simp only [List.append_nil] at hW'
  refine (walk a0 a1 a2 w0 w1 w2 W).mono fun e W' ⟨he, hg⟩ => ?_
  subst he
  exact ⟨_, rfl, post_of_same (pa := []) (pv := []) hW' (fun _ _ _ => (trodAll_cons_mk (shut_bool Try.underlying4 _) trodAll_mk0)) (fun sp _ => (trodAll_cons_mk (shut_int Try.underlying27 w0) (trodAll_cons_mk (shut_int Try.underlying27 w1) (trodAll_cons_mk (shut_int Try.underlying27 w2) trodAll_mk0)))) (fun _ _ => rfl) rfl
    (hg.frame _) hg.2.1 (ok_one (by kernel_rfl) rfl (okWide_bool_mk Try.underlying4 _))⟩

theorem over : Rows.fnDiv32Row.holds Try.pinned (OpenSpec.ofChange Rows.fnDiv32Spec) :=
  OpenClaim.holds_of_wide 10 Try.f10 rfl rfl rfl rfl rfl rfl rfl ⟨rfl, rfl, rfl, rfl, rfl⟩ rfl rfl rfl rfl rfl (by kernel_rfl) Try.func10 (by kernel_rfl)
    (of_decide_eq_true (by kernel_rfl)) (by unfold Func.isWrapper; first | (rw [if_pos (by decide +kernel)]; kernel_rfl) | (rw [if_neg (by decide +kernel)]; exact ⟨rfl, rfl⟩))
    (fun os started H enc _ => lifted os started H enc)

theorem proved : Rows.FnDiv32Said := over
#print axioms proved
end Go.Proofs.Ytnlcmcpbkjikeaa.fnDiv32
