/- Proved: FnDivMul64 returns true for every input, and its arguments read afterwards as before. No conditions. -/
import Derived.Test.YtpoadogiganibaaRows
import Derived.WalkKit
import Derived.ProofKit
import Derived.OpenShut
import Derived.ShutString
import Derived.Test.YtpoadogiganibaaWalk3
namespace Go.Proofs.Ytpoadogiganibaa.fnDivMul64
open Go.ChangeShapes Go.WideShapes Go.ChangeAt Go.RowKit Go.Proofs.Ytpoadogiganibaa.Plain
set_option linter.unusedVariables false

theorem own : ownKnob Try.prog.godebug = none := by kernel_rfl

set_option maxHeartbeats 1000000 in
theorem walk (a0 : Int) (a1 : Int) (a2 : Int) (w0 : (Lit.int .u64 a0).wf = true) (w1 : (Lit.int .u64 a1).wf = true) (w2 : (Lit.int .u64 a2).wf = true) (w : World) :
    Calls Try.prog 12 #[.int .u64 a0, .int .u64 a1, .int .u64 a2] w fun e w' => e = .returned (.bool true) ∧ Grown w w' := by
  obtain ⟨hi, rfl, hh⟩ := wf_u64 w0
  obtain ⟨lo, rfl, hl⟩ := wf_u64 w1
  obtain ⟨y, rfl, hy⟩ := wf_u64 w2
  clear w0 w1 w2
  by_cases h0 : y ≤ hi
  · have d0 : decide (y ≤ hi) = true := by simpa using h0
    go_enter Try.func12, Try.ntmps12
    go_wp2
    go_ret
    exact ⟨rfl, Grown.refl _⟩
  · have d0 : decide (y ≤ hi) = false := by simpa using h0
    have hp : hi < y := by omega
    have hp0 : 0 < y := by omega
    have hr : divR 18446744073709551616 hi lo y < y := Nat.mod_lt _ hp0
    have hq : divQ 18446744073709551616 hi lo y < 18446744073709551616 := by
      unfold divQ
      rw [Nat.div_lt_iff_lt_mul (by omega)]
      have : (hi + 1) * 18446744073709551616 ≤ y * 18446744073709551616 := Nat.mul_le_mul_right _ (by omega)
      rw [Nat.mul_comm 18446744073709551616 y]; omega
    have hd : y * divQ 18446744073709551616 hi lo y + divR 18446744073709551616 hi lo y = hi * 18446744073709551616 + lo := Nat.div_add_mod _ _
    obtain ⟨q, hq0⟩ : ∃ q, q = divQ 18446744073709551616 hi lo y := ⟨_, rfl⟩
    obtain ⟨r, hr0⟩ : ∃ r, r = divR 18446744073709551616 hi lo y := ⟨_, rfl⟩
    have c1 := fun w => div64_i hi lo y hp hl hy w
    rw [← hq0] at hq hd c1
    rw [← hr0] at hr hd c1
    have c2 := fun w => mul64_i q y hq hy w
    have hm : q * y = mulH 18446744073709551616 q y * 18446744073709551616 + mulL 18446744073709551616 q y := by unfold mulH mulL; omega
    have hml : mulL 18446744073709551616 q y < 18446744073709551616 := Nat.mod_lt _ (by decide)
    obtain ⟨a, ha0⟩ : ∃ a, a = mulH 18446744073709551616 q y := ⟨_, rfl⟩
    obtain ⟨b, hb0⟩ : ∃ b, b = mulL 18446744073709551616 q y := ⟨_, rfl⟩
    rw [← ha0, ← hb0] at c2 hm
    rw [← hb0] at hml
    rw [Nat.mul_comm y q, hm] at hd
    have e1 : addS 18446744073709551616 b r 0 = lo := by unfold addS; omega
    have e2 : a + addO 18446744073709551616 b r 0 = hi := by unfold addO; omega
    have c3 := fun w => add64_i b r 0 hml (by omega) (by decide) w
    rw [e1] at c3
    obtain ⟨cr, hcr⟩ : ∃ cr, cr = addO 18446744073709551616 b r 0 := ⟨_, rfl⟩
    rw [← hcr] at c3 e2
    have r6 : ∀ _ : True, (a : Int) + (cr : Int) = (hi : Int) := fun _ => by omega
    have r7 : ∀ _ : True, IntKind.u64.wrap ((a : Int) + (cr : Int)) = (hi : Int) := fun _ => by rw [r6 trivial, wrap64N, Nat.mod_eq_of_lt hh]
    have r8 : ∀ _ : True, IntKind.u64.wrap (hi : Int) = (hi : Int) := fun _ => by rw [wrap64N, Nat.mod_eq_of_lt hh]
    have C1 := Lib.hid c1
    have C2 := Lib.hid c2
    have C3 := Lib.hid c3
    clear h0 c1 c2 c3 hq0 hr0 ha0 hb0 hd hm hml hcr e1 e2 hq
    go_enter Try.func12, Try.ntmps12
    go_wp2_with fail
    refine (C1.out _).mono ?_
    rintro e w1 ⟨rfl, hg⟩
    go_wp2_with fail
    refine (C2.out _).mono ?_
    rintro e w' ⟨rfl, rfl⟩
    go_wp2_with fail
    refine (C3.out _).mono ?_
    rintro e w' ⟨rfl, rfl⟩
    go_wp2
    go_ret
    exact ⟨rfl, grownD hg⟩

set_option maxRecDepth 100000 in
theorem lifted (os : Os) (started : os.Started) (H : Type) (enc : TypeId × Value → H) :
    ReturnsInHanded {} Try.checked os 12 .any (Rows.fnDivMul64Spec.pre6 enc Try.prog Try.f12 Rows.fnDivMul64Row.domain false) (Rows.fnDivMul64Spec.post enc Try.prog Try.f12 false true false false) := by
  refine returnsInHanded_of_change (C := Try.checked) own started (by kernel_rfl) Try.func12
    (ChangeSpec.witness6 (enc := enc) (C := Try.checked) false ⟨#[], #[.int .u64 0, .int .u64 0, .int .u64 0], []⟩ 8 (by kernel_rfl) (by kernel_rfl) (by kernel_rfl) (by kernel_rfl)) ?_
  intro W base args ds gs before hval0 hW hcnd _
  have hval : ∀ (j : Nat) t v, Try.f12.params[j]? = some t → args[j]? = some v → Value.okWide Try.prog W .any base t v := hval0
  have hW' := hW
  obtain ⟨p, q, hA0, hV, rfl, hfz, hnd⟩ := hW
  have hA : DataW.TrodAll enc Try.prog W 0 (fun _ => true) true Try.f12.params.toList args.toList ds p := hA0
  rw [Try.params12] at hA hval
  obtain ⟨v0, vs0, d0, ds0, p0, q0, hargs, rfl, rfl, h0, r0⟩ := trodAll_cons hA
  obtain ⟨v1, vs1, d1, ds1, p1, q1, rfl, rfl, rfl, h1, r1⟩ := trodAll_cons r0
  obtain ⟨v2, vs2, d2, ds2, p2, q2, rfl, rfl, rfl, h2, r2⟩ := trodAll_cons r1
  obtain ⟨rfl, rfl, rfl⟩ := trodAll_nil r2
  obtain rfl : args = #[v0, v1, v2] := by cases args; simp_all
  obtain ⟨rfl, rfl⟩ := trodVars_none hV
  obtain ⟨a0, rfl, rfl, rfl, w0⟩ := open_int Try.underlying26 (hval 0 26 v0 rfl rfl) h0
  obtain ⟨a1, rfl, rfl, rfl, w1⟩ := open_int Try.underlying26 (hval 1 26 v1 rfl rfl) h1
  obtain ⟨a2, rfl, rfl, rfl, w2⟩ := open_int Try.underlying26 (hval 2 26 v2 rfl rfl) h2
  clear hA0 hval0
  simp only [List.append_nil] at hW'
  refine (walk a0 a1 a2 w0 w1 w2 W).mono fun e W' ⟨he, hg⟩ => ?_
  subst he
  exact ⟨_, rfl, post_of_same (pa := []) (pv := []) hW' (fun _ _ _ => (trodAll_cons_mk (shut_bool Try.underlying4 _) trodAll_mk0)) (fun sp _ => (trodAll_cons_mk (shut_int Try.underlying26 w0) (trodAll_cons_mk (shut_int Try.underlying26 w1) (trodAll_cons_mk (shut_int Try.underlying26 w2) trodAll_mk0)))) (fun _ _ => rfl) rfl
    (hg.frame _) hg.2.1 (ok_one (by kernel_rfl) rfl (okWide_bool_mk Try.underlying4 _))⟩

theorem over : Rows.fnDivMul64Row.holds Try.pinned (OpenSpec.ofChange Rows.fnDivMul64Spec) :=
  OpenClaim.holds_of_wide 12 Try.f12 rfl rfl rfl rfl rfl rfl rfl ⟨rfl, rfl, rfl, rfl, rfl⟩ rfl rfl rfl rfl rfl (by kernel_rfl) Try.func12 (by kernel_rfl)
    (of_decide_eq_true (by kernel_rfl)) (by unfold Func.isWrapper; first | (rw [if_pos (by decide +kernel)]; kernel_rfl) | (rw [if_neg (by decide +kernel)]; exact ⟨rfl, rfl⟩))
    (fun os started H enc _ => lifted os started H enc)

theorem proved : Rows.FnDivMul64Said := over
#print axioms proved
end Go.Proofs.Ytpoadogiganibaa.fnDivMul64
