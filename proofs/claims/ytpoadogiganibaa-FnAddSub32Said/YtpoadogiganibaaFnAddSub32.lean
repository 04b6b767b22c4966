/- Proved: FnAddSub32 returns true for every input, and its arguments read afterwards as before. No conditions. -/
import Derived.Test.YtpoadogiganibaaRows
import Derived.WalkKit
import Derived.ProofKit
import Derived.OpenShut
import Derived.ShutString
import Derived.Test.YtpoadogiganibaaWalk3
namespace Go.Proofs.Ytpoadogiganibaa.fnAddSub32
open Go.ChangeShapes Go.WideShapes Go.ChangeAt Go.RowKit Go.Proofs.Ytpoadogiganibaa.Plain
set_option linter.unusedVariables false

theorem own : ownKnob Try.prog.godebug = none := by kernel_rfl

set_option maxHeartbeats 1000000 in
theorem walk (a0 : Int) (a1 : Int) (a2 : Bool) (w0 : (Lit.int .u32 a0).wf = true) (w1 : (Lit.int .u32 a1).wf = true) (w : World) :
    Calls Try.prog 3 #[.int .u32 a0, .int .u32 a1, .bool a2] w fun e w' => e = .returned (.bool true) ∧ Grown w w' := by
  obtain ⟨x, rfl, hx⟩ := wf_u32 w0
  obtain ⟨y, rfl, hy⟩ := wf_u32 w1
  clear w0 w1
  cases a2
  · have hs : addS 4294967296 x y 0 < 4294967296 := Nat.mod_lt _ (by decide)
    have c2 := fun w => sub32_i (addS 4294967296 x y 0) y 0 hs hy (by decide) w
    have f1 : subD 4294967296 (addS 4294967296 x y 0) y 0 = x := by unfold subD addS; omega
    have f2 : borB (addS 4294967296 x y 0) y 0 = addO 4294967296 x y 0 := by unfold borB addS addO; split <;> omega
    have f3 : addS 4294967296 0 1 0 = 1 := by decide
    have c3 := fun w => add32_i 0 1 0 (by decide) (by decide) (by decide) w
    rw [f1, f2] at c2
    rw [f3] at c3
    have C2 := Lib.hid c2
    have C3 := Lib.hid c3
    clear c2 c3 f1 f2 f3 hs
    go_enter Try.func3, Try.ntmps3
    go_wp2_with fail
    refine (add32_i x y 0 hx hy (by decide) _).mono ?_
    rintro e w' ⟨rfl, rfl⟩
    go_wp2_with fail
    refine (C2.out _).mono ?_
    rintro e w' ⟨rfl, rfl⟩
    go_wp2_with fail
    refine (C3.out _).mono ?_
    rintro e w' ⟨rfl, rfl⟩
    go_wp2
    go_ret
    exact ⟨rfl, Grown.refl _⟩
  · have hs : addS 4294967296 x y 1 < 4294967296 := Nat.mod_lt _ (by decide)
    have c2 := fun w => sub32_i (addS 4294967296 x y 1) y 1 hs hy (by decide) w
    have f1 : subD 4294967296 (addS 4294967296 x y 1) y 1 = x := by unfold subD addS; omega
    have f2 : borB (addS 4294967296 x y 1) y 1 = addO 4294967296 x y 1 := by unfold borB addS addO; split <;> omega
    have f3 : addS 4294967296 0 1 0 = 1 := by decide
    have c3 := fun w => add32_i 0 1 0 (by decide) (by decide) (by decide) w
    rw [f1, f2] at c2
    rw [f3] at c3
    have C2 := Lib.hid c2
    have C3 := Lib.hid c3
    clear c2 c3 f1 f2 f3 hs
    go_enter Try.func3, Try.ntmps3
    go_wp2_with fail
    refine (add32_i x y 1 hx hy (by decide) _).mono ?_
    rintro e w' ⟨rfl, rfl⟩
    go_wp2_with fail
    refine (C2.out _).mono ?_
    rintro e w' ⟨rfl, rfl⟩
    go_wp2_with fail
    refine (C3.out _).mono ?_
    rintro e w' ⟨rfl, rfl⟩
    go_wp2
    go_ret
    exact ⟨rfl, Grown.refl _⟩

set_option maxRecDepth 100000 in
theorem lifted (os : Os) (started : os.Started) (H : Type) (enc : TypeId × Value → H) :
    ReturnsInHanded {} Try.checked os 3 .any (Rows.fnAddSub32Spec.pre6 enc Try.prog Try.f3 Rows.fnAddSub32Row.domain false) (Rows.fnAddSub32Spec.post enc Try.prog Try.f3 false true false false) := by
  refine returnsInHanded_of_change (C := Try.checked) own started (by kernel_rfl) Try.func3
    (ChangeSpec.witness6 (enc := enc) (C := Try.checked) false ⟨#[], #[.int .u32 0, .int .u32 0, .bool false], []⟩ 8 (by kernel_rfl) (by kernel_rfl) (by kernel_rfl) (by kernel_rfl)) ?_
  intro W base args ds gs before hval0 hW hcnd _
  have hval : ∀ (j : Nat) t v, Try.f3.params[j]? = some t → args[j]? = some v → Value.okWide Try.prog W .any base t v := hval0
  have hW' := hW
  obtain ⟨p, q, hA0, hV, rfl, hfz, hnd⟩ := hW
  have hA : DataW.TrodAll enc Try.prog W 0 (fun _ => true) true Try.f3.params.toList args.toList ds p := hA0
  rw [Try.params3] at hA hval
  obtain ⟨v0, vs0, d0, ds0, p0, q0, hargs, rfl, rfl, h0, r0⟩ := trodAll_cons hA
  obtain ⟨v1, vs1, d1, ds1, p1, q1, rfl, rfl, rfl, h1, r1⟩ := trodAll_cons r0
  obtain ⟨v2, vs2, d2, ds2, p2, q2, rfl, rfl, rfl, h2, r2⟩ := trodAll_cons r1
  obtain ⟨rfl, rfl, rfl⟩ := trodAll_nil r2
  obtain rfl : args = #[v0, v1, v2] := by cases args; simp_all
  obtain ⟨rfl, rfl⟩ := trodVars_none hV
  obtain ⟨a0, rfl, rfl, rfl, w0⟩ := open_int Try.underlying22 (hval 0 22 v0 rfl rfl) h0
  obtain ⟨a1, rfl, rfl, rfl, w1⟩ := open_int Try.underlying22 (hval 1 22 v1 rfl rfl) h1
  obtain ⟨a2, rfl, rfl, rfl⟩ := open_bool Try.underlying4 (hval 2 4 v2 rfl rfl) h2
  clear hA0 hval0
  simp only [List.append_nil] at hW'
  refine (walk a0 a1 a2 w0 w1 W).mono fun e W' ⟨he, hg⟩ => ?_
  subst he
  exact ⟨_, rfl, post_of_same (pa := []) (pv := []) hW' (fun _ _ _ => (trodAll_cons_mk (shut_bool Try.underlying4 _) trodAll_mk0)) (fun sp _ => (trodAll_cons_mk (shut_int Try.underlying22 w0) (trodAll_cons_mk (shut_int Try.underlying22 w1) (trodAll_cons_mk (shut_bool Try.underlying4 _) trodAll_mk0)))) (fun _ _ => rfl) rfl
    (hg.frame _) hg.2.1 (ok_one (by kernel_rfl) rfl (okWide_bool_mk Try.underlying4 _))⟩

theorem over : Rows.fnAddSub32Row.holds Try.pinned (OpenSpec.ofChange Rows.fnAddSub32Spec) :=
  OpenClaim.holds_of_wide 3 Try.f3 rfl rfl rfl rfl rfl rfl rfl ⟨rfl, rfl, rfl, rfl, rfl⟩ rfl rfl rfl rfl rfl (by kernel_rfl) Try.func3 (by kernel_rfl)
    (of_decide_eq_true (by kernel_rfl)) (by unfold Func.isWrapper; first | (rw [if_pos (by decide +kernel)]; kernel_rfl) | (rw [if_neg (by decide +kernel)]; exact ⟨rfl, rfl⟩))
    (fun os started H enc _ => lifted os started H enc)

theorem proved : Rows.FnAddSub32Said := over
#print axioms proved
end Go.Proofs.Ytpoadogiganibaa.fnAddSub32
