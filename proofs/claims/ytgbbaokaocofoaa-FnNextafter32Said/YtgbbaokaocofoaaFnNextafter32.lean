/- Proved: FnNextafter32 returns true for every input, and its arguments read afterwards as before. No conditions. -/
import Derived.Test.YtgbbaokaocofoaaRows
import Derived.WalkKit
import Derived.ProofKit
import Derived.OpenShut
import Derived.ShutString
import Derived.Test.YtgbbaokaocofoaaWalkN32
namespace Go.Proofs.Ytgbbaokaocofoaa.fnNextafter32
open Go.ChangeShapes Go.WideShapes Go.ChangeAt Go.RowKit Go.Proofs.Ytgbbaokaocofoaa.Plain
set_option linter.unusedVariables false

theorem own : ownKnob Try.prog.godebug = none := by kernel_rfl

set_option maxHeartbeats 1000000 in
theorem walk (a0 : Int) (a1 : Int) (w0 : (Lit.int .u32 a0).wf = true) (w1 : (Lit.int .u32 a1).wf = true) (w : World) :
    Calls Try.prog 3 #[.int .u32 a0, .int .u32 a1] w fun e w' => e = .returned (.bool true) ∧ Grown w w' := by
  obtain ⟨x, rfl, hx⟩ := wf_u32 w0
  obtain ⟨y, rfl, hy⟩ := wf_u32 w1
  clear w0 w1
  cases nx : S32.isNan x
  case true =>
    have c := fun w => i_n32_nan x y hx hy (Or.inl nx) w
    go_enter Try.func3, Try.ntmps3
    go_wp2_with fail
    refine (c _).mono ?_
    rintro e w' ⟨⟨v, hv, hn, rfl⟩, hg⟩
    go_wp2_with fail
    refine (nan32_any x true nx _).mono ?_
    rintro e w' ⟨rfl, rfl⟩
    go_wp2_with fail
    refine (nan32_any v true hn _).mono ?_
    rintro e w' ⟨rfl, rfl⟩
    go_wp2
    go_ret
    exact ⟨rfl, hg⟩
  cases ny : S32.isNan y
  case true =>
    have c := fun w => i_n32_nan x y hx hy (Or.inr ny) w
    go_enter Try.func3, Try.ntmps3
    go_wp2_with fail
    refine (c _).mono ?_
    rintro e w' ⟨⟨v, hv, hn, rfl⟩, hg⟩
    go_wp2_with fail
    refine (nan32_any x false nx _).mono ?_
    rintro e w' ⟨rfl, rfl⟩
    go_wp2_with fail
    refine (nan32_any y true ny _).mono ?_
    rintro e w' ⟨rfl, rfl⟩
    go_wp2_with fail
    refine (nan32_any v true hn _).mono ?_
    rintro e w' ⟨rfl, rfl⟩
    go_wp2
    go_ret
    exact ⟨rfl, hg⟩
  have c := fun w => i_n32 x y hx hy nx ny w
  have d := fun w => x32_any x y hx hy nx ny w
  have hl : S32.nextW x y < 4294967296 := by
    have h1 := S32.next_lt x hx nx
    unfold S32.nextW S32.wordD
    split
    · exact hx
    · split
      · split <;> omega
      · split <;> omega
  generalize S32.nextW x y = m at *
  have r1 : ∀ _ : True, IntKind.u64.wrap (x : Int) = (x : Int) := fun _ => by rw [IntKind.wrap_u64]; omega
  have r2 : ∀ _ : True, IntKind.u64.wrap (y : Int) = (y : Int) := fun _ => by rw [IntKind.wrap_u64]; omega
  have r3 : ∀ _ : True, IntKind.u64.wrap (m : Int) = (m : Int) := fun _ => by rw [IntKind.wrap_u64]; omega
  clear hl
  go_enter Try.func3, Try.ntmps3
  go_wp2_with fail
  refine (c _).mono ?_
  rintro e w' ⟨rfl, rfl⟩
  go_wp2_with fail
  refine (nan32_any x false nx _).mono ?_
  rintro e w' ⟨rfl, rfl⟩
  go_wp2_with fail
  refine (nan32_any y false ny _).mono ?_
  rintro e w' ⟨rfl, rfl⟩
  go_wp2_with fail
  refine (d _).mono ?_
  rintro e w' ⟨rfl, rfl⟩
  go_wp2
  go_ret
  exact ⟨rfl, Grown.refl _⟩

set_option maxRecDepth 100000 in
theorem lifted (os : Os) (started : os.Started) (H : Type) (enc : TypeId × Value → H) :
    ReturnsInHanded {} Try.checked os 3 .any (Rows.fnNextafter32Spec.pre6 enc Try.prog Try.f3 Rows.fnNextafter32Row.domain false) (Rows.fnNextafter32Spec.post enc Try.prog Try.f3 false true false false) := by
  refine returnsInHanded_of_change (C := Try.checked) own started (by kernel_rfl) Try.func3
    (ChangeSpec.witness6 (enc := enc) (C := Try.checked) false ⟨#[], #[.int .u32 0, .int .u32 0], []⟩ 8 (by kernel_rfl) (by kernel_rfl) (by kernel_rfl) (by kernel_rfl)) ?_
  intro W base args ds gs before hval0 hW hcnd _
  have hval : ∀ (j : Nat) t v, Try.f3.params[j]? = some t → args[j]? = some v → Value.okWide Try.prog W .any base t v := hval0
  have hW' := hW
  obtain ⟨p, q, hA0, hV, rfl, hfz, hnd⟩ := hW
  have hA : DataW.TrodAll enc Try.prog W 0 (fun _ => true) true Try.f3.params.toList args.toList ds p := hA0
  rw [Try.params3] at hA hval
  obtain ⟨v0, vs0, d0, ds0, p0, q0, hargs, rfl, rfl, h0, r0⟩ := trodAll_cons hA
  obtain ⟨v1, vs1, d1, ds1, p1, q1, rfl, rfl, rfl, h1, r1⟩ := trodAll_cons r0
  obtain ⟨rfl, rfl, rfl⟩ := trodAll_nil r1
  obtain rfl : args = #[v0, v1] := by cases args; simp_all
  obtain ⟨rfl, rfl⟩ := trodVars_none hV
  obtain ⟨a0, rfl, rfl, rfl, w0⟩ := open_int Try.underlying22 (hval 0 22 v0 rfl rfl) h0
  obtain ⟨a1, rfl, rfl, rfl, w1⟩ := open_int Try.underlying22 (hval 1 22 v1 rfl rfl) h1
  clear hA0 hval0
  simp only [List.append_nil] at hW'
  refine (walk a0 a1 w0 w1 W).mono fun e W' ⟨he, hg⟩ => ?_
  subst he
  exact ⟨_, rfl, post_of_same (pa := []) (pv := []) hW' (fun _ _ _ => (trodAll_cons_mk (shut_bool Try.underlying4 _) trodAll_mk0)) (fun sp _ => (trodAll_cons_mk (shut_int Try.underlying22 w0) (trodAll_cons_mk (shut_int Try.underlying22 w1) trodAll_mk0))) (fun _ _ => rfl) rfl
    (hg.frame _) hg.2.1 (ok_one (by kernel_rfl) rfl (okWide_bool_mk Try.underlying4 _))⟩

theorem over : Rows.fnNextafter32Row.holds Try.pinned (OpenSpec.ofChange Rows.fnNextafter32Spec) :=
  OpenClaim.holds_of_wide 3 Try.f3 rfl rfl rfl rfl rfl rfl rfl ⟨rfl, rfl, rfl, rfl, rfl⟩ rfl rfl rfl rfl rfl (by kernel_rfl) Try.func3 (by kernel_rfl)
    (of_decide_eq_true (by kernel_rfl)) (by unfold Func.isWrapper; first | (rw [if_pos (by decide +kernel)]; kernel_rfl) | (rw [if_neg (by decide +kernel)]; exact ⟨rfl, rfl⟩))
    (fun os started H enc _ => lifted os started H enc)

theorem proved : Rows.FnNextafter32Said := over
#print axioms proved
end Go.Proofs.Ytgbbaokaocofoaa.fnNextafter32
