/- Proved: FnReverseBack8 returns true for every input, and its arguments read afterwards as before. No conditions. -/
import Derived.Test.YthiodfepkfolpaaRows
import Derived.WalkKit
import Derived.ProofKit
import Derived.OpenShut
import Derived.ShutString
import Derived.Test.YthiodfepkfolpaaWalk5
namespace Go.Proofs.Ythiodfepkfolpaa.fnReverseBack8
open Go.ChangeShapes Go.WideShapes Go.ChangeAt Go.RowKit Go.Proofs.Ythiodfepkfolpaa.Plain
set_option linter.unusedVariables false

theorem own : ownKnob Try.prog.godebug = none := by kernel_rfl

set_option maxHeartbeats 1000000 in
theorem walk (a0 : Int) (w0 : (Lit.int .u8 a0).wf = true) (w : World) :
    Calls Try.prog 14 #[.int .u8 a0] w fun e w' => e = .returned (.bool true) ∧ Grown w w' := by
  obtain ⟨x, rfl, hx⟩ := wf_u8 w0
  clear w0
  have hx2 : x < 2 ^ 8 := by simpa using hx
  have f1 : placedB (placedB x (fun i => 7 - i) 8) (fun i => 7 - i) 8 = x := rev_rev x 8 hx2
  have f2 : onesB (placedB x (fun i => 7 - i) 8) 8 = onesB x 8 := ones_rev x 8
  have f3 : Lib.ctz 8 (placedB x (fun i => 7 - i) 8) = 8 - bitLen x := ctz_rev x 8 hx2
  have f4 : placedB 1 (fun i => 7 - i) 8 = 128 := by decide +kernel
  have hl := bitLen_le x 8 hx2
  have hy : placedB x (fun i => 7 - i) 8 < 256 := placedB_lt _ _ 8
  have c1 := fun w => rev8_i x hx w
  obtain ⟨y, hy0⟩ : ∃ y, y = placedB x (fun i => 7 - i) 8 := ⟨_, rfl⟩
  rw [← hy0] at f1 f2 f3 hy c1
  have c2 := fun w => rev8_i y hy w
  have c3 := fun w => ones8_i y hy w
  have c4 := fun w => ones8_i x hx w
  have c5 := fun w => tz8_i y hy w
  have c6 := fun w => lz8_i x hx w
  have c7 := fun w => rev8_i 1 (by decide) w
  rw [f1] at c2
  rw [f2] at c3
  rw [f3] at c5
  rw [f4] at c7
  obtain ⟨l, hl0⟩ : ∃ l, l = 8 - bitLen x := ⟨_, rfl⟩
  rw [← hl0] at c5
  rw [show (8 - (bitLen x : Int)) = (l : Int) by omega] at c6
  have C1 := Lib.hid c1
  have C2 := Lib.hid c2
  have C3 := Lib.hid c3
  have C4 := Lib.hid c4
  have C5 := Lib.hid c5
  have C6 := Lib.hid c6
  have C7 := Lib.hid c7
  clear c1 c2 c3 c4 c5 c6 c7 f1 f2 f3 f4 hl hl0 hx2 hy0
  go_enter Try.func14, Try.ntmps14
  go_wp2_with fail
  refine (C1.out _).mono ?_
  rintro e w' ⟨rfl, rfl⟩
  go_wp2_with fail
  refine (C2.out _).mono ?_
  rintro e w' ⟨rfl, rfl⟩
  go_wp2_with fail
  refine (C3.out _).mono ?_
  rintro e w' ⟨rfl, rfl⟩
  go_wp2_with fail
  refine (C4.out _).mono ?_
  rintro e w' ⟨rfl, rfl⟩
  go_wp2_with fail
  refine (C5.out _).mono ?_
  rintro e w' ⟨rfl, rfl⟩
  go_wp2_with fail
  refine (C6.out _).mono ?_
  rintro e w' ⟨rfl, rfl⟩
  go_wp2_with fail
  refine (C7.out _).mono ?_
  rintro e w' ⟨rfl, rfl⟩
  go_wp2
  go_ret
  exact ⟨rfl, Grown.refl _⟩

set_option maxRecDepth 100000 in
theorem lifted (os : Os) (started : os.Started) (H : Type) (enc : TypeId × Value → H) :
    ReturnsInHanded {} Try.checked os 14 .any (Rows.fnReverseBack8Spec.pre6 enc Try.prog Try.f14 Rows.fnReverseBack8Row.domain false) (Rows.fnReverseBack8Spec.post enc Try.prog Try.f14 false true false false) := by
  refine returnsInHanded_of_change (C := Try.checked) own started (by kernel_rfl) Try.func14
    (ChangeSpec.witness6 (enc := enc) (C := Try.checked) false ⟨#[], #[.int .u8 0], []⟩ 8 (by kernel_rfl) (by kernel_rfl) (by kernel_rfl) (by kernel_rfl)) ?_
  intro W base args ds gs before hval0 hW hcnd _
  have hval : ∀ (j : Nat) t v, Try.f14.params[j]? = some t → args[j]? = some v → Value.okWide Try.prog W .any base t v := hval0
  have hW' := hW
  obtain ⟨p, q, hA0, hV, rfl, hfz, hnd⟩ := hW
  have hA : DataW.TrodAll enc Try.prog W 0 (fun _ => true) true Try.f14.params.toList args.toList ds p := hA0
  rw [Try.params14] at hA hval
  obtain ⟨v0, vs0, d0, ds0, p0, q0, hargs, rfl, rfl, h0, r0⟩ := trodAll_cons hA
  obtain ⟨rfl, rfl, rfl⟩ := trodAll_nil r0
  obtain rfl : args = #[v0] := by cases args; simp_all
  obtain ⟨rfl, rfl⟩ := trodVars_none hV
  obtain ⟨a0, rfl, rfl, rfl, w0⟩ := open_int Try.underlying5 (hval 0 5 v0 rfl rfl) h0
  clear hA0 hval0
  simp only [List.append_nil] at hW'
  refine (walk a0 w0 W).mono fun e W' ⟨he, hg⟩ => ?_
  subst he
  exact ⟨_, rfl, post_of_same (pa := []) (pv := []) hW' (fun _ _ _ => (trodAll_cons_mk (shut_bool Try.underlying4 _) trodAll_mk0)) (fun sp _ => (trodAll_cons_mk (shut_int Try.underlying5 w0) trodAll_mk0)) (fun _ _ => rfl) rfl
    (hg.frame _) hg.2.1 (ok_one (by kernel_rfl) rfl (okWide_bool_mk Try.underlying4 _))⟩

theorem over : Rows.fnReverseBack8Row.holds Try.pinned (OpenSpec.ofChange Rows.fnReverseBack8Spec) :=
  OpenClaim.holds_of_wide 14 Try.f14 rfl rfl rfl rfl rfl rfl rfl ⟨rfl, rfl, rfl, rfl, rfl⟩ rfl rfl rfl rfl rfl (by kernel_rfl) Try.func14 (by kernel_rfl)
    (of_decide_eq_true (by kernel_rfl)) (by unfold Func.isWrapper; first | (rw [if_pos (by decide +kernel)]; kernel_rfl) | (rw [if_neg (by decide +kernel)]; exact ⟨rfl, rfl⟩))
    (fun os started H enc _ => lifted os started H enc)

theorem proved : Rows.FnReverseBack8Said := over
#print axioms proved
end Go.Proofs.Ythiodfepkfolpaa.fnReverseBack8
