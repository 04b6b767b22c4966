/- Proved: FnMul32 returns true for every input, and its arguments read afterwards as before. No conditions. -/
import Derived.Test.YtnlcmcpbkjikeaaRows
import Derived.WalkKit
import Derived.ProofKit
import Derived.OpenShut
import Derived.ShutString
import Derived.Test.YtnlcmcpbkjikeaaWalk3
namespace Go.Proofs.Ytnlcmcpbkjikeaa.fnMul32
open Go.ChangeShapes Go.WideShapes Go.ChangeAt Go.RowKit Go.Proofs.Ytnlcmcpbkjikeaa.Plain
set_option linter.unusedVariables false

theorem own : ownKnob Try.prog.godebug = none := by kernel_rfl

set_option maxHeartbeats 1000000 in
theorem walk (a0 : Int) (a1 : Int) (w0 : (Lit.int .u32 a0).wf = true) (w1 : (Lit.int .u32 a1).wf = true) (w : World) :
    Calls Try.prog 8 #[.int .u32 a0, .int .u32 a1] w fun e w' => e = .returned (.bool true) ∧ Grown w w' := by
  obtain ⟨x, rfl, hx⟩ := wf_u32 w0
  obtain ⟨y, rfl, hy⟩ := wf_u32 w1
  clear w0 w1
  have hlt := mul32_lt x y hx hy
  have hm : x * y = mulH 4294967296 x y * 4294967296 + mulL 4294967296 x y := by unfold mulH mulL; omega
  have hml : mulL 4294967296 x y < 4294967296 := Nat.mod_lt _ (by decide)
  have hmh : mulH 4294967296 x y < 4294967296 := by unfold mulH; omega
  have c1 := fun w => mul32_i x y hx hy w
  obtain ⟨a, ha0⟩ : ∃ a, a = mulH 4294967296 x y := ⟨_, rfl⟩
  obtain ⟨b, hb0⟩ : ∃ b, b = mulL 4294967296 x y := ⟨_, rfl⟩
  rw [← ha0, ← hb0] at c1 hm
  rw [← hb0] at hml
  rw [← ha0] at hmh
  have e1 := orHi a b hmh hml
  have r1 : ∀ _ : True, _ = _ := fun _ => e1
  have r2 : ∀ _ : True, IntKind.u64.wrap ((x : Int) * (y : Int)) = ((a * 4294967296 + b : Nat) : Int) := fun _ => by rw [mulC, wrap64N, Nat.mod_eq_of_lt hlt, hm]
  have C1 := Lib.hid c1
  clear hlt hm ha0 hb0 c1 e1
  go_enter Try.func8, Try.ntmps8
  go_wp2_with fail
  refine (C1.out _).mono ?_
  rintro e w' ⟨rfl, rfl⟩
  go_wp2
  go_ret
  exact ⟨ret_bool (by simp), Grown.refl _⟩

set_option maxRecDepth 100000 in
theorem lifted (os : Os) (started : os.Started) (H : Type) (enc : TypeId × Value → H) :
    ReturnsInHanded {} Try.checked os 8 .any (Rows.fnMul32Spec.pre6 enc Try.prog Try.f8 Rows.fnMul32Row.domain false) (Rows.fnMul32Spec.post enc Try.prog Try.f8 false true false false) := by
  refine returnsInHanded_of_change (C := Try.checked) own started (by kernel_rfl) Try.func8
    (ChangeSpec.witness6 (enc := enc) (C := Try.checked) false ⟨#[], #[.int .u32 0, .int .u32 0], []⟩ 8 (by kernel_rfl) (by kernel_rfl) (by kernel_rfl) (by kernel_rfl)) ?_
  intro W base args ds gs before hval0 hW hcnd _
  have hval : ∀ (j : Nat) t v, Try.f8.params[j]? = some t → args[j]? = some v → Value.okWide Try.prog W .any base t v := hval0
  have hW' := hW
  obtain ⟨p, q, hA0, hV, rfl, hfz, hnd⟩ := hW
  have hA : DataW.TrodAll enc Try.prog W 0 (fun _ => true) true Try.f8.params.toList args.toList ds p := hA0
  rw [Try.params8] at hA hval
  obtain ⟨v0, vs0, d0, ds0, p0, q0, hargs, rfl, rfl, h0, r0⟩ := trodAll_cons hA
  obtain ⟨v1, vs1, d1, ds1, p1, q1, rfl, rfl, rfl, h1, r1⟩ := trodAll_cons r0
  obtain ⟨rfl, rfl, rfl⟩ := trodAll_nil r1
  obtain rfl : args = #[v0, v1] := by cases args; simp_all
  obtain ⟨rfl, rfl⟩ := trodVars_none hV
  obtain ⟨a0, rfl, rfl, rfl, w0⟩ := open_int Try.underlying27 (hval 0 27 v0 rfl rfl) h0
  obtain ⟨a1, rfl, rfl, rfl, w1⟩ := open_int Try.underlying27 (hval 1 27 v1 rfl rfl) h1
  clear hA0 hval0
  simp only [List.append_nil] at hW'
  refine (walk a0 a1 w0 w1 W).mono fun e W' ⟨he, hg⟩ => ?_
  subst he
  exact ⟨_, rfl, post_of_same (pa := []) (pv := []) hW' (fun _ _ _ => (trodAll_cons_mk (shut_bool Try.underlying4 _) trodAll_mk0)) (fun sp _ => (trodAll_cons_mk (shut_int Try.underlying27 w0) (trodAll_cons_mk (shut_int Try.underlying27 w1) trodAll_mk0))) (fun _ _ => rfl) rfl
    (hg.frame _) hg.2.1 (ok_one (by kernel_rfl) rfl (okWide_bool_mk Try.underlying4 _))⟩

theorem over : Rows.fnMul32Row.holds Try.pinned (OpenSpec.ofChange Rows.fnMul32Spec) :=
  OpenClaim.holds_of_wide 8 Try.f8 rfl rfl rfl rfl rfl rfl rfl ⟨rfl, rfl, rfl, rfl, rfl⟩ rfl rfl rfl rfl rfl (by kernel_rfl) Try.func8 (by kernel_rfl)
    (of_decide_eq_true (by kernel_rfl)) (by unfold Func.isWrapper; first | (rw [if_pos (by decide +kernel)]; kernel_rfl) | (rw [if_neg (by decide +kernel)]; exact ⟨rfl, rfl⟩))
    (fun os started H enc _ => lifted os started H enc)

theorem proved : Rows.FnMul32Said := over
#print axioms proved
end Go.Proofs.Ytnlcmcpbkjikeaa.fnMul32
