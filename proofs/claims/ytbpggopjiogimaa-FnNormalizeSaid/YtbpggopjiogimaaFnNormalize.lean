/- Proved: FnNormalize returns true for every input, and its arguments read afterwards as before. No conditions. -/
import Derived.Test.YtbpggopjiogimaaRows
import Derived.WalkKit
import Derived.ProofKit
import Derived.OpenShut
import Derived.ShutString
import Derived.Test.YtbpggopjiogimaaWalkF15
import Derived.Test.YtbpggopjiogimaaFNext
namespace Go.Proofs.Ytbpggopjiogimaa.fnNormalize
open Go.ChangeShapes Go.WideShapes Go.ChangeAt Go.RowKit Go.Proofs.Ytbpggopjiogimaa.Plain
set_option linter.unusedVariables false

theorem own : ownKnob Try.prog.godebug = none := by kernel_rfl

set_option maxHeartbeats 1000000 in
theorem walk (a0 : Int) (w0 : (Lit.int .u64 a0).wf = true) (w : World) :
    Calls Try.prog 9 #[.int .u64 a0] w fun e w' => e = .returned (.bool true) ∧ Grown w w' := by
  obtain ⟨x, rfl, hx⟩ := wf_u64 w0
  clear w0
  have r0 : ∀ _ : True, _ = _ := fun _ => abs_num x hx
  have r1 : ∀ _ : True, _ = _ := fun _ => exp_and x
  by_cases h1 : ef x = 2047
  · have t1 : ∀ _ : True, (((ef x * 4503599627370496 : Nat) : Int) == 9218868437227405312) = true := fun _ => by rw [h1]; rfl
    generalize ef x * 4503599627370496 = ez at *
    clear h1
    go_enter Try.func9, Try.ntmps9
    go_wp2
    go_ret
    exact ⟨rfl, Grown.refl _⟩
  have hfe := fin_ef x
  have hEl := ef_lt x
  have t1 : ∀ _ : True, (((ef x * 4503599627370496 : Nat) : Int) == 9218868437227405312) = false := fun _ => by
    rw [show (9218868437227405312 : Int) = ((9218868437227405312 : Nat) : Int) from rfl]; simp; omega
  by_cases hz : rung x = 0
  · have t0 : ∀ _ : True, ((rung x : Int) == 0) = true := fun _ => by rw [hz]; rfl
    generalize ef x * 4503599627370496 = ez at *
    generalize rung x = r at *
    clear h1 hfe hEl hz
    go_enter Try.func9, Try.ntmps9
    go_wp2
    go_ret
    exact ⟨rfl, Grown.refl _⟩
  have hf : rung x < 9218868437227405312 := by omega
  have t0 : ∀ _ : True, ((rung x : Int) == 0) = false := fun _ => by simp; omega
  have h0 : mantW x ≠ 0 := fun g => hz ((mantW_zero x).1 g)
  obtain ⟨p1, p2, p3, p4, p5, p6⟩ := norm_parts x hx hf h0
  have c := fun w => i_norm x hx hf w
  have d := fun w => of_any x hx w
  have d2 := fun w => of_any (normW x) p1 w
  rw [p4, p5, p6] at d2
  have hl := lgW_le x h0
  have hE := expW_lo x
  have hr := nMant_range x h0
  have hzz : normE x = 0 ∨ normE x = -52 := by unfold normE; split <;> omega
  have s1 : ∀ _ : True, _ = _ := fun _ => exp_and (normW x)
  have s2 : ∀ _ : True, _ = _ := fun _ => ef_num (normW x)
  have s3 : ∀ _ : True, (((ef (normW x) * 4503599627370496 : Nat) : Int) == 9218868437227405312) = false := fun _ => by
    rw [show (9218868437227405312 : Int) = ((9218868437227405312 : Nat) : Int) from rfl]; simp; omega
  have s4 : ∀ _ : True, ((ef (normW x) : Int) == 0) = false := fun _ => by simp; omega
  have hnE : nExp x = expW x - 52 + lgW x := rfl
  have hnM : nMant x = mantW x * 2 ^ (52 - lgW x) := rfl
  generalize ef (normW x) * 4503599627370496 = ez2 at s1 s3
  generalize ef (normW x) = E2 at s2 s4 p2 p3
  generalize ef x * 4503599627370496 = ez at r1 t1
  generalize normW x = y at *
  generalize normE x = z at *
  generalize nMant x = M2 at *
  generalize nExp x = X2 at *
  generalize expW x = E at *
  generalize mantW x = M at *
  generalize lgW x = l at *
  generalize negB x = n at *
  generalize rung x = r at *
  obtain ⟨k, hk⟩ : ∃ k : Nat, k = 52 - l := ⟨_, rfl⟩
  rw [← hk] at hnM
  obtain ⟨F, hF⟩ : ∃ F : Int, F = X2 - z := ⟨_, rfl⟩
  rw [← hF] at d2
  obtain ⟨s, hs⟩ : ∃ s : Int, s = F + z := ⟨_, rfl⟩
  have hpi : (M : Int) * (2 : Int) ^ k = (M2 : Int) := by rw [hnM]; simp
  have q1 : ∀ _ : True, wrap64 (F + z) = s := fun _ => by unfold wrap64; omega
  have q1b : ∀ _ : True, IntKind.i64.wrap (F + z) = s := fun _ => by rw [IntKind.wrap_i64]; omega
  have q2 : ∀ _ : True, wrap64 (E - s) = (k : Int) := fun _ => by unfold wrap64; omega
  have q2b : ∀ _ : True, IntKind.i64.wrap (E - s) = (k : Int) := fun _ => by rw [IntKind.wrap_i64]; omega
  have q3 : ∀ _ : True, decide (z < -5000) = false := fun _ => by simp; omega
  have q4 : ∀ _ : True, decide (5000 < z) = false := fun _ => by simp; omega
  have q5 : ∀ _ : True, IntKind.u64.wrap ((M : Int) * (2 : Int) ^ k) = (M2 : Int) := fun _ => by rw [hpi, IntKind.wrap_u64]; omega
  have q6 : ∀ _ : True, decide ((k : Int) ≤ 52) = true := fun _ => by simp; omega
  have q7 : ∀ _ : True, min k 64 = k := fun _ => by omega
  have q8 : ∀ _ : True, (n != n) = false := fun _ => by simp
  have q9 : ∀ _ : True, decide (k ≤ 52) = true := fun _ => by simp; omega
  clear h0 hf h1 hfe hEl hz p1 p2 p3 p4 p5 p6 hl hE hr hzz hnE hnM hk hF hs hpi
  go_enter Try.func9, Try.ntmps9
  go_wp2_with fail
  refine (c _).mono ?_
  rintro e w' ⟨rfl, rfl⟩
  go_wp2_with fail
  refine (d _).mono ?_
  rintro e w1 ⟨rfl, hg⟩
  go_wp2_with fail
  refine (d2 _).mono ?_
  rintro e w2 ⟨rfl, hg2⟩
  go_wp2
  go_quiet (fail)
  go_wp2
  go_ret
  exact ⟨rfl, fgrownT (((fgrownT hg hg2).alloc _ _).alloc _ _) (fgrownD ⟨_, rfl⟩)⟩

set_option maxRecDepth 100000 in
theorem lifted (os : Os) (started : os.Started) (H : Type) (enc : TypeId × Value → H) :
    ReturnsInHanded {} Try.checked os 9 .any (Rows.fnNormalizeSpec.pre6 enc Try.prog Try.f9 Rows.fnNormalizeRow.domain false) (Rows.fnNormalizeSpec.post enc Try.prog Try.f9 false true false false) := by
  refine returnsInHanded_of_change (C := Try.checked) own started (by kernel_rfl) Try.func9
    (ChangeSpec.witness6 (enc := enc) (C := Try.checked) false ⟨#[], #[.int .u64 0], []⟩ 8 (by kernel_rfl) (by kernel_rfl) (by kernel_rfl) (by kernel_rfl)) ?_
  intro W base args ds gs before hval0 hW hcnd _
  have hval : ∀ (j : Nat) t v, Try.f9.params[j]? = some t → args[j]? = some v → Value.okWide Try.prog W .any base t v := hval0
  have hW' := hW
  obtain ⟨p, q, hA0, hV, rfl, hfz, hnd⟩ := hW
  have hA : DataW.TrodAll enc Try.prog W 0 (fun _ => true) true Try.f9.params.toList args.toList ds p := hA0
  rw [Try.params9] at hA hval
  obtain ⟨v0, vs0, d0, ds0, p0, q0, hargs, rfl, rfl, h0, r0⟩ := trodAll_cons hA
  obtain ⟨rfl, rfl, rfl⟩ := trodAll_nil r0
  obtain rfl : args = #[v0] := by cases args; simp_all
  obtain ⟨rfl, rfl⟩ := trodVars_none hV
  obtain ⟨a0, rfl, rfl, rfl, w0⟩ := open_int Try.underlying22 (hval 0 22 v0 rfl rfl) h0
  clear hA0 hval0
  simp only [List.append_nil] at hW'
  refine (walk a0 w0 W).mono fun e W' ⟨he, hg⟩ => ?_
  subst he
  exact ⟨_, rfl, post_of_same (pa := []) (pv := []) hW' (fun _ _ _ => (trodAll_cons_mk (shut_bool Try.underlying4 _) trodAll_mk0)) (fun sp _ => (trodAll_cons_mk (shut_int Try.underlying22 w0) trodAll_mk0)) (fun _ _ => rfl) rfl
    (hg.frame _) hg.2.1 (ok_one (by kernel_rfl) rfl (okWide_bool_mk Try.underlying4 _))⟩

theorem over : Rows.fnNormalizeRow.holds Try.pinned (OpenSpec.ofChange Rows.fnNormalizeSpec) :=
  OpenClaim.holds_of_wide 9 Try.f9 rfl rfl rfl rfl rfl rfl rfl ⟨rfl, rfl, rfl, rfl, rfl⟩ rfl rfl rfl rfl rfl (by kernel_rfl) Try.func9 (by kernel_rfl)
    (of_decide_eq_true (by kernel_rfl)) (by unfold Func.isWrapper; first | (rw [if_pos (by decide +kernel)]; kernel_rfl) | (rw [if_neg (by decide +kernel)]; exact ⟨rfl, rfl⟩))
    (fun os started H enc _ => lifted os started H enc)

theorem proved : Rows.FnNormalizeSaid := over
#print axioms proved
end Go.Proofs.Ytbpggopjiogimaa.fnNormalize
