/- Proved: FnIsInf returns true for every input, and its arguments read afterwards as before. No conditions. -/
import Derived.Test.YtgbbaokaocofoaaRows
import Derived.WalkKit
import Derived.ProofKit
import Derived.OpenShut
import Derived.ShutString
import Derived.Test.YtgbbaokaocofoaaWalkF2
namespace Go.Proofs.Ytgbbaokaocofoaa.fnIsInf
open Go.ChangeShapes Go.WideShapes Go.ChangeAt Go.RowKit Go.Proofs.Ytgbbaokaocofoaa.Plain
set_option linter.unusedVariables false

theorem own : ownKnob Try.prog.godebug = none := by kernel_rfl

set_option maxHeartbeats 1000000 in
theorem walk (a0 : Int) (a1 : Int) (w0 : (Lit.int .u64 a0).wf = true) (w1 : (Lit.int .i64 a1).wf = true) (w : World) :
    Calls Try.prog 9 #[.int .u64 a0, .int .i64 a1] w fun e w' => e = .returned (.bool true) ∧ Grown w w' := by
  obtain ⟨x, rfl, hx⟩ := wf_u64 w0
  clear w0
  have hA : ∀ t, x = 9218868437227405312 → isInfS x t = decide (0 ≤ t) := fun t h => by
    subst h; unfold isInfS
    rw [show isInf 9218868437227405312 = true by decide, show negB 9218868437227405312 = false by decide]; simp
  have hB : ∀ t, x = 18442240474082181120 → isInfS x t = decide (t ≤ 0) := fun t h => by
    subst h; unfold isInfS
    rw [show isInf 18442240474082181120 = true by decide, show negB 18442240474082181120 = true by decide]; simp
  have hC : ∀ t, x ≠ 9218868437227405312 → x ≠ 18442240474082181120 → isInfS x t = false := fun t h g => by
    unfold isInfS
    have : isInf x = false := by unfold isInf rung; simp; omega
    rw [this]; rfl
  have hZ := isInfS_iff x
  rcases Int.lt_trichotomy a1 0 with ht | ht | ht
  · have c := fun w => i_isInf_neg x hx a1 ht w
    have s1 : ∀ _ : True, decide (0 ≤ a1) = false := fun _ => by simp; omega
    have s2 : ∀ _ : True, decide (a1 ≤ 0) = true := fun _ => by simp; omega
    by_cases h1 : x = 9218868437227405312
    · rw [hA _ h1] at c
      have t1 : ∀ _ : True, ((x : Int) == 9218868437227405312) = true := fun _ => by simp; omega
      have t2 : ∀ _ : True, ((x : Int) == 18442240474082181120) = false := fun _ => by simp; omega
      rw [s1 trivial] at c
      have C := Lib.hid c
      clear c hA hB hC hZ h1 w1
      clear ht
      go_enter Try.func9, Try.ntmps9
      go_wp2_with (first | (go_at_call 20; refine (C.out _).mono ?_; rintro e w' ⟨rfl, rfl⟩))
      go_ret
      exact ⟨rfl, Grown.refl _⟩
    by_cases h2 : x = 18442240474082181120
    · rw [hB _ h2] at c
      have t1 : ∀ _ : True, ((x : Int) == 9218868437227405312) = false := fun _ => by simp; omega
      have t2 : ∀ _ : True, ((x : Int) == 18442240474082181120) = true := fun _ => by simp; omega
      rw [s2 trivial] at c
      have C := Lib.hid c
      clear c hA hB hC hZ h1 h2 w1
      clear ht
      go_enter Try.func9, Try.ntmps9
      go_wp2_with (first | (go_at_call 20; refine (C.out _).mono ?_; rintro e w' ⟨rfl, rfl⟩))
      go_ret
      exact ⟨rfl, Grown.refl _⟩
    · rw [hC _ h1 h2] at c
      have t1 : ∀ _ : True, ((x : Int) == 9218868437227405312) = false := fun _ => by simp; omega
      have t2 : ∀ _ : True, ((x : Int) == 18442240474082181120) = false := fun _ => by simp; omega
      have C := Lib.hid c
      clear c hA hB hC hZ h1 h2 w1
      clear ht
      go_enter Try.func9, Try.ntmps9
      go_wp2_with (first | (go_at_call 20; refine (C.out _).mono ?_; rintro e w' ⟨rfl, rfl⟩))
      go_ret
      exact ⟨rfl, Grown.refl _⟩
  · subst ht
    have c := fun w => i_isInf_zero x hx w
    rw [← hZ] at c
    by_cases h1 : x = 9218868437227405312
    · rw [hA _ h1] at c
      have t1 : ∀ _ : True, ((x : Int) == 9218868437227405312) = true := fun _ => by simp; omega
      have t2 : ∀ _ : True, ((x : Int) == 18442240474082181120) = false := fun _ => by simp; omega
      rw [show decide ((0 : Int) ≤ 0) = true by decide] at c
      have C := Lib.hid c
      clear c hA hB hC hZ h1 w1
      go_enter Try.func9, Try.ntmps9
      go_wp2_with (first | (go_at_call 20; refine (C.out _).mono ?_; rintro e w' ⟨rfl, rfl⟩))
      go_ret
      exact ⟨rfl, Grown.refl _⟩
    by_cases h2 : x = 18442240474082181120
    · rw [hB _ h2] at c
      have t1 : ∀ _ : True, ((x : Int) == 9218868437227405312) = false := fun _ => by simp; omega
      have t2 : ∀ _ : True, ((x : Int) == 18442240474082181120) = true := fun _ => by simp; omega
      rw [show decide ((0 : Int) ≤ 0) = true by decide] at c
      have C := Lib.hid c
      clear c hA hB hC hZ h1 h2 w1
      go_enter Try.func9, Try.ntmps9
      go_wp2_with (first | (go_at_call 20; refine (C.out _).mono ?_; rintro e w' ⟨rfl, rfl⟩))
      go_ret
      exact ⟨rfl, Grown.refl _⟩
    · rw [hC _ h1 h2] at c
      have t1 : ∀ _ : True, ((x : Int) == 9218868437227405312) = false := fun _ => by simp; omega
      have t2 : ∀ _ : True, ((x : Int) == 18442240474082181120) = false := fun _ => by simp; omega
      have C := Lib.hid c
      clear c hA hB hC hZ h1 h2 w1
      go_enter Try.func9, Try.ntmps9
      go_wp2_with (first | (go_at_call 20; refine (C.out _).mono ?_; rintro e w' ⟨rfl, rfl⟩))
      go_ret
      exact ⟨rfl, Grown.refl _⟩
  · have c := fun w => i_isInf_pos x hx a1 ht w
    have s1 : ∀ _ : True, decide (0 ≤ a1) = true := fun _ => by simp; omega
    have s2 : ∀ _ : True, decide (a1 ≤ 0) = false := fun _ => by simp; omega
    by_cases h1 : x = 9218868437227405312
    · rw [hA _ h1] at c
      have t1 : ∀ _ : True, ((x : Int) == 9218868437227405312) = true := fun _ => by simp; omega
      have t2 : ∀ _ : True, ((x : Int) == 18442240474082181120) = false := fun _ => by simp; omega
      rw [s1 trivial] at c
      have C := Lib.hid c
      clear c hA hB hC hZ h1 w1
      clear ht
      go_enter Try.func9, Try.ntmps9
      go_wp2_with (first | (go_at_call 20; refine (C.out _).mono ?_; rintro e w' ⟨rfl, rfl⟩))
      go_ret
      exact ⟨rfl, Grown.refl _⟩
    by_cases h2 : x = 18442240474082181120
    · rw [hB _ h2] at c
      have t1 : ∀ _ : True, ((x : Int) == 9218868437227405312) = false := fun _ => by simp; omega
      have t2 : ∀ _ : True, ((x : Int) == 18442240474082181120) = true := fun _ => by simp; omega
      rw [s2 trivial] at c
      have C := Lib.hid c
      clear c hA hB hC hZ h1 h2 w1
      clear ht
      go_enter Try.func9, Try.ntmps9
      go_wp2_with (first | (go_at_call 20; refine (C.out _).mono ?_; rintro e w' ⟨rfl, rfl⟩))
      go_ret
      exact ⟨rfl, Grown.refl _⟩
    · rw [hC _ h1 h2] at c
      have t1 : ∀ _ : True, ((x : Int) == 9218868437227405312) = false := fun _ => by simp; omega
      have t2 : ∀ _ : True, ((x : Int) == 18442240474082181120) = false := fun _ => by simp; omega
      have C := Lib.hid c
      clear c hA hB hC hZ h1 h2 w1
      clear ht
      go_enter Try.func9, Try.ntmps9
      go_wp2_with (first | (go_at_call 20; refine (C.out _).mono ?_; rintro e w' ⟨rfl, rfl⟩))
      go_ret
      exact ⟨rfl, Grown.refl _⟩

set_option maxRecDepth 100000 in
theorem lifted (os : Os) (started : os.Started) (H : Type) (enc : TypeId × Value → H) :
    ReturnsInHanded {} Try.checked os 9 .any (Rows.fnIsInfSpec.pre6 enc Try.prog Try.f9 Rows.fnIsInfRow.domain false) (Rows.fnIsInfSpec.post enc Try.prog Try.f9 false true false false) := by
  refine returnsInHanded_of_change (C := Try.checked) own started (by kernel_rfl) Try.func9
    (ChangeSpec.witness6 (enc := enc) (C := Try.checked) false ⟨#[], #[.int .u64 0, .int .i64 0], []⟩ 8 (by kernel_rfl) (by kernel_rfl) (by kernel_rfl) (by kernel_rfl)) ?_
  intro W base args ds gs before hval0 hW hcnd _
  have hval : ∀ (j : Nat) t v, Try.f9.params[j]? = some t → args[j]? = some v → Value.okWide Try.prog W .any base t v := hval0
  have hW' := hW
  obtain ⟨p, q, hA0, hV, rfl, hfz, hnd⟩ := hW
  have hA : DataW.TrodAll enc Try.prog W 0 (fun _ => true) true Try.f9.params.toList args.toList ds p := hA0
  rw [Try.params9] at hA hval
  obtain ⟨v0, vs0, d0, ds0, p0, q0, hargs, rfl, rfl, h0, r0⟩ := trodAll_cons hA
  obtain ⟨v1, vs1, d1, ds1, p1, q1, rfl, rfl, rfl, h1, r1⟩ := trodAll_cons r0
  obtain ⟨rfl, rfl, rfl⟩ := trodAll_nil r1
  obtain rfl : args = #[v0, v1] := by cases args; simp_all
  obtain ⟨rfl, rfl⟩ := trodVars_none hV
  obtain ⟨a0, rfl, rfl, rfl, w0⟩ := open_int Try.underlying25 (hval 0 25 v0 rfl rfl) h0
  obtain ⟨a1, rfl, rfl, rfl, w1⟩ := open_int Try.underlying3 (hval 1 3 v1 rfl rfl) h1
  clear hA0 hval0
  simp only [List.append_nil] at hW'
  refine (walk a0 a1 w0 w1 W).mono fun e W' ⟨he, hg⟩ => ?_
  subst he
  exact ⟨_, rfl, post_of_same (pa := []) (pv := []) hW' (fun _ _ _ => (trodAll_cons_mk (shut_bool Try.underlying4 _) trodAll_mk0)) (fun sp _ => (trodAll_cons_mk (shut_int Try.underlying25 w0) (trodAll_cons_mk (shut_int Try.underlying3 w1) trodAll_mk0))) (fun _ _ => rfl) rfl
    (hg.frame _) hg.2.1 (ok_one (by kernel_rfl) rfl (okWide_bool_mk Try.underlying4 _))⟩

theorem over : Rows.fnIsInfRow.holds Try.pinned (OpenSpec.ofChange Rows.fnIsInfSpec) :=
  OpenClaim.holds_of_wide 9 Try.f9 rfl rfl rfl rfl rfl rfl rfl ⟨rfl, rfl, rfl, rfl, rfl⟩ rfl rfl rfl rfl rfl (by kernel_rfl) Try.func9 (by kernel_rfl)
    (of_decide_eq_true (by kernel_rfl)) (by unfold Func.isWrapper; first | (rw [if_pos (by decide +kernel)]; kernel_rfl) | (rw [if_neg (by decide +kernel)]; exact ⟨rfl, rfl⟩))
    (fun os started H enc _ => lifted os started H enc)

theorem proved : Rows.FnIsInfSaid := over
#print axioms proved
end Go.Proofs.Ytgbbaokaocofoaa.fnIsInf
