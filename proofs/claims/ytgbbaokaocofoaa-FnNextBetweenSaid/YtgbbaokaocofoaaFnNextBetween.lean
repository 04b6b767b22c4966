/- Proved: FnNextBetween returns true for every input, and its arguments read afterwards as before. No conditions. -/
import Derived.Test.YtgbbaokaocofoaaRows
import Derived.WalkKit
import Derived.ProofKit
import Derived.OpenShut
import Derived.ShutString
import Derived.Test.YtgbbaokaocofoaaWalkF3
import Derived.Test.YtgbbaokaocofoaaFNext
namespace Go.Proofs.Ytgbbaokaocofoaa.fnNextBetween
open Go.ChangeShapes Go.WideShapes Go.ChangeAt Go.RowKit Go.Proofs.Ytgbbaokaocofoaa.Plain
set_option linter.unusedVariables false

theorem own : ownKnob Try.prog.godebug = none := by kernel_rfl

set_option maxHeartbeats 1000000 in
theorem walk (a0 : Int) (a1 : Bool) (w0 : (Lit.int .u64 a0).wf = true) (w : World) :
    Calls Try.prog 4 #[.int .u64 a0, .bool a1] w fun e w' => e = .returned (.bool true) ∧ Grown w w' := by
  obtain ⟨x, rfl, hx⟩ := wf_u64 w0
  clear w0
  have e1 := exp_and x
  have e2 := abs_num x hx
  have hef := ef_lt x
  have hmf := mf_lt x
  have hrf := rung_fields x
  have r1 : ∀ _ : True, _ = _ := fun _ => e1
  have r2 : ∀ _ : True, _ = _ := fun _ => e2
  by_cases h1 : ef x = 2047
  · have t1 : ∀ _ : True, (((ef x * 4503599627370496 : Nat) : Int) == 9218868437227405312) = true := fun _ => by rw [h1]; rfl
    generalize ef x * 4503599627370496 = z at t1 r1
    clear e1 e2 hef hmf hrf h1
    go_enter Try.func4, Try.ntmps4
    go_wp2
    go_ret
    exact ⟨rfl, Grown.refl _⟩
  have t1 : ∀ _ : True, (((ef x * 4503599627370496 : Nat) : Int) == 9218868437227405312) = false := fun _ => by
    rw [show (9218868437227405312 : Int) = ((9218868437227405312 : Nat) : Int) from rfl]; simp; omega
  by_cases h2 : rung x < 2
  · have t2 : ∀ _ : True, decide ((rung x : Int) < 2) = true := fun _ => by simp; omega
    generalize ef x * 4503599627370496 = z at t1 r1
    generalize rung x = r at t2 r2
    clear e1 e2 hef hmf hrf h1 h2
    go_enter Try.func4, Try.ntmps4
    go_wp2
    go_ret
    exact ⟨rfl, Grown.refl _⟩
  have t2 : ∀ _ : True, decide ((rung x : Int) < 2) = false := fun _ => by simp; omega
  have px := place_num x hx
  have bx : -9223372036854775808 < place x ∧ place x < 9223372036854775808 := by split at px <;> omega
  have pl := fun w => place_any x hx w
  cases a1
  · obtain ⟨q1, q2, q3, q4⟩ := next_dn x hx (by omega) (by omega)
    have c := fun w => i_nextafter x 18442240474082181120 hx (by omega) w
    have py := place_num _ q1
    obtain ⟨y, hy⟩ : ∃ y, y = nextW x 18442240474082181120 := ⟨_, rfl⟩
    rw [← hy] at q1 q2 q3 q4 c
    have c2 := fun w => i_nextafter y 9218868437227405312 q1 (by omega) w
    rw [q4] at c2
    have d1 : ∀ _ : True, wrap64 (place y - place x) = -1 := fun _ => by rw [q3]; unfold wrap64; omega
    generalize ef x * 4503599627370496 = z at t1 r1
    generalize rung x = r at t2 r2
    clear e1 e2 hef hmf hrf h1 h2 q2 q3 q4 hy px py bx
    go_enter Try.func4, Try.ntmps4
    go_wp2_with fail
    refine (c _).mono ?_
    rintro e w' ⟨rfl, rfl⟩
    go_wp2_with fail
    refine (place_any y q1 _).mono ?_
    rintro e w' ⟨rfl, rfl⟩
    go_wp2_with fail
    refine (pl _).mono ?_
    rintro e w' ⟨rfl, rfl⟩
    go_wp2_with fail
    refine (c2 _).mono ?_
    rintro e w' ⟨rfl, rfl⟩
    go_wp2
    go_ret
    exact ⟨rfl, Grown.refl _⟩
  · obtain ⟨q1, q2, q3, q4⟩ := next_up x hx (by omega) (by omega)
    have c := fun w => i_nextafter x 9218868437227405312 hx (by omega) w
    have py := place_num _ q1
    obtain ⟨y, hy⟩ : ∃ y, y = nextW x 9218868437227405312 := ⟨_, rfl⟩
    rw [← hy] at q1 q2 q3 q4 c
    have c2 := fun w => i_nextafter y 18442240474082181120 q1 (by omega) w
    rw [q4] at c2
    have d1 : ∀ _ : True, wrap64 (place y - place x) = 1 := fun _ => by rw [q3]; unfold wrap64; omega
    generalize ef x * 4503599627370496 = z at t1 r1
    generalize rung x = r at t2 r2
    clear e1 e2 hef hmf hrf h1 h2 q2 q3 q4 hy px py bx
    go_enter Try.func4, Try.ntmps4
    go_wp2_with fail
    refine (c _).mono ?_
    rintro e w' ⟨rfl, rfl⟩
    go_wp2_with fail
    refine (place_any y q1 _).mono ?_
    rintro e w' ⟨rfl, rfl⟩
    go_wp2_with fail
    refine (pl _).mono ?_
    rintro e w' ⟨rfl, rfl⟩
    go_wp2_with fail
    refine (c2 _).mono ?_
    rintro e w' ⟨rfl, rfl⟩
    go_wp2
    go_ret
    exact ⟨rfl, Grown.refl _⟩

set_option maxRecDepth 100000 in
theorem lifted (os : Os) (started : os.Started) (H : Type) (enc : TypeId × Value → H) :
    ReturnsInHanded {} Try.checked os 4 .any (Rows.fnNextBetweenSpec.pre6 enc Try.prog Try.f4 Rows.fnNextBetweenRow.domain false) (Rows.fnNextBetweenSpec.post enc Try.prog Try.f4 false true false false) := by
  refine returnsInHanded_of_change (C := Try.checked) own started (by kernel_rfl) Try.func4
    (ChangeSpec.witness6 (enc := enc) (C := Try.checked) false ⟨#[], #[.int .u64 0, .bool false], []⟩ 8 (by kernel_rfl) (by kernel_rfl) (by kernel_rfl) (by kernel_rfl)) ?_
  intro W base args ds gs before hval0 hW hcnd _
  have hval : ∀ (j : Nat) t v, Try.f4.params[j]? = some t → args[j]? = some v → Value.okWide Try.prog W .any base t v := hval0
  have hW' := hW
  obtain ⟨p, q, hA0, hV, rfl, hfz, hnd⟩ := hW
  have hA : DataW.TrodAll enc Try.prog W 0 (fun _ => true) true Try.f4.params.toList args.toList ds p := hA0
  rw [Try.params4] at hA hval
  obtain ⟨v0, vs0, d0, ds0, p0, q0, hargs, rfl, rfl, h0, r0⟩ := trodAll_cons hA
  obtain ⟨v1, vs1, d1, ds1, p1, q1, rfl, rfl, rfl, h1, r1⟩ := trodAll_cons r0
  obtain ⟨rfl, rfl, rfl⟩ := trodAll_nil r1
  obtain rfl : args = #[v0, v1] := by cases args; simp_all
  obtain ⟨rfl, rfl⟩ := trodVars_none hV
  obtain ⟨a0, rfl, rfl, rfl, w0⟩ := open_int Try.underlying25 (hval 0 25 v0 rfl rfl) h0
  obtain ⟨a1, rfl, rfl, rfl⟩ := open_bool Try.underlying4 (hval 1 4 v1 rfl rfl) h1
  clear hA0 hval0
  simp only [List.append_nil] at hW'
  refine (walk a0 a1 w0 W).mono fun e W' ⟨he, hg⟩ => ?_
  subst he
  exact ⟨_, rfl, post_of_same (pa := []) (pv := []) hW' (fun _ _ _ => (trodAll_cons_mk (shut_bool Try.underlying4 _) trodAll_mk0)) (fun sp _ => (trodAll_cons_mk (shut_int Try.underlying25 w0) (trodAll_cons_mk (shut_bool Try.underlying4 _) trodAll_mk0))) (fun _ _ => rfl) rfl
    (hg.frame _) hg.2.1 (ok_one (by kernel_rfl) rfl (okWide_bool_mk Try.underlying4 _))⟩

theorem over : Rows.fnNextBetweenRow.holds Try.pinned (OpenSpec.ofChange Rows.fnNextBetweenSpec) :=
  OpenClaim.holds_of_wide 4 Try.f4 rfl rfl rfl rfl rfl rfl rfl ⟨rfl, rfl, rfl, rfl, rfl⟩ rfl rfl rfl rfl rfl (by kernel_rfl) Try.func4 (by kernel_rfl)
    (of_decide_eq_true (by kernel_rfl)) (by unfold Func.isWrapper; first | (rw [if_pos (by decide +kernel)]; kernel_rfl) | (rw [if_neg (by decide +kernel)]; exact ⟨rfl, rfl⟩))
    (fun os started H enc _ => lifted os started H enc)

theorem proved : Rows.FnNextBetweenSaid := over
#print axioms proved
end Go.Proofs.Ytgbbaokaocofoaa.fnNextBetween
