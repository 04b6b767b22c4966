/- Proved: FnLdexp returns true for every input, and its arguments read afterwards as before. No conditions. -/
import Derived.Test.YtbpggopjiogimaaRows
import Derived.WalkKit
import Derived.ProofKit
import Derived.OpenShut
import Derived.ShutString
import Derived.Test.YtbpggopjiogimaaWalkF16
import Derived.Test.YtbpggopjiogimaaWalkF17
import Derived.Test.YtbpggopjiogimaaFBack
import Derived.Test.YtbpggopjiogimaaWalkH
namespace Go.Proofs.Ytbpggopjiogimaa.fnLdexp
open Go.ChangeShapes Go.WideShapes Go.ChangeAt Go.RowKit Go.Proofs.Ytbpggopjiogimaa.Plain
set_option linter.unusedVariables false

theorem own : ownKnob Try.prog.godebug = none := by kernel_rfl

set_option maxHeartbeats 1000000 in
theorem walk (a0 : Int) (a1 : Int) (w0 : (Lit.int .u64 a0).wf = true) (w1 : (Lit.int .i64 a1).wf = true) (w : World) :
    Calls Try.prog 7 #[.int .u64 a0, .int .i64 a1] w fun e w' => e = .returned (.bool true) ∧ Grown w w' := by
  obtain ⟨x, rfl, hx⟩ := wf_u64 w0
  clear w0
  have hb := wf_i64 w1
  clear w1
  by_cases h1 : 1099511627776 < a1
  · have t1 : ∀ _ : True, decide (1099511627776 < a1) = true := fun _ => by simpa using h1
    clear hb h1
    go_enter Try.func7, Try.ntmps7
    go_wp2
    go_ret
    exact ⟨rfl, Grown.refl _⟩
  have t1 : ∀ _ : True, decide (1099511627776 < a1) = false := fun _ => by simpa using h1
  by_cases h2 : a1 < -1099511627776
  · have t2 : ∀ _ : True, decide (a1 < -1099511627776) = true := fun _ => by simpa using h2
    clear hb h1 h2
    go_enter Try.func7, Try.ntmps7
    go_wp2
    go_ret
    exact ⟨rfl, Grown.refl _⟩
  have t2 : ∀ _ : True, decide (a1 < -1099511627776) = false := fun _ => by simpa using h2
  have c := fun w => i_ld x hx a1 (by omega) w
  have hfe := fin_ef x
  have r0 : ∀ _ : True, _ = _ := fun _ => abs_num x hx
  cases nx : isNan x
  case true =>
    have hl : ldW x a1 = x := by unfold ldW; rw [if_pos (by unfold isNan at nx; simp at nx; omega)]
    rw [hl] at c
    clear hl hfe hb h1 h2
    go_enter Try.func7, Try.ntmps7
    go_wp2_with fail
    refine (c _).mono ?_
    rintro e w' ⟨rfl, rfl⟩
    go_wp2_with fail
    refine (nan_any x true nx _).mono ?_
    rintro e w' ⟨rfl, rfl⟩
    go_wp2_with fail
    refine (nan_any x true nx _).mono ?_
    rintro e w' ⟨rfl, rfl⟩
    go_wp2
    go_ret
    exact ⟨rfl, Grown.refl _⟩
  cases ix : isInf x
  case true =>
    have hl : ldW x a1 = x := by unfold ldW; rw [if_pos (by unfold isInf at ix; simp at ix; omega)]
    rw [hl] at c
    clear hl hfe hb h1 h2
    go_enter Try.func7, Try.ntmps7
    go_wp2_with fail
    refine (c _).mono ?_
    rintro e w' ⟨rfl, rfl⟩
    go_wp2_with fail
    refine (nan_any x false nx _).mono ?_
    rintro e w' ⟨rfl, rfl⟩
    go_wp2_with fail
    refine (infinite_any x true ix _).mono ?_
    rintro e w' ⟨rfl, rfl⟩
    go_wp2
    go_ret
    exact ⟨rfl, Grown.refl _⟩
  by_cases hz : rung x = 0
  · have hl : ldW x a1 = x := by unfold ldW; rw [if_pos (Or.inl hz)]
    rw [hl] at c
    have t0 : ∀ _ : True, ((rung x : Int) == 0) = true := fun _ => by rw [hz]; rfl
    generalize rung x = r at *
    clear hl hfe hb h1 h2 hz
    go_enter Try.func7, Try.ntmps7
    go_wp2_with fail
    refine (c _).mono ?_
    rintro e w' ⟨rfl, rfl⟩
    go_wp2_with fail
    refine (nan_any x false nx _).mono ?_
    rintro e w' ⟨rfl, rfl⟩
    go_wp2_with fail
    refine (infinite_any x false ix _).mono ?_
    rintro e w' ⟨rfl, rfl⟩
    go_wp2
    go_ret
    exact ⟨rfl, Grown.refl _⟩
  have hf : rung x < 9218868437227405312 := by
    unfold isNan at nx; unfold isInf at ix; simp at nx ix; omega
  have t0 : ∀ _ : True, ((rung x : Int) == 0) = false := fun _ => by simp; omega
  have hM := mantW_lt x
  have hE := expW_lo x
  obtain ⟨k, hk⟩ : ∃ k : Int, k = max (-5000) (min 5000 a1) := ⟨_, rfl⟩
  rw [ld_clamp x hx a1 k hk hz hf] at c
  have d := fun w => of_any x hx w
  have db := fun w => bits_every (negB x) (mantW x) (expW x + k) hM (by omega) (by omega) w
  generalize near (negB x) (mantW x) (expW x + k) = v at *
  clear hfe hz hf
  generalize rung x = r at *
  generalize expW x = E at *
  generalize mantW x = M at *
  generalize negB x = n at *
  obtain ⟨s, hs⟩ : ∃ s : Int, s = E + k := ⟨_, rfl⟩
  rw [← hs] at db
  rcases (by omega : 5000 ≤ a1 ∨ (a1 < 5000 ∧ a1 ≤ -5000) ∨ (a1 < 5000 ∧ -5000 < a1)) with g | ⟨g, g2⟩ | ⟨g, g2⟩
  · have q1 : ∀ _ : True, wrap64 (E + 5000) = s := fun _ => by unfold wrap64; omega
    have q2 : ∀ _ : True, IntKind.i64.wrap (E + 5000) = s := fun _ => by rw [IntKind.wrap_i64]; omega
    clear hb h1 h2 hM hE hk hs
    go_enter Try.func7, Try.ntmps7
    go_wp2_with fail
    refine (c _).mono ?_
    rintro e w' ⟨rfl, rfl⟩
    go_wp2_with fail
    refine (nan_any x false nx _).mono ?_
    rintro e w' ⟨rfl, rfl⟩
    go_wp2_with fail
    refine (infinite_any x false ix _).mono ?_
    rintro e w' ⟨rfl, rfl⟩
    go_wp2_with fail
    refine (d _).mono ?_
    rintro e w1 ⟨rfl, hg⟩
    go_wp2_with fail
    refine (db _).mono ?_
    rintro e w2 ⟨rfl, hg2⟩
    go_wp2
    go_ret
    exact ⟨rfl, fgrownT (hg.alloc _ _) hg2⟩
  · have q1 : ∀ _ : True, wrap64 (E + -5000) = s := fun _ => by unfold wrap64; omega
    have q2 : ∀ _ : True, IntKind.i64.wrap (E + -5000) = s := fun _ => by rw [IntKind.wrap_i64]; omega
    have q3 : ∀ _ : True, wrap64 (E + (-5000)) = s := fun _ => by unfold wrap64; omega
    have q4 : ∀ _ : True, IntKind.i64.wrap (E + (-5000)) = s := fun _ => by rw [IntKind.wrap_i64]; omega
    have q5 : ∀ _ : True, wrap64 (E - 5000) = s := fun _ => by unfold wrap64; omega
    have q6 : ∀ _ : True, IntKind.i64.wrap (E - 5000) = s := fun _ => by rw [IntKind.wrap_i64]; omega
    clear hb h1 h2 hM hE hk hs
    go_enter Try.func7, Try.ntmps7
    go_wp2_with fail
    refine (c _).mono ?_
    rintro e w' ⟨rfl, rfl⟩
    go_wp2_with fail
    refine (nan_any x false nx _).mono ?_
    rintro e w' ⟨rfl, rfl⟩
    go_wp2_with fail
    refine (infinite_any x false ix _).mono ?_
    rintro e w' ⟨rfl, rfl⟩
    go_wp2_with fail
    refine (d _).mono ?_
    rintro e w1 ⟨rfl, hg⟩
    go_wp2_with fail
    refine (db _).mono ?_
    rintro e w2 ⟨rfl, hg2⟩
    go_wp2
    go_ret
    exact ⟨rfl, fgrownT (hg.alloc _ _) hg2⟩
  · have q1 : ∀ _ : True, wrap64 (E + a1) = s := fun _ => by unfold wrap64; omega
    have q2 : ∀ _ : True, IntKind.i64.wrap (E + a1) = s := fun _ => by rw [IntKind.wrap_i64]; omega
    clear hb h1 h2 hM hE hk hs
    go_enter Try.func7, Try.ntmps7
    go_wp2_with fail
    refine (c _).mono ?_
    rintro e w' ⟨rfl, rfl⟩
    go_wp2_with fail
    refine (nan_any x false nx _).mono ?_
    rintro e w' ⟨rfl, rfl⟩
    go_wp2_with fail
    refine (infinite_any x false ix _).mono ?_
    rintro e w' ⟨rfl, rfl⟩
    go_wp2_with fail
    refine (d _).mono ?_
    rintro e w1 ⟨rfl, hg⟩
    go_wp2_with fail
    refine (db _).mono ?_
    rintro e w2 ⟨rfl, hg2⟩
    go_wp2
    go_ret
    exact ⟨rfl, fgrownT (hg.alloc _ _) hg2⟩

set_option maxRecDepth 100000 in
theorem lifted (os : Os) (started : os.Started) (H : Type) (enc : TypeId × Value → H) :
    ReturnsInHanded {} Try.checked os 7 .any (Rows.fnLdexpSpec.pre6 enc Try.prog Try.f7 Rows.fnLdexpRow.domain false) (Rows.fnLdexpSpec.post enc Try.prog Try.f7 false true false false) := by
  refine returnsInHanded_of_change (C := Try.checked) own started (by kernel_rfl) Try.func7
    (ChangeSpec.witness6 (enc := enc) (C := Try.checked) false ⟨#[], #[.int .u64 0, .int .i64 0], []⟩ 8 (by kernel_rfl) (by kernel_rfl) (by kernel_rfl) (by kernel_rfl)) ?_
  intro W base args ds gs before hval0 hW hcnd _
  have hval : ∀ (j : Nat) t v, Try.f7.params[j]? = some t → args[j]? = some v → Value.okWide Try.prog W .any base t v := hval0
  have hW' := hW
  obtain ⟨p, q, hA0, hV, rfl, hfz, hnd⟩ := hW
  have hA : DataW.TrodAll enc Try.prog W 0 (fun _ => true) true Try.f7.params.toList args.toList ds p := hA0
  rw [Try.params7] at hA hval
  obtain ⟨v0, vs0, d0, ds0, p0, q0, hargs, rfl, rfl, h0, r0⟩ := trodAll_cons hA
  obtain ⟨v1, vs1, d1, ds1, p1, q1, rfl, rfl, rfl, h1, r1⟩ := trodAll_cons r0
  obtain ⟨rfl, rfl, rfl⟩ := trodAll_nil r1
  obtain rfl : args = #[v0, v1] := by cases args; simp_all
  obtain ⟨rfl, rfl⟩ := trodVars_none hV
  obtain ⟨a0, rfl, rfl, rfl, w0⟩ := open_int Try.underlying22 (hval 0 22 v0 rfl rfl) h0
  obtain ⟨a1, rfl, rfl, rfl, w1⟩ := open_int Try.underlying3 (hval 1 3 v1 rfl rfl) h1
  clear hA0 hval0
  simp only [List.append_nil] at hW'
  refine (walk a0 a1 w0 w1 W).mono fun e W' ⟨he, hg⟩ => ?_
  subst he
  exact ⟨_, rfl, post_of_same (pa := []) (pv := []) hW' (fun _ _ _ => (trodAll_cons_mk (shut_bool Try.underlying4 _) trodAll_mk0)) (fun sp _ => (trodAll_cons_mk (shut_int Try.underlying22 w0) (trodAll_cons_mk (shut_int Try.underlying3 w1) trodAll_mk0))) (fun _ _ => rfl) rfl
    (hg.frame _) hg.2.1 (ok_one (by kernel_rfl) rfl (okWide_bool_mk Try.underlying4 _))⟩

theorem over : Rows.fnLdexpRow.holds Try.pinned (OpenSpec.ofChange Rows.fnLdexpSpec) :=
  OpenClaim.holds_of_wide 7 Try.f7 rfl rfl rfl rfl rfl rfl rfl ⟨rfl, rfl, rfl, rfl, rfl⟩ rfl rfl rfl rfl rfl (by kernel_rfl) Try.func7 (by kernel_rfl)
    (of_decide_eq_true (by kernel_rfl)) (by unfold Func.isWrapper; first | (rw [if_pos (by decide +kernel)]; kernel_rfl) | (rw [if_neg (by decide +kernel)]; exact ⟨rfl, rfl⟩))
    (fun os started H enc _ => lifted os started H enc)

theorem proved : Rows.FnLdexpSaid := over
#print axioms proved
end Go.Proofs.Ytbpggopjiogimaa.fnLdexp
