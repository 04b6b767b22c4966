/- Proved: FnFrexp returns true for every input, and its arguments read afterwards as before. No conditions. -/
import Derived.Test.YtbpggopjiogimaaRows
import Derived.WalkKit
import Derived.ProofKit
import Derived.OpenShut
import Derived.ShutString
import Derived.Test.YtbpggopjiogimaaWalkF15
namespace Go.Proofs.Ytbpggopjiogimaa.fnFrexp
open Go.ChangeShapes Go.WideShapes Go.ChangeAt Go.RowKit Go.Proofs.Ytbpggopjiogimaa.Plain
set_option linter.unusedVariables false

theorem own : ownKnob Try.prog.godebug = none := by kernel_rfl

set_option maxHeartbeats 1000000 in
theorem walk (a0 : Int) (w0 : (Lit.int .u64 a0).wf = true) (w : World) :
    Calls Try.prog 6 #[.int .u64 a0] w fun e w' => e = .returned (.bool true) ∧ Grown w w' := by
  obtain ⟨x, rfl, hx⟩ := wf_u64 w0
  clear w0
  have r0 : ∀ _ : True, _ = _ := fun _ => abs_num x hx
  have hfe := fin_ef x
  cases nx : isNan x
  case true =>
    have c := fun w => i_fr x hx w
    have h1 : frW x = x := by unfold frW; rw [if_pos (Or.inr (by have h3 := fin_ef x; have h4 := ef_lt x; unfold isNan at nx; simp at nx; omega))]
    have h2 : frE x = 0 := by unfold frE; rw [if_pos (Or.inr (by have h3 := fin_ef x; have h4 := ef_lt x; unfold isNan at nx; simp at nx; omega))]
    rw [h1, h2] at c
    clear h1 h2 hfe
    go_enter Try.func6, Try.ntmps6
    go_wp2_with fail
    refine (c _).mono ?_
    rintro e w' ⟨rfl, rfl⟩
    go_wp2_with fail
    refine (nan_any x true nx _).mono ?_
    rintro e w' ⟨rfl, rfl⟩
    go_wp2_with fail
    refine (nan_any x true nx _).mono ?_
    rintro e w' ⟨rfl, rfl⟩
    go_wp2
    go_ret
    exact ⟨rfl, Grown.refl _⟩
  cases ix : isInf x
  case true =>
    have c := fun w => i_fr x hx w
    have h1 : frW x = x := by unfold frW; rw [if_pos (Or.inr (by have h3 := fin_ef x; have h4 := ef_lt x; unfold isInf at ix; simp at ix; omega))]
    have h2 : frE x = 0 := by unfold frE; rw [if_pos (Or.inr (by have h3 := fin_ef x; have h4 := ef_lt x; unfold isInf at ix; simp at ix; omega))]
    rw [h1, h2] at c
    clear h1 h2 hfe
    go_enter Try.func6, Try.ntmps6
    go_wp2_with fail
    refine (c _).mono ?_
    rintro e w' ⟨rfl, rfl⟩
    go_wp2_with fail
    refine (nan_any x false nx _).mono ?_
    rintro e w' ⟨rfl, rfl⟩
    go_wp2_with fail
    refine (infinite_any x true ix _).mono ?_
    rintro e w' ⟨rfl, rfl⟩
    go_wp2
    go_ret
    exact ⟨rfl, Grown.refl _⟩
  by_cases hz : rung x = 0
  · skip
    have t0 : ∀ _ : True, ((rung x : Int) == 0) = true := fun _ => by rw [hz]; rfl
    have c := fun w => i_fr x hx w
    have h1 : frW x = x := by unfold frW; rw [if_pos (Or.inl hz)]
    have h2 : frE x = 0 := by unfold frE; rw [if_pos (Or.inl hz)]
    rw [h1, h2] at c
    clear h1 h2 hfe
    generalize rung x = r at *
    clear hz
    go_enter Try.func6, Try.ntmps6
    go_wp2_with fail
    refine (c _).mono ?_
    rintro e w' ⟨rfl, rfl⟩
    go_wp2_with fail
    refine (nan_any x false nx _).mono ?_
    rintro e w' ⟨rfl, rfl⟩
    go_wp2_with fail
    refine (infinite_any x false ix _).mono ?_
    rintro e w' ⟨rfl, rfl⟩
    go_wp2
    go_ret
    exact ⟨rfl, Grown.refl _⟩
  have hf : rung x < 9218868437227405312 := by
    unfold isNan at nx; unfold isInf at ix; simp at nx ix; omega
  have t0 : ∀ _ : True, ((rung x : Int) == 0) = false := fun _ => by simp; omega
  have hM := mantW_lt x
  have h1 : mantW x ≠ 0 := fun g => hz ((mantW_zero x).1 g)
  have hl := lgW_le x h1
  have c := fun w => i_fr x hx w
  have e1 : frW x = near (negB x) (mantW x) (-(lgW x + 1 : Int)) := by unfold frW; rw [if_neg (by omega), fr_near x hx hf h1]
  have e2 : frE x = expW x + (lgW x + 1 : Nat) := by unfold frE; rw [if_neg (by omega)]; unfold nExp; omega
  rw [e1, e2] at c
  have hE := expW_lo x
  have d := fun w => of_any x hx w
  have dl := fun w => specLen (mantW x) 64 (by omega) (by omega) w
  have hL : lenB (mantW x) 64 = lgW x + 1 := by
    rw [lenB_eq _ _ (by omega)]; unfold bitLen lgW; rw [if_neg h1]
  rw [hL, show ((64 : Nat) : Int) = 64 from rfl] at dl
  have db := fun w => bits_near (negB x) (mantW x) (-(lgW x + 1 : Int)) (by omega) (by omega) (by omega) w
  generalize near (negB x) (mantW x) (-(lgW x + 1 : Int)) = v at *
  clear e1 e2 hL h1 hfe hf
  generalize rung x = r at *
  generalize expW x = E at *
  generalize mantW x = M at *
  generalize negB x = n at *
  generalize lgW x = l at *
  obtain ⟨m, hm⟩ : ∃ m : Int, m = -(l + 1 : Int) := ⟨_, rfl⟩
  rw [← hm] at db
  obtain ⟨L, hL⟩ : ∃ L : Nat, L = l + 1 := ⟨_, rfl⟩
  rw [← hL] at dl c
  obtain ⟨z, hzz⟩ : ∃ z : Int, z = E + L := ⟨_, rfl⟩
  rw [← hzz] at c
  have q1 : ∀ _ : True, IntKind.i64.wrap (E + (L : Int)) = z := fun _ => by rw [IntKind.wrap_i64]; omega
  have q1b : ∀ _ : True, wrap64 (E + (L : Int)) = z := fun _ => by unfold wrap64; omega
  have q2 : ∀ _ : True, IntKind.i64.wrap (-(L : Int)) = m := fun _ => by rw [IntKind.wrap_i64]; omega
  have q2b : ∀ _ : True, wrap64 (-(L : Int)) = m := fun _ => by unfold wrap64; omega
  clear hM hl hz hm hL hzz hE
  go_enter Try.func6, Try.ntmps6
  go_wp2_with fail
  refine (c _).mono ?_
  rintro e w' ⟨rfl, rfl⟩
  go_wp2_with fail
  refine (nan_any x false nx _).mono ?_
  rintro e w' ⟨rfl, rfl⟩
  go_wp2_with fail
  refine (infinite_any x false ix _).mono ?_
  rintro e w' ⟨rfl, rfl⟩
  go_wp2_with fail
  refine (d _).mono ?_
  rintro e w1 ⟨rfl, hg⟩
  go_wp2_with fail
  refine (dl _).mono ?_
  rintro e w' ⟨rfl, rfl⟩
  go_wp2_with fail
  refine (db _).mono ?_
  rintro e w2 ⟨rfl, hg2⟩
  go_wp2
  go_ret
  exact ⟨rfl, fgrownT (hg.alloc _ _) hg2⟩

set_option maxRecDepth 100000 in
theorem lifted (os : Os) (started : os.Started) (H : Type) (enc : TypeId × Value → H) :
    ReturnsInHanded {} Try.checked os 6 .any (Rows.fnFrexpSpec.pre6 enc Try.prog Try.f6 Rows.fnFrexpRow.domain false) (Rows.fnFrexpSpec.post enc Try.prog Try.f6 false true false false) := by
  refine returnsInHanded_of_change (C := Try.checked) own started (by kernel_rfl) Try.func6
    (ChangeSpec.witness6 (enc := enc) (C := Try.checked) false ⟨#[], #[.int .u64 0], []⟩ 8 (by kernel_rfl) (by kernel_rfl) (by kernel_rfl) (by kernel_rfl)) ?_
  intro W base args ds gs before hval0 hW hcnd _
  have hval : ∀ (j : Nat) t v, Try.f6.params[j]? = some t → args[j]? = some v → Value.okWide Try.prog W .any base t v := hval0
  have hW' := hW
  obtain ⟨p, q, hA0, hV, rfl, hfz, hnd⟩ := hW
  have hA : DataW.TrodAll enc Try.prog W 0 (fun _ => true) true Try.f6.params.toList args.toList ds p := hA0
  rw [Try.params6] at hA hval
  obtain ⟨v0, vs0, d0, ds0, p0, q0, hargs, rfl, rfl, h0, r0⟩ := trodAll_cons hA
  obtain ⟨rfl, rfl, rfl⟩ := trodAll_nil r0
  obtain rfl : args = #[v0] := by cases args; simp_all
  obtain ⟨rfl, rfl⟩ := trodVars_none hV
  obtain ⟨a0, rfl, rfl, rfl, w0⟩ := open_int Try.underlying22 (hval 0 22 v0 rfl rfl) h0
  clear hA0 hval0
  simp only [List.append_nil] at hW'
  refine (walk a0 w0 W).mono fun e W' ⟨he, hg⟩ => ?_
  subst he
  exact ⟨_, rfl, post_of_same (pa := []) (pv := []) hW' (fun _ _ _ => (trodAll_cons_mk (shut_bool Try.underlying4 _) trodAll_mk0)) (fun sp _ => (trodAll_cons_mk (shut_int Try.underlying22 w0) trodAll_mk0)) (fun _ _ => rfl) rfl
    (hg.frame _) hg.2.1 (ok_one (by kernel_rfl) rfl (okWide_bool_mk Try.underlying4 _))⟩

theorem over : Rows.fnFrexpRow.holds Try.pinned (OpenSpec.ofChange Rows.fnFrexpSpec) :=
  OpenClaim.holds_of_wide 6 Try.f6 rfl rfl rfl rfl rfl rfl rfl ⟨rfl, rfl, rfl, rfl, rfl⟩ rfl rfl rfl rfl rfl (by kernel_rfl) Try.func6 (by kernel_rfl)
    (of_decide_eq_true (by kernel_rfl)) (by unfold Func.isWrapper; first | (rw [if_pos (by decide +kernel)]; kernel_rfl) | (rw [if_neg (by decide +kernel)]; exact ⟨rfl, rfl⟩))
    (fun os started H enc _ => lifted os started H enc)

theorem proved : Rows.FnFrexpSaid := over
#print axioms proved
end Go.Proofs.Ytbpggopjiogimaa.fnFrexp
