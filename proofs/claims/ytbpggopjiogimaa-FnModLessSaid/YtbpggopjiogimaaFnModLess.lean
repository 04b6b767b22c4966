/- Proved: FnModLess returns true for every input, and its arguments read afterwards as before. No conditions. -/
import Derived.Test.YtbpggopjiogimaaRows
import Derived.WalkKit
import Derived.ProofKit
import Derived.OpenShut
import Derived.ShutString
import Derived.Test.YtbpggopjiogimaaWalkF18
import Derived.Test.YtbpggopjiogimaaFModLess
namespace Go.Proofs.Ytbpggopjiogimaa.fnModLess
open Go.ChangeShapes Go.WideShapes Go.ChangeAt Go.RowKit Go.Proofs.Ytbpggopjiogimaa.Plain
set_option linter.unusedVariables false

theorem own : ownKnob Try.prog.godebug = none := by kernel_rfl

set_option maxHeartbeats 1000000 in
theorem walk (a0 : Int) (a1 : Int) (w0 : (Lit.int .u64 a0).wf = true) (w1 : (Lit.int .u64 a1).wf = true) (w : World) :
    Calls Try.prog 3 #[.int .u64 a0, .int .u64 a1] w fun e w' => e = .returned (.bool true) ∧ Grown w w' := by
  obtain ⟨x, rfl, hx⟩ := wf_u64 w0
  clear w0
  obtain ⟨y, rfl, hy⟩ := wf_u64 w1
  clear w1
  have rx : ∀ _ : True, _ = _ := fun _ => exp_and x
  by_cases hex : ef x = 2047
  · have tx : ∀ _ : True, (((ef x * 4503599627370496 : Nat) : Int) == 9218868437227405312) = true := fun _ => by rw [hex]; rfl
    generalize ef x * 4503599627370496 = zx at rx tx
    clear hex
    go_enter Try.func3, Try.ntmps3
    go_wp2
    go_ret
    exact ⟨rfl, Grown.refl _⟩
  have tx : ∀ _ : True, (((ef x * 4503599627370496 : Nat) : Int) == 9218868437227405312) = false := fun _ => by
    have := ef_lt x
    rw [show (9218868437227405312 : Int) = ((9218868437227405312 : Nat) : Int) from rfl]; simp; omega
  generalize ef x * 4503599627370496 = zx at rx tx
  have ry : ∀ _ : True, _ = _ := fun _ => exp_and y
  by_cases hey : ef y = 2047
  · have ty : ∀ _ : True, (((ef y * 4503599627370496 : Nat) : Int) == 9218868437227405312) = true := fun _ => by rw [hey]; rfl
    generalize ef y * 4503599627370496 = zy at ry ty
    clear hey
    go_enter Try.func3, Try.ntmps3
    go_wp2
    go_ret
    exact ⟨rfl, Grown.refl _⟩
  have ty : ∀ _ : True, (((ef y * 4503599627370496 : Nat) : Int) == 9218868437227405312) = false := fun _ => by
    have := ef_lt y
    rw [show (9218868437227405312 : Int) = ((9218868437227405312 : Nat) : Int) from rfl]; simp; omega
  generalize ef y * 4503599627370496 = zy at ry ty
  have hfx : rung x < 9218868437227405312 := (fin_ef x).2 (by have := ef_lt x; omega)
  have hfy : rung y < 9218868437227405312 := (fin_ef y).2 (by have := ef_lt y; omega)
  have ry2 : ∀ _ : True, _ = _ := fun _ => abs_num y hy
  by_cases h0 : rung y = 0
  · have t0 : ∀ _ : True, ((rung y : Int) == 0) = true := fun _ => by rw [h0]; rfl
    generalize rung y = Y at *
    clear h0 hfx hfy hx hy
    go_enter Try.func3, Try.ntmps3
    go_wp2
    go_ret
    exact ⟨rfl, Grown.refl _⟩
  have t0 : ∀ _ : True, ((rung y : Int) == 0) = false := fun _ => by simp; omega
  obtain ⟨R, h1, h2, h3⟩ := mod_word x y hfx hfy h0
  have c := fun w => i_mod_any x y hx hy h0 hfx hfy w
  have c2 := fun w => i_mod_any 4613937818241073152 4611686018427387904 (by omega) (by omega) (by decide) (by decide) (by decide) w
  rw [mod_three_two] at c2
  have hml : modW x y < 18446744073709551616 := by rw [h3]; exact wordD_lt _ _ (by omega)
  have s1 : ∀ _ : True, _ = _ := fun _ => abs_num (modW x y) hml
  have hr : rung (modW x y) = R := by rw [h3]; exact rung_word _ _ (by omega)
  have hn : negB (modW x y) = negB x := by rw [h3]; exact neg_word _ _ (by omega)
  rw [hr] at s1
  have s2 : ∀ _ : True, _ = _ := fun _ => top_bit (modW x y) hml
  rw [hn] at s2
  have s3 : ∀ _ : True, _ = _ := fun _ => top_bit x hx
  have s4 : ∀ _ : True, decide (R < rung y) = true := fun _ => by simpa using h1
  have s5 : ∀ _ : True, decide ((R : Int) < (rung y : Int)) = true := fun _ => by simpa using h1
  generalize topBit (negB x) = tb at *
  generalize modW x y = m at *
  generalize rung y = Y at *
  clear h1 h2 h3 hml hr hn h0 hfx hfy hx hy
  go_enter Try.func3, Try.ntmps3
  go_wp2_with fail
  refine (c _).mono ?_
  rintro e w' ⟨rfl, rfl⟩
  go_wp2_with fail
  refine (c2 _).mono ?_
  rintro e w' ⟨rfl, rfl⟩
  go_wp2
  go_ret
  exact ⟨rfl, Grown.refl _⟩

set_option maxRecDepth 100000 in
theorem lifted (os : Os) (started : os.Started) (H : Type) (enc : TypeId × Value → H) :
    ReturnsInHanded {} Try.checked os 3 .any (Rows.fnModLessSpec.pre6 enc Try.prog Try.f3 Rows.fnModLessRow.domain false) (Rows.fnModLessSpec.post enc Try.prog Try.f3 false true false false) := by
  refine returnsInHanded_of_change (C := Try.checked) own started (by kernel_rfl) Try.func3
    (ChangeSpec.witness6 (enc := enc) (C := Try.checked) false ⟨#[], #[.int .u64 0, .int .u64 0], []⟩ 8 (by kernel_rfl) (by kernel_rfl) (by kernel_rfl) (by kernel_rfl)) ?_
  intro W base args ds gs before hval0 hW hcnd _
  have hval : ∀ (j : Nat) t v, Try.f3.params[j]? = some t → args[j]? = some v → Value.okWide Try.prog W .any base t v := hval0
  have hW' := hW
  obtain ⟨p, q, hA0, hV, rfl, hfz, hnd⟩ := hW
  have hA : DataW.TrodAll enc Try.prog W 0 (fun _ => true) true Try.f3.params.toList args.toList ds p := hA0
  rw [Try.params3] at hA hval
  obtain ⟨v0, vs0, d0, ds0, p0, q0, hargs, rfl, rfl, h0, r0⟩ := trodAll_cons hA
  obtain ⟨v1, vs1, d1, ds1, p1, q1, rfl, rfl, rfl, h1, r1⟩ := trodAll_cons r0
  obtain ⟨rfl, rfl, rfl⟩ := trodAll_nil r1
  obtain rfl : args = #[v0, v1] := by cases args; simp_all
  obtain ⟨rfl, rfl⟩ := trodVars_none hV
  obtain ⟨a0, rfl, rfl, rfl, w0⟩ := open_int Try.underlying22 (hval 0 22 v0 rfl rfl) h0
  obtain ⟨a1, rfl, rfl, rfl, w1⟩ := open_int Try.underlying22 (hval 1 22 v1 rfl rfl) h1
  clear hA0 hval0
  simp only [List.append_nil] at hW'
  refine (walk a0 a1 w0 w1 W).mono fun e W' ⟨he, hg⟩ => ?_
  subst he
  exact ⟨_, rfl, post_of_same (pa := []) (pv := []) hW' (fun _ _ _ => (trodAll_cons_mk (shut_bool Try.underlying4 _) trodAll_mk0)) (fun sp _ => (trodAll_cons_mk (shut_int Try.underlying22 w0) (trodAll_cons_mk (shut_int Try.underlying22 w1) trodAll_mk0))) (fun _ _ => rfl) rfl
    (hg.frame _) hg.2.1 (ok_one (by kernel_rfl) rfl (okWide_bool_mk Try.underlying4 _))⟩

theorem over : Rows.fnModLessRow.holds Try.pinned (OpenSpec.ofChange Rows.fnModLessSpec) :=
  OpenClaim.holds_of_wide 3 Try.f3 rfl rfl rfl rfl rfl rfl rfl ⟨rfl, rfl, rfl, rfl, rfl⟩ rfl rfl rfl rfl rfl (by kernel_rfl) Try.func3 (by kernel_rfl)
    (of_decide_eq_true (by kernel_rfl)) (by unfold Func.isWrapper; first | (rw [if_pos (by decide +kernel)]; kernel_rfl) | (rw [if_neg (by decide +kernel)]; exact ⟨rfl, rfl⟩))
    (fun os started H enc _ => lifted os started H enc)

theorem proved : Rows.FnModLessSaid := over
#print axioms proved
end Go.Proofs.Ytbpggopjiogimaa.fnModLess
