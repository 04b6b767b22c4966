/- Proved: FnLenZeros8 returns true for every input, and its arguments read afterwards as before. No conditions. -/
import Derived.Test.YtjcjnldnlgiloaaRows
import Derived.WalkKit
import Derived.ProofKit
import Derived.OpenShut
import Derived.ShutString
import Derived.Test.YtjcjnldnlgiloaaWalk5
namespace Go.Proofs.Ytjcjnldnlgiloaa.fnLenZeros8
open Go.ChangeShapes Go.WideShapes Go.ChangeAt Go.RowKit Go.Proofs.Ytjcjnldnlgiloaa.Plain
set_option linter.unusedVariables false

theorem own : ownKnob Try.prog.godebug = none := by kernel_rfl

set_option maxHeartbeats 1000000 in
theorem walk (a0 : Int) (w0 : (Lit.int .u8 a0).wf = true) (w : World) :
    Calls Try.prog 4 #[.int .u8 a0] w fun e w' => e = .returned (.bool true) ∧ Grown w w' := by
  obtain ⟨x, rfl, hx⟩ := wf_u8 w0
  clear w0
  have hx2 : x < 2 ^ 8 := by simpa using hx
  have h1 := ones_le_len x 8 hx2
  have h2 := bitLen_le x 8 hx2
  have h3 := ctz_le x 8 hx2
  have h4 := ctz_lt_len x 8 hx2
  have c1 := fun w => len8_i x hx w
  have c2 := fun w => lz8_i x hx w
  have c3 := fun w => ones8_i x hx w
  have c4 := fun w => tz8_i x hx w
  obtain ⟨l, hl⟩ : ∃ l, l = bitLen x := ⟨_, rfl⟩
  obtain ⟨o, ho⟩ : ∃ o, o = onesB x 8 := ⟨_, rfl⟩
  obtain ⟨t, ht⟩ : ∃ t, t = Lib.ctz 8 x := ⟨_, rfl⟩
  rw [← hl] at h1 h2 h4 c1 c2
  rw [← ho] at h1 c3
  rw [← ht] at h3 h4 c4
  have C1 := Lib.hid c1
  have C2 := Lib.hid c2
  have C3 := Lib.hid c3
  have C4 := Lib.hid c4
  clear c1 c2 c3 c4 hl ho ht hx2
  have t1 : ∀ _ : True, ((l : Int) + (8 - (l : Int)) == 8) = true := fun _ => by simp; omega
  have t2 : decide (o ≤ l) = true := by simpa using h1
  by_cases h0 : x = 0
  · have t3 : ((x : Int) == 0) = true := by simp; omega
    clear h0 h4
    go_enter Try.func4, Try.ntmps4
    go_wp2_with fail
    refine (C1.out _).mono ?_
    rintro e w' ⟨rfl, rfl⟩
    go_wp2_with fail
    refine (C2.out _).mono ?_
    rintro e w' ⟨rfl, rfl⟩
    go_wp2_with fail
    refine (C1.out _).mono ?_
    rintro e w' ⟨rfl, rfl⟩
    go_wp2_with fail
    refine (C3.out _).mono ?_
    rintro e w1 ⟨rfl, rfl⟩
    go_wp2
    go_ret
    exact ⟨rfl, Grown.refl _⟩
  · have t3 : ((x : Int) == 0) = false := by simp; omega
    have h5 := h4 h0
    have t4 : decide (t < l) = true := by simpa using h5
    clear h0 h4
    go_enter Try.func4, Try.ntmps4
    go_wp2_with fail
    refine (C1.out _).mono ?_
    rintro e w' ⟨rfl, rfl⟩
    go_wp2_with fail
    refine (C2.out _).mono ?_
    rintro e w' ⟨rfl, rfl⟩
    go_wp2_with fail
    refine (C1.out _).mono ?_
    rintro e w' ⟨rfl, rfl⟩
    go_wp2_with fail
    refine (C3.out _).mono ?_
    rintro e w1 ⟨rfl, rfl⟩
    go_wp2_with fail
    refine (C4.out _).mono ?_
    rintro e w2 ⟨rfl, rfl⟩
    go_wp2_with fail
    refine (C1.out _).mono ?_
    rintro e w' ⟨rfl, rfl⟩
    go_wp2
    go_ret
    exact ⟨rfl, Grown.refl _⟩

set_option maxRecDepth 100000 in
theorem lifted (os : Os) (started : os.Started) (H : Type) (enc : TypeId × Value → H) :
    ReturnsInHanded {} Try.checked os 4 .any (Rows.fnLenZeros8Spec.pre6 enc Try.prog Try.f4 Rows.fnLenZeros8Row.domain false) (Rows.fnLenZeros8Spec.post enc Try.prog Try.f4 false true false false) := by
  refine returnsInHanded_of_change (C := Try.checked) own started (by kernel_rfl) Try.func4
    (ChangeSpec.witness6 (enc := enc) (C := Try.checked) false ⟨#[], #[.int .u8 0], []⟩ 8 (by kernel_rfl) (by kernel_rfl) (by kernel_rfl) (by kernel_rfl)) ?_
  intro W base args ds gs before hval0 hW hcnd _
  have hval : ∀ (j : Nat) t v, Try.f4.params[j]? = some t → args[j]? = some v → Value.okWide Try.prog W .any base t v := hval0
  have hW' := hW
  obtain ⟨p, q, hA0, hV, rfl, hfz, hnd⟩ := hW
  have hA : DataW.TrodAll enc Try.prog W 0 (fun _ => true) true Try.f4.params.toList args.toList ds p := hA0
  rw [Try.params4] at hA hval
  obtain ⟨v0, vs0, d0, ds0, p0, q0, hargs, rfl, rfl, h0, r0⟩ := trodAll_cons hA
  obtain ⟨rfl, rfl, rfl⟩ := trodAll_nil r0
  obtain rfl : args = #[v0] := by cases args; simp_all
  obtain ⟨rfl, rfl⟩ := trodVars_none hV
  obtain ⟨a0, rfl, rfl, rfl, w0⟩ := open_int Try.underlying5 (hval 0 5 v0 rfl rfl) h0
  clear hA0 hval0
  simp only [List.append_nil] at hW'
  refine (walk a0 w0 W).mono fun e W' ⟨he, hg⟩ => ?_
  subst he
  exact ⟨_, rfl, post_of_same (pa := []) (pv := []) hW' (fun _ _ _ => (trodAll_cons_mk (shut_bool Try.underlying4 _) trodAll_mk0)) (fun sp _ => (trodAll_cons_mk (shut_int Try.underlying5 w0) trodAll_mk0)) (fun _ _ => rfl) rfl
    (hg.frame _) hg.2.1 (ok_one (by kernel_rfl) rfl (okWide_bool_mk Try.underlying4 _))⟩

theorem over : Rows.fnLenZeros8Row.holds Try.pinned (OpenSpec.ofChange Rows.fnLenZeros8Spec) :=
  OpenClaim.holds_of_wide 4 Try.f4 rfl rfl rfl rfl rfl rfl rfl ⟨rfl, rfl, rfl, rfl, rfl⟩ rfl rfl rfl rfl rfl (by kernel_rfl) Try.func4 (by kernel_rfl)
    (of_decide_eq_true (by kernel_rfl)) (by unfold Func.isWrapper; first | (rw [if_pos (by decide +kernel)]; kernel_rfl) | (rw [if_neg (by decide +kernel)]; exact ⟨rfl, rfl⟩))
    (fun os started H enc _ => lifted os started H enc)

theorem proved : Rows.FnLenZeros8Said := over
#print axioms proved
end Go.Proofs.Ytjcjnldnlgiloaa.fnLenZeros8
