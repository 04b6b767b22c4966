/- Proved: FnPanics returns true for every input, and its arguments read afterwards as before. No conditions. -/
import Derived.Test.YtpoadogiganibaaRows
import Derived.WalkKit
import Derived.ProofKit
import Derived.OpenShut
import Derived.ShutString
import Derived.Test.YtpoadogiganibaaWalk7
namespace Go.Proofs.Ytpoadogiganibaa.fnPanics
open Go.ChangeShapes Go.WideShapes Go.ChangeAt Go.RowKit Go.Proofs.Ytpoadogiganibaa.Plain
set_option linter.unusedVariables false

theorem own : ownKnob Try.prog.godebug = none := by kernel_rfl

set_option maxHeartbeats 1000000 in
theorem walk (a0 : Int) (a1 : Int) (a2 : Int) (a3 : Int) (w0 : (Lit.int .u8 a0).wf = true) (w1 : (Lit.int .u64 a1).wf = true) (w2 : (Lit.int .u64 a2).wf = true) (w3 : (Lit.int .u64 a3).wf = true) (w : World) :
    Calls Try.prog 13 #[.int .u8 a0, .int .u64 a1, .int .u64 a2, .int .u64 a3] w fun e w' => e = .returned (.bool true) ∧ Grown w w' := by
  obtain ⟨k, rfl, hk⟩ := wf_u8 w0
  obtain ⟨hi, rfl, hh⟩ := wf_u64 w1
  obtain ⟨lo, rfl, hl⟩ := wf_u64 w2
  obtain ⟨y, rfl, hy⟩ := wf_u64 w3
  clear w0 w1 w2 w3
  obtain ⟨hi2, ehi⟩ : ∃ v : Nat, (hi : Int) % 4294967296 = (v : Int) := ⟨hi % 4294967296, by omega⟩
  obtain ⟨lo2, elo⟩ : ∃ v : Nat, (lo : Int) % 4294967296 = (v : Int) := ⟨lo % 4294967296, by omega⟩
  obtain ⟨y2, ey⟩ : ∃ v : Nat, (y : Int) % 4294967296 = (v : Int) := ⟨y % 4294967296, by omega⟩
  have lhi : hi2 < 4294967296 := by omega
  have ly : y2 < 4294967296 := by omega
  have rhi : ∀ _ : True, _ = _ := fun _ => ehi
  have rlo : ∀ _ : True, _ = _ := fun _ => elo
  have ry : ∀ _ : True, _ = _ := fun _ => ey
  have EHI := Lib.hid ehi
  have ELO := Lib.hid elo
  have EY := Lib.hid ey
  clear ehi elo ey
  rcases (by omega : k % 4 = 0 ∨ k % 4 = 1 ∨ k % 4 = 2 ∨ k % 4 = 3) with hk4 | hk4 | hk4 | hk4
  · have rk : ∀ _ : True, (k : Int) % 4 = 0 := fun _ => by omega
    have rk2 : ∀ _ : True, ((k : Int) % 2 == 1) = false := fun _ => by simp; omega
    clear hk4
    rcases (by omega : y = 0 ∨ (0 < y ∧ y ≤ hi) ∨ hi < y) with c | c | c
    · subst c
      have n3 : ∀ _ : True, decide ((0 : Int) ≤ (hi : Int)) = true := fun _ => by simp
      go_enter Try.func13, Try.ntmps13
      go_wp2_with fail
      refine (p0_zero hi lo _).mono ?_
      rintro e w1 ⟨rfl, hg⟩
      go_wp2
      go_ret
      exact ⟨rfl, hg⟩
    · have n1 : ((y : Int) == 0) = false := by simp; omega
      have n3 : decide (y ≤ hi) = true := by simp; omega
      go_enter Try.func13, Try.ntmps13
      go_wp2_with fail
      refine (p0_over hi lo y c.1 c.2 _).mono ?_
      rintro e w1 ⟨rfl, hg⟩
      go_wp2
      go_ret
      exact ⟨rfl, hg⟩
    · have n1 : ((y : Int) == 0) = false := by simp; omega
      have n3 : decide (y ≤ hi) = false := by simp; omega
      go_enter Try.func13, Try.ntmps13
      go_wp2_with fail
      refine (p0_no hi lo y c hl hy _).mono ?_
      rintro e w1 ⟨rfl, hg⟩
      go_wp2
      go_ret
      exact ⟨rfl, hg⟩
  · have rk : ∀ _ : True, (k : Int) % 4 = 1 := fun _ => by omega
    have rk2 : ∀ _ : True, ((k : Int) % 2 == 1) = true := fun _ => by simp; omega
    clear hk4
    rcases (by omega : y2 = 0 ∨ (0 < y2 ∧ y2 ≤ hi2) ∨ hi2 < y2) with c | c | c
    · subst c
      have n3 : ∀ _ : True, decide ((0 : Int) ≤ (hi2 : Int)) = true := fun _ => by simp
      go_enter Try.func13, Try.ntmps13
      go_wp2_with fail
      refine (p1_zero hi lo y hi2 lo2 EHI.out ELO.out EY.out _).mono ?_
      rintro e w1 ⟨rfl, hg⟩
      go_wp2
      go_ret
      exact ⟨rfl, hg⟩
    · have n1 : ((y2 : Int) == 0) = false := by simp; omega
      have n3 : decide (y2 ≤ hi2) = true := by simp; omega
      go_enter Try.func13, Try.ntmps13
      go_wp2_with fail
      refine (p1_over hi lo y hi2 lo2 y2 EHI.out ELO.out EY.out c.1 c.2 _).mono ?_
      rintro e w1 ⟨rfl, hg⟩
      go_wp2
      go_ret
      exact ⟨rfl, hg⟩
    · have n1 : ((y2 : Int) == 0) = false := by simp; omega
      have n3 : decide (y2 ≤ hi2) = false := by simp; omega
      go_enter Try.func13, Try.ntmps13
      go_wp2_with fail
      refine (p1_no hi lo y hi2 lo2 y2 EHI.out ELO.out EY.out c _).mono ?_
      rintro e w1 ⟨rfl, hg⟩
      go_wp2
      go_ret
      exact ⟨rfl, hg⟩
  · have rk : ∀ _ : True, (k : Int) % 4 = 2 := fun _ => by omega
    have rk2 : ∀ _ : True, ((k : Int) % 2 == 1) = false := fun _ => by simp; omega
    clear hk4
    rcases (by omega : y = 0 ∨ 0 < y) with c | c
    · subst c
      go_enter Try.func13, Try.ntmps13
      go_wp2_with fail
      refine (p2_zero hi lo hh _).mono ?_
      rintro e w1 ⟨rfl, hg⟩
      go_wp2
      go_ret
      exact ⟨rfl, hg⟩
    · have n1 : ((y : Int) == 0) = false := by simp; omega
      go_enter Try.func13, Try.ntmps13
      go_wp2_with fail
      refine (p2_no hi lo y hh hl c hy _).mono ?_
      rintro e w1 ⟨rfl, hg⟩
      go_wp2
      go_ret
      exact ⟨rfl, hg⟩
  · have rk : ∀ _ : True, (k : Int) % 4 = 3 := fun _ => by omega
    have rk2 : ∀ _ : True, ((k : Int) % 2 == 1) = true := fun _ => by simp; omega
    clear hk4
    rcases (by omega : y2 = 0 ∨ 0 < y2) with c | c
    · subst c
      go_enter Try.func13, Try.ntmps13
      go_wp2_with fail
      refine (p3_zero hi lo y hi2 lo2 EHI.out ELO.out EY.out _).mono ?_
      rintro e w1 ⟨rfl, hg⟩
      go_wp2
      go_ret
      exact ⟨rfl, hg⟩
    · have n1 : ((y2 : Int) == 0) = false := by simp; omega
      go_enter Try.func13, Try.ntmps13
      go_wp2_with fail
      refine (p3_no hi lo y hi2 lo2 y2 EHI.out ELO.out EY.out c _).mono ?_
      rintro e w1 ⟨rfl, hg⟩
      go_wp2
      go_ret
      exact ⟨rfl, hg⟩

set_option maxRecDepth 100000 in
theorem lifted (os : Os) (started : os.Started) (H : Type) (enc : TypeId × Value → H) :
    ReturnsInHanded {} Try.checked os 13 .any (Rows.fnPanicsSpec.pre6 enc Try.prog Try.f13 Rows.fnPanicsRow.domain false) (Rows.fnPanicsSpec.post enc Try.prog Try.f13 false true false false) := by
  refine returnsInHanded_of_change (C := Try.checked) own started (by kernel_rfl) Try.func13
    (ChangeSpec.witness6 (enc := enc) (C := Try.checked) false ⟨#[], #[.int .u8 0, .int .u64 0, .int .u64 0, .int .u64 0], []⟩ 8 (by kernel_rfl) (by kernel_rfl) (by kernel_rfl) (by kernel_rfl)) ?_
  intro W base args ds gs before hval0 hW hcnd _
  have hval : ∀ (j : Nat) t v, Try.f13.params[j]? = some t → args[j]? = some v → Value.okWide Try.prog W .any base t v := hval0
  have hW' := hW
  obtain ⟨p, q, hA0, hV, rfl, hfz, hnd⟩ := hW
  have hA : DataW.TrodAll enc Try.prog W 0 (fun _ => true) true Try.f13.params.toList args.toList ds p := hA0
  rw [Try.params13] at hA hval
  obtain ⟨v0, vs0, d0, ds0, p0, q0, hargs, rfl, rfl, h0, r0⟩ := trodAll_cons hA
  obtain ⟨v1, vs1, d1, ds1, p1, q1, rfl, rfl, rfl, h1, r1⟩ := trodAll_cons r0
  obtain ⟨v2, vs2, d2, ds2, p2, q2, rfl, rfl, rfl, h2, r2⟩ := trodAll_cons r1
  obtain ⟨v3, vs3, d3, ds3, p3, q3, rfl, rfl, rfl, h3, r3⟩ := trodAll_cons r2
  obtain ⟨rfl, rfl, rfl⟩ := trodAll_nil r3
  obtain rfl : args = #[v0, v1, v2, v3] := by cases args; simp_all
  obtain ⟨rfl, rfl⟩ := trodVars_none hV
  obtain ⟨a0, rfl, rfl, rfl, w0⟩ := open_int Try.underlying5 (hval 0 5 v0 rfl rfl) h0
  obtain ⟨a1, rfl, rfl, rfl, w1⟩ := open_int Try.underlying26 (hval 1 26 v1 rfl rfl) h1
  obtain ⟨a2, rfl, rfl, rfl, w2⟩ := open_int Try.underlying26 (hval 2 26 v2 rfl rfl) h2
  obtain ⟨a3, rfl, rfl, rfl, w3⟩ := open_int Try.underlying26 (hval 3 26 v3 rfl rfl) h3
  clear hA0 hval0
  simp only [List.append_nil] at hW'
  refine (walk a0 a1 a2 a3 w0 w1 w2 w3 W).mono fun e W' ⟨he, hg⟩ => ?_
  subst he
  exact ⟨_, rfl, post_of_same (pa := []) (pv := []) hW' (fun _ _ _ => (trodAll_cons_mk (shut_bool Try.underlying4 _) trodAll_mk0)) (fun sp _ => (trodAll_cons_mk (shut_int Try.underlying5 w0) (trodAll_cons_mk (shut_int Try.underlying26 w1) (trodAll_cons_mk (shut_int Try.underlying26 w2) (trodAll_cons_mk (shut_int Try.underlying26 w3) trodAll_mk0))))) (fun _ _ => rfl) rfl
    (hg.frame _) hg.2.1 (ok_one (by kernel_rfl) rfl (okWide_bool_mk Try.underlying4 _))⟩

theorem over : Rows.fnPanicsRow.holds Try.pinned (OpenSpec.ofChange Rows.fnPanicsSpec) :=
  OpenClaim.holds_of_wide 13 Try.f13 rfl rfl rfl rfl rfl rfl rfl ⟨rfl, rfl, rfl, rfl, rfl⟩ rfl rfl rfl rfl rfl (by kernel_rfl) Try.func13 (by kernel_rfl)
    (of_decide_eq_true (by kernel_rfl)) (by unfold Func.isWrapper; first | (rw [if_pos (by decide +kernel)]; kernel_rfl) | (rw [if_neg (by decide +kernel)]; exact ⟨rfl, rfl⟩))
    (fun os started H enc _ => lifted os started H enc)

theorem proved : Rows.FnPanicsSaid := over
#print axioms proved
end Go.Proofs.Ytpoadogiganibaa.fnPanics
