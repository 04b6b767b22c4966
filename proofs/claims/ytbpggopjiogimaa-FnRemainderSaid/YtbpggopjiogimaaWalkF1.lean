/- The contracts of the conversions between a float64 and its bits, of the reference's Nan, Infinite, sign, Of, Place and of the package's Abs, Copysign, Signbit, IsNaN, IsInf, Inf, NaN: each in terms of the bits. -/
import Derived.Test.YtbpggopjiogimaaRows
import Derived.WalkKit
import Derived.WalkLawsBesides
import Derived.WalkSpells
import Derived.LoopTactic
import Derived.Outline
import Derived.Lib.Hide
import Derived.Deep.QuietTactic
import Derived.BigQuiet
import Derived.Laws.Externs
import Derived.Laws.FloatArith
import Derived.Test.YtbpggopjiogimaaFBits
set_option linter.unusedVariables false
namespace Go.Proofs.Ytbpggopjiogimaa
open Go.RowKit Go.Proofs.Ytbpggopjiogimaa.Plain

theorem fgrownT {a b c : World} (h1 : Grown a b) (h2 : Grown b c) : Grown a c :=
  ⟨World.keptBut_trans h1.1 h2.1, fun x => (h2.2.1 x).trans (h1.2.1 x), Nat.le_trans h1.2.2 h2.2.2⟩
theorem fgrownD {w w' : World} (h : ∃ m, w' = w.drewN m) : Grown w w' := by obtain ⟨m, rfl⟩ := h; exact Grown.refl w
theorem run_bits (b : Nat) (w : World) : (callFunc 51 #[.float .f64 b]).run Try.prog w = .ok (.value (.int .u64 (b : Int))) w := by
  rw [run_callFunc_extern (e := Extern.MathFloatBits.float64bits) Try.func51 (by kernel_rfl) (by kernel_rfl) (by kernel_rfl) (by kernel_rfl)]
  rfl
theorem run_frombits (n : Nat) (w : World) : (callFunc 54 #[.int .u64 (n : Int)]).run Try.prog w = .ok (.value (.float .f64 n)) w := by
  rw [run_callFunc_extern (e := Extern.MathFloatBits.float64frombits) Try.func54 (by kernel_rfl) (by kernel_rfl) (by kernel_rfl) (by kernel_rfl)]
  rfl

set_option maxHeartbeats 400000 in
theorem bits_any (b : Nat) (w : World) :
    Calls Try.prog 40 #[.float .f64 b] w fun e w' => e = .returned (.int .u64 (b : Int)) ∧ w = w' := by
  have h := run_bits
  go_enter Try.func40, Try.ntmps40
  go_wp2
  go_ret
  exact ⟨rfl, rfl⟩

set_option maxHeartbeats 400000 in
theorem frombits_any (b : Nat) (w : World) :
    Calls Try.prog 42 #[.int .u64 (b : Int)] w fun e w' => e = .returned (.float .f64 b) ∧ w = w' := by
  have h := run_frombits
  go_enter Try.func42, Try.ntmps42
  go_wp2
  go_ret
  exact ⟨rfl, rfl⟩

set_option maxHeartbeats 400000 in
theorem float_any (b : Nat) (w : World) :
    Calls Try.prog 29 #[.int .u64 (b : Int)] w fun e w' => e = .returned (.float .f64 b) ∧ w = w' := by
  go_enter Try.func29, Try.ntmps29
  go_wp2_with (go_at_call 42; refine (frombits_any _ _).mono ?_; rintro e w' ⟨rfl, rfl⟩)
  go_ret
  exact ⟨rfl, rfl⟩

set_option maxHeartbeats 400000 in
theorem bitsOf_any (b : Nat) (w : World) :
    Calls Try.prog 27 #[.float .f64 b] w fun e w' => e = .returned (.int .u64 (b : Int)) ∧ w = w' := by
  go_enter Try.func27, Try.ntmps27
  go_wp2_with (go_at_call 40; refine (bits_any _ _).mono ?_; rintro e w' ⟨rfl, rfl⟩)
  go_ret
  exact ⟨rfl, rfl⟩

set_option maxHeartbeats 400000 in
theorem abs_any (b : Nat) (hb : b < 18446744073709551616) (w : World) :
    Calls Try.prog 53 #[.float .f64 b] w fun e w' => e = .returned (.float .f64 (rung b)) ∧ w = w' := by
  have e1 := abs_num b hb
  obtain ⟨r, hr⟩ : ∃ r, r = rung b := ⟨_, rfl⟩
  rw [← hr] at e1 ⊢
  have r1 : ∀ _ : True, _ = _ := fun _ => e1
  clear e1 hr
  go_enter Try.func53, Try.ntmps53
  go_wp2_with (first | (go_at_call 40; refine (bits_any _ _).mono ?_; rintro e w' ⟨rfl, rfl⟩) | (go_at_call 42; refine (frombits_any _ _).mono ?_; rintro e w' ⟨rfl, rfl⟩))
  go_ret
  exact ⟨rfl, rfl⟩

set_option maxHeartbeats 400000 in
theorem copysign_any (b s : Nat) (hb : b < 18446744073709551616) (hs : s < 18446744073709551616) (w : World) :
    Calls Try.prog 55 #[.float .f64 b, .float .f64 s] w fun e w' => e = .returned (.float .f64 (wordD (negB s) (rung b))) ∧ w = w' := by
  have e1 := abs_num b hb
  have e2 := sgn_num s hs
  have e3 := cps_num b s
  obtain ⟨r, hr⟩ : ∃ r, r = rung b := ⟨_, rfl⟩
  obtain ⟨t, ht⟩ : ∃ t : Nat, t = signW (negB s) := ⟨_, rfl⟩
  obtain ⟨v, hv⟩ : ∃ v, v = wordD (negB s) r := ⟨_, rfl⟩
  rw [← hr] at e1 e3 ⊢
  rw [← ht] at e2 e3
  rw [← hv] at e3 ⊢
  have r1 : ∀ _ : True, _ = _ := fun _ => e1
  have r2 : ∀ _ : True, _ = _ := fun _ => e2
  have r3 : ∀ _ : True, _ = _ := fun _ => e3
  clear e1 e2 e3 hr ht hv
  go_enter Try.func55, Try.ntmps55
  go_wp2_with (first | (go_at_call 40; refine (bits_any _ _).mono ?_; rintro e w' ⟨rfl, rfl⟩) | (go_at_call 42; refine (frombits_any _ _).mono ?_; rintro e w' ⟨rfl, rfl⟩))
  go_ret
  exact ⟨rfl, rfl⟩

set_option maxHeartbeats 400000 in
theorem isNaN_any (b : Nat) (v : Bool) (hv : isNan b = v) (w : World) :
    Calls Try.prog 47 #[.float .f64 b] w fun e w' => e = .returned (.bool v) ∧ w = w' := by
  have e := nan_order b
  rw [hv] at e
  have r1 : ∀ _ : True, _ = _ := fun _ => e
  clear e hv
  go_enter Try.func47, Try.ntmps47
  go_wp2
  go_ret
  exact ⟨rfl, rfl⟩

set_option maxHeartbeats 400000 in
theorem nan_any (b : Nat) (v : Bool) (hv : isNan b = v) (w : World) :
    Calls Try.prog 13 #[.int .u64 (b : Int)] w fun e w' => e = .returned (.bool v) ∧ w = w' := by
  have e1 := ef_num b
  have e2 := mf_num b
  rw [nan_fields] at hv
  generalize ef b = E at e1 hv
  generalize mf b = m at e2 hv
  have r1 : ∀ _ : True, _ = _ := fun _ => e1
  have r2 : ∀ _ : True, _ = _ := fun _ => e2
  clear e1 e2
  by_cases h1 : E = 2047
  · have t1 : ∀ _ : True, ((E : Int) == 2047) = true := fun _ => by simp; omega
    have t2 : ∀ _ : True, (!((m : Int) == 0)) = v := fun _ => by rw [← hv, beq0]; simp [h1]
    have t3 : ∀ _ : True, ((m : Int) != 0) = v := fun _ => by rw [← t2 trivial]; rfl
    clear h1 hv
    go_enter Try.func13, Try.ntmps13
    go_wp2
    go_ret
    exact ⟨rfl, rfl⟩
  have t1 : ∀ _ : True, ((E : Int) == 2047) = false := fun _ => by simp; omega
  have hv : v = false := by rw [← hv]; simp [h1]
  subst hv
  clear h1
  go_enter Try.func13, Try.ntmps13
  go_wp2
  go_ret
  exact ⟨rfl, rfl⟩

set_option maxHeartbeats 400000 in
theorem infinite_any (b : Nat) (v : Bool) (hv : isInf b = v) (w : World) :
    Calls Try.prog 14 #[.int .u64 (b : Int)] w fun e w' => e = .returned (.bool v) ∧ w = w' := by
  have e1 := ef_num b
  have e2 := mf_num b
  rw [inf_fields] at hv
  generalize ef b = E at e1 hv
  generalize mf b = m at e2 hv
  have r1 : ∀ _ : True, _ = _ := fun _ => e1
  have r2 : ∀ _ : True, _ = _ := fun _ => e2
  clear e1 e2
  by_cases h1 : E = 2047
  · have t1 : ∀ _ : True, ((E : Int) == 2047) = true := fun _ => by simp; omega
    have t2 : ∀ _ : True, ((m : Int) == 0) = v := fun _ => by rw [← hv, beq0]; simp [h1]
    clear h1 hv
    go_enter Try.func14, Try.ntmps14
    go_wp2
    go_ret
    exact ⟨rfl, rfl⟩
  have t1 : ∀ _ : True, ((E : Int) == 2047) = false := fun _ => by simp; omega
  have hv : v = false := by rw [← hv]; simp [h1]
  subst hv
  clear h1
  go_enter Try.func14, Try.ntmps14
  go_wp2
  go_ret
  exact ⟨rfl, rfl⟩

set_option maxHeartbeats 400000 in
theorem nanOf_any  (w : World) :
    Calls Try.prog 52 #[] w fun e w' => e = .returned (.float .f64 9221120237041090561) ∧ w = w' := by
  go_enter Try.func52, Try.ntmps52
  go_wp2_with (go_at_call 42; refine (frombits_any _ _).mono ?_; rintro e w' ⟨rfl, rfl⟩)
  go_ret
  exact ⟨rfl, rfl⟩

set_option maxHeartbeats 400000 in
theorem isInf_zero (b : Nat) (hb : b < 18446744073709551616) (w : World) :
    Calls Try.prog 48 #[.float .f64 b, .int .i64 0] w fun e w' => e = .returned (.bool (isInf b)) ∧ w = w' := by
  have e1 := isInfS_zero b
  rw [isInfS_iff] at e1
  have ha := abs_any b hb
  generalize rung b = r at e1 ha
  generalize isInf b = v at e1 ⊢
  have r1 : ∀ _ : True, _ = _ := fun _ => e1
  clear e1
  go_enter Try.func48, Try.ntmps48
  go_wp2_with (go_at_call 53; refine (ha _).mono ?_; rintro e w' ⟨rfl, rfl⟩)
  go_ret
  exact ⟨rfl, rfl⟩

set_option maxHeartbeats 400000 in
theorem isInf_neg (b : Nat) (hb : b < 18446744073709551616) (t : Int) (ht : t < 0) (w : World) :
    Calls Try.prog 48 #[.float .f64 b, .int .i64 t] w fun e w' => e = .returned (.bool (isInfS b t)) ∧ w = w' := by
  have e1 := isInfS_neg b t ht
  have e2 := neg_num b hb
  rw [show wordD (!negB b) (rung b) = oppW b from rfl] at e2
  generalize oppW b = r at e1 e2
  generalize isInfS b t = v at e1 ⊢
  have r1 : ∀ _ : True, _ = _ := fun _ => e1
  have r2 : ∀ w, (Op.unary .neg (.float .f64 b)).run Try.prog w = .ok (.float .f64 r) w := fun w => by rw [← e2]; rfl
  have t1 : ∀ _ : True, (t == 0) = false := fun _ => by simp; omega
  have t2 : ∀ _ : True, decide (t < 0) = true := fun _ => by simpa using ht
  clear e1 e2 ht
  go_enter Try.func48, Try.ntmps48
  go_wp2
  go_ret
  exact ⟨rfl, rfl⟩

set_option maxHeartbeats 400000 in
theorem isInf_pos (b : Nat) (hb : b < 18446744073709551616) (t : Int) (ht : 0 < t) (w : World) :
    Calls Try.prog 48 #[.float .f64 b, .int .i64 t] w fun e w' => e = .returned (.bool (isInfS b t)) ∧ w = w' := by
  have e1 := isInfS_pos b hb t ht
  generalize isInfS b t = v at e1 ⊢
  have r1 : ∀ _ : True, _ = _ := fun _ => e1
  have t1 : ∀ _ : True, (t == 0) = false := fun _ => by simp; omega
  have t2 : ∀ _ : True, decide (t < 0) = false := fun _ => by simp; omega
  clear e1 ht
  go_enter Try.func48, Try.ntmps48
  go_wp2
  go_ret
  exact ⟨rfl, rfl⟩

set_option maxHeartbeats 400000 in
theorem inf_pos (t : Int) (ht : 0 ≤ t) (w : World) :
    Calls Try.prog 50 #[.int .i64 t] w fun e w' => e = .returned (.float .f64 9218868437227405312) ∧ w = w' := by
  have t1 : ∀ _ : True, decide (0 ≤ t) = true := fun _ => by simpa using ht
  clear ht
  go_enter Try.func50, Try.ntmps50
  go_wp2_with (go_at_call 42; refine (frombits_any _ _).mono ?_; rintro e w' ⟨rfl, rfl⟩)
  go_ret
  exact ⟨rfl, rfl⟩

set_option maxHeartbeats 400000 in
theorem inf_neg (t : Int) (ht : t < 0) (w : World) :
    Calls Try.prog 50 #[.int .i64 t] w fun e w' => e = .returned (.float .f64 18442240474082181120) ∧ w = w' := by
  have t1 : ∀ _ : True, decide (0 ≤ t) = false := fun _ => by simpa using ht
  clear ht
  go_enter Try.func50, Try.ntmps50
  go_wp2_with (go_at_call 42; refine (frombits_any _ _).mono ?_; rintro e w' ⟨rfl, rfl⟩)
  go_ret
  exact ⟨rfl, rfl⟩

set_option maxHeartbeats 400000 in
theorem signSpec_t  (w : World) :
    Calls Try.prog 35 #[.bool true] w fun e w' => e = .returned (.int .u64 9223372036854775808) ∧ w = w' := by
  go_enter Try.func35, Try.ntmps35
  go_wp2
  go_ret
  exact ⟨rfl, rfl⟩

set_option maxHeartbeats 400000 in
theorem signSpec_f  (w : World) :
    Calls Try.prog 35 #[.bool false] w fun e w' => e = .returned (.int .u64 0) ∧ w = w' := by
  go_enter Try.func35, Try.ntmps35
  go_wp2
  go_ret
  exact ⟨rfl, rfl⟩

end Go.Proofs.Ytbpggopjiogimaa
