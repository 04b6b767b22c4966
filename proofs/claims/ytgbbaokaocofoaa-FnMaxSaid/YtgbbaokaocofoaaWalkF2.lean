/- The contracts of impl's float functions that ask one function of the package: by the bits. -/
import Derived.Test.YtgbbaokaocofoaaWalkF1
set_option linter.unusedVariables false
namespace Go.Proofs.Ytgbbaokaocofoaa
open Go.RowKit Go.Proofs.Ytgbbaokaocofoaa.Plain

set_option maxHeartbeats 400000 in
theorem i_isNaN (b : Nat) (v : Bool) (hv : isNan b = v) (w : World) :
    Calls Try.prog 21 #[.int .u64 (b : Int)] w fun e w' => e = .returned (.bool v) ∧ w = w' := by
  go_enter Try.func21, Try.ntmps21
  go_wp2_with (first | (go_at_call 27; refine (float_any _ _).mono ?_; rintro e w' ⟨rfl, rfl⟩) | (go_at_call 25; refine (bitsOf_any _ _).mono ?_; rintro e w' ⟨rfl, rfl⟩) | (go_at_call 32; refine (isNaN_any _ v hv _).mono ?_; rintro e w' ⟨rfl, rfl⟩))
  go_ret
  exact ⟨rfl, rfl⟩

set_option maxHeartbeats 400000 in
theorem i_isInf_zero (b : Nat) (hb : b < 18446744073709551616) (w : World) :
    Calls Try.prog 20 #[.int .u64 (b : Int), .int .i64 0] w fun e w' => e = .returned (.bool (isInf b)) ∧ w = w' := by
  go_enter Try.func20, Try.ntmps20
  go_wp2_with (first | (go_at_call 27; refine (float_any _ _).mono ?_; rintro e w' ⟨rfl, rfl⟩) | (go_at_call 25; refine (bitsOf_any _ _).mono ?_; rintro e w' ⟨rfl, rfl⟩) | (go_at_call 31; refine (isInf_zero _ hb _).mono ?_; rintro e w' ⟨rfl, rfl⟩))
  go_ret
  exact ⟨rfl, rfl⟩

set_option maxHeartbeats 400000 in
theorem i_isInf_neg (b : Nat) (hb : b < 18446744073709551616) (t : Int) (ht : t < 0) (w : World) :
    Calls Try.prog 20 #[.int .u64 (b : Int), .int .i64 t] w fun e w' => e = .returned (.bool (isInfS b t)) ∧ w = w' := by
  have c := fun w => isInf_neg b hb t ht w
  have C := Lib.hid c
  clear c ht
  go_enter Try.func20, Try.ntmps20
  go_wp2_with (first | (go_at_call 27; refine (float_any _ _).mono ?_; rintro e w' ⟨rfl, rfl⟩) | (go_at_call 25; refine (bitsOf_any _ _).mono ?_; rintro e w' ⟨rfl, rfl⟩) | (go_at_call 31; refine (C.out _).mono ?_; rintro e w' ⟨rfl, rfl⟩))
  go_ret
  exact ⟨rfl, rfl⟩

set_option maxHeartbeats 400000 in
theorem i_isInf_pos (b : Nat) (hb : b < 18446744073709551616) (t : Int) (ht : 0 < t) (w : World) :
    Calls Try.prog 20 #[.int .u64 (b : Int), .int .i64 t] w fun e w' => e = .returned (.bool (isInfS b t)) ∧ w = w' := by
  have c := fun w => isInf_pos b hb t ht w
  have C := Lib.hid c
  clear c ht
  go_enter Try.func20, Try.ntmps20
  go_wp2_with (first | (go_at_call 27; refine (float_any _ _).mono ?_; rintro e w' ⟨rfl, rfl⟩) | (go_at_call 25; refine (bitsOf_any _ _).mono ?_; rintro e w' ⟨rfl, rfl⟩) | (go_at_call 31; refine (C.out _).mono ?_; rintro e w' ⟨rfl, rfl⟩))
  go_ret
  exact ⟨rfl, rfl⟩

set_option maxHeartbeats 400000 in
theorem i_inf_pos (t : Int) (ht : 0 ≤ t) (w : World) :
    Calls Try.prog 19 #[.int .i64 t] w fun e w' => e = .returned (.int .u64 9218868437227405312) ∧ w = w' := by
  have c := fun w => inf_pos t ht w
  have C := Lib.hid c
  clear c ht
  have c2 := fun w => bitsOf_any 9218868437227405312 w
  go_enter Try.func19, Try.ntmps19
  go_wp2_with (first | (go_at_call 27; refine (float_any _ _).mono ?_; rintro e w' ⟨rfl, rfl⟩) | (go_at_call 25; refine (c2 _).mono ?_; rintro e w' ⟨rfl, rfl⟩) | (go_at_call 30; refine (C.out _).mono ?_; rintro e w' ⟨rfl, rfl⟩))
  go_ret
  exact ⟨rfl, rfl⟩

set_option maxHeartbeats 400000 in
theorem i_inf_neg (t : Int) (ht : t < 0) (w : World) :
    Calls Try.prog 19 #[.int .i64 t] w fun e w' => e = .returned (.int .u64 18442240474082181120) ∧ w = w' := by
  have c := fun w => inf_neg t ht w
  have C := Lib.hid c
  clear c ht
  have c2 := fun w => bitsOf_any 18442240474082181120 w
  go_enter Try.func19, Try.ntmps19
  go_wp2_with (first | (go_at_call 27; refine (float_any _ _).mono ?_; rintro e w' ⟨rfl, rfl⟩) | (go_at_call 25; refine (c2 _).mono ?_; rintro e w' ⟨rfl, rfl⟩) | (go_at_call 30; refine (C.out _).mono ?_; rintro e w' ⟨rfl, rfl⟩))
  go_ret
  exact ⟨rfl, rfl⟩

end Go.Proofs.Ytgbbaokaocofoaa
