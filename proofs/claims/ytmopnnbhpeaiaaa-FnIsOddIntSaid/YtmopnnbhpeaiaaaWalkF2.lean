/- The contracts of impl's float functions that ask one function of the package: by the bits. -/
import Derived.Test.YtmopnnbhpeaiaaaWalkF1
set_option linter.unusedVariables false
namespace Go.Proofs.Ytmopnnbhpeaiaaa
open Go.RowKit Go.Proofs.Ytmopnnbhpeaiaaa.Plain

set_option maxHeartbeats 400000 in
theorem i_abs (b : Nat) (hb : b < 18446744073709551616) (w : World) :
    Calls Try.prog 28 #[.int .u64 (b : Int)] w fun e w' => e = .returned (.int .u64 (rung b : Int)) ∧ w = w' := by
  go_enter Try.func28, Try.ntmps28
  go_wp2_with (first | (go_at_call 33; refine (float_any _ _).mono ?_; rintro e w' ⟨rfl, rfl⟩) | (go_at_call 31; refine (bitsOf_any _ _).mono ?_; rintro e w' ⟨rfl, rfl⟩) | (go_at_call 43; refine (abs_any _ hb _).mono ?_; rintro e w' ⟨rfl, rfl⟩))
  go_ret
  exact ⟨rfl, rfl⟩

set_option maxHeartbeats 400000 in
theorem i_copysign (b s : Nat) (hb : b < 18446744073709551616) (hs : s < 18446744073709551616) (w : World) :
    Calls Try.prog 29 #[.int .u64 (b : Int), .int .u64 (s : Int)] w fun e w' => e = .returned (.int .u64 (wordD (negB s) (rung b) : Int)) ∧ w = w' := by
  go_enter Try.func29, Try.ntmps29
  go_wp2_with (first | (go_at_call 33; refine (float_any _ _).mono ?_; rintro e w' ⟨rfl, rfl⟩) | (go_at_call 31; refine (bitsOf_any _ _).mono ?_; rintro e w' ⟨rfl, rfl⟩) | (go_at_call 44; refine (copysign_any _ _ hb hs _).mono ?_; rintro e w' ⟨rfl, rfl⟩))
  go_ret
  exact ⟨rfl, rfl⟩

set_option maxHeartbeats 400000 in
theorem i_signbit (b : Nat) (hb : b < 18446744073709551616) (w : World) :
    Calls Try.prog 30 #[.int .u64 (b : Int)] w fun e w' => e = .returned (.bool (negB b)) ∧ w = w' := by
  go_enter Try.func30, Try.ntmps30
  go_wp2_with (first | (go_at_call 33; refine (float_any _ _).mono ?_; rintro e w' ⟨rfl, rfl⟩) | (go_at_call 31; refine (bitsOf_any _ _).mono ?_; rintro e w' ⟨rfl, rfl⟩) | (go_at_call 45; refine (signbit_any _ hb _).mono ?_; rintro e w' ⟨rfl, rfl⟩))
  go_ret
  exact ⟨rfl, rfl⟩

end Go.Proofs.Ytmopnnbhpeaiaaa
