/- The contract of the reference's Trailing: the place of the lowest bit that is 1, n of 0. -/
import Derived.Test.YtjcjnldnlgiloaaRows
import Derived.WalkKit
import Derived.WalkLawsBesides
import Derived.WalkSpells
import Derived.LoopTactic
import Derived.Outline
import Derived.Lib.Hide
import Derived.Deep.QuietTactic
import Derived.BigQuiet
import Derived.Test.YtjcjnldnlgiloaaBack
import Derived.Test.YtjcjnldnlgiloaaWalk1
import Derived.Test.YtjcjnldnlgiloaaWalk2
set_option linter.unusedVariables false
namespace Go.Proofs.Ytjcjnldnlgiloaa
open Go.RowKit Go.Proofs.Ytjcjnldnlgiloaa.Plain

theorem grownD5 {w w' : World} (h : ∃ m, w' = w.drewN m) : Grown w w' := by obtain ⟨m, rfl⟩ := h; exact Grown.refl w
theorem qs5 {P : Program} {f : FuncId} {args : Array Value} {w : World} {n : Nat} {v : Value} (h : Calls P f args (w.drewN n) fun e w' => e = .returned v ∧ w.drewN n = w') :
    Calls P f args (w.drewN n) fun e w'' => e = .returned v ∧ ∃ m, w'' = w.drewN m := h.mono fun _ _ ⟨he, hm⟩ => ⟨he, n, hm.symm⟩
set_option maxHeartbeats 400000 in
theorem specTrailing (x n : Nat) (hx : x < 18446744073709551616) (hn : n ≤ 64) (hxn : x < 2 ^ n) (w : World) :
    Calls Try.prog 6 #[.int .u64 (x : Int), .int .i64 (n : Int)] w fun e w' => e = .returned (.int .i64 (Lib.ctz n x : Int)) ∧ w = w' := by
  have HX := Lib.hid hxn
  clear hxn
  go_enter Try.func6, Try.ntmps6
  go_wp2
  go_loop [7] (fun i => ∃ k : Nat, k ≤ n ∧ i = .int .i64 (k : Int) ∧ Hid (∀ j, j < k → x.testBit j = false)) (fun i => (n - intOf i).toNat)
  case atStart => exact ⟨0, Nat.zero_le _, rfl, Lib.hid (fun j hj => absurd hj (Nat.not_lt_zero j))⟩
  case round =>
    obtain ⟨k, hk, rfl, HLo⟩ := hrel
    by_cases h0 : k < n
    · by_cases hb : x.testBit k = true
      · have HB := Lib.hid hb
        clear hb
        go_wp2_with (go_at_call 11; refine (bit_yes x k hx (by omega) HB.out _).mono ?_; rintro e w' ⟨rfl, rfl⟩)
        go_ret
        exact ⟨ret_int (by rw [ctz_of n x k HX.out HB.out HLo.out]), rfl⟩
      · have HB := Lib.hid (Bool.eq_false_iff.2 hb)
        clear hb
        go_wp2_with (go_at_call 11; refine (bit_no x k hx (by omega) HB.out _).mono ?_; rintro e w' ⟨rfl, rfl⟩)
        go_round
        case rel => exact ⟨k + 1, by omega, by go_num, Lib.hid (fun j hj => by
          rcases Nat.lt_or_ge j k with h | h
          · exact HLo.out j h
          · have : j = k := by omega
            rw [this]; exact HB.out)⟩
        case measure => simp [intOf]; omega
    · obtain rfl : k = n := by omega
      go_wp2
      go_ret
      have e0 := zero_of_low k x HX.out HLo.out
      exact ⟨ret_int (by rw [e0]; simp [Lib.ctz]), rfl⟩
end Go.Proofs.Ytjcjnldnlgiloaa
