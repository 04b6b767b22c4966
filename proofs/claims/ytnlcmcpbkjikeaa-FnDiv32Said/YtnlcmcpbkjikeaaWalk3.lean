/- The contracts of the reference's Sum, Difference, Product, Quotient and of the package's Add, Sub, Mul, Div, Rem: each returns the number that its name says. -/
import Derived.Test.YtnlcmcpbkjikeaaRows
import Derived.WalkKit
import Derived.WalkLawsBesides
import Derived.WalkSpells
import Derived.LoopTactic
import Derived.Outline
import Derived.Lib.Hide
import Derived.Deep.QuietTactic
import Derived.BigQuiet
import Derived.Test.YtnlcmcpbkjikeaaArith
import Derived.Test.YtnlcmcpbkjikeaaWalk1
set_option linter.unusedVariables false
namespace Go.Proofs.Ytnlcmcpbkjikeaa
open Go.RowKit Go.Proofs.Ytnlcmcpbkjikeaa.Plain

theorem grownT3 {a b c : World} (h1 : Grown a b) (h2 : Grown b c) : Grown a c :=
  ⟨World.keptBut_trans h1.1 h2.1, fun x => (h2.2.1 x).trans (h1.2.1 x), Nat.le_trans h1.2.2 h2.2.2⟩
theorem grownD {w w' : World} (h : ∃ m, w' = w.drewN m) : Grown w w' := by obtain ⟨m, rfl⟩ := h; exact Grown.refl w
theorem qs {P : Program} {f : FuncId} {args : Array Value} {w : World} {n : Nat} {v : Value} (h : Calls P f args (w.drewN n) fun e w' => e = .returned v ∧ w.drewN n = w') :
    Calls P f args (w.drewN n) fun e w'' => e = .returned v ∧ ∃ m, w'' = w.drewN m := h.mono fun _ _ ⟨he, hm⟩ => ⟨he, n, hm.symm⟩
theorem addC (a b : Nat) : (a : Int) + (b : Int) = ((a + b : Nat) : Int) := (Int.natCast_add a b).symm
theorem mulC (a b : Nat) : (a : Int) * (b : Int) = ((a * b : Nat) : Int) := (Int.natCast_mul a b).symm
theorem divC (a b : Nat) : (a : Int) / (b : Int) = ((a / b : Nat) : Int) := (Int.natCast_ediv a b).symm
theorem modC (a b : Nat) : (a : Int) % (b : Int) = ((a % b : Nat) : Int) := (Int.natCast_emod a b).symm
theorem powC (n : Nat) : ((2 : Int) ^ n) = ((2 ^ n : Nat) : Int) := by simp
theorem bit1 (x k : Nat) : bits .and .u64 ((x : Int) / 2 ^ k) 1 = ((x / 2 ^ k % 2 : Nat) : Int) := by
  rw [powC, divC, show (1 : Int) = ((1 : Nat) : Int) from rfl, and64N, Nat.and_one_is_mod]
  congr 1; omega
theorem bit0 (x : Nat) : bits .and .u64 (x : Int) 1 = ((x % 2 : Nat) : Int) := by
  rw [show (1 : Int) = ((1 : Nat) : Int) from rfl, and64N, Nat.and_one_is_mod]
  congr 1; omega
theorem orShl (o d k : Nat) (ho : o < 2 ^ k) (hd : d ≤ 1) (hk : k < 64) : bits .or .u64 (o : Int) (IntKind.u64.wrap ((d : Int) * 2 ^ k)) = ((o + d * 2 ^ k : Nat) : Int) := by
  have hp : d * 2 ^ k ≤ 1 * 2 ^ k := Nat.mul_le_mul_right _ hd
  have h64 : 2 ^ (k + 1) ≤ 2 ^ 64 := Nat.pow_le_pow_right (by decide) (by omega)
  rw [Nat.pow_succ] at h64
  simp only [Nat.reducePow] at h64
  rw [powC, mulC, wrap64N, Nat.mod_eq_of_lt (by omega), or64N, or_shl o d k ho, Nat.mod_eq_of_lt (by omega)]
theorem orHi (hi lo : Nat) (hh : hi < 4294967296) (hl : lo < 4294967296) : bits .or .u64 ((hi : Int) * 4294967296) (lo : Int) = ((hi * 4294967296 + lo : Nat) : Int) := by
  rw [show (4294967296 : Int) = ((2 ^ 32 : Nat) : Int) from rfl, mulC, or64N, Nat.mul_comm, ← Nat.two_pow_add_eq_or_of_lt (show lo < 2 ^ 32 by simpa using hl), Nat.mod_eq_of_lt (by simp only [Nat.reducePow]; omega)]

set_option maxHeartbeats 1000000 in
theorem add32_any (x y c : Nat) (hx : x < 4294967296) (hy : y < 4294967296) (hc : c ≤ 1) (w : World) :
    Calls Try.prog 33 #[.int .u32 (x : Int), .int .u32 (y : Int), .int .u32 (c : Int)] w fun e w' => e = .returned (.tuple #[.int .u32 (addS 4294967296 x y c : Int), .int .u32 (addO 4294967296 x y c : Int)]) ∧ w = w' := by
  go_enter Try.func33, Try.ntmps33
  go_wp2
  go_ret2
  exact ⟨ret_two (by unfold addS; omega) (by unfold addO; omega), rfl⟩

-- impl begin
theorem add32_i (x y c : Nat) (hx : x < 4294967296) (hy : y < 4294967296) (hc : c ≤ 1) (w : World) :
    Calls Try.prog 22 #[.int .u32 (x : Int), .int .u32 (y : Int), .int .u32 (c : Int)] w fun e w' => e = .returned (.tuple #[.int .u32 (addS 4294967296 x y c : Int), .int .u32 (addO 4294967296 x y c : Int)]) ∧ w = w' := by
  go_enter Try.func22, Try.ntmps22
  go_wp2_with (go_at_call 33; refine (add32_any x y c hx hy hc _).mono ?_; rintro e w' ⟨rfl, hw⟩)
  go_ret2
  exact ⟨by first | rfl | simp, hw⟩
-- impl end
theorem top_and32 (a b : Nat) : (a &&& b) / 2147483648 = (a / 2147483648) &&& (b / 2147483648) := by
  rw [show (2147483648 : Nat) = 2 ^ 31 from rfl, Nat.and_div_two_pow]
theorem top_or32 (a b : Nat) : (a ||| b) / 2147483648 = (a / 2147483648) ||| (b / 2147483648) := by
  rw [show (2147483648 : Nat) = 2 ^ 31 from rfl, Nat.or_div_two_pow]
theorem top_xor32 (a b : Nat) : (a ^^^ b) / 2147483648 = (a / 2147483648) ^^^ (b / 2147483648) := by
  rw [show (2147483648 : Nat) = 2 ^ 31 from rfl, Nat.xor_div_two_pow]
theorem topBit32 (a : Nat) (h : a < 4294967296) : a / 2147483648 = 0 ∨ a / 2147483648 = 1 := by omega
theorem borrow32 (x y c d : Nat) (hx : x < 4294967296) (hy : y < 4294967296) (hc : c ≤ 1) (hd : d = subD 4294967296 x y c) :
    bits .or .u32 (bits .and .u32 (bits .xor .u32 4294967295 (x : Int)) (y : Int)) (bits .and .u32 (bits .xor .u32 4294967295 (bits .xor .u32 (x : Int) (y : Int))) (d : Int)) / 2147483648 = (borB x y c : Int) := by
  unfold subD at hd
  unfold borB
  have hdl : d < 4294967296 := by rw [hd]; exact Nat.mod_lt _ (by decide)
  rw [show (4294967295 : Int) = ((4294967295 : Nat) : Int) from rfl, xor32N, xor32N, xor32N, and32N, and32N, or32N, show (2147483648 : Int) = ((2147483648 : Nat) : Int) from rfl, divC]
  have b1 : (4294967295 ^^^ x) % 4294967296 = 4294967295 ^^^ x := Nat.mod_eq_of_lt (Nat.xor_lt_two_pow (n := 32) (by decide) hx)
  have b2 : (x ^^^ y) % 4294967296 = x ^^^ y := Nat.mod_eq_of_lt (Nat.xor_lt_two_pow (n := 32) hx hy)
  have b3 : x ^^^ y < 4294967296 := Nat.xor_lt_two_pow (n := 32) hx hy
  have b4 : (4294967295 ^^^ (x ^^^ y)) % 4294967296 = 4294967295 ^^^ (x ^^^ y) := Nat.mod_eq_of_lt (Nat.xor_lt_two_pow (n := 32) (by decide) b3)
  have b5 : ((4294967295 ^^^ x) &&& y) % 4294967296 = (4294967295 ^^^ x) &&& y := Nat.mod_eq_of_lt (Nat.and_lt_two_pow (n := 32) _ hy)
  have b6 : ((4294967295 ^^^ (x ^^^ y)) &&& d) % 4294967296 = (4294967295 ^^^ (x ^^^ y)) &&& d := Nat.mod_eq_of_lt (Nat.and_lt_two_pow (n := 32) _ hdl)
  have b7 : (((4294967295 ^^^ x) &&& y) ||| ((4294967295 ^^^ (x ^^^ y)) &&& d)) % 4294967296 = ((4294967295 ^^^ x) &&& y) ||| ((4294967295 ^^^ (x ^^^ y)) &&& d) :=
    Nat.mod_eq_of_lt (Nat.or_lt_two_pow (n := 32) (Nat.and_lt_two_pow (n := 32) _ hy) (Nat.and_lt_two_pow (n := 32) _ hdl))
  rw [b1, b2, b4, b5, b6, b7, top_or32, top_and32, top_and32, top_xor32, top_xor32, top_xor32]
  congr 1
  have t : (4294967295 : Nat) / 2147483648 = 1 := by decide
  rw [t]
  rcases topBit32 x hx with h1 | h1 <;> rcases topBit32 y hy with h2 | h2 <;> rcases topBit32 d hdl with h3 | h3 <;> rw [h1, h2, h3] <;> simp only [Nat.reduceXor, Nat.reduceAnd, Nat.reduceOr] <;> split <;> omega

theorem top_and64 (a b : Nat) : (a &&& b) / 9223372036854775808 = (a / 9223372036854775808) &&& (b / 9223372036854775808) := by
  rw [show (9223372036854775808 : Nat) = 2 ^ 63 from rfl, Nat.and_div_two_pow]
theorem top_or64 (a b : Nat) : (a ||| b) / 9223372036854775808 = (a / 9223372036854775808) ||| (b / 9223372036854775808) := by
  rw [show (9223372036854775808 : Nat) = 2 ^ 63 from rfl, Nat.or_div_two_pow]
theorem top_xor64 (a b : Nat) : (a ^^^ b) / 9223372036854775808 = (a / 9223372036854775808) ^^^ (b / 9223372036854775808) := by
  rw [show (9223372036854775808 : Nat) = 2 ^ 63 from rfl, Nat.xor_div_two_pow]
theorem topBit64 (a : Nat) (h : a < 18446744073709551616) : a / 9223372036854775808 = 0 ∨ a / 9223372036854775808 = 1 := by omega
theorem borrow64 (x y c d : Nat) (hx : x < 18446744073709551616) (hy : y < 18446744073709551616) (hc : c ≤ 1) (hd : d = subD 18446744073709551616 x y c) :
    bits .or .u64 (bits .and .u64 (bits .xor .u64 18446744073709551615 (x : Int)) (y : Int)) (bits .and .u64 (bits .xor .u64 18446744073709551615 (bits .xor .u64 (x : Int) (y : Int))) (d : Int)) / 9223372036854775808 = (borB x y c : Int) := by
  unfold subD at hd
  unfold borB
  have hdl : d < 18446744073709551616 := by rw [hd]; exact Nat.mod_lt _ (by decide)
  rw [show (18446744073709551615 : Int) = ((18446744073709551615 : Nat) : Int) from rfl, xor64N, xor64N, xor64N, and64N, and64N, or64N, show (9223372036854775808 : Int) = ((9223372036854775808 : Nat) : Int) from rfl, divC]
  have b1 : (18446744073709551615 ^^^ x) % 18446744073709551616 = 18446744073709551615 ^^^ x := Nat.mod_eq_of_lt (Nat.xor_lt_two_pow (n := 64) (by decide) hx)
  have b2 : (x ^^^ y) % 18446744073709551616 = x ^^^ y := Nat.mod_eq_of_lt (Nat.xor_lt_two_pow (n := 64) hx hy)
  have b3 : x ^^^ y < 18446744073709551616 := Nat.xor_lt_two_pow (n := 64) hx hy
  have b4 : (18446744073709551615 ^^^ (x ^^^ y)) % 18446744073709551616 = 18446744073709551615 ^^^ (x ^^^ y) := Nat.mod_eq_of_lt (Nat.xor_lt_two_pow (n := 64) (by decide) b3)
  have b5 : ((18446744073709551615 ^^^ x) &&& y) % 18446744073709551616 = (18446744073709551615 ^^^ x) &&& y := Nat.mod_eq_of_lt (Nat.and_lt_two_pow (n := 64) _ hy)
  have b6 : ((18446744073709551615 ^^^ (x ^^^ y)) &&& d) % 18446744073709551616 = (18446744073709551615 ^^^ (x ^^^ y)) &&& d := Nat.mod_eq_of_lt (Nat.and_lt_two_pow (n := 64) _ hdl)
  have b7 : (((18446744073709551615 ^^^ x) &&& y) ||| ((18446744073709551615 ^^^ (x ^^^ y)) &&& d)) % 18446744073709551616 = ((18446744073709551615 ^^^ x) &&& y) ||| ((18446744073709551615 ^^^ (x ^^^ y)) &&& d) :=
    Nat.mod_eq_of_lt (Nat.or_lt_two_pow (n := 64) (Nat.and_lt_two_pow (n := 64) _ hy) (Nat.and_lt_two_pow (n := 64) _ hdl))
  rw [b1, b2, b4, b5, b6, b7, top_or64, top_and64, top_and64, top_xor64, top_xor64, top_xor64]
  congr 1
  have t : (18446744073709551615 : Nat) / 9223372036854775808 = 1 := by decide
  rw [t]
  rcases topBit64 x hx with h1 | h1 <;> rcases topBit64 y hy with h2 | h2 <;> rcases topBit64 d hdl with h3 | h3 <;> rw [h1, h2, h3] <;> simp only [Nat.reduceXor, Nat.reduceAnd, Nat.reduceOr] <;> split <;> omega

theorem subNum32 (x y c : Nat) (hx : x < 4294967296) (hy : y < 4294967296) (hc : c ≤ 1) : ((x : Int) - (y : Int) - (c : Int)) % 4294967296 = (subD 4294967296 x y c : Int) := by
  unfold subD
  omega
set_option maxHeartbeats 1000000 in
theorem sub32_any (x y c : Nat) (hx : x < 4294967296) (hy : y < 4294967296) (hc : c ≤ 1) (w : World) :
    Calls Try.prog 34 #[.int .u32 (x : Int), .int .u32 (y : Int), .int .u32 (c : Int)] w fun e w' => e = .returned (.tuple #[.int .u32 (subD 4294967296 x y c : Int), .int .u32 (borB x y c : Int)]) ∧ w = w' := by
  have hs : ∀ _ : True, (if IntKind.u32.signed = true then -1 else IntKind.u32.max) = (4294967295 : Int) := fun _ => by decide
  have e1 := subNum32 x y c hx hy hc
  obtain ⟨d, hd⟩ : ∃ d, d = subD 4294967296 x y c := ⟨_, rfl⟩
  have e2 := borrow32 x y c d hx hy hc hd
  obtain ⟨b, hb⟩ : ∃ b : Nat, b = borB x y c := ⟨_, rfl⟩
  rw [← hd] at e1 ⊢
  rw [← hb] at e2 ⊢
  have r1 : ∀ _ : True, _ = _ := fun _ => e1
  have r2 : ∀ _ : True, _ = _ := fun _ => e2
  have E1 := Lib.hid e1
  clear e1 e2 hd hb
  go_enter Try.func34, Try.ntmps34
  go_wp2
  go_ret2
  have e1 := E1.out
  exact ⟨ret_two (by first | exact e1 | omega) rfl, rfl⟩

-- impl begin
theorem sub32_i (x y c : Nat) (hx : x < 4294967296) (hy : y < 4294967296) (hc : c ≤ 1) (w : World) :
    Calls Try.prog 24 #[.int .u32 (x : Int), .int .u32 (y : Int), .int .u32 (c : Int)] w fun e w' => e = .returned (.tuple #[.int .u32 (subD 4294967296 x y c : Int), .int .u32 (borB x y c : Int)]) ∧ w = w' := by
  go_enter Try.func24, Try.ntmps24
  go_wp2_with (go_at_call 34; refine (sub32_any x y c hx hy hc _).mono ?_; rintro e w' ⟨rfl, hw⟩)
  go_ret2
  exact ⟨by first | rfl | simp, hw⟩
-- impl end
theorem mul32_lt (x y : Nat) (hx : x < 4294967296) (hy : y < 4294967296) : x * y < 18446744073709551616 := by
  have : x * y ≤ 4294967295 * 4294967295 := Nat.mul_le_mul (by omega) (by omega)
  omega

set_option maxHeartbeats 1000000 in
theorem mul32_any (x y : Nat) (hx : x < 4294967296) (hy : y < 4294967296) (w : World) :
    Calls Try.prog 31 #[.int .u32 (x : Int), .int .u32 (y : Int)] w fun e w' => e = .returned (.tuple #[.int .u32 (mulH 4294967296 x y : Int), .int .u32 (mulL 4294967296 x y : Int)]) ∧ w = w' := by
  obtain ⟨p, hp⟩ : ∃ p, p = x * y := ⟨_, rfl⟩
  have hl : p < 18446744073709551616 := by rw [hp]; exact mul32_lt x y hx hy
  have r1 : ∀ _ : True, IntKind.u64.wrap ((x : Int) * (y : Int)) = (p : Int) := fun _ => by rw [mulC, wrap64N, Nat.mod_eq_of_lt (mul32_lt x y hx hy), hp]
  have HL := Lib.hid hl
  have HP := Lib.hid hp
  clear hp hl
  go_enter Try.func31, Try.ntmps31
  go_wp2
  go_ret2
  have hl := HL.out
  have hp := HP.out
  exact ⟨ret_two (by unfold mulH; rw [← hp]; omega) (by unfold mulL; rw [← hp]; omega), rfl⟩

-- impl begin
theorem mul32_i (x y : Nat) (hx : x < 4294967296) (hy : y < 4294967296) (w : World) :
    Calls Try.prog 20 #[.int .u32 (x : Int), .int .u32 (y : Int)] w fun e w' => e = .returned (.tuple #[.int .u32 (mulH 4294967296 x y : Int), .int .u32 (mulL 4294967296 x y : Int)]) ∧ w = w' := by
  go_enter Try.func20, Try.ntmps20
  go_wp2_with (go_at_call 31; refine (mul32_any x y hx hy _).mono ?_; rintro e w' ⟨rfl, hw⟩)
  go_ret2
  exact ⟨by first | rfl | simp, hw⟩
-- impl end
set_option maxHeartbeats 1000000 in
theorem div32_any (hi lo y : Nat) (hh : hi < 4294967296) (hl : lo < 4294967296) (hy : y < 4294967296) (h : hi < y) (w : World) :
    Calls Try.prog 32 #[.int .u32 (hi : Int), .int .u32 (lo : Int), .int .u32 (y : Int)] w fun e w' => e = .returned (.tuple #[.int .u32 (divQ 4294967296 hi lo y : Int), .int .u32 (divR 4294967296 hi lo y : Int)]) ∧ ∃ m, w' = w.drewN m := by
  have e := orHi hi lo hh hl
  have q1 : (hi * 4294967296 + lo) / y < 4294967296 := by
    rw [Nat.div_lt_iff_lt_mul (by omega)]
    have : (hi + 1) * 4294967296 ≤ y * 4294967296 := Nat.mul_le_mul_right _ (by omega)
    rw [Nat.mul_comm 4294967296 y]; omega
  have q2 : (hi * 4294967296 + lo) % y < y := Nat.mod_lt _ (by omega)
  obtain ⟨z, hz⟩ : ∃ z, z = hi * 4294967296 + lo := ⟨_, rfl⟩
  rw [← hz] at e q1 q2
  have r1 : ∀ _ : True, _ = _ := fun _ => e
  have Q1 := Lib.hid q1
  have Q2 := Lib.hid q2
  have n1 : ((y : Int) == 0) = false := by simp; omega
  have n2 : ((y : Int) != 0) = true := by simp; omega
  have n3 : decide (y ≤ hi) = false := by simp; omega
  have n4 : ∀ _ : True, ¬ ((y : Int) = 0) := fun _ => by omega
  have hz0 : (0 : Int) ≤ (z : Int) := by omega
  have hy1 : (1 : Int) ≤ (y : Int) := by omega
  have HZ := Lib.hid hz
  clear e hz q1 q2
  go_enter Try.func32, Try.ntmps32
  go_wp2
  go_quiet (fail)
  go_wp2
  go_ret2
  have q1 := Q1.out
  have q2 := Q2.out
  refine ⟨ret_two ?_ ?_, _, rfl⟩
  · unfold divQ
    rw [← HZ.out, divC, wrap64N, Nat.mod_eq_of_lt (by omega), show (4294967296 : Int) = ((4294967296 : Nat) : Int) from rfl, modC, Nat.mod_eq_of_lt (by omega)]
  · unfold divR
    rw [← HZ.out, modC, show (4294967296 : Int) = ((4294967296 : Nat) : Int) from rfl, modC, Nat.mod_eq_of_lt (by omega)]

-- impl begin
theorem div32_i (hi lo y : Nat) (hh : hi < 4294967296) (hl : lo < 4294967296) (hy : y < 4294967296) (h : hi < y) (w : World) :
    Calls Try.prog 21 #[.int .u32 (hi : Int), .int .u32 (lo : Int), .int .u32 (y : Int)] w fun e w' => e = .returned (.tuple #[.int .u32 (divQ 4294967296 hi lo y : Int), .int .u32 (divR 4294967296 hi lo y : Int)]) ∧ ∃ m, w' = w.drewN m := by
  go_enter Try.func21, Try.ntmps21
  go_wp2_with (go_at_call 32; refine (div32_any hi lo y hh hl hy h _).mono ?_; rintro e w' ⟨rfl, hw⟩)
  go_ret2
  exact ⟨by first | rfl | simp, hw⟩
-- impl end
set_option maxHeartbeats 1000000 in
theorem rem32_any (hi lo y : Nat) (hh : hi < 4294967296) (hl : lo < 4294967296) (hy : y < 4294967296) (h : 0 < y) (w : World) :
    Calls Try.prog 30 #[.int .u32 (hi : Int), .int .u32 (lo : Int), .int .u32 (y : Int)] w fun e w' => e = .returned (.int .u32 (divR 4294967296 hi lo y : Int)) ∧ w = w' := by
  have e := orHi hi lo hh hl
  have q2 : (hi * 4294967296 + lo) % y < y := Nat.mod_lt _ (by omega)
  obtain ⟨z, hz⟩ : ∃ z, z = hi * 4294967296 + lo := ⟨_, rfl⟩
  rw [← hz] at e q2
  have r1 : ∀ _ : True, _ = _ := fun _ => e
  have Q2 := Lib.hid q2
  have HZ := Lib.hid hz
  clear e hz q2
  go_enter Try.func30, Try.ntmps30
  go_wp2
  go_ret
  have q2 := Q2.out
  refine ⟨ret_int ?_, rfl⟩
  unfold divR
  rw [← HZ.out, modC, show (4294967296 : Int) = ((4294967296 : Nat) : Int) from rfl, modC, Nat.mod_eq_of_lt (by omega)]

-- impl begin
theorem rem32_i (hi lo y : Nat) (hh : hi < 4294967296) (hl : lo < 4294967296) (hy : y < 4294967296) (h : 0 < y) (w : World) :
    Calls Try.prog 19 #[.int .u32 (hi : Int), .int .u32 (lo : Int), .int .u32 (y : Int)] w fun e w' => e = .returned (.int .u32 (divR 4294967296 hi lo y : Int)) ∧ w = w' := by
  go_enter Try.func19, Try.ntmps19
  go_wp2_with (go_at_call 30; refine (rem32_any hi lo y hh hl hy h _).mono ?_; rintro e w' ⟨rfl, hw⟩)
  go_ret
  exact ⟨by first | rfl | simp, hw⟩
-- impl end
set_option maxHeartbeats 1000000 in
theorem specSum (x y c n : Nat) (hx : x < 18446744073709551616) (hy : y < 18446744073709551616) (hc : c ≤ 1) (hn : n ≤ 64) (w : World) :
    Calls Try.prog 23 #[.int .u64 (x : Int), .int .u64 (y : Int), .int .u64 (c : Int), .int .i64 (n : Int)] w fun e w' => e = .returned (.tuple #[.int .u64 (sO x y c n : Int), .int .u64 (sC x y c n : Int)]) ∧ Grown w w' := by
  go_enter Try.func23, Try.ntmps23
  go_wp2
  go_loopw [2, 10, 14] (fun cr o i wr => ∃ k : Nat, k ≤ n ∧ i = .int .i64 (k : Int) ∧ o = .int .u64 (sO x y c k : Int) ∧ cr = .int .u64 (sC x y c k : Int) ∧ Grown w wr) (fun _ _ i _ => (n - intOf i).toNat)
  case atStart => exact ⟨0, Nat.zero_le _, rfl, by simp [sO], by simp [sC], Grown.refl _⟩
  case round =>
    obtain ⟨k, hk, rfl, rfl, rfl, hgr⟩ := hrel
    by_cases h0 : k < n
    · obtain ⟨s1, s2⟩ := s_step x y c k hc
      have ho := sO_lt x y c k
      have hcr := sC_le x y c k hc
      have e1 := bit1 x k
      have e2 := bit1 y k
      obtain ⟨a, ha⟩ : ∃ a, a = x / 2 ^ k % 2 := ⟨_, rfl⟩
      obtain ⟨b, hb⟩ : ∃ b, b = y / 2 ^ k % 2 := ⟨_, rfl⟩
      have ha1 : a ≤ 1 := by omega
      have hb1 : b ≤ 1 := by omega
      rw [← ha, ← hb] at s1 s2
      rw [← ha] at e1
      rw [← hb] at e2
      clear ha hb
      obtain ⟨cr, hcr0⟩ : ∃ cr, cr = sC x y c k := ⟨_, rfl⟩
      obtain ⟨o, ho0⟩ : ∃ o, o = sO x y c k := ⟨_, rfl⟩
      rw [← hcr0] at s1 s2 hcr ⊢
      rw [← ho0] at s1 ho ⊢
      clear hcr0 ho0
      have e3 := bit0 (a + b + cr)
      obtain ⟨d, hd⟩ : ∃ d, d = (a + b + cr) % 2 := ⟨_, rfl⟩
      have hd1 : d ≤ 1 := by omega
      rw [← hd] at e3 s1
      have e4 := orShl o d k ho hd1 (by omega)
      have r1 : ∀ _ : True, _ = _ := fun _ => e1
      have r2 : ∀ _ : True, _ = _ := fun _ => e2
      have r3 : ∀ _ : True, bits .and .u64 ((a : Int) + (b : Int) + (cr : Int)) 1 = (d : Int) := fun _ => by rw [← e3]; simp
      have r4 : ∀ _ : True, _ = _ := fun _ => e4
      have HS := Lib.hid (And.intro s1 s2)
      clear e1 e2 e3 e4 s1 s2 hd ho
      go_wp2
      go_quiet (fail)
      go_wp2
      go_roundw
      case rel => exact ⟨k + 1, by omega, by go_num, by rw [HS.out.1]; simp, by rw [HS.out.2]; simp, hgr⟩
      case measure => simp [intOf]; omega
    · obtain rfl : k = n := by omega
      go_wp2
      go_ret2
      exact ⟨rfl, hgr⟩

set_option maxHeartbeats 1000000 in
theorem specDiff (x y c n : Nat) (hx : x < 18446744073709551616) (hy : y < 18446744073709551616) (hc : c ≤ 1) (hn : n ≤ 64) (w : World) :
    Calls Try.prog 25 #[.int .u64 (x : Int), .int .u64 (y : Int), .int .u64 (c : Int), .int .i64 (n : Int)] w fun e w' => e = .returned (.tuple #[.int .u64 (dO x y c n : Int), .int .u64 (dB x y c n : Int)]) ∧ Grown w w' := by
  go_enter Try.func25, Try.ntmps25
  go_wp2
  go_loopw [2, 10, 15] (fun cr o i wr => ∃ k : Nat, k ≤ n ∧ i = .int .i64 (k : Int) ∧ o = .int .u64 (dO x y c k : Int) ∧ cr = .int .u64 (dB x y c k : Int) ∧ Grown w wr) (fun _ _ i _ => (n - intOf i).toNat)
  case atStart =>
    have h1 : dB x y c 0 = c := by unfold dB; simp [Nat.mod_one]; split <;> omega
    have h2 : dO x y c 0 = 0 := by unfold dO; rw [h1]; simp [Nat.mod_one]
    exact ⟨0, Nat.zero_le _, rfl, by rw [h2]; rfl, by rw [h1], Grown.refl _⟩
  case round =>
    obtain ⟨k, hk, rfl, rfl, rfl, hgr⟩ := hrel
    by_cases h0 : k < n
    · obtain ⟨s1, s2⟩ := d_step x y c k hc
      have ho := (d_inv x y c k hc).1
      have hcr := dB_le x y c k
      have e1 := bit1 x k
      have e2 := bit1 y k
      obtain ⟨a, ha⟩ : ∃ a, a = x / 2 ^ k % 2 := ⟨_, rfl⟩
      obtain ⟨b, hb⟩ : ∃ b, b = y / 2 ^ k % 2 := ⟨_, rfl⟩
      have ha1 : a ≤ 1 := by omega
      have hb1 : b ≤ 1 := by omega
      rw [← ha, ← hb] at s1 s2
      rw [← ha] at e1
      rw [← hb] at e2
      clear ha hb
      obtain ⟨cr, hcr0⟩ : ∃ cr, cr = dB x y c k := ⟨_, rfl⟩
      obtain ⟨o, ho0⟩ : ∃ o, o = dO x y c k := ⟨_, rfl⟩
      rw [← hcr0] at s1 s2 hcr ⊢
      rw [← ho0] at s1 ho ⊢
      clear hcr0 ho0
      have e3 := bit0 (a + (b + cr))
      obtain ⟨d, hd⟩ : ∃ d, d = (a + (b + cr)) % 2 := ⟨_, rfl⟩
      have hd1 : d ≤ 1 := by omega
      rw [← hd] at e3 s1
      have e4 := orShl o d k ho hd1 (by omega)
      have r1 : ∀ _ : True, _ = _ := fun _ => e1
      have r2 : ∀ _ : True, _ = _ := fun _ => e2
      have r3 : ∀ _ : True, bits .and .u64 ((a : Int) + ((b : Int) + (cr : Int))) 1 = (d : Int) := fun _ => by rw [← e3]; simp
      have r4 : ∀ _ : True, _ = _ := fun _ => e4
      by_cases hlt : a < b + cr
      · rw [if_pos hlt] at s2
        have HS := Lib.hid (And.intro s1 s2)
        clear e1 e2 e3 e4 s1 s2 hd ho
        go_wp2
        go_quiet (fail)
        go_wp2
        go_roundw
        case rel => exact ⟨k + 1, by omega, by go_num, by rw [HS.out.1]; simp, by rw [HS.out.2]; rfl, hgr⟩
        case measure => simp [intOf]; omega
      · rw [if_neg hlt] at s2
        have HS := Lib.hid (And.intro s1 s2)
        clear e1 e2 e3 e4 s1 s2 hd ho
        go_wp2
        go_quiet (fail)
        go_wp2
        go_roundw
        case rel => exact ⟨k + 1, by omega, by go_num, by rw [HS.out.1]; simp, by rw [HS.out.2]; rfl, hgr⟩
        case measure => simp [intOf]; omega
    · obtain rfl : k = n := by omega
      go_wp2
      go_ret2
      exact ⟨rfl, hgr⟩

end Go.Proofs.Ytnlcmcpbkjikeaa
