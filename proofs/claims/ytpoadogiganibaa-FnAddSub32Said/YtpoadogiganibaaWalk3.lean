/- The contracts of the reference's Sum, Difference, Product, Quotient and of the package's Add, Sub, Mul, Div, Rem: each returns the number that its name says. -/
import Derived.Test.YtpoadogiganibaaRows
import Derived.WalkKit
import Derived.WalkLawsBesides
import Derived.WalkSpells
import Derived.LoopTactic
import Derived.Outline
import Derived.Lib.Hide
import Derived.Deep.QuietTactic
import Derived.BigQuiet
import Derived.Lib.Mul64
import Derived.Laws.Bits64b
import Derived.Test.YtpoadogiganibaaArith
import Derived.Test.YtpoadogiganibaaWalk1
set_option linter.unusedVariables false
namespace Go.Proofs.Ytpoadogiganibaa
open Go.RowKit Go.Proofs.Ytpoadogiganibaa.Plain

theorem grownT3 {a b c : World} (h1 : Grown a b) (h2 : Grown b c) : Grown a c :=
  ⟨World.keptBut_trans h1.1 h2.1, fun x => (h2.2.1 x).trans (h1.2.1 x), Nat.le_trans h1.2.2 h2.2.2⟩
theorem grownD {w w' : World} (h : ∃ m, w' = w.drewN m) : Grown w w' := by obtain ⟨m, rfl⟩ := h; exact Grown.refl w
theorem qs {P : Program} {f : FuncId} {args : Array Value} {w : World} {n : Nat} {v : Value} (h : Calls P f args (w.drewN n) fun e w' => e = .returned v ∧ w.drewN n = w') :
    Calls P f args (w.drewN n) fun e w'' => e = .returned v ∧ ∃ m, w'' = w.drewN m := h.mono fun _ _ ⟨he, hm⟩ => ⟨he, n, hm.symm⟩
theorem addC (a b : Nat) : (a : Int) + (b : Int) = ((a + b : Nat) : Int) := (Int.natCast_add a b).symm
theorem mulC (a b : Nat) : (a : Int) * (b : Int) = ((a * b : Nat) : Int) := (Int.natCast_mul a b).symm
theorem divC (a b : Nat) : (a : Int) / (b : Int) = ((a / b : Nat) : Int) := (Int.natCast_ediv a b).symm
theorem modC (a b : Nat) : (a : Int) % (b : Int) = ((a % b : Nat) : Int) := (Int.natCast_emod a b).symm
theorem powC (n : Nat) : ((2 : Int) ^ n) = ((2 ^ n : Nat) : Int) := by simp
theorem bit1 (x k : Nat) : bits .and .u64 ((x : Int) / 2 ^ k) 1 = ((x / 2 ^ k % 2 : Nat) : Int) := by
  rw [powC, divC, show (1 : Int) = ((1 : Nat) : Int) from rfl, and64N, Nat.and_one_is_mod]
  congr 1; omega
theorem bit0 (x : Nat) : bits .and .u64 (x : Int) 1 = ((x % 2 : Nat) : Int) := by
  rw [show (1 : Int) = ((1 : Nat) : Int) from rfl, and64N, Nat.and_one_is_mod]
  congr 1; omega
theorem orShl (o d k : Nat) (ho : o < 2 ^ k) (hd : d ≤ 1) (hk : k < 64) : bits .or .u64 (o : Int) (IntKind.u64.wrap ((d : Int) * 2 ^ k)) = ((o + d * 2 ^ k : Nat) : Int) := by
  have hp : d * 2 ^ k ≤ 1 * 2 ^ k := Nat.mul_le_mul_right _ hd
  have h64 : 2 ^ (k + 1) ≤ 2 ^ 64 := Nat.pow_le_pow_right (by decide) (by omega)
  rw [Nat.pow_succ] at h64
  simp only [Nat.reducePow] at h64
  rw [powC, mulC, wrap64N, Nat.mod_eq_of_lt (by omega), or64N, or_shl o d k ho, Nat.mod_eq_of_lt (by omega)]
theorem orHi (hi lo : Nat) (hh : hi < 4294967296) (hl : lo < 4294967296) : bits .or .u64 ((hi : Int) * 4294967296) (lo : Int) = ((hi * 4294967296 + lo : Nat) : Int) := by
  rw [show (4294967296 : Int) = ((2 ^ 32 : Nat) : Int) from rfl, mulC, or64N, Nat.mul_comm, ← Nat.two_pow_add_eq_or_of_lt (show lo < 2 ^ 32 by simpa using hl), Nat.mod_eq_of_lt (by simp only [Nat.reducePow]; omega)]

set_option maxHeartbeats 1000000 in
theorem add32_any (x y c : Nat) (hx : x < 4294967296) (hy : y < 4294967296) (hc : c ≤ 1) (w : World) :
    Calls Try.prog 26 #[.int .u32 (x : Int), .int .u32 (y : Int), .int .u32 (c : Int)] w fun e w' => e = .returned (.tuple #[.int .u32 (addS 4294967296 x y c : Int), .int .u32 (addO 4294967296 x y c : Int)]) ∧ w = w' := by
  go_enter Try.func26, Try.ntmps26
  go_wp2
  go_ret2
  exact ⟨ret_two (by unfold addS; omega) (by unfold addO; omega), rfl⟩

-- impl begin
theorem add32_i (x y c : Nat) (hx : x < 4294967296) (hy : y < 4294967296) (hc : c ≤ 1) (w : World) :
    Calls Try.prog 14 #[.int .u32 (x : Int), .int .u32 (y : Int), .int .u32 (c : Int)] w fun e w' => e = .returned (.tuple #[.int .u32 (addS 4294967296 x y c : Int), .int .u32 (addO 4294967296 x y c : Int)]) ∧ w = w' := by
  go_enter Try.func14, Try.ntmps14
  go_wp2_with (go_at_call 26; refine (add32_any x y c hx hy hc _).mono ?_; rintro e w' ⟨rfl, hw⟩)
  go_ret2
  exact ⟨by first | rfl | simp, hw⟩
-- impl end
theorem top_and32 (a b : Nat) : (a &&& b) / 2147483648 = (a / 2147483648) &&& (b / 2147483648) := by
  rw [show (2147483648 : Nat) = 2 ^ 31 from rfl, Nat.and_div_two_pow]
theorem top_or32 (a b : Nat) : (a ||| b) / 2147483648 = (a / 2147483648) ||| (b / 2147483648) := by
  rw [show (2147483648 : Nat) = 2 ^ 31 from rfl, Nat.or_div_two_pow]
theorem top_xor32 (a b : Nat) : (a ^^^ b) / 2147483648 = (a / 2147483648) ^^^ (b / 2147483648) := by
  rw [show (2147483648 : Nat) = 2 ^ 31 from rfl, Nat.xor_div_two_pow]
theorem topBit32 (a : Nat) (h : a < 4294967296) : a / 2147483648 = 0 ∨ a / 2147483648 = 1 := by omega
theorem borrow32 (x y c d : Nat) (hx : x < 4294967296) (hy : y < 4294967296) (hc : c ≤ 1) (hd : d = subD 4294967296 x y c) :
    bits .or .u32 (bits .and .u32 (bits .xor .u32 4294967295 (x : Int)) (y : Int)) (bits .and .u32 (bits .xor .u32 4294967295 (bits .xor .u32 (x : Int) (y : Int))) (d : Int)) / 2147483648 = (borB x y c : Int) := by
  unfold subD at hd
  unfold borB
  have hdl : d < 4294967296 := by rw [hd]; exact Nat.mod_lt _ (by decide)
  rw [show (4294967295 : Int) = ((4294967295 : Nat) : Int) from rfl, xor32N, xor32N, xor32N, and32N, and32N, or32N, show (2147483648 : Int) = ((2147483648 : Nat) : Int) from rfl, divC]
  have b1 : (4294967295 ^^^ x) % 4294967296 = 4294967295 ^^^ x := Nat.mod_eq_of_lt (Nat.xor_lt_two_pow (n := 32) (by decide) hx)
  have b2 : (x ^^^ y) % 4294967296 = x ^^^ y := Nat.mod_eq_of_lt (Nat.xor_lt_two_pow (n := 32) hx hy)
  have b3 : x ^^^ y < 4294967296 := Nat.xor_lt_two_pow (n := 32) hx hy
  have b4 : (4294967295 ^^^ (x ^^^ y)) % 4294967296 = 4294967295 ^^^ (x ^^^ y) := Nat.mod_eq_of_lt (Nat.xor_lt_two_pow (n := 32) (by decide) b3)
  have b5 : ((4294967295 ^^^ x) &&& y) % 4294967296 = (4294967295 ^^^ x) &&& y := Nat.mod_eq_of_lt (Nat.and_lt_two_pow (n := 32) _ hy)
  have b6 : ((4294967295 ^^^ (x ^^^ y)) &&& d) % 4294967296 = (4294967295 ^^^ (x ^^^ y)) &&& d := Nat.mod_eq_of_lt (Nat.and_lt_two_pow (n := 32) _ hdl)
  have b7 : (((4294967295 ^^^ x) &&& y) ||| ((4294967295 ^^^ (x ^^^ y)) &&& d)) % 4294967296 = ((4294967295 ^^^ x) &&& y) ||| ((4294967295 ^^^ (x ^^^ y)) &&& d) :=
    Nat.mod_eq_of_lt (Nat.or_lt_two_pow (n := 32) (Nat.and_lt_two_pow (n := 32) _ hy) (Nat.and_lt_two_pow (n := 32) _ hdl))
  rw [b1, b2, b4, b5, b6, b7, top_or32, top_and32, top_and32, top_xor32, top_xor32, top_xor32]
  congr 1
  have t : (4294967295 : Nat) / 2147483648 = 1 := by decide
  rw [t]
  rcases topBit32 x hx with h1 | h1 <;> rcases topBit32 y hy with h2 | h2 <;> rcases topBit32 d hdl with h3 | h3 <;> rw [h1, h2, h3] <;> simp only [Nat.reduceXor, Nat.reduceAnd, Nat.reduceOr] <;> split <;> omega

theorem top_and64 (a b : Nat) : (a &&& b) / 9223372036854775808 = (a / 9223372036854775808) &&& (b / 9223372036854775808) := by
  rw [show (9223372036854775808 : Nat) = 2 ^ 63 from rfl, Nat.and_div_two_pow]
theorem top_or64 (a b : Nat) : (a ||| b) / 9223372036854775808 = (a / 9223372036854775808) ||| (b / 9223372036854775808) := by
  rw [show (9223372036854775808 : Nat) = 2 ^ 63 from rfl, Nat.or_div_two_pow]
theorem top_xor64 (a b : Nat) : (a ^^^ b) / 9223372036854775808 = (a / 9223372036854775808) ^^^ (b / 9223372036854775808) := by
  rw [show (9223372036854775808 : Nat) = 2 ^ 63 from rfl, Nat.xor_div_two_pow]
theorem topBit64 (a : Nat) (h : a < 18446744073709551616) : a / 9223372036854775808 = 0 ∨ a / 9223372036854775808 = 1 := by omega
theorem borrow64 (x y c d : Nat) (hx : x < 18446744073709551616) (hy : y < 18446744073709551616) (hc : c ≤ 1) (hd : d = subD 18446744073709551616 x y c) :
    bits .or .u64 (bits .and .u64 (bits .xor .u64 18446744073709551615 (x : Int)) (y : Int)) (bits .and .u64 (bits .xor .u64 18446744073709551615 (bits .xor .u64 (x : Int) (y : Int))) (d : Int)) / 9223372036854775808 = (borB x y c : Int) := by
  unfold subD at hd
  unfold borB
  have hdl : d < 18446744073709551616 := by rw [hd]; exact Nat.mod_lt _ (by decide)
  rw [show (18446744073709551615 : Int) = ((18446744073709551615 : Nat) : Int) from rfl, xor64N, xor64N, xor64N, and64N, and64N, or64N, show (9223372036854775808 : Int) = ((9223372036854775808 : Nat) : Int) from rfl, divC]
  have b1 : (18446744073709551615 ^^^ x) % 18446744073709551616 = 18446744073709551615 ^^^ x := Nat.mod_eq_of_lt (Nat.xor_lt_two_pow (n := 64) (by decide) hx)
  have b2 : (x ^^^ y) % 18446744073709551616 = x ^^^ y := Nat.mod_eq_of_lt (Nat.xor_lt_two_pow (n := 64) hx hy)
  have b3 : x ^^^ y < 18446744073709551616 := Nat.xor_lt_two_pow (n := 64) hx hy
  have b4 : (18446744073709551615 ^^^ (x ^^^ y)) % 18446744073709551616 = 18446744073709551615 ^^^ (x ^^^ y) := Nat.mod_eq_of_lt (Nat.xor_lt_two_pow (n := 64) (by decide) b3)
  have b5 : ((18446744073709551615 ^^^ x) &&& y) % 18446744073709551616 = (18446744073709551615 ^^^ x) &&& y := Nat.mod_eq_of_lt (Nat.and_lt_two_pow (n := 64) _ hy)
  have b6 : ((18446744073709551615 ^^^ (x ^^^ y)) &&& d) % 18446744073709551616 = (18446744073709551615 ^^^ (x ^^^ y)) &&& d := Nat.mod_eq_of_lt (Nat.and_lt_two_pow (n := 64) _ hdl)
  have b7 : (((18446744073709551615 ^^^ x) &&& y) ||| ((18446744073709551615 ^^^ (x ^^^ y)) &&& d)) % 18446744073709551616 = ((18446744073709551615 ^^^ x) &&& y) ||| ((18446744073709551615 ^^^ (x ^^^ y)) &&& d) :=
    Nat.mod_eq_of_lt (Nat.or_lt_two_pow (n := 64) (Nat.and_lt_two_pow (n := 64) _ hy) (Nat.and_lt_two_pow (n := 64) _ hdl))
  rw [b1, b2, b4, b5, b6, b7, top_or64, top_and64, top_and64, top_xor64, top_xor64, top_xor64]
  congr 1
  have t : (18446744073709551615 : Nat) / 9223372036854775808 = 1 := by decide
  rw [t]
  rcases topBit64 x hx with h1 | h1 <;> rcases topBit64 y hy with h2 | h2 <;> rcases topBit64 d hdl with h3 | h3 <;> rw [h1, h2, h3] <;> simp only [Nat.reduceXor, Nat.reduceAnd, Nat.reduceOr] <;> split <;> omega

theorem subNum32 (x y c : Nat) (hx : x < 4294967296) (hy : y < 4294967296) (hc : c ≤ 1) : ((x : Int) - (y : Int) - (c : Int)) % 4294967296 = (subD 4294967296 x y c : Int) := by
  unfold subD
  omega
set_option maxHeartbeats 1000000 in
theorem sub32_any (x y c : Nat) (hx : x < 4294967296) (hy : y < 4294967296) (hc : c ≤ 1) (w : World) :
    Calls Try.prog 27 #[.int .u32 (x : Int), .int .u32 (y : Int), .int .u32 (c : Int)] w fun e w' => e = .returned (.tuple #[.int .u32 (subD 4294967296 x y c : Int), .int .u32 (borB x y c : Int)]) ∧ w = w' := by
  have hs : ∀ _ : True, (if IntKind.u32.signed = true then -1 else IntKind.u32.max) = (4294967295 : Int) := fun _ => by decide
  have e1 := subNum32 x y c hx hy hc
  obtain ⟨d, hd⟩ : ∃ d, d = subD 4294967296 x y c := ⟨_, rfl⟩
  have e2 := borrow32 x y c d hx hy hc hd
  obtain ⟨b, hb⟩ : ∃ b : Nat, b = borB x y c := ⟨_, rfl⟩
  rw [← hd] at e1 ⊢
  rw [← hb] at e2 ⊢
  have r1 : ∀ _ : True, _ = _ := fun _ => e1
  have r2 : ∀ _ : True, _ = _ := fun _ => e2
  have E1 := Lib.hid e1
  clear e1 e2 hd hb
  go_enter Try.func27, Try.ntmps27
  go_wp2
  go_ret2
  have e1 := E1.out
  exact ⟨ret_two (by first | exact e1 | omega) rfl, rfl⟩

-- impl begin
theorem sub32_i (x y c : Nat) (hx : x < 4294967296) (hy : y < 4294967296) (hc : c ≤ 1) (w : World) :
    Calls Try.prog 15 #[.int .u32 (x : Int), .int .u32 (y : Int), .int .u32 (c : Int)] w fun e w' => e = .returned (.tuple #[.int .u32 (subD 4294967296 x y c : Int), .int .u32 (borB x y c : Int)]) ∧ w = w' := by
  go_enter Try.func15, Try.ntmps15
  go_wp2_with (go_at_call 27; refine (sub32_any x y c hx hy hc _).mono ?_; rintro e w' ⟨rfl, hw⟩)
  go_ret2
  exact ⟨by first | rfl | simp, hw⟩
-- impl end
theorem mul32_lt (x y : Nat) (hx : x < 4294967296) (hy : y < 4294967296) : x * y < 18446744073709551616 := by
  have : x * y ≤ 4294967295 * 4294967295 := Nat.mul_le_mul (by omega) (by omega)
  omega

set_option maxHeartbeats 1000000 in
theorem div32_any (hi lo y : Nat) (hh : hi < 4294967296) (hl : lo < 4294967296) (hy : y < 4294967296) (h : hi < y) (w : World) :
    Calls Try.prog 35 #[.int .u32 (hi : Int), .int .u32 (lo : Int), .int .u32 (y : Int)] w fun e w' => e = .returned (.tuple #[.int .u32 (divQ 4294967296 hi lo y : Int), .int .u32 (divR 4294967296 hi lo y : Int)]) ∧ ∃ m, w' = w.drewN m := by
  have e := orHi hi lo hh hl
  have q1 : (hi * 4294967296 + lo) / y < 4294967296 := by
    rw [Nat.div_lt_iff_lt_mul (by omega)]
    have : (hi + 1) * 4294967296 ≤ y * 4294967296 := Nat.mul_le_mul_right _ (by omega)
    rw [Nat.mul_comm 4294967296 y]; omega
  have q2 : (hi * 4294967296 + lo) % y < y := Nat.mod_lt _ (by omega)
  obtain ⟨z, hz⟩ : ∃ z, z = hi * 4294967296 + lo := ⟨_, rfl⟩
  rw [← hz] at e q1 q2
  have r1 : ∀ _ : True, _ = _ := fun _ => e
  have Q1 := Lib.hid q1
  have Q2 := Lib.hid q2
  have n1 : ((y : Int) == 0) = false := by simp; omega
  have n2 : ((y : Int) != 0) = true := by simp; omega
  have n3 : decide (y ≤ hi) = false := by simp; omega
  have n4 : ∀ _ : True, ¬ ((y : Int) = 0) := fun _ => by omega
  have hz0 : (0 : Int) ≤ (z : Int) := by omega
  have hy1 : (1 : Int) ≤ (y : Int) := by omega
  have HZ := Lib.hid hz
  clear e hz q1 q2
  go_enter Try.func35, Try.ntmps35
  go_wp2
  go_quiet (fail)
  go_wp2
  go_ret2
  have q1 := Q1.out
  have q2 := Q2.out
  refine ⟨ret_two ?_ ?_, _, rfl⟩
  · unfold divQ
    rw [← HZ.out, divC, wrap64N, Nat.mod_eq_of_lt (by omega), show (4294967296 : Int) = ((4294967296 : Nat) : Int) from rfl, modC, Nat.mod_eq_of_lt (by omega)]
  · unfold divR
    rw [← HZ.out, modC, show (4294967296 : Int) = ((4294967296 : Nat) : Int) from rfl, modC, Nat.mod_eq_of_lt (by omega)]

-- impl begin
set_option maxHeartbeats 1000000 in
theorem rem32_any (hi lo y : Nat) (hh : hi < 4294967296) (hl : lo < 4294967296) (hy : y < 4294967296) (h : 0 < y) (w : World) :
    Calls Try.prog 36 #[.int .u32 (hi : Int), .int .u32 (lo : Int), .int .u32 (y : Int)] w fun e w' => e = .returned (.int .u32 (divR 4294967296 hi lo y : Int)) ∧ w = w' := by
  have e := orHi hi lo hh hl
  have q2 : (hi * 4294967296 + lo) % y < y := Nat.mod_lt _ (by omega)
  obtain ⟨z, hz⟩ : ∃ z, z = hi * 4294967296 + lo := ⟨_, rfl⟩
  rw [← hz] at e q2
  have r1 : ∀ _ : True, _ = _ := fun _ => e
  have Q2 := Lib.hid q2
  have HZ := Lib.hid hz
  clear e hz q2
  go_enter Try.func36, Try.ntmps36
  go_wp2
  go_ret
  have q2 := Q2.out
  refine ⟨ret_int ?_, rfl⟩
  unfold divR
  rw [← HZ.out, modC, show (4294967296 : Int) = ((4294967296 : Nat) : Int) from rfl, modC, Nat.mod_eq_of_lt (by omega)]

-- impl begin
set_option maxHeartbeats 1000000 in
theorem specSum (x y c n : Nat) (hx : x < 18446744073709551616) (hy : y < 18446744073709551616) (hc : c ≤ 1) (hn : n ≤ 64) (w : World) :
    Calls Try.prog 17 #[.int .u64 (x : Int), .int .u64 (y : Int), .int .u64 (c : Int), .int .i64 (n : Int)] w fun e w' => e = .returned (.tuple #[.int .u64 (sO x y c n : Int), .int .u64 (sC x y c n : Int)]) ∧ Grown w w' := by
  go_enter Try.func17, Try.ntmps17
  go_wp2
  go_loopw [2, 10, 14] (fun cr o i wr => ∃ k : Nat, k ≤ n ∧ i = .int .i64 (k : Int) ∧ o = .int .u64 (sO x y c k : Int) ∧ cr = .int .u64 (sC x y c k : Int) ∧ Grown w wr) (fun _ _ i _ => (n - intOf i).toNat)
  case atStart => exact ⟨0, Nat.zero_le _, rfl, by simp [sO], by simp [sC], Grown.refl _⟩
  case round =>
    obtain ⟨k, hk, rfl, rfl, rfl, hgr⟩ := hrel
    by_cases h0 : k < n
    · obtain ⟨s1, s2⟩ := s_step x y c k hc
      have ho := sO_lt x y c k
      have hcr := sC_le x y c k hc
      have e1 := bit1 x k
      have e2 := bit1 y k
      obtain ⟨a, ha⟩ : ∃ a, a = x / 2 ^ k % 2 := ⟨_, rfl⟩
      obtain ⟨b, hb⟩ : ∃ b, b = y / 2 ^ k % 2 := ⟨_, rfl⟩
      have ha1 : a ≤ 1 := by omega
      have hb1 : b ≤ 1 := by omega
      rw [← ha, ← hb] at s1 s2
      rw [← ha] at e1
      rw [← hb] at e2
      clear ha hb
      obtain ⟨cr, hcr0⟩ : ∃ cr, cr = sC x y c k := ⟨_, rfl⟩
      obtain ⟨o, ho0⟩ : ∃ o, o = sO x y c k := ⟨_, rfl⟩
      rw [← hcr0] at s1 s2 hcr ⊢
      rw [← ho0] at s1 ho ⊢
      clear hcr0 ho0
      have e3 := bit0 (a + b + cr)
      obtain ⟨d, hd⟩ : ∃ d, d = (a + b + cr) % 2 := ⟨_, rfl⟩
      have hd1 : d ≤ 1 := by omega
      rw [← hd] at e3 s1
      have e4 := orShl o d k ho hd1 (by omega)
      have r1 : ∀ _ : True, _ = _ := fun _ => e1
      have r2 : ∀ _ : True, _ = _ := fun _ => e2
      have r3 : ∀ _ : True, bits .and .u64 ((a : Int) + (b : Int) + (cr : Int)) 1 = (d : Int) := fun _ => by rw [← e3]; simp
      have r4 : ∀ _ : True, _ = _ := fun _ => e4
      have HS := Lib.hid (And.intro s1 s2)
      clear e1 e2 e3 e4 s1 s2 hd ho
      go_wp2
      go_quiet (fail)
      go_wp2
      go_roundw
      case rel => exact ⟨k + 1, by omega, by go_num, by rw [HS.out.1]; simp, by rw [HS.out.2]; simp, hgr⟩
      case measure => simp [intOf]; omega
    · obtain rfl : k = n := by omega
      go_wp2
      go_ret2
      exact ⟨rfl, hgr⟩

set_option maxHeartbeats 1000000 in
theorem specDiff (x y c n : Nat) (hx : x < 18446744073709551616) (hy : y < 18446744073709551616) (hc : c ≤ 1) (hn : n ≤ 64) (w : World) :
    Calls Try.prog 19 #[.int .u64 (x : Int), .int .u64 (y : Int), .int .u64 (c : Int), .int .i64 (n : Int)] w fun e w' => e = .returned (.tuple #[.int .u64 (dO x y c n : Int), .int .u64 (dB x y c n : Int)]) ∧ Grown w w' := by
  go_enter Try.func19, Try.ntmps19
  go_wp2
  go_loopw [2, 10, 15] (fun cr o i wr => ∃ k : Nat, k ≤ n ∧ i = .int .i64 (k : Int) ∧ o = .int .u64 (dO x y c k : Int) ∧ cr = .int .u64 (dB x y c k : Int) ∧ Grown w wr) (fun _ _ i _ => (n - intOf i).toNat)
  case atStart =>
    have h1 : dB x y c 0 = c := by unfold dB; simp [Nat.mod_one]; split <;> omega
    have h2 : dO x y c 0 = 0 := by unfold dO; rw [h1]; simp [Nat.mod_one]
    exact ⟨0, Nat.zero_le _, rfl, by rw [h2]; rfl, by rw [h1], Grown.refl _⟩
  case round =>
    obtain ⟨k, hk, rfl, rfl, rfl, hgr⟩ := hrel
    by_cases h0 : k < n
    · obtain ⟨s1, s2⟩ := d_step x y c k hc
      have ho := (d_inv x y c k hc).1
      have hcr := dB_le x y c k
      have e1 := bit1 x k
      have e2 := bit1 y k
      obtain ⟨a, ha⟩ : ∃ a, a = x / 2 ^ k % 2 := ⟨_, rfl⟩
      obtain ⟨b, hb⟩ : ∃ b, b = y / 2 ^ k % 2 := ⟨_, rfl⟩
      have ha1 : a ≤ 1 := by omega
      have hb1 : b ≤ 1 := by omega
      rw [← ha, ← hb] at s1 s2
      rw [← ha] at e1
      rw [← hb] at e2
      clear ha hb
      obtain ⟨cr, hcr0⟩ : ∃ cr, cr = dB x y c k := ⟨_, rfl⟩
      obtain ⟨o, ho0⟩ : ∃ o, o = dO x y c k := ⟨_, rfl⟩
      rw [← hcr0] at s1 s2 hcr ⊢
      rw [← ho0] at s1 ho ⊢
      clear hcr0 ho0
      have e3 := bit0 (a + (b + cr))
      obtain ⟨d, hd⟩ : ∃ d, d = (a + (b + cr)) % 2 := ⟨_, rfl⟩
      have hd1 : d ≤ 1 := by omega
      rw [← hd] at e3 s1
      have e4 := orShl o d k ho hd1 (by omega)
      have r1 : ∀ _ : True, _ = _ := fun _ => e1
      have r2 : ∀ _ : True, _ = _ := fun _ => e2
      have r3 : ∀ _ : True, bits .and .u64 ((a : Int) + ((b : Int) + (cr : Int))) 1 = (d : Int) := fun _ => by rw [← e3]; simp
      have r4 : ∀ _ : True, _ = _ := fun _ => e4
      by_cases hlt : a < b + cr
      · rw [if_pos hlt] at s2
        have HS := Lib.hid (And.intro s1 s2)
        clear e1 e2 e3 e4 s1 s2 hd ho
        go_wp2
        go_quiet (fail)
        go_wp2
        go_roundw
        case rel => exact ⟨k + 1, by omega, by go_num, by rw [HS.out.1]; simp, by rw [HS.out.2]; rfl, hgr⟩
        case measure => simp [intOf]; omega
      · rw [if_neg hlt] at s2
        have HS := Lib.hid (And.intro s1 s2)
        clear e1 e2 e3 e4 s1 s2 hd ho
        go_wp2
        go_quiet (fail)
        go_wp2
        go_roundw
        case rel => exact ⟨k + 1, by omega, by go_num, by rw [HS.out.1]; simp, by rw [HS.out.2]; rfl, hgr⟩
        case measure => simp [intOf]; omega
    · obtain rfl : k = n := by omega
      go_wp2
      go_ret2
      exact ⟨rfl, hgr⟩

theorem subNum64 (x y c : Nat) (hx : x < 18446744073709551616) (hy : y < 18446744073709551616) (hc : c ≤ 1) : IntKind.u64.wrap (IntKind.u64.wrap ((x : Int) - (y : Int)) - (c : Int)) = (subD 18446744073709551616 x y c : Int) := by
  unfold subD
  rw [IntKind.wrap_u64, IntKind.wrap_u64]; omega
set_option maxHeartbeats 1000000 in
theorem sub64_any (x y c : Nat) (hx : x < 18446744073709551616) (hy : y < 18446744073709551616) (hc : c ≤ 1) (w : World) :
    Calls Try.prog 29 #[.int .u64 (x : Int), .int .u64 (y : Int), .int .u64 (c : Int)] w fun e w' => e = .returned (.tuple #[.int .u64 (subD 18446744073709551616 x y c : Int), .int .u64 (borB x y c : Int)]) ∧ w = w' := by
  have hs : ∀ _ : True, (if IntKind.u64.signed = true then -1 else IntKind.u64.max) = (18446744073709551615 : Int) := fun _ => by decide
  have e1 := subNum64 x y c hx hy hc
  obtain ⟨d, hd⟩ : ∃ d, d = subD 18446744073709551616 x y c := ⟨_, rfl⟩
  have e2 := borrow64 x y c d hx hy hc hd
  obtain ⟨b, hb⟩ : ∃ b : Nat, b = borB x y c := ⟨_, rfl⟩
  rw [← hd] at e1 ⊢
  rw [← hb] at e2 ⊢
  have r1 : ∀ _ : True, _ = _ := fun _ => e1
  have r2 : ∀ _ : True, _ = _ := fun _ => e2
  have E1 := Lib.hid e1
  clear e1 e2 hd hb
  go_enter Try.func29, Try.ntmps29
  go_wp2
  go_ret2
  have e1 := E1.out
  exact ⟨ret_two (by first | exact e1 | omega) rfl, rfl⟩

-- impl begin
theorem sub64_i (x y c : Nat) (hx : x < 18446744073709551616) (hy : y < 18446744073709551616) (hc : c ≤ 1) (w : World) :
    Calls Try.prog 18 #[.int .u64 (x : Int), .int .u64 (y : Int), .int .u64 (c : Int)] w fun e w' => e = .returned (.tuple #[.int .u64 (subD 18446744073709551616 x y c : Int), .int .u64 (borB x y c : Int)]) ∧ w = w' := by
  go_enter Try.func18, Try.ntmps18
  go_wp2_with (go_at_call 29; refine (sub64_any x y c hx hy hc _).mono ?_; rintro e w' ⟨rfl, hw⟩)
  go_ret2
  exact ⟨by first | rfl | simp, hw⟩
-- impl end
theorem carry64 (x y c s : Nat) (hx : x < 18446744073709551616) (hy : y < 18446744073709551616) (hc : c ≤ 1) (hs : s = addS 18446744073709551616 x y c) :
    bits .or .u64 (bits .and .u64 (x : Int) (y : Int)) (bits .andNot .u64 (bits .or .u64 (x : Int) (y : Int)) (s : Int)) / 9223372036854775808 = (addO 18446744073709551616 x y c : Int) := by
  unfold addS at hs
  have hsl : s < 18446744073709551616 := by rw [hs]; exact Nat.mod_lt _ (by decide)
  have o1 : x ||| y < 18446744073709551616 := Nat.or_lt_two_pow (n := 64) hx hy
  have a1 : x &&& y < 18446744073709551616 := Nat.and_lt_two_pow (n := 64) _ hy
  rw [or64N, and64N, Nat.mod_eq_of_lt o1, Nat.mod_eq_of_lt a1, andNot64N, Nat.mod_eq_of_lt o1, Nat.mod_eq_of_lt hsl, or64N]
  have a2 : (x ||| y) &&& (18446744073709551615 - s) < 18446744073709551616 := Nat.and_lt_two_pow (n := 64) _ (by omega)
  rw [Nat.mod_eq_of_lt (Nat.or_lt_two_pow (n := 64) a1 a2), show (9223372036854775808 : Int) = ((9223372036854775808 : Nat) : Int) from rfl, divC, top_or64, top_and64, top_and64, top_or64]
  congr 1
  unfold addO
  have hns : (18446744073709551615 - s) / 9223372036854775808 = 1 - s / 9223372036854775808 := by omega
  rw [hns]
  rcases topBit64 x hx with h1 | h1 <;> rcases topBit64 y hy with h2 | h2 <;> rcases topBit64 s hsl with h3 | h3 <;> rw [h1, h2, h3] <;> simp only [Nat.reduceSub, Nat.reduceAnd, Nat.reduceOr] <;> omega
set_option maxHeartbeats 1000000 in
theorem add64_any (x y c : Nat) (hx : x < 18446744073709551616) (hy : y < 18446744073709551616) (hc : c ≤ 1) (w : World) :
    Calls Try.prog 28 #[.int .u64 (x : Int), .int .u64 (y : Int), .int .u64 (c : Int)] w fun e w' => e = .returned (.tuple #[.int .u64 (addS 18446744073709551616 x y c : Int), .int .u64 (addO 18446744073709551616 x y c : Int)]) ∧ w = w' := by
  obtain ⟨s, hs⟩ : ∃ s, s = addS 18446744073709551616 x y c := ⟨_, rfl⟩
  have e1 : IntKind.u64.wrap (IntKind.u64.wrap ((x : Int) + (y : Int)) + (c : Int)) = (s : Int) := by
    rw [hs]; unfold addS; rw [IntKind.wrap_u64, IntKind.wrap_u64]; omega
  have e2 := carry64 x y c s hx hy hc hs
  obtain ⟨b, hb⟩ : ∃ b : Nat, b = addO 18446744073709551616 x y c := ⟨_, rfl⟩
  rw [← hs]
  rw [← hb] at e2 ⊢
  have r1 : ∀ _ : True, _ = _ := fun _ => e1
  have r2 : ∀ _ : True, _ = _ := fun _ => e2
  clear e1 e2 hs hb
  go_enter Try.func28, Try.ntmps28
  go_wp2
  go_ret2
  exact ⟨rfl, rfl⟩

-- impl begin
theorem add64_i (x y c : Nat) (hx : x < 18446744073709551616) (hy : y < 18446744073709551616) (hc : c ≤ 1) (w : World) :
    Calls Try.prog 16 #[.int .u64 (x : Int), .int .u64 (y : Int), .int .u64 (c : Int)] w fun e w' => e = .returned (.tuple #[.int .u64 (addS 18446744073709551616 x y c : Int), .int .u64 (addO 18446744073709551616 x y c : Int)]) ∧ w = w' := by
  go_enter Try.func16, Try.ntmps16
  go_wp2_with (go_at_call 28; refine (add64_any x y c hx hy hc _).mono ?_; rintro e w' ⟨rfl, hw⟩)
  go_ret2
  exact ⟨by first | rfl | simp, hw⟩
-- impl end
theorem mask32 (a : Nat) (ha : a < 18446744073709551616) : bits .and .u64 (a : Int) 4294967295 = ((a % 4294967296 : Nat) : Int) := by
  rw [show (4294967295 : Int) = ((2 ^ 32 - 1 : Nat) : Int) from rfl, and64N, Nat.and_two_pow_sub_one_eq_mod]
  simp only [Nat.reducePow]; congr 1; omega
theorem div32C (a : Nat) : (a : Int) / 4294967296 = ((a / 4294967296 : Nat) : Int) := by omega
theorem wrapN (a : Nat) (ha : a < 18446744073709551616) : IntKind.u64.wrap (a : Int) = (a : Int) := by rw [wrap64N, Nat.mod_eq_of_lt ha]
set_option maxHeartbeats 1000000 in
theorem mul64_any (x y : Nat) (hx : x < 18446744073709551616) (hy : y < 18446744073709551616) (w : World) :
    Calls Try.prog 30 #[.int .u64 (x : Int), .int .u64 (y : Int)] w fun e w' => e = .returned (.tuple #[.int .u64 (mulH 18446744073709551616 x y : Int), .int .u64 (mulL 18446744073709551616 x y : Int)]) ∧ w = w' := by
  obtain ⟨bd, bt, bw, hhi⟩ := Lib.mul64_hi x y hx hy
  have ba := Lib.half_mul_le (a := x / 4294967296) (b := y / 4294967296) (by omega) (by omega)
  have bb := Lib.half_mul_le (a := x / 4294967296) (b := y % 4294967296) (by omega) (by omega)
  have bc := Lib.half_mul_le (a := x % 4294967296) (b := y / 4294967296) (by omega) (by omega)
  have ba' : x / 4294967296 * (y / 4294967296) < 18446744073709551616 := by omega
  have bb' : x / 4294967296 * (y % 4294967296) < 18446744073709551616 := by omega
  have bc' : x % 4294967296 * (y / 4294967296) < 18446744073709551616 := by omega
  have bh1 : x / 4294967296 * (y / 4294967296) + (x / 4294967296 * (y % 4294967296) + x % 4294967296 * (y % 4294967296) / 4294967296) / 4294967296 < 18446744073709551616 := by omega
  have bh : x / 4294967296 * (y / 4294967296) + (x / 4294967296 * (y % 4294967296) + x % 4294967296 * (y % 4294967296) / 4294967296) / 4294967296 + ((x / 4294967296 * (y % 4294967296) + x % 4294967296 * (y % 4294967296) / 4294967296) % 4294967296 + x % 4294967296 * (y / 4294967296)) / 4294967296 < 18446744073709551616 := by omega
  go_enter Try.func30, Try.ntmps30
  go_wp2
  simp only [mask32 x hx, mask32 y hy, div32C, mulC, addC, wrapN _ bd, wrapN _ bb', wrapN _ bt, mask32 _ bt, wrapN _ bc', wrapN _ bw, wrapN _ ba', wrapN _ bh1, wrapN _ bh, wrap64N (x * y)]
  rw [hhi]
  go_ret2
  exact ⟨rfl, rfl⟩

-- impl begin
theorem mul64_i (x y : Nat) (hx : x < 18446744073709551616) (hy : y < 18446744073709551616) (w : World) :
    Calls Try.prog 20 #[.int .u64 (x : Int), .int .u64 (y : Int)] w fun e w' => e = .returned (.tuple #[.int .u64 (mulH 18446744073709551616 x y : Int), .int .u64 (mulL 18446744073709551616 x y : Int)]) ∧ w = w' := by
  go_enter Try.func20, Try.ntmps20
  go_wp2_with (go_at_call 30; refine (mul64_any x y hx hy _).mono ?_; rintro e w' ⟨rfl, hw⟩)
  go_ret2
  exact ⟨by first | rfl | simp, hw⟩
-- impl end
theorem or_one (q : Nat) (hq : 2 * q < 18446744073709551616) : bits .or .u64 ((2 * q : Nat) : Int) 1 = ((2 * q + 1 : Nat) : Int) := by
  rw [show (1 : Int) = ((1 : Nat) : Int) from rfl, or64N]
  have h := Nat.two_pow_add_eq_or_of_lt (show 1 < 2 ^ 1 by decide) q
  rw [Nat.pow_one] at h
  rw [← h, Nat.mod_eq_of_lt (by omega)]
theorem or_bit (r b : Nat) (hb : b ≤ 1) : bits .or .u64 (IntKind.u64.wrap ((r : Int) * 2)) (b : Int) = (((2 * r + b) % 18446744073709551616 : Nat) : Int) := by
  have e : IntKind.u64.wrap ((r : Int) * 2) = ((2 * (r % 9223372036854775808) : Nat) : Int) := by rw [IntKind.wrap_u64]; omega
  rw [e, or64N]
  have h := Nat.two_pow_add_eq_or_of_lt (show b < 2 ^ 1 by omega) (r % 9223372036854775808)
  rw [Nat.pow_one] at h
  rw [← h]; congr 1; omega
set_option maxHeartbeats 1000000 in
theorem quot_any (hi lo y : Nat) (hh : hi < y) (hl : lo < 18446744073709551616) (hy : y < 18446744073709551616) (w : World) :
    Calls Try.prog 23 #[.int .u64 (hi : Int), .int .u64 (lo : Int), .int .u64 (y : Int)] w fun e w' => e = .returned (.tuple #[.int .u64 (divQ 18446744073709551616 hi lo y : Int), .int .u64 (divR 18446744073709551616 hi lo y : Int)]) ∧ w = w' := by
  have hy0 : 0 < y := by omega
  go_enter Try.func23, Try.ntmps23
  go_wp2
  go_loop [0, 8, 9] (fun h q i => ∃ k : Nat, k ≤ 64 ∧ i = .int .i64 ((k : Int) - 1) ∧ h = .int .u64 (qA hi lo k % y : Nat) ∧ q = .int .u64 (qA hi lo k / y : Nat)) (fun _ _ i => (intOf i + 1).toNat)
  case atStart => exact ⟨64, by omega, rfl, by rw [qA_top hi lo hl, Nat.mod_eq_of_lt hh], by rw [qA_top hi lo hl, Nat.div_eq_of_lt hh]; rfl⟩
  case round =>
    obtain ⟨k, hk, rfl, rfl, rfl⟩ := hrel
    by_cases h0 : 0 < k
    · obtain ⟨j, rfl⟩ : ∃ j : Nat, k = j + 1 := ⟨k - 1, by omega⟩
      have ej : ((j + 1 : Nat) : Int) - 1 = (j : Int) := by omega
      rw [ej]
      clear ej
      have hs := qA_step hi lo j (by omega)
      have hql := qA_lt hi lo y (j + 1) (by omega) hh hl
      have hp2 : 2 ^ (64 - (j + 1)) ≤ 2 ^ 63 := Nat.pow_le_pow_right (by decide) (by omega)
      have e1 := bit1 lo j
      obtain ⟨b, hb⟩ : ∃ b, b = lo / 2 ^ j % 2 := ⟨_, rfl⟩
      have hb1 : b ≤ 1 := by omega
      rw [← hb] at e1 hs
      obtain ⟨d1, d2⟩ := div_dbl (qA hi lo (j + 1)) b y hy0 hb1
      rw [← hs] at d1 d2
      have hrl : qA hi lo (j + 1) % y < y := Nat.mod_lt _ hy0
      obtain ⟨r, hr⟩ : ∃ r, r = qA hi lo (j + 1) % y := ⟨_, rfl⟩
      obtain ⟨q, hq⟩ : ∃ q, q = qA hi lo (j + 1) / y := ⟨_, rfl⟩
      rw [← hr] at d1 d2 hrl ⊢
      rw [← hq] at d1 d2 hql ⊢
      clear hr hq hs hb
      have hq63 : q < 9223372036854775808 := Nat.lt_of_lt_of_le hql hp2
      have e2 := or_bit r b hb1
      have e3 : IntKind.u64.wrap ((q : Int) * 2) = ((2 * q : Nat) : Int) := by rw [IntKind.wrap_u64]; omega
      have e4 := or_one q (by omega)
      obtain ⟨h, hh2⟩ : ∃ h, h = (2 * r + b) % 18446744073709551616 := ⟨_, rfl⟩
      obtain ⟨q2, hq2⟩ : ∃ q2, q2 = 2 * q := ⟨_, rfl⟩
      rw [← hh2] at e2
      rw [← hq2] at e3 e4
      have r1 : ∀ _ : True, _ = _ := fun _ => e1
      have r2 : ∀ _ : True, _ = _ := fun _ => e2
      have r3 : ∀ _ : True, _ = _ := fun _ => e3
      have r4 : ∀ _ : True, _ = _ := fun _ => e4
      rcases (by omega : 9223372036854775808 ≤ r ∨ (r < 9223372036854775808 ∧ y ≤ h) ∨ (r < 9223372036854775808 ∧ h < y)) with c | c | c
      · obtain ⟨f1, f2⟩ := d2 (by omega)
        have e5 : IntKind.u64.wrap ((h : Int) - (y : Int)) = ((2 * r + b - y : Nat) : Int) := by rw [IntKind.wrap_u64]; omega
        have r5 : ∀ _ : True, _ = _ := fun _ => e5
        have t1 : ∀ _ : True, ((r : Int) / 9223372036854775808 == 1) = true := fun _ => by simp; omega
        have HF := Lib.hid (And.intro f1 (And.intro f2 hq2))
        clear e1 e2 e3 e4 e5 d1 d2 f1 f2 hq2 hh2 c hq63 hql hrl hp2
        go_wp2
        go_round
        case rel => exact ⟨j, by omega, by go_num, by rw [HF.out.2.1], by rw [HF.out.1, HF.out.2.2]; simp⟩
        case measure => simp [intOf]
      · obtain ⟨f1, f2⟩ := d2 (by omega)
        have e5 : IntKind.u64.wrap ((h : Int) - (y : Int)) = ((2 * r + b - y : Nat) : Int) := by rw [IntKind.wrap_u64]; omega
        have r5 : ∀ _ : True, _ = _ := fun _ => e5
        have t1 : ∀ _ : True, ((r : Int) / 9223372036854775808 == 1) = false := fun _ => by simp; omega
        have t2 : decide (y ≤ h) = true := by simp; omega
        have HF := Lib.hid (And.intro f1 (And.intro f2 hq2))
        clear e1 e2 e3 e4 e5 d1 d2 f1 f2 hq2 hh2 c hq63 hql hrl hp2
        go_wp2
        go_round
        case rel => exact ⟨j, by omega, by go_num, by rw [HF.out.2.1], by rw [HF.out.1, HF.out.2.2]; simp⟩
        case measure => simp [intOf]
      · obtain ⟨f1, f2⟩ := d1 (by omega)
        have t1 : ∀ _ : True, ((r : Int) / 9223372036854775808 == 1) = false := fun _ => by simp; omega
        have t2 : decide (y ≤ h) = false := by simp; omega
        have hh3 : h = 2 * r + b := by omega
        have HF := Lib.hid (And.intro f1 (And.intro f2 (And.intro hq2 hh3)))
        clear e1 e2 e3 e4 d1 d2 f1 f2 hq2 hh2 hh3 c hq63 hql hrl hp2
        go_wp2
        go_round
        case rel => exact ⟨j, by omega, by go_num, by rw [HF.out.2.1, HF.out.2.2.2], by rw [HF.out.1, HF.out.2.2.1]⟩
        case measure => simp [intOf]
    · obtain rfl : k = 0 := by omega
      go_wp2
      go_ret2
      exact ⟨ret_two (by rw [qA_zero]; rfl) (by rw [qA_zero]; rfl), rfl⟩

theorem hiLo (V : Nat) (hV : 2 * V < 340282366920938463463374607431768211456) : bits .or .u64 (IntKind.u64.wrap (((V / 18446744073709551616 : Nat) : Int) * 2)) (((V % 18446744073709551616 : Nat) : Int) / 9223372036854775808) = ((2 * V / 18446744073709551616 : Nat) : Int) := by
  have e : ((V % 18446744073709551616 : Nat) : Int) / 9223372036854775808 = ((V % 18446744073709551616 / 9223372036854775808 : Nat) : Int) := by omega
  rw [e, or_bit _ _ (by omega)]
  congr 1; omega
set_option maxHeartbeats 1000000 in
theorem prod_any (x y : Nat) (hx : x < 18446744073709551616) (hy : y < 18446744073709551616) (w : World) :
    Calls Try.prog 21 #[.int .u64 (x : Int), .int .u64 (y : Int)] w fun e w' => e = .returned (.tuple #[.int .u64 (mulH 18446744073709551616 x y : Int), .int .u64 (mulL 18446744073709551616 x y : Int)]) ∧ Grown w w' := by
  go_enter Try.func21, Try.ntmps21
  go_wp2
  go_loopw [6, 7, 8] (fun h l i wr => ∃ k : Nat, k ≤ 64 ∧ i = .int .i64 ((k : Int) - 1) ∧ h = .int .u64 (pV x y k / 18446744073709551616 : Nat) ∧ l = .int .u64 (pV x y k % 18446744073709551616 : Nat) ∧ Grown w wr) (fun _ _ i _ => (intOf i + 1).toNat)
  case atStart =>
    have e : pV x y 64 = 0 := by unfold pV; rw [Nat.div_eq_of_lt hy, Nat.mul_zero]
    exact ⟨64, by omega, rfl, by rw [e]; rfl, by rw [e]; rfl, Grown.refl _⟩
  case round =>
    obtain ⟨k, hk, rfl, rfl, rfl, hgr⟩ := hrel
    by_cases h0 : 0 < k
    · obtain ⟨j, rfl⟩ : ∃ j : Nat, k = j + 1 := ⟨k - 1, by omega⟩
      have ej : ((j + 1 : Nat) : Int) - 1 = (j : Int) := by omega
      rw [ej]
      clear ej
      have hs := pV_step x y j
      have hlt := pV_lt x y j hx hy
      have e1 := hiLo (pV x y (j + 1)) (by omega)
      have e2 : IntKind.u64.wrap (((pV x y (j + 1) % 18446744073709551616 : Nat) : Int) * 2) = ((2 * pV x y (j + 1) % 18446744073709551616 : Nat) : Int) := by rw [IntKind.wrap_u64]; omega
      obtain ⟨V, hV⟩ : ∃ V, V = pV x y (j + 1) := ⟨_, rfl⟩
      rw [← hV] at hs e1 e2 ⊢
      obtain ⟨h1, hh1⟩ : ∃ h1, h1 = V / 18446744073709551616 := ⟨_, rfl⟩
      obtain ⟨l1, hl1⟩ : ∃ l1, l1 = V % 18446744073709551616 := ⟨_, rfl⟩
      obtain ⟨h2, hh2⟩ : ∃ h2, h2 = 2 * V / 18446744073709551616 := ⟨_, rfl⟩
      obtain ⟨l2, hl2⟩ : ∃ l2, l2 = 2 * V % 18446744073709551616 := ⟨_, rfl⟩
      rw [← hh1, ← hl1, ← hh2] at e1
      rw [← hl1, ← hl2] at e2
      rw [← hh1, ← hl1]
      have r1 : ∀ _ : True, _ = _ := fun _ => e1
      have r2 : ∀ _ : True, _ = _ := fun _ => e2
      by_cases hb : y.testBit j = true
      · rw [hb] at hs
        simp only [Bool.toNat_true, Nat.one_mul] at hs
        have c2 := fun w => specSum l2 x 0 64 (by omega) hx (by decide) (by decide) w
        have f1 : sO l2 x 0 64 = pV x y j % 18446744073709551616 := by unfold sO; simp only [Nat.reducePow]; omega
        have f2 : h2 + sC l2 x 0 64 = pV x y j / 18446744073709551616 := by unfold sC; simp only [Nat.reducePow]; omega
        rw [f1] at c2
        obtain ⟨cr, hcr⟩ : ∃ cr, cr = sC l2 x 0 64 := ⟨_, rfl⟩
        rw [← hcr] at c2 f2
        have e3 : IntKind.u64.wrap ((h2 : Int) + (cr : Int)) = ((pV x y j / 18446744073709551616 : Nat) : Int) := by rw [addC, f2, wrap64N, Nat.mod_eq_of_lt (by omega)]
        obtain ⟨h3, hh3⟩ : ∃ h3, h3 = pV x y j / 18446744073709551616 := ⟨_, rfl⟩
        obtain ⟨l3, hl3⟩ : ∃ l3, l3 = pV x y j % 18446744073709551616 := ⟨_, rfl⟩
        rw [← hh3] at e3
        rw [← hl3] at c2
        have r3 : ∀ _ : True, _ = _ := fun _ => e3
        have C2 := Lib.hid c2
        have HB := Lib.hid hb
        have HF := Lib.hid (And.intro hh3 hl3)
        clear e1 e2 e3 hs hlt hV hh1 hl1 hh2 hl2 c2 f1 f2 hcr hh3 hl3 hb
        go_wp2_with (first | (go_at_call 31; refine (bit_yes y j hy (by omega) HB.out _).mono ?_; rintro e w' ⟨rfl, rfl⟩) | (go_at_call 17; refine (C2.out _).mono ?_; rintro e w2 ⟨rfl, hg2⟩))
        go_roundw
        case rel => exact ⟨j, by omega, by go_num, by rw [← HF.out.1], by rw [← HF.out.2], grownT3 hgr hg2⟩
        case measure => simp [intOf]
      · have hb' := Bool.eq_false_iff.2 hb
        rw [hb'] at hs
        simp only [Bool.toNat_false, Nat.zero_mul, Nat.add_zero] at hs
        have hh3 : h2 = pV x y j / 18446744073709551616 := by rw [hh2, hs]
        have hl3 : l2 = pV x y j % 18446744073709551616 := by rw [hl2, hs]
        have HB := Lib.hid hb'
        have HF := Lib.hid (And.intro hh3 hl3)
        clear e1 e2 hs hlt hV hh1 hl1 hh2 hl2 hh3 hl3 hb hb'
        go_wp2_with (go_at_call 31; refine (bit_no y j hy (by omega) HB.out _).mono ?_; rintro e w' ⟨rfl, rfl⟩)
        go_roundw
        case rel => exact ⟨j, by omega, by go_num, by rw [← HF.out.1], by rw [← HF.out.2], hgr⟩
        case measure => simp [intOf]
    · obtain rfl : k = 0 := by omega
      go_wp2
      go_ret2
      have e : pV x y 0 = x * y := by unfold pV; simp
      exact ⟨ret_two (by rw [e]; rfl) (by rw [e]; rfl), hgr⟩

set_option maxHeartbeats 1000000 in
theorem div64_low (lo y : Nat) (hy0 : 0 < y) (hl : lo < 18446744073709551616) (hy : y < 18446744073709551616) (w : World) :
    Calls Try.prog 32 #[.int .u64 0, .int .u64 (lo : Int), .int .u64 (y : Int)] w fun e w' => e = .returned (.tuple #[.int .u64 (divQ 18446744073709551616 0 lo y : Int), .int .u64 (divR 18446744073709551616 0 lo y : Int)]) ∧ ∃ m, w' = w.drewN m := by
  have n1 : ((y : Int) == 0) = false := by simp; omega
  have n3 : decide ((y : Int) ≤ 0) = false := by simp; omega
  have n4 : ∀ _ : True, ¬ ((y : Int) = 0) := fun _ => by omega
  have hz0 : (0 : Int) ≤ (lo : Int) := by omega
  have hy1 : (1 : Int) ≤ (y : Int) := by omega
  go_enter Try.func32, Try.ntmps32
  go_wp2
  go_quiet (fail)
  go_wp2
  go_ret2
  have e1 : divQ 18446744073709551616 0 lo y = lo / y := by unfold divQ; rw [Nat.zero_mul, Nat.zero_add]
  have e2 : divR 18446744073709551616 0 lo y = lo % y := by unfold divR; rw [Nat.zero_mul, Nat.zero_add]
  have hq : lo / y ≤ lo := Nat.div_le_self _ _
  refine ⟨ret_two ?_ ?_, _, rfl⟩
  · rw [e1, divC, wrap64N, Nat.mod_eq_of_lt (by omega)]
  · rw [e2, modC]

end Go.Proofs.Ytpoadogiganibaa
