/- The contracts of the reference's Sum, Difference, Product, Quotient and of the package's Add, Sub, Mul, Div, Rem: each returns the number that its name says. -/
import Derived.Test.YtpoadogiganibaaRows
import Derived.WalkKit
import Derived.WalkLawsBesides
import Derived.WalkSpells
import Derived.LoopTactic
import Derived.Outline
import Derived.Lib.Hide
import Derived.Deep.QuietTactic
import Derived.BigQuiet
import Derived.Lib.Mul64
import Derived.Laws.Bits64b
import Derived.Deep.DeepCutAuto
import Derived.Deep.CutBlock
import Derived.Test.YtpoadogiganibaaArith
import Derived.Test.YtpoadogiganibaaWalk1
set_option linter.unusedVariables false
namespace Go.Proofs.Ytpoadogiganibaa
open Go.RowKit Go.Proofs.Ytpoadogiganibaa.Plain

theorem grownT3 {a b c : World} (h1 : Grown a b) (h2 : Grown b c) : Grown a c :=
  ⟨World.keptBut_trans h1.1 h2.1, fun x => (h2.2.1 x).trans (h1.2.1 x), Nat.le_trans h1.2.2 h2.2.2⟩
theorem grownD {w w' : World} (h : ∃ m, w' = w.drewN m) : Grown w w' := by obtain ⟨m, rfl⟩ := h; exact Grown.refl w
theorem qs {P : Program} {f : FuncId} {args : Array Value} {w : World} {n : Nat} {v : Value} (h : Calls P f args (w.drewN n) fun e w' => e = .returned v ∧ w.drewN n = w') :
    Calls P f args (w.drewN n) fun e w'' => e = .returned v ∧ ∃ m, w'' = w.drewN m := h.mono fun _ _ ⟨he, hm⟩ => ⟨he, n, hm.symm⟩
theorem addC (a b : Nat) : (a : Int) + (b : Int) = ((a + b : Nat) : Int) := (Int.natCast_add a b).symm
theorem mulC (a b : Nat) : (a : Int) * (b : Int) = ((a * b : Nat) : Int) := (Int.natCast_mul a b).symm
theorem divC (a b : Nat) : (a : Int) / (b : Int) = ((a / b : Nat) : Int) := (Int.natCast_ediv a b).symm
theorem modC (a b : Nat) : (a : Int) % (b : Int) = ((a % b : Nat) : Int) := (Int.natCast_emod a b).symm
theorem powC (n : Nat) : ((2 : Int) ^ n) = ((2 ^ n : Nat) : Int) := by simp
theorem bit1 (x k : Nat) : bits .and .u64 ((x : Int) / 2 ^ k) 1 = ((x / 2 ^ k % 2 : Nat) : Int) := by
  rw [powC, divC, show (1 : Int) = ((1 : Nat) : Int) from rfl, and64N, Nat.and_one_is_mod]
  congr 1; omega
theorem bit0 (x : Nat) : bits .and .u64 (x : Int) 1 = ((x % 2 : Nat) : Int) := by
  rw [show (1 : Int) = ((1 : Nat) : Int) from rfl, and64N, Nat.and_one_is_mod]
  congr 1; omega
theorem orShl (o d k : Nat) (ho : o < 2 ^ k) (hd : d ≤ 1) (hk : k < 64) : bits .or .u64 (o : Int) (IntKind.u64.wrap ((d : Int) * 2 ^ k)) = ((o + d * 2 ^ k : Nat) : Int) := by
  have hp : d * 2 ^ k ≤ 1 * 2 ^ k := Nat.mul_le_mul_right _ hd
  have h64 : 2 ^ (k + 1) ≤ 2 ^ 64 := Nat.pow_le_pow_right (by decide) (by omega)
  rw [Nat.pow_succ] at h64
  simp only [Nat.reducePow] at h64
  rw [powC, mulC, wrap64N, Nat.mod_eq_of_lt (by omega), or64N, or_shl o d k ho, Nat.mod_eq_of_lt (by omega)]
theorem orHi (hi lo : Nat) (hh : hi < 4294967296) (hl : lo < 4294967296) : bits .or .u64 ((hi : Int) * 4294967296) (lo : Int) = ((hi * 4294967296 + lo : Nat) : Int) := by
  rw [show (4294967296 : Int) = ((2 ^ 32 : Nat) : Int) from rfl, mulC, or64N, Nat.mul_comm, ← Nat.two_pow_add_eq_or_of_lt (show lo < 2 ^ 32 by simpa using hl), Nat.mod_eq_of_lt (by simp only [Nat.reducePow]; omega)]

set_option maxHeartbeats 1000000 in
theorem add32_any (x y c : Nat) (hx : x < 4294967296) (hy : y < 4294967296) (hc : c ≤ 1) (w : World) :
    Calls Try.prog 26 #[.int .u32 (x : Int), .int .u32 (y : Int), .int .u32 (c : Int)] w fun e w' => e = .returned (.tuple #[.int .u32 (addS 4294967296 x y c : Int), .int .u32 (addO 4294967296 x y c : Int)]) ∧ w = w' := by
  go_enter Try.func26, Try.ntmps26
  go_wp2
  go_ret2
  exact ⟨ret_two (by unfold addS; omega) (by unfold addO; omega), rfl⟩

-- impl begin
theorem add32_i (x y c : Nat) (hx : x < 4294967296) (hy : y < 4294967296) (hc : c ≤ 1) (w : World) :
    Calls Try.prog 14 #[.int .u32 (x : Int), .int .u32 (y : Int), .int .u32 (c : Int)] w fun e w' => e = .returned (.tuple #[.int .u32 (addS 4294967296 x y c : Int), .int .u32 (addO 4294967296 x y c : Int)]) ∧ w = w' := by
  go_enter Try.func14, Try.ntmps14
  go_wp2_with (go_at_call 26; refine (add32_any x y c hx hy hc _).mono ?_; rintro e w' ⟨rfl, hw⟩)
  go_ret2
  exact ⟨by first | rfl | simp, hw⟩
-- impl end
theorem top_and32 (a b : Nat) : (a &&& b) / 2147483648 = (a / 2147483648) &&& (b / 2147483648) := by
  rw [show (2147483648 : Nat) = 2 ^ 31 from rfl, Nat.and_div_two_pow]
theorem top_or32 (a b : Nat) : (a ||| b) / 2147483648 = (a / 2147483648) ||| (b / 2147483648) := by
  rw [show (2147483648 : Nat) = 2 ^ 31 from rfl, Nat.or_div_two_pow]
theorem top_xor32 (a b : Nat) : (a ^^^ b) / 2147483648 = (a / 2147483648) ^^^ (b / 2147483648) := by
  rw [show (2147483648 : Nat) = 2 ^ 31 from rfl, Nat.xor_div_two_pow]
theorem topBit32 (a : Nat) (h : a < 4294967296) : a / 2147483648 = 0 ∨ a / 2147483648 = 1 := by omega
theorem borrow32 (x y c d : Nat) (hx : x < 4294967296) (hy : y < 4294967296) (hc : c ≤ 1) (hd : d = subD 4294967296 x y c) :
    bits .or .u32 (bits .and .u32 (bits .xor .u32 4294967295 (x : Int)) (y : Int)) (bits .and .u32 (bits .xor .u32 4294967295 (bits .xor .u32 (x : Int) (y : Int))) (d : Int)) / 2147483648 = (borB x y c : Int) := by
  unfold subD at hd
  unfold borB
  have hdl : d < 4294967296 := by rw [hd]; exact Nat.mod_lt _ (by decide)
  rw [show (4294967295 : Int) = ((4294967295 : Nat) : Int) from rfl, xor32N, xor32N, xor32N, and32N, and32N, or32N, show (2147483648 : Int) = ((2147483648 : Nat) : Int) from rfl, divC]
  have b1 : (4294967295 ^^^ x) % 4294967296 = 4294967295 ^^^ x := Nat.mod_eq_of_lt (Nat.xor_lt_two_pow (n := 32) (by decide) hx)
  have b2 : (x ^^^ y) % 4294967296 = x ^^^ y := Nat.mod_eq_of_lt (Nat.xor_lt_two_pow (n := 32) hx hy)
  have b3 : x ^^^ y < 4294967296 := Nat.xor_lt_two_pow (n := 32) hx hy
  have b4 : (4294967295 ^^^ (x ^^^ y)) % 4294967296 = 4294967295 ^^^ (x ^^^ y) := Nat.mod_eq_of_lt (Nat.xor_lt_two_pow (n := 32) (by decide) b3)
  have b5 : ((4294967295 ^^^ x) &&& y) % 4294967296 = (4294967295 ^^^ x) &&& y := Nat.mod_eq_of_lt (Nat.and_lt_two_pow (n := 32) _ hy)
  have b6 : ((4294967295 ^^^ (x ^^^ y)) &&& d) % 4294967296 = (4294967295 ^^^ (x ^^^ y)) &&& d := Nat.mod_eq_of_lt (Nat.and_lt_two_pow (n := 32) _ hdl)
  have b7 : (((4294967295 ^^^ x) &&& y) ||| ((4294967295 ^^^ (x ^^^ y)) &&& d)) % 4294967296 = ((4294967295 ^^^ x) &&& y) ||| ((4294967295 ^^^ (x ^^^ y)) &&& d) :=
    Nat.mod_eq_of_lt (Nat.or_lt_two_pow (n := 32) (Nat.and_lt_two_pow (n := 32) _ hy) (Nat.and_lt_two_pow (n := 32) _ hdl))
  rw [b1, b2, b4, b5, b6, b7, top_or32, top_and32, top_and32, top_xor32, top_xor32, top_xor32]
  congr 1
  have t : (4294967295 : Nat) / 2147483648 = 1 := by decide
  rw [t]
  rcases topBit32 x hx with h1 | h1 <;> rcases topBit32 y hy with h2 | h2 <;> rcases topBit32 d hdl with h3 | h3 <;> rw [h1, h2, h3] <;> simp only [Nat.reduceXor, Nat.reduceAnd, Nat.reduceOr] <;> split <;> omega

theorem top_and64 (a b : Nat) : (a &&& b) / 9223372036854775808 = (a / 9223372036854775808) &&& (b / 9223372036854775808) := by
  rw [show (9223372036854775808 : Nat) = 2 ^ 63 from rfl, Nat.and_div_two_pow]
theorem top_or64 (a b : Nat) : (a ||| b) / 9223372036854775808 = (a / 9223372036854775808) ||| (b / 9223372036854775808) := by
  rw [show (9223372036854775808 : Nat) = 2 ^ 63 from rfl, Nat.or_div_two_pow]
theorem top_xor64 (a b : Nat) : (a ^^^ b) / 9223372036854775808 = (a / 9223372036854775808) ^^^ (b / 9223372036854775808) := by
  rw [show (9223372036854775808 : Nat) = 2 ^ 63 from rfl, Nat.xor_div_two_pow]
theorem topBit64 (a : Nat) (h : a < 18446744073709551616) : a / 9223372036854775808 = 0 ∨ a / 9223372036854775808 = 1 := by omega
theorem borrow64 (x y c d : Nat) (hx : x < 18446744073709551616) (hy : y < 18446744073709551616) (hc : c ≤ 1) (hd : d = subD 18446744073709551616 x y c) :
    bits .or .u64 (bits .and .u64 (bits .xor .u64 18446744073709551615 (x : Int)) (y : Int)) (bits .and .u64 (bits .xor .u64 18446744073709551615 (bits .xor .u64 (x : Int) (y : Int))) (d : Int)) / 9223372036854775808 = (borB x y c : Int) := by
  unfold subD at hd
  unfold borB
  have hdl : d < 18446744073709551616 := by rw [hd]; exact Nat.mod_lt _ (by decide)
  rw [show (18446744073709551615 : Int) = ((18446744073709551615 : Nat) : Int) from rfl, xor64N, xor64N, xor64N, and64N, and64N, or64N, show (9223372036854775808 : Int) = ((9223372036854775808 : Nat) : Int) from rfl, divC]
  have b1 : (18446744073709551615 ^^^ x) % 18446744073709551616 = 18446744073709551615 ^^^ x := Nat.mod_eq_of_lt (Nat.xor_lt_two_pow (n := 64) (by decide) hx)
  have b2 : (x ^^^ y) % 18446744073709551616 = x ^^^ y := Nat.mod_eq_of_lt (Nat.xor_lt_two_pow (n := 64) hx hy)
  have b3 : x ^^^ y < 18446744073709551616 := Nat.xor_lt_two_pow (n := 64) hx hy
  have b4 : (18446744073709551615 ^^^ (x ^^^ y)) % 18446744073709551616 = 18446744073709551615 ^^^ (x ^^^ y) := Nat.mod_eq_of_lt (Nat.xor_lt_two_pow (n := 64) (by decide) b3)
  have b5 : ((18446744073709551615 ^^^ x) &&& y) % 18446744073709551616 = (18446744073709551615 ^^^ x) &&& y := Nat.mod_eq_of_lt (Nat.and_lt_two_pow (n := 64) _ hy)
  have b6 : ((18446744073709551615 ^^^ (x ^^^ y)) &&& d) % 18446744073709551616 = (18446744073709551615 ^^^ (x ^^^ y)) &&& d := Nat.mod_eq_of_lt (Nat.and_lt_two_pow (n := 64) _ hdl)
  have b7 : (((18446744073709551615 ^^^ x) &&& y) ||| ((18446744073709551615 ^^^ (x ^^^ y)) &&& d)) % 18446744073709551616 = ((18446744073709551615 ^^^ x) &&& y) ||| ((18446744073709551615 ^^^ (x ^^^ y)) &&& d) :=
    Nat.mod_eq_of_lt (Nat.or_lt_two_pow (n := 64) (Nat.and_lt_two_pow (n := 64) _ hy) (Nat.and_lt_two_pow (n := 64) _ hdl))
  rw [b1, b2, b4, b5, b6, b7, top_or64, top_and64, top_and64, top_xor64, top_xor64, top_xor64]
  congr 1
  have t : (18446744073709551615 : Nat) / 9223372036854775808 = 1 := by decide
  rw [t]
  rcases topBit64 x hx with h1 | h1 <;> rcases topBit64 y hy with h2 | h2 <;> rcases topBit64 d hdl with h3 | h3 <;> rw [h1, h2, h3] <;> simp only [Nat.reduceXor, Nat.reduceAnd, Nat.reduceOr] <;> split <;> omega

theorem subNum32 (x y c : Nat) (hx : x < 4294967296) (hy : y < 4294967296) (hc : c ≤ 1) : ((x : Int) - (y : Int) - (c : Int)) % 4294967296 = (subD 4294967296 x y c : Int) := by
  unfold subD
  omega
set_option maxHeartbeats 1000000 in
theorem sub32_any (x y c : Nat) (hx : x < 4294967296) (hy : y < 4294967296) (hc : c ≤ 1) (w : World) :
    Calls Try.prog 27 #[.int .u32 (x : Int), .int .u32 (y : Int), .int .u32 (c : Int)] w fun e w' => e = .returned (.tuple #[.int .u32 (subD 4294967296 x y c : Int), .int .u32 (borB x y c : Int)]) ∧ w = w' := by
  have hs : ∀ _ : True, (if IntKind.u32.signed = true then -1 else IntKind.u32.max) = (4294967295 : Int) := fun _ => by decide
  have e1 := subNum32 x y c hx hy hc
  obtain ⟨d, hd⟩ : ∃ d, d = subD 4294967296 x y c := ⟨_, rfl⟩
  have e2 := borrow32 x y c d hx hy hc hd
  obtain ⟨b, hb⟩ : ∃ b : Nat, b = borB x y c := ⟨_, rfl⟩
  rw [← hd] at e1 ⊢
  rw [← hb] at e2 ⊢
  have r1 : ∀ _ : True, _ = _ := fun _ => e1
  have r2 : ∀ _ : True, _ = _ := fun _ => e2
  have E1 := Lib.hid e1
  clear e1 e2 hd hb
  go_enter Try.func27, Try.ntmps27
  go_wp2
  go_ret2
  have e1 := E1.out
  exact ⟨ret_two (by first | exact e1 | omega) rfl, rfl⟩

-- impl begin
theorem sub32_i (x y c : Nat) (hx : x < 4294967296) (hy : y < 4294967296) (hc : c ≤ 1) (w : World) :
    Calls Try.prog 15 #[.int .u32 (x : Int), .int .u32 (y : Int), .int .u32 (c : Int)] w fun e w' => e = .returned (.tuple #[.int .u32 (subD 4294967296 x y c : Int), .int .u32 (borB x y c : Int)]) ∧ w = w' := by
  go_enter Try.func15, Try.ntmps15
  go_wp2_with (go_at_call 27; refine (sub32_any x y c hx hy hc _).mono ?_; rintro e w' ⟨rfl, hw⟩)
  go_ret2
  exact ⟨by first | rfl | simp, hw⟩
-- impl end
theorem mul32_lt (x y : Nat) (hx : x < 4294967296) (hy : y < 4294967296) : x * y < 18446744073709551616 := by
  have : x * y ≤ 4294967295 * 4294967295 := Nat.mul_le_mul (by omega) (by omega)
  omega

set_option maxHeartbeats 1000000 in
theorem div32_any (hi lo y : Nat) (hh : hi < 4294967296) (hl : lo < 4294967296) (hy : y < 4294967296) (h : hi < y) (w : World) :
    Calls Try.prog 35 #[.int .u32 (hi : Int), .int .u32 (lo : Int), .int .u32 (y : Int)] w fun e w' => e = .returned (.tuple #[.int .u32 (divQ 4294967296 hi lo y : Int), .int .u32 (divR 4294967296 hi lo y : Int)]) ∧ ∃ m, w' = w.drewN m := by
  have e := orHi hi lo hh hl
  have q1 : (hi * 4294967296 + lo) / y < 4294967296 := by
    rw [Nat.div_lt_iff_lt_mul (by omega)]
    have : (hi + 1) * 4294967296 ≤ y * 4294967296 := Nat.mul_le_mul_right _ (by omega)
    rw [Nat.mul_comm 4294967296 y]; omega
  have q2 : (hi * 4294967296 + lo) % y < y := Nat.mod_lt _ (by omega)
  obtain ⟨z, hz⟩ : ∃ z, z = hi * 4294967296 + lo := ⟨_, rfl⟩
  rw [← hz] at e q1 q2
  have r1 : ∀ _ : True, _ = _ := fun _ => e
  have Q1 := Lib.hid q1
  have Q2 := Lib.hid q2
  have n1 : ((y : Int) == 0) = false := by simp; omega
  have n2 : ((y : Int) != 0) = true := by simp; omega
  have n3 : decide (y ≤ hi) = false := by simp; omega
  have n4 : ∀ _ : True, ¬ ((y : Int) = 0) := fun _ => by omega
  have hz0 : (0 : Int) ≤ (z : Int) := by omega
  have hy1 : (1 : Int) ≤ (y : Int) := by omega
  have HZ := Lib.hid hz
  clear e hz q1 q2
  go_enter Try.func35, Try.ntmps35
  go_wp2
  go_quiet (fail)
  go_wp2
  go_ret2
  have q1 := Q1.out
  have q2 := Q2.out
  refine ⟨ret_two ?_ ?_, _, rfl⟩
  · unfold divQ
    rw [← HZ.out, divC, wrap64N, Nat.mod_eq_of_lt (by omega), show (4294967296 : Int) = ((4294967296 : Nat) : Int) from rfl, modC, Nat.mod_eq_of_lt (by omega)]
  · unfold divR
    rw [← HZ.out, modC, show (4294967296 : Int) = ((4294967296 : Nat) : Int) from rfl, modC, Nat.mod_eq_of_lt (by omega)]

-- impl begin
set_option maxHeartbeats 1000000 in
theorem rem32_any (hi lo y : Nat) (hh : hi < 4294967296) (hl : lo < 4294967296) (hy : y < 4294967296) (h : 0 < y) (w : World) :
    Calls Try.prog 36 #[.int .u32 (hi : Int), .int .u32 (lo : Int), .int .u32 (y : Int)] w fun e w' => e = .returned (.int .u32 (divR 4294967296 hi lo y : Int)) ∧ w = w' := by
  have e := orHi hi lo hh hl
  have q2 : (hi * 4294967296 + lo) % y < y := Nat.mod_lt _ (by omega)
  obtain ⟨z, hz⟩ : ∃ z, z = hi * 4294967296 + lo := ⟨_, rfl⟩
  rw [← hz] at e q2
  have r1 : ∀ _ : True, _ = _ := fun _ => e
  have Q2 := Lib.hid q2
  have HZ := Lib.hid hz
  clear e hz q2
  go_enter Try.func36, Try.ntmps36
  go_wp2
  go_ret
  have q2 := Q2.out
  refine ⟨ret_int ?_, rfl⟩
  unfold divR
  rw [← HZ.out, modC, show (4294967296 : Int) = ((4294967296 : Nat) : Int) from rfl, modC, Nat.mod_eq_of_lt (by omega)]

-- impl begin
set_option maxHeartbeats 1000000 in
theorem specSum (x y c n : Nat) (hx : x < 18446744073709551616) (hy : y < 18446744073709551616) (hc : c ≤ 1) (hn : n ≤ 64) (w : World) :
    Calls Try.prog 17 #[.int .u64 (x : Int), .int .u64 (y : Int), .int .u64 (c : Int), .int .i64 (n : Int)] w fun e w' => e = .returned (.tuple #[.int .u64 (sO x y c n : Int), .int .u64 (sC x y c n : Int)]) ∧ Grown w w' := by
  go_enter Try.func17, Try.ntmps17
  go_wp2
  go_loopw [2, 10, 14] (fun cr o i wr => ∃ k : Nat, k ≤ n ∧ i = .int .i64 (k : Int) ∧ o = .int .u64 (sO x y c k : Int) ∧ cr = .int .u64 (sC x y c k : Int) ∧ Grown w wr) (fun _ _ i _ => (n - intOf i).toNat)
  case atStart => exact ⟨0, Nat.zero_le _, rfl, by simp [sO], by simp [sC], Grown.refl _⟩
  case round =>
    obtain ⟨k, hk, rfl, rfl, rfl, hgr⟩ := hrel
    by_cases h0 : k < n
    · obtain ⟨s1, s2⟩ := s_step x y c k hc
      have ho := sO_lt x y c k
      have hcr := sC_le x y c k hc
      have e1 := bit1 x k
      have e2 := bit1 y k
      obtain ⟨a, ha⟩ : ∃ a, a = x / 2 ^ k % 2 := ⟨_, rfl⟩
      obtain ⟨b, hb⟩ : ∃ b, b = y / 2 ^ k % 2 := ⟨_, rfl⟩
      have ha1 : a ≤ 1 := by omega
      have hb1 : b ≤ 1 := by omega
      rw [← ha, ← hb] at s1 s2
      rw [← ha] at e1
      rw [← hb] at e2
      clear ha hb
      obtain ⟨cr, hcr0⟩ : ∃ cr, cr = sC x y c k := ⟨_, rfl⟩
      obtain ⟨o, ho0⟩ : ∃ o, o = sO x y c k := ⟨_, rfl⟩
      rw [← hcr0] at s1 s2 hcr ⊢
      rw [← ho0] at s1 ho ⊢
      clear hcr0 ho0
      have e3 := bit0 (a + b + cr)
      obtain ⟨d, hd⟩ : ∃ d, d = (a + b + cr) % 2 := ⟨_, rfl⟩
      have hd1 : d ≤ 1 := by omega
      rw [← hd] at e3 s1
      have e4 := orShl o d k ho hd1 (by omega)
      have r1 : ∀ _ : True, _ = _ := fun _ => e1
      have r2 : ∀ _ : True, _ = _ := fun _ => e2
      have r3 : ∀ _ : True, bits .and .u64 ((a : Int) + (b : Int) + (cr : Int)) 1 = (d : Int) := fun _ => by rw [← e3]; simp
      have r4 : ∀ _ : True, _ = _ := fun _ => e4
      have HS := Lib.hid (And.intro s1 s2)
      clear e1 e2 e3 e4 s1 s2 hd ho
      go_wp2
      go_quiet (fail)
      go_wp2
      go_roundw
      case rel => exact ⟨k + 1, by omega, by go_num, by rw [HS.out.1]; simp, by rw [HS.out.2]; simp, hgr⟩
      case measure => simp [intOf]; omega
    · obtain rfl : k = n := by omega
      go_wp2
      go_ret2
      exact ⟨rfl, hgr⟩

set_option maxHeartbeats 1000000 in
theorem specDiff (x y c n : Nat) (hx : x < 18446744073709551616) (hy : y < 18446744073709551616) (hc : c ≤ 1) (hn : n ≤ 64) (w : World) :
    Calls Try.prog 19 #[.int .u64 (x : Int), .int .u64 (y : Int), .int .u64 (c : Int), .int .i64 (n : Int)] w fun e w' => e = .returned (.tuple #[.int .u64 (dO x y c n : Int), .int .u64 (dB x y c n : Int)]) ∧ Grown w w' := by
  go_enter Try.func19, Try.ntmps19
  go_wp2
  go_loopw [2, 10, 15] (fun cr o i wr => ∃ k : Nat, k ≤ n ∧ i = .int .i64 (k : Int) ∧ o = .int .u64 (dO x y c k : Int) ∧ cr = .int .u64 (dB x y c k : Int) ∧ Grown w wr) (fun _ _ i _ => (n - intOf i).toNat)
  case atStart =>
    have h1 : dB x y c 0 = c := by unfold dB; simp [Nat.mod_one]; split <;> omega
    have h2 : dO x y c 0 = 0 := by unfold dO; rw [h1]; simp [Nat.mod_one]
    exact ⟨0, Nat.zero_le _, rfl, by rw [h2]; rfl, by rw [h1], Grown.refl _⟩
  case round =>
    obtain ⟨k, hk, rfl, rfl, rfl, hgr⟩ := hrel
    by_cases h0 : k < n
    · obtain ⟨s1, s2⟩ := d_step x y c k hc
      have ho := (d_inv x y c k hc).1
      have hcr := dB_le x y c k
      have e1 := bit1 x k
      have e2 := bit1 y k
      obtain ⟨a, ha⟩ : ∃ a, a = x / 2 ^ k % 2 := ⟨_, rfl⟩
      obtain ⟨b, hb⟩ : ∃ b, b = y / 2 ^ k % 2 := ⟨_, rfl⟩
      have ha1 : a ≤ 1 := by omega
      have hb1 : b ≤ 1 := by omega
      rw [← ha, ← hb] at s1 s2
      rw [← ha] at e1
      rw [← hb] at e2
      clear ha hb
      obtain ⟨cr, hcr0⟩ : ∃ cr, cr = dB x y c k := ⟨_, rfl⟩
      obtain ⟨o, ho0⟩ : ∃ o, o = dO x y c k := ⟨_, rfl⟩
      rw [← hcr0] at s1 s2 hcr ⊢
      rw [← ho0] at s1 ho ⊢
      clear hcr0 ho0
      have e3 := bit0 (a + (b + cr))
      obtain ⟨d, hd⟩ : ∃ d, d = (a + (b + cr)) % 2 := ⟨_, rfl⟩
      have hd1 : d ≤ 1 := by omega
      rw [← hd] at e3 s1
      have e4 := orShl o d k ho hd1 (by omega)
      have r1 : ∀ _ : True, _ = _ := fun _ => e1
      have r2 : ∀ _ : True, _ = _ := fun _ => e2
      have r3 : ∀ _ : True, bits .and .u64 ((a : Int) + ((b : Int) + (cr : Int))) 1 = (d : Int) := fun _ => by rw [← e3]; simp
      have r4 : ∀ _ : True, _ = _ := fun _ => e4
      by_cases hlt : a < b + cr
      · rw [if_pos hlt] at s2
        have HS := Lib.hid (And.intro s1 s2)
        clear e1 e2 e3 e4 s1 s2 hd ho
        go_wp2
        go_quiet (fail)
        go_wp2
        go_roundw
        case rel => exact ⟨k + 1, by omega, by go_num, by rw [HS.out.1]; simp, by rw [HS.out.2]; rfl, hgr⟩
        case measure => simp [intOf]; omega
      · rw [if_neg hlt] at s2
        have HS := Lib.hid (And.intro s1 s2)
        clear e1 e2 e3 e4 s1 s2 hd ho
        go_wp2
        go_quiet (fail)
        go_wp2
        go_roundw
        case rel => exact ⟨k + 1, by omega, by go_num, by rw [HS.out.1]; simp, by rw [HS.out.2]; rfl, hgr⟩
        case measure => simp [intOf]; omega
    · obtain rfl : k = n := by omega
      go_wp2
      go_ret2
      exact ⟨rfl, hgr⟩

theorem subNum64 (x y c : Nat) (hx : x < 18446744073709551616) (hy : y < 18446744073709551616) (hc : c ≤ 1) : IntKind.u64.wrap (IntKind.u64.wrap ((x : Int) - (y : Int)) - (c : Int)) = (subD 18446744073709551616 x y c : Int) := by
  unfold subD
  rw [IntKind.wrap_u64, IntKind.wrap_u64]; omega
set_option maxHeartbeats 1000000 in
theorem sub64_any (x y c : Nat) (hx : x < 18446744073709551616) (hy : y < 18446744073709551616) (hc : c ≤ 1) (w : World) :
    Calls Try.prog 29 #[.int .u64 (x : Int), .int .u64 (y : Int), .int .u64 (c : Int)] w fun e w' => e = .returned (.tuple #[.int .u64 (subD 18446744073709551616 x y c : Int), .int .u64 (borB x y c : Int)]) ∧ w = w' := by
  have hs : ∀ _ : True, (if IntKind.u64.signed = true then -1 else IntKind.u64.max) = (18446744073709551615 : Int) := fun _ => by decide
  have e1 := subNum64 x y c hx hy hc
  obtain ⟨d, hd⟩ : ∃ d, d = subD 18446744073709551616 x y c := ⟨_, rfl⟩
  have e2 := borrow64 x y c d hx hy hc hd
  obtain ⟨b, hb⟩ : ∃ b : Nat, b = borB x y c := ⟨_, rfl⟩
  rw [← hd] at e1 ⊢
  rw [← hb] at e2 ⊢
  have r1 : ∀ _ : True, _ = _ := fun _ => e1
  have r2 : ∀ _ : True, _ = _ := fun _ => e2
  have E1 := Lib.hid e1
  clear e1 e2 hd hb
  go_enter Try.func29, Try.ntmps29
  go_wp2
  go_ret2
  have e1 := E1.out
  exact ⟨ret_two (by first | exact e1 | omega) rfl, rfl⟩

-- impl begin
theorem sub64_i (x y c : Nat) (hx : x < 18446744073709551616) (hy : y < 18446744073709551616) (hc : c ≤ 1) (w : World) :
    Calls Try.prog 18 #[.int .u64 (x : Int), .int .u64 (y : Int), .int .u64 (c : Int)] w fun e w' => e = .returned (.tuple #[.int .u64 (subD 18446744073709551616 x y c : Int), .int .u64 (borB x y c : Int)]) ∧ w = w' := by
  go_enter Try.func18, Try.ntmps18
  go_wp2_with (go_at_call 29; refine (sub64_any x y c hx hy hc _).mono ?_; rintro e w' ⟨rfl, hw⟩)
  go_ret2
  exact ⟨by first | rfl | simp, hw⟩
-- impl end
theorem carry64 (x y c s : Nat) (hx : x < 18446744073709551616) (hy : y < 18446744073709551616) (hc : c ≤ 1) (hs : s = addS 18446744073709551616 x y c) :
    bits .or .u64 (bits .and .u64 (x : Int) (y : Int)) (bits .andNot .u64 (bits .or .u64 (x : Int) (y : Int)) (s : Int)) / 9223372036854775808 = (addO 18446744073709551616 x y c : Int) := by
  unfold addS at hs
  have hsl : s < 18446744073709551616 := by rw [hs]; exact Nat.mod_lt _ (by decide)
  have o1 : x ||| y < 18446744073709551616 := Nat.or_lt_two_pow (n := 64) hx hy
  have a1 : x &&& y < 18446744073709551616 := Nat.and_lt_two_pow (n := 64) _ hy
  rw [or64N, and64N, Nat.mod_eq_of_lt o1, Nat.mod_eq_of_lt a1, andNot64N, Nat.mod_eq_of_lt o1, Nat.mod_eq_of_lt hsl, or64N]
  have a2 : (x ||| y) &&& (18446744073709551615 - s) < 18446744073709551616 := Nat.and_lt_two_pow (n := 64) _ (by omega)
  rw [Nat.mod_eq_of_lt (Nat.or_lt_two_pow (n := 64) a1 a2), show (9223372036854775808 : Int) = ((9223372036854775808 : Nat) : Int) from rfl, divC, top_or64, top_and64, top_and64, top_or64]
  congr 1
  unfold addO
  have hns : (18446744073709551615 - s) / 9223372036854775808 = 1 - s / 9223372036854775808 := by omega
  rw [hns]
  rcases topBit64 x hx with h1 | h1 <;> rcases topBit64 y hy with h2 | h2 <;> rcases topBit64 s hsl with h3 | h3 <;> rw [h1, h2, h3] <;> simp only [Nat.reduceSub, Nat.reduceAnd, Nat.reduceOr] <;> omega
set_option maxHeartbeats 1000000 in
theorem add64_any (x y c : Nat) (hx : x < 18446744073709551616) (hy : y < 18446744073709551616) (hc : c ≤ 1) (w : World) :
    Calls Try.prog 28 #[.int .u64 (x : Int), .int .u64 (y : Int), .int .u64 (c : Int)] w fun e w' => e = .returned (.tuple #[.int .u64 (addS 18446744073709551616 x y c : Int), .int .u64 (addO 18446744073709551616 x y c : Int)]) ∧ w = w' := by
  obtain ⟨s, hs⟩ : ∃ s, s = addS 18446744073709551616 x y c := ⟨_, rfl⟩
  have e1 : IntKind.u64.wrap (IntKind.u64.wrap ((x : Int) + (y : Int)) + (c : Int)) = (s : Int) := by
    rw [hs]; unfold addS; rw [IntKind.wrap_u64, IntKind.wrap_u64]; omega
  have e2 := carry64 x y c s hx hy hc hs
  obtain ⟨b, hb⟩ : ∃ b : Nat, b = addO 18446744073709551616 x y c := ⟨_, rfl⟩
  rw [← hs]
  rw [← hb] at e2 ⊢
  have r1 : ∀ _ : True, _ = _ := fun _ => e1
  have r2 : ∀ _ : True, _ = _ := fun _ => e2
  clear e1 e2 hs hb
  go_enter Try.func28, Try.ntmps28
  go_wp2
  go_ret2
  exact ⟨rfl, rfl⟩

-- impl begin
theorem add64_i (x y c : Nat) (hx : x < 18446744073709551616) (hy : y < 18446744073709551616) (hc : c ≤ 1) (w : World) :
    Calls Try.prog 16 #[.int .u64 (x : Int), .int .u64 (y : Int), .int .u64 (c : Int)] w fun e w' => e = .returned (.tuple #[.int .u64 (addS 18446744073709551616 x y c : Int), .int .u64 (addO 18446744073709551616 x y c : Int)]) ∧ w = w' := by
  go_enter Try.func16, Try.ntmps16
  go_wp2_with (go_at_call 28; refine (add64_any x y c hx hy hc _).mono ?_; rintro e w' ⟨rfl, hw⟩)
  go_ret2
  exact ⟨by first | rfl | simp, hw⟩
-- impl end
theorem mask32 (a : Nat) (ha : a < 18446744073709551616) : bits .and .u64 (a : Int) 4294967295 = ((a % 4294967296 : Nat) : Int) := by
  rw [show (4294967295 : Int) = ((2 ^ 32 - 1 : Nat) : Int) from rfl, and64N, Nat.and_two_pow_sub_one_eq_mod]
  simp only [Nat.reducePow]; congr 1; omega
theorem div32C (a : Nat) : (a : Int) / 4294967296 = ((a / 4294967296 : Nat) : Int) := by omega
theorem wrapN (a : Nat) (ha : a < 18446744073709551616) : IntKind.u64.wrap (a : Int) = (a : Int) := by rw [wrap64N, Nat.mod_eq_of_lt ha]
set_option maxHeartbeats 1000000 in
theorem mul64_any (x y : Nat) (hx : x < 18446744073709551616) (hy : y < 18446744073709551616) (w : World) :
    Calls Try.prog 30 #[.int .u64 (x : Int), .int .u64 (y : Int)] w fun e w' => e = .returned (.tuple #[.int .u64 (mulH 18446744073709551616 x y : Int), .int .u64 (mulL 18446744073709551616 x y : Int)]) ∧ w = w' := by
  obtain ⟨bd, bt, bw, hhi⟩ := Lib.mul64_hi x y hx hy
  have ba := Lib.half_mul_le (a := x / 4294967296) (b := y / 4294967296) (by omega) (by omega)
  have bb := Lib.half_mul_le (a := x / 4294967296) (b := y % 4294967296) (by omega) (by omega)
  have bc := Lib.half_mul_le (a := x % 4294967296) (b := y / 4294967296) (by omega) (by omega)
  have ba' : x / 4294967296 * (y / 4294967296) < 18446744073709551616 := by omega
  have bb' : x / 4294967296 * (y % 4294967296) < 18446744073709551616 := by omega
  have bc' : x % 4294967296 * (y / 4294967296) < 18446744073709551616 := by omega
  have bh1 : x / 4294967296 * (y / 4294967296) + (x / 4294967296 * (y % 4294967296) + x % 4294967296 * (y % 4294967296) / 4294967296) / 4294967296 < 18446744073709551616 := by omega
  have bh : x / 4294967296 * (y / 4294967296) + (x / 4294967296 * (y % 4294967296) + x % 4294967296 * (y % 4294967296) / 4294967296) / 4294967296 + ((x / 4294967296 * (y % 4294967296) + x % 4294967296 * (y % 4294967296) / 4294967296) % 4294967296 + x % 4294967296 * (y / 4294967296)) / 4294967296 < 18446744073709551616 := by omega
  go_enter Try.func30, Try.ntmps30
  go_wp2
  simp only [mask32 x hx, mask32 y hy, div32C, mulC, addC, wrapN _ bd, wrapN _ bb', wrapN _ bt, mask32 _ bt, wrapN _ bc', wrapN _ bw, wrapN _ ba', wrapN _ bh1, wrapN _ bh, wrap64N (x * y)]
  rw [hhi]
  go_ret2
  exact ⟨rfl, rfl⟩

-- impl begin
theorem mul64_i (x y : Nat) (hx : x < 18446744073709551616) (hy : y < 18446744073709551616) (w : World) :
    Calls Try.prog 20 #[.int .u64 (x : Int), .int .u64 (y : Int)] w fun e w' => e = .returned (.tuple #[.int .u64 (mulH 18446744073709551616 x y : Int), .int .u64 (mulL 18446744073709551616 x y : Int)]) ∧ w = w' := by
  go_enter Try.func20, Try.ntmps20
  go_wp2_with (go_at_call 30; refine (mul64_any x y hx hy _).mono ?_; rintro e w' ⟨rfl, hw⟩)
  go_ret2
  exact ⟨by first | rfl | simp, hw⟩
-- impl end
theorem or_one (q : Nat) (hq : 2 * q < 18446744073709551616) : bits .or .u64 ((2 * q : Nat) : Int) 1 = ((2 * q + 1 : Nat) : Int) := by
  rw [show (1 : Int) = ((1 : Nat) : Int) from rfl, or64N]
  have h := Nat.two_pow_add_eq_or_of_lt (show 1 < 2 ^ 1 by decide) q
  rw [Nat.pow_one] at h
  rw [← h, Nat.mod_eq_of_lt (by omega)]
theorem or_bit (r b : Nat) (hb : b ≤ 1) : bits .or .u64 (IntKind.u64.wrap ((r : Int) * 2)) (b : Int) = (((2 * r + b) % 18446744073709551616 : Nat) : Int) := by
  have e : IntKind.u64.wrap ((r : Int) * 2) = ((2 * (r % 9223372036854775808) : Nat) : Int) := by rw [IntKind.wrap_u64]; omega
  rw [e, or64N]
  have h := Nat.two_pow_add_eq_or_of_lt (show b < 2 ^ 1 by omega) (r % 9223372036854775808)
  rw [Nat.pow_one] at h
  rw [← h]; congr 1; omega
set_option maxHeartbeats 1000000 in
theorem quot_any (hi lo y : Nat) (hh : hi < y) (hl : lo < 18446744073709551616) (hy : y < 18446744073709551616) (w : World) :
    Calls Try.prog 23 #[.int .u64 (hi : Int), .int .u64 (lo : Int), .int .u64 (y : Int)] w fun e w' => e = .returned (.tuple #[.int .u64 (divQ 18446744073709551616 hi lo y : Int), .int .u64 (divR 18446744073709551616 hi lo y : Int)]) ∧ w = w' := by
  have hy0 : 0 < y := by omega
  go_enter Try.func23, Try.ntmps23
  go_wp2
  go_loop [0, 8, 9] (fun h q i => ∃ k : Nat, k ≤ 64 ∧ i = .int .i64 ((k : Int) - 1) ∧ h = .int .u64 (qA hi lo k % y : Nat) ∧ q = .int .u64 (qA hi lo k / y : Nat)) (fun _ _ i => (intOf i + 1).toNat)
  case atStart => exact ⟨64, by omega, rfl, by rw [qA_top hi lo hl, Nat.mod_eq_of_lt hh], by rw [qA_top hi lo hl, Nat.div_eq_of_lt hh]; rfl⟩
  case round =>
    obtain ⟨k, hk, rfl, rfl, rfl⟩ := hrel
    by_cases h0 : 0 < k
    · obtain ⟨j, rfl⟩ : ∃ j : Nat, k = j + 1 := ⟨k - 1, by omega⟩
      have ej : ((j + 1 : Nat) : Int) - 1 = (j : Int) := by omega
      rw [ej]
      clear ej
      have hs := qA_step hi lo j (by omega)
      have hql := qA_lt hi lo y (j + 1) (by omega) hh hl
      have hp2 : 2 ^ (64 - (j + 1)) ≤ 2 ^ 63 := Nat.pow_le_pow_right (by decide) (by omega)
      have e1 := bit1 lo j
      obtain ⟨b, hb⟩ : ∃ b, b = lo / 2 ^ j % 2 := ⟨_, rfl⟩
      have hb1 : b ≤ 1 := by omega
      rw [← hb] at e1 hs
      obtain ⟨d1, d2⟩ := div_dbl (qA hi lo (j + 1)) b y hy0 hb1
      rw [← hs] at d1 d2
      have hrl : qA hi lo (j + 1) % y < y := Nat.mod_lt _ hy0
      obtain ⟨r, hr⟩ : ∃ r, r = qA hi lo (j + 1) % y := ⟨_, rfl⟩
      obtain ⟨q, hq⟩ : ∃ q, q = qA hi lo (j + 1) / y := ⟨_, rfl⟩
      rw [← hr] at d1 d2 hrl ⊢
      rw [← hq] at d1 d2 hql ⊢
      clear hr hq hs hb
      have hq63 : q < 9223372036854775808 := Nat.lt_of_lt_of_le hql hp2
      have e2 := or_bit r b hb1
      have e3 : IntKind.u64.wrap ((q : Int) * 2) = ((2 * q : Nat) : Int) := by rw [IntKind.wrap_u64]; omega
      have e4 := or_one q (by omega)
      obtain ⟨h, hh2⟩ : ∃ h, h = (2 * r + b) % 18446744073709551616 := ⟨_, rfl⟩
      obtain ⟨q2, hq2⟩ : ∃ q2, q2 = 2 * q := ⟨_, rfl⟩
      rw [← hh2] at e2
      rw [← hq2] at e3 e4
      have r1 : ∀ _ : True, _ = _ := fun _ => e1
      have r2 : ∀ _ : True, _ = _ := fun _ => e2
      have r3 : ∀ _ : True, _ = _ := fun _ => e3
      have r4 : ∀ _ : True, _ = _ := fun _ => e4
      rcases (by omega : 9223372036854775808 ≤ r ∨ (r < 9223372036854775808 ∧ y ≤ h) ∨ (r < 9223372036854775808 ∧ h < y)) with c | c | c
      · obtain ⟨f1, f2⟩ := d2 (by omega)
        have e5 : IntKind.u64.wrap ((h : Int) - (y : Int)) = ((2 * r + b - y : Nat) : Int) := by rw [IntKind.wrap_u64]; omega
        have r5 : ∀ _ : True, _ = _ := fun _ => e5
        have t1 : ∀ _ : True, ((r : Int) / 9223372036854775808 == 1) = true := fun _ => by simp; omega
        have HF := Lib.hid (And.intro f1 (And.intro f2 hq2))
        clear e1 e2 e3 e4 e5 d1 d2 f1 f2 hq2 hh2 c hq63 hql hrl hp2
        go_wp2
        go_round
        case rel => exact ⟨j, by omega, by go_num, by rw [HF.out.2.1], by rw [HF.out.1, HF.out.2.2]; simp⟩
        case measure => simp [intOf]
      · obtain ⟨f1, f2⟩ := d2 (by omega)
        have e5 : IntKind.u64.wrap ((h : Int) - (y : Int)) = ((2 * r + b - y : Nat) : Int) := by rw [IntKind.wrap_u64]; omega
        have r5 : ∀ _ : True, _ = _ := fun _ => e5
        have t1 : ∀ _ : True, ((r : Int) / 9223372036854775808 == 1) = false := fun _ => by simp; omega
        have t2 : decide (y ≤ h) = true := by simp; omega
        have HF := Lib.hid (And.intro f1 (And.intro f2 hq2))
        clear e1 e2 e3 e4 e5 d1 d2 f1 f2 hq2 hh2 c hq63 hql hrl hp2
        go_wp2
        go_round
        case rel => exact ⟨j, by omega, by go_num, by rw [HF.out.2.1], by rw [HF.out.1, HF.out.2.2]; simp⟩
        case measure => simp [intOf]
      · obtain ⟨f1, f2⟩ := d1 (by omega)
        have t1 : ∀ _ : True, ((r : Int) / 9223372036854775808 == 1) = false := fun _ => by simp; omega
        have t2 : decide (y ≤ h) = false := by simp; omega
        have hh3 : h = 2 * r + b := by omega
        have HF := Lib.hid (And.intro f1 (And.intro f2 (And.intro hq2 hh3)))
        clear e1 e2 e3 e4 d1 d2 f1 f2 hq2 hh2 hh3 c hq63 hql hrl hp2
        go_wp2
        go_round
        case rel => exact ⟨j, by omega, by go_num, by rw [HF.out.2.1, HF.out.2.2.2], by rw [HF.out.1, HF.out.2.2.1]⟩
        case measure => simp [intOf]
    · obtain rfl : k = 0 := by omega
      go_wp2
      go_ret2
      exact ⟨ret_two (by rw [qA_zero]; rfl) (by rw [qA_zero]; rfl), rfl⟩

theorem hiLo (V : Nat) (hV : 2 * V < 340282366920938463463374607431768211456) : bits .or .u64 (IntKind.u64.wrap (((V / 18446744073709551616 : Nat) : Int) * 2)) (((V % 18446744073709551616 : Nat) : Int) / 9223372036854775808) = ((2 * V / 18446744073709551616 : Nat) : Int) := by
  have e : ((V % 18446744073709551616 : Nat) : Int) / 9223372036854775808 = ((V % 18446744073709551616 / 9223372036854775808 : Nat) : Int) := by omega
  rw [e, or_bit _ _ (by omega)]
  congr 1; omega
set_option maxHeartbeats 1000000 in
theorem prod_any (x y : Nat) (hx : x < 18446744073709551616) (hy : y < 18446744073709551616) (w : World) :
    Calls Try.prog 21 #[.int .u64 (x : Int), .int .u64 (y : Int)] w fun e w' => e = .returned (.tuple #[.int .u64 (mulH 18446744073709551616 x y : Int), .int .u64 (mulL 18446744073709551616 x y : Int)]) ∧ Grown w w' := by
  go_enter Try.func21, Try.ntmps21
  go_wp2
  go_loopw [6, 7, 8] (fun h l i wr => ∃ k : Nat, k ≤ 64 ∧ i = .int .i64 ((k : Int) - 1) ∧ h = .int .u64 (pV x y k / 18446744073709551616 : Nat) ∧ l = .int .u64 (pV x y k % 18446744073709551616 : Nat) ∧ Grown w wr) (fun _ _ i _ => (intOf i + 1).toNat)
  case atStart =>
    have e : pV x y 64 = 0 := by unfold pV; rw [Nat.div_eq_of_lt hy, Nat.mul_zero]
    exact ⟨64, by omega, rfl, by rw [e]; rfl, by rw [e]; rfl, Grown.refl _⟩
  case round =>
    obtain ⟨k, hk, rfl, rfl, rfl, hgr⟩ := hrel
    by_cases h0 : 0 < k
    · obtain ⟨j, rfl⟩ : ∃ j : Nat, k = j + 1 := ⟨k - 1, by omega⟩
      have ej : ((j + 1 : Nat) : Int) - 1 = (j : Int) := by omega
      rw [ej]
      clear ej
      have hs := pV_step x y j
      have hlt := pV_lt x y j hx hy
      have e1 := hiLo (pV x y (j + 1)) (by omega)
      have e2 : IntKind.u64.wrap (((pV x y (j + 1) % 18446744073709551616 : Nat) : Int) * 2) = ((2 * pV x y (j + 1) % 18446744073709551616 : Nat) : Int) := by rw [IntKind.wrap_u64]; omega
      obtain ⟨V, hV⟩ : ∃ V, V = pV x y (j + 1) := ⟨_, rfl⟩
      rw [← hV] at hs e1 e2 ⊢
      obtain ⟨h1, hh1⟩ : ∃ h1, h1 = V / 18446744073709551616 := ⟨_, rfl⟩
      obtain ⟨l1, hl1⟩ : ∃ l1, l1 = V % 18446744073709551616 := ⟨_, rfl⟩
      obtain ⟨h2, hh2⟩ : ∃ h2, h2 = 2 * V / 18446744073709551616 := ⟨_, rfl⟩
      obtain ⟨l2, hl2⟩ : ∃ l2, l2 = 2 * V % 18446744073709551616 := ⟨_, rfl⟩
      rw [← hh1, ← hl1, ← hh2] at e1
      rw [← hl1, ← hl2] at e2
      rw [← hh1, ← hl1]
      have r1 : ∀ _ : True, _ = _ := fun _ => e1
      have r2 : ∀ _ : True, _ = _ := fun _ => e2
      by_cases hb : y.testBit j = true
      · rw [hb] at hs
        simp only [Bool.toNat_true, Nat.one_mul] at hs
        have c2 := fun w => specSum l2 x 0 64 (by omega) hx (by decide) (by decide) w
        have f1 : sO l2 x 0 64 = pV x y j % 18446744073709551616 := by unfold sO; simp only [Nat.reducePow]; omega
        have f2 : h2 + sC l2 x 0 64 = pV x y j / 18446744073709551616 := by unfold sC; simp only [Nat.reducePow]; omega
        rw [f1] at c2
        obtain ⟨cr, hcr⟩ : ∃ cr, cr = sC l2 x 0 64 := ⟨_, rfl⟩
        rw [← hcr] at c2 f2
        have e3 : IntKind.u64.wrap ((h2 : Int) + (cr : Int)) = ((pV x y j / 18446744073709551616 : Nat) : Int) := by rw [addC, f2, wrap64N, Nat.mod_eq_of_lt (by omega)]
        obtain ⟨h3, hh3⟩ : ∃ h3, h3 = pV x y j / 18446744073709551616 := ⟨_, rfl⟩
        obtain ⟨l3, hl3⟩ : ∃ l3, l3 = pV x y j % 18446744073709551616 := ⟨_, rfl⟩
        rw [← hh3] at e3
        rw [← hl3] at c2
        have r3 : ∀ _ : True, _ = _ := fun _ => e3
        have C2 := Lib.hid c2
        have HB := Lib.hid hb
        have HF := Lib.hid (And.intro hh3 hl3)
        clear e1 e2 e3 hs hlt hV hh1 hl1 hh2 hl2 c2 f1 f2 hcr hh3 hl3 hb
        go_wp2_with (first | (go_at_call 31; refine (bit_yes y j hy (by omega) HB.out _).mono ?_; rintro e w' ⟨rfl, rfl⟩) | (go_at_call 17; refine (C2.out _).mono ?_; rintro e w2 ⟨rfl, hg2⟩))
        go_roundw
        case rel => exact ⟨j, by omega, by go_num, by rw [← HF.out.1], by rw [← HF.out.2], grownT3 hgr hg2⟩
        case measure => simp [intOf]
      · have hb' := Bool.eq_false_iff.2 hb
        rw [hb'] at hs
        simp only [Bool.toNat_false, Nat.zero_mul, Nat.add_zero] at hs
        have hh3 : h2 = pV x y j / 18446744073709551616 := by rw [hh2, hs]
        have hl3 : l2 = pV x y j % 18446744073709551616 := by rw [hl2, hs]
        have HB := Lib.hid hb'
        have HF := Lib.hid (And.intro hh3 hl3)
        clear e1 e2 hs hlt hV hh1 hl1 hh2 hl2 hh3 hl3 hb hb'
        go_wp2_with (go_at_call 31; refine (bit_no y j hy (by omega) HB.out _).mono ?_; rintro e w' ⟨rfl, rfl⟩)
        go_roundw
        case rel => exact ⟨j, by omega, by go_num, by rw [← HF.out.1], by rw [← HF.out.2], hgr⟩
        case measure => simp [intOf]
    · obtain rfl : k = 0 := by omega
      go_wp2
      go_ret2
      have e : pV x y 0 = x * y := by unfold pV; simp
      exact ⟨ret_two (by rw [e]; rfl) (by rw [e]; rfl), hgr⟩
set_option maxHeartbeats 1000000 in
theorem div64_low (lo y : Nat) (hy0 : 0 < y) (hl : lo < 18446744073709551616) (hy : y < 18446744073709551616) (w : World) :
    Calls Try.prog 32 #[.int .u64 0, .int .u64 (lo : Int), .int .u64 (y : Int)] w fun e w' => e = .returned (.tuple #[.int .u64 (divQ 18446744073709551616 0 lo y : Int), .int .u64 (divR 18446744073709551616 0 lo y : Int)]) ∧ ∃ m, w' = w.drewN m := by
  have n1 : ((y : Int) == 0) = false := by simp; omega
  have n3 : decide ((y : Int) ≤ 0) = false := by simp; omega
  have n4 : ∀ _ : True, ¬ ((y : Int) = 0) := fun _ => by omega
  have hz0 : (0 : Int) ≤ (lo : Int) := by omega
  have hy1 : (1 : Int) ≤ (y : Int) := by omega
  go_enter Try.func32, Try.ntmps32
  go_wp2
  go_quiet (fail)
  go_wp2
  go_ret2
  have e1 : divQ 18446744073709551616 0 lo y = lo / y := by unfold divQ; rw [Nat.zero_mul, Nat.zero_add]
  have e2 : divR 18446744073709551616 0 lo y = lo % y := by unfold divR; rw [Nat.zero_mul, Nat.zero_add]
  have hq : lo / y ≤ lo := Nat.div_le_self _ _
  refine ⟨ret_two ?_ ?_, _, rfl⟩
  · rw [e1, divC, wrap64N, Nat.mod_eq_of_lt (by omega)]
  · rw [e2, modC]


theorem orShift (hi lo s : Nat) (hs : s ≤ 63) (hl : lo < 18446744073709551616) (hu : hi * 2 ^ s < 18446744073709551616) :
    bits .or .u64 (IntKind.u64.wrap ((hi : Int) * 2 ^ s)) ((lo : Int) / 2 ^ (64 - s)) = ((hi * 2 ^ s + lo / 2 ^ (64 - s) : Nat) : Int) := by
  have h1 : lo / 2 ^ (64 - s) < 2 ^ s := by
    rw [Nat.div_lt_iff_lt_mul (Nat.two_pow_pos _), ← Nat.pow_add, show s + (64 - s) = 64 by omega]; exact hl
  rw [powC, powC, mulC, divC, wrap64N, Nat.mod_eq_of_lt hu, or64N, Nat.mul_comm hi, ← Nat.two_pow_add_eq_or_of_lt h1]
  have h2 : (hi + 1) * 2 ^ s ≤ 18446744073709551616 := by
    have h3 : hi < 2 ^ (64 - s) := by
      rcases Nat.lt_or_ge hi (2 ^ (64 - s)) with h | h
      · exact h
      · have : 2 ^ (64 - s) * 2 ^ s ≤ hi * 2 ^ s := Nat.mul_le_mul_right _ h
        rw [← Nat.pow_add, show 64 - s + s = 64 by omega] at this
        simp only [Nat.reducePow] at this; omega
    have : (hi + 1) * 2 ^ s ≤ 2 ^ (64 - s) * 2 ^ s := Nat.mul_le_mul_right _ h3
    rw [← Nat.pow_add, show 64 - s + s = 64 by omega] at this
    simpa using this
  rw [Nat.mod_eq_of_lt (by rw [Nat.add_mul, Nat.one_mul, Nat.mul_comm hi] at h2; omega)]
theorem d64_arith (hi P M lo q m : Nat) (h : M * q + m = lo * P) : (hi * M + lo) * P = (hi * P + q) * M + m := by
  rw [Nat.add_mul, Nat.add_mul, ← h, Nat.mul_right_comm, Nat.mul_comm M q, Nat.add_assoc]
/-- the numbers of math/bits.Div64 before its first loop -/
theorem d64_facts (hi lo y s : Nat) (hh : hi < y) (hl : lo < 18446744073709551616) (hs : s ≤ 63) (hY1 : 9223372036854775808 ≤ y * 2 ^ s) (hY2 : y * 2 ^ s < 18446744073709551616) :
    hi * 2 ^ s + lo / 2 ^ (64 - s) < y * 2 ^ s ∧ hi * 2 ^ s < 18446744073709551616 ∧
    (hi * 18446744073709551616 + lo) * 2 ^ s = (hi * 2 ^ s + lo / 2 ^ (64 - s)) * 18446744073709551616 + lo * 2 ^ s % 18446744073709551616 := by
  have hp : 0 < 2 ^ s := Nat.two_pow_pos s
  have h1 : lo / 2 ^ (64 - s) < 2 ^ s := by
    rw [Nat.div_lt_iff_lt_mul (Nat.two_pow_pos _), ← Nat.pow_add, show s + (64 - s) = 64 by omega]; exact hl
  have h2 : (hi + 1) * 2 ^ s ≤ y * 2 ^ s := Nat.mul_le_mul_right _ hh
  rw [Nat.add_mul, Nat.one_mul] at h2
  refine ⟨by omega, by omega, ?_⟩
  have h64 : (18446744073709551616 : Nat) = 2 ^ (64 - s) * 2 ^ s := by rw [← Nat.pow_add, show 64 - s + s = 64 by omega]
  have e1 : lo * 2 ^ s / 18446744073709551616 = lo / 2 ^ (64 - s) := by
    rw [h64, Nat.mul_div_mul_right _ _ hp]
  have e2 := Nat.div_add_mod (lo * 2 ^ s) 18446744073709551616
  rw [e1] at e2
  exact d64_arith hi (2 ^ s) 18446744073709551616 lo _ _ e2
/-- the end of math/bits.Div64: the scaled quotient and remainder -/
theorem d64_end (N y P Q t2 : Nat) (hP : 0 < P) (hy : 0 < y) (h : N * P = y * P * Q + t2) (ht : t2 < y * P) : N / y = Q ∧ N % y = t2 / P := by
  refine ⟨?_, ?_⟩
  · rw [← Nat.mul_div_mul_right N y hP, h, Nat.mul_add_div (Nat.mul_pos hy hP), Nat.div_eq_of_lt ht, Nat.add_zero]
  · have h1 := Nat.mul_mod_mul_right P N y
    rw [h, Nat.mul_add_mod, Nat.mod_eq_of_lt ht] at h1
    rw [h1, Nat.mul_div_cancel _ hP]
theorem wrap_rem (u v Q Y t : Nat) (h : u * 4294967296 + v = Q * Y + t) (ht : t < 18446744073709551616) :
    IntKind.u64.wrap (IntKind.u64.wrap (IntKind.u64.wrap ((u : Int) * 4294967296) + (v : Int)) - IntKind.u64.wrap ((Q : Int) * (Y : Int))) = (t : Int) := by
  rw [mulC]
  generalize Q * Y = X at *
  simp only [IntKind.wrap_u64]
  omega
set_option maxHeartbeats 4000000 in
theorem div64_high (hi lo y : Nat) (h0 : 0 < hi) (hh : hi < y) (hl : lo < 18446744073709551616) (hy : y < 18446744073709551616) (w : World) :
    Calls Try.prog 32 #[.int .u64 (hi : Int), .int .u64 (lo : Int), .int .u64 (y : Int)] w fun e w' => e = .returned (.tuple #[.int .u64 (divQ 18446744073709551616 hi lo y : Int), .int .u64 (divR 18446744073709551616 hi lo y : Int)]) ∧ w = w' := by
  have n1 : ((y : Int) == 0) = false := by simp; omega
  have n2 : ((hi : Int) == 0) = false := by simp; omega
  have n3 : decide (y ≤ hi) = false := by simp; omega
  obtain ⟨s, hs⟩ : ∃ s, s = 64 - bitLen y := ⟨_, rfl⟩
  have hbl := bitLen_le64' y hy
  have c1 := fun w => lz64_any y hy w
  rw [show (64 - (bitLen y : Int)) = (s : Int) by omega] at c1
  have hsp := (bitLen_spec y).1
  have hsp2 := (bitLen_spec y).2 (by omega)
  have hbp : 0 < bitLen y := by
    rcases Nat.eq_zero_or_pos (bitLen y) with h | h
    · rw [h] at hsp; simp at hsp; omega
    · exact h
  have hs63 : s ≤ 63 := by omega
  have hY1 : 9223372036854775808 ≤ y * 2 ^ s := by
    have h1 : 2 ^ (bitLen y - 1) * 2 ^ s ≤ y * 2 ^ s := Nat.mul_le_mul_right _ hsp2
    rw [← Nat.pow_add, show bitLen y - 1 + s = 63 by omega] at h1
    simpa using h1
  have hY2 : y * 2 ^ s < 18446744073709551616 := by
    have h1 : y * 2 ^ s < 2 ^ bitLen y * 2 ^ s := Nat.mul_lt_mul_of_pos_right hsp (Nat.two_pow_pos s)
    rw [← Nat.pow_add, show bitLen y + s = 64 by omega] at h1
    simpa using h1
  obtain ⟨fu, fh, fN⟩ := d64_facts hi lo y s hh hl hs63 hY1 hY2
  have eY : IntKind.u64.wrap ((y : Int) * 2 ^ s) = ((y * 2 ^ s : Nat) : Int) := by rw [powC, mulC, wrap64N, Nat.mod_eq_of_lt hY2]
  have eU := orShift hi lo s hs63 hl fh
  have eL : IntKind.u64.wrap ((lo : Int) * 2 ^ s) = ((lo * 2 ^ s % 18446744073709551616 : Nat) : Int) := by rw [powC, mulC, wrap64N]
  obtain ⟨Y, hY⟩ : ∃ Y, Y = y * 2 ^ s := ⟨_, rfl⟩
  obtain ⟨u, hu⟩ : ∃ u, u = hi * 2 ^ s + lo / 2 ^ (64 - s) := ⟨_, rfl⟩
  obtain ⟨l, hl2⟩ : ∃ l, l = lo * 2 ^ s % 18446744073709551616 := ⟨_, rfl⟩
  have hll : l < 18446744073709551616 := by rw [hl2]; exact Nat.mod_lt _ (by decide)
  rw [← hY] at hY1 hY2 fu eY
  rw [← hu] at fu fN eU
  rw [← hl2] at fN eL
  have eb := mask32 Y hY2
  have e0 := mask32 l hll
  obtain ⟨a, ha⟩ : ∃ a, a = Y / 4294967296 := ⟨_, rfl⟩
  obtain ⟨b, hb⟩ : ∃ b, b = Y % 4294967296 := ⟨_, rfl⟩
  obtain ⟨v1, hv1⟩ : ∃ v1, v1 = l / 4294967296 := ⟨_, rfl⟩
  obtain ⟨v0, hv0⟩ : ∃ v0, v0 = l % 4294967296 := ⟨_, rfl⟩
  rw [← hb] at eb
  rw [← hv0] at e0
  have ea : (Y : Int) / 4294967296 = (a : Int) := by omega
  have e1 : (l : Int) / 4294967296 = (v1 : Int) := by omega
  have ha1 : 2147483648 ≤ a := by omega
  have ha2 : a < 4294967296 := by omega
  have hb2 : b < 4294967296 := by omega
  have hv1l : v1 < 4294967296 := by omega
  have hv0l : v0 < 4294967296 := by omega
  have hYab : Y = a * 4294967296 + b := by omega
  obtain ⟨q, hq⟩ : ∃ q, q = u / a := ⟨_, rfl⟩
  obtain ⟨r, hr⟩ : ∃ r, r = u % a := ⟨_, rfl⟩
  have hqr : q * a + r = u := by rw [hq, hr, Nat.mul_comm]; exact Nat.div_add_mod u a
  have hrl : r < a := by rw [hr]; exact Nat.mod_lt _ (by omega)
  have hqle := kn_guess u v1 Y a b q r hYab ha1 hb2 fu
  have hqge := kn_ge u v1 Y a b q r hYab ha1 hv1l
  have hQl := kn_lt u v1 Y a b q r fu hv1l
  rw [← hq] at hqle hqge
  have eq : IntKind.u64.wrap ((u : Int) / (a : Int)) = (q : Int) := by rw [divC, ← hq, wrap64N, Nat.mod_eq_of_lt (by omega)]
  have hqa : q * a ≤ u := by omega
  have em : IntKind.u64.wrap ((q : Int) * (a : Int)) = ((q * a : Nat) : Int) := by rw [mulC, wrap64N, Nat.mod_eq_of_lt (by omega)]
  obtain ⟨qa, hqa0⟩ : ∃ qa, qa = q * a := ⟨_, rfl⟩
  rw [← hqa0] at em hqr hqa
  have es : IntKind.u64.wrap ((u : Int) - (qa : Int)) = (r : Int) := by rw [show (u : Int) - (qa : Int) = (r : Int) by omega, wrap64N, Nat.mod_eq_of_lt (by omega)]
  have es2 : (u : Int) - (qa : Int) = (r : Int) := by omega
  have rY : ∀ _ : True, _ = _ := fun _ => eY
  have rU : ∀ _ : True, _ = _ := fun _ => eU
  have rL : ∀ _ : True, _ = _ := fun _ => eL
  have rb : ∀ _ : True, _ = _ := fun _ => eb
  have r0 : ∀ _ : True, _ = _ := fun _ => e0
  have ra : ∀ _ : True, _ = _ := fun _ => ea
  have r1 : ∀ _ : True, _ = _ := fun _ => e1
  have rq : ∀ _ : True, _ = _ := fun _ => eq
  have rm : ∀ _ : True, _ = _ := fun _ => em
  have rs : ∀ _ : True, _ = _ := fun _ => es
  have rs2 : ∀ _ : True, _ = _ := fun _ => es2
  have rs3 : ∀ _ : True, IntKind.u64.wrap (r : Int) = (r : Int) := fun _ => by rw [wrap64N, Nat.mod_eq_of_lt (by omega)]
  have nz : ∀ _ : True, ¬ ((a : Int) = 0) := fun _ => by omega
  obtain ⟨Q1, hQ1⟩ : ∃ Q1, Q1 = (u * 4294967296 + v1) / Y := ⟨_, rfl⟩
  rw [← hQ1] at hqge hQl
  have C1 := Lib.hid c1
  have HN := Lib.hid (And.intro fN (And.intro hY (And.intro hYab (And.intro fu (And.intro hQ1 (And.intro hv1 (And.intro hv0 (And.intro hqa0 (And.intro hqr hrl)))))))))
  have HB := Lib.hid (And.intro hqge (And.intro hqle hQl))
  clear c1 hs hbl hsp hsp2 hbp eY eU eL eb e0 ea e1 eq em es es2 hY hu hl2 ha hb hv1 hv0 hYab hq hr hqr hqa0 hqa fN fu fh hqge hqle hQl hQ1 hY1 hrl
  have eA := Nat.div_add_mod (u * 4294967296 + v1) Y
  have hY0 : 0 < Y := by have := HN.out.2.2.1; omega
  have hT1 : (u * 4294967296 + v1) % Y < Y := Nat.mod_lt _ hY0
  rw [← HN.out.2.2.2.2.1] at eA
  obtain ⟨t, ht⟩ : ∃ t, t = (u * 4294967296 + v1) % Y := ⟨_, rfl⟩
  rw [← ht] at eA hT1
  have eT := wrap_rem u v1 Q1 Y t (by rw [← eA, Nat.mul_comm]) (by omega)
  obtain ⟨q2, hq2⟩ : ∃ q2, q2 = t / a := ⟨_, rfl⟩
  obtain ⟨r2, hr2⟩ : ∃ r2, r2 = t % a := ⟨_, rfl⟩
  have hqr2 : q2 * a + r2 = t := by rw [hq2, hr2, Nat.mul_comm]; exact Nat.div_add_mod t a
  have hrl2 : r2 < a := by rw [hr2]; exact Nat.mod_lt _ (by omega)
  have hqle2 := kn_guess t v0 Y a b q2 r2 HN.out.2.2.1 ha1 hb2 hT1
  have hqge2 := kn_ge t v0 Y a b q2 r2 HN.out.2.2.1 ha1 hv0l
  have hQl2 := kn_lt t v0 Y a b q2 r2 hT1 hv0l
  rw [← hq2] at hqle2 hqge2
  have eq2 : IntKind.u64.wrap ((t : Int) / (a : Int)) = (q2 : Int) := by rw [divC, ← hq2, wrap64N, Nat.mod_eq_of_lt (by omega)]
  have em2 : IntKind.u64.wrap ((q2 : Int) * (a : Int)) = ((q2 * a : Nat) : Int) := by rw [mulC, wrap64N, Nat.mod_eq_of_lt (by omega)]
  obtain ⟨qa2, hqa2⟩ : ∃ qa2, qa2 = q2 * a := ⟨_, rfl⟩
  have hqr3 := hqr2
  rw [← hqa2] at em2 hqr3
  have es4 : (t : Int) - (qa2 : Int) = (r2 : Int) := by omega
  have rT : ∀ _ : True, _ = _ := fun _ => eT
  have rq2 : ∀ _ : True, _ = _ := fun _ => eq2
  have rm2 : ∀ _ : True, _ = _ := fun _ => em2
  have rs4 : ∀ _ : True, _ = _ := fun _ => es4
  have rs5 : ∀ _ : True, IntKind.u64.wrap (r2 : Int) = (r2 : Int) := fun _ => by rw [wrap64N, Nat.mod_eq_of_lt (by omega)]
  have eB := Nat.div_add_mod (t * 4294967296 + v0) Y
  have hT2 : (t * 4294967296 + v0) % Y < Y := Nat.mod_lt _ hY0
  obtain ⟨Q0, hQ0⟩ : ∃ Q0, Q0 = (t * 4294967296 + v0) / Y := ⟨_, rfl⟩
  obtain ⟨t2, ht2⟩ : ∃ t2, t2 = (t * 4294967296 + v0) % Y := ⟨_, rfl⟩
  rw [← hQ0, ← ht2] at eB
  rw [← ht2] at hT2
  rw [← hQ0] at hqge2 hQl2
  have eT2 := wrap_rem t v0 Q0 Y t2 (by rw [← eB, Nat.mul_comm]) (by omega)
  have rT2 : ∀ _ : True, _ = _ := fun _ => eT2
  have hfin := d64_end (hi * 18446744073709551616 + lo) y (2 ^ s) (Q1 * 4294967296 + Q0) t2 (Nat.two_pow_pos s) (by omega) (by
    rw [HN.out.1, ← HN.out.2.1, Nat.mul_add]
    have h1 : l = v1 * 4294967296 + v0 := by have := HN.out.2.2.2.2.2.1; have := HN.out.2.2.2.2.2.2.1; omega
    have h2 : Y * (Q1 * 4294967296) = Y * Q1 * 4294967296 := (Nat.mul_assoc _ _ _).symm
    rw [h1, h2]
    generalize Y * Q1 = X at *
    generalize Y * Q0 = Z at *
    omega) (by rw [← HN.out.2.1]; exact hT2)
  have HFin := Lib.hid hfin
  have HQ2 := Lib.hid hQ0
  have HBB2 : Hid (Q0 ≤ q2 ∧ q2 ≤ 4294967297 ∧ Q0 < 4294967296 ∧ q2 * a + r2 = t) := Lib.hid ⟨hqge2, hqle2, hQl2, hqr2⟩
  have hQ1l : Q1 < 4294967296 := HB.out.2.2
  clear eA hT1 ht eT hq2 hr2 hqr2 hqle2 hqge2 eq2 em2 hqa2 hqr3 es4 eB hQ0 ht2 eT2 hT2 hfin
  have HYA := Lib.hid (And.intro HN.out.2.2.1 (show 0 < Y by have := HN.out.2.2.1; omega))
  have HQx := Lib.hid HN.out.2.2.2.2.1
  have HBB : Hid (Q1 ≤ q ∧ q ≤ 4294967297 ∧ Q1 < 4294967296 ∧ q * a + r = u) := Lib.hid ⟨HB.out.1, HB.out.2.1, HB.out.2.2, by have h1 := HN.out.2.2.2.2.2.2.2.1; have h2 := HN.out.2.2.2.2.2.2.2.2.1; rw [← h1]; exact h2⟩
  have hrl : r < a := HN.out.2.2.2.2.2.2.2.2.2
  go_enter Try.func32, Try.ntmps32
  go_upto_block 0 with (go_at_call 37; refine (C1.out _).mono ?_; rintro e w' ⟨rfl, rfl⟩)
  go_cut [15] (fun x wx => x = .int .u64 (Q1 : Int) ∧ w = wx)
  case first =>
    go_wp2_with fail
    go_loop [15, 16] (fun x y => ∃ q r : Nat, x = .int .u64 (q : Int) ∧ y = .int .u64 (r : Int) ∧ Q1 ≤ q ∧ q ≤ 4294967297 ∧ r < 4294967296 ∧ Hid (q * a + r = u)) (fun x _ => (intOf x).toNat)
    case atStart => exact ⟨q, r, rfl, rfl, HBB.out.1, HBB.out.2.1, by omega, Lib.hid HBB.out.2.2.2⟩
    case round =>
      obtain ⟨q, r, rfl, rfl, hq1, hq2, hr1, HR⟩ := hrel
      have hQl := HBB.out.2.2.1
      have hr := HR.out
      have HD : Hid (Y = a * 4294967296 + b ∧ 0 < Y ∧ Q1 = (u * 4294967296 + v1) / Y) := Lib.hid ⟨HYA.out.1, HYA.out.2, HQx.out⟩
      by_cases hA : 4294967296 ≤ q
      · obtain ⟨q', rfl⟩ : ∃ q', q = q' + 1 := ⟨q - 1, by omega⟩
        have t1 : ∀ _ : True, decide ((4294967296 : Int) ≤ (q' : Int) + 1) = true := fun _ => by simp; omega
        have hr' : q' * a + (r + a) = u := by rw [← hr, Nat.add_mul]; omega
        have HR' := Lib.hid hr'
        by_cases hbr : 4294967296 ≤ r + a
        · have t2 : ∀ _ : True, decide ((4294967296 : Int) ≤ (r : Int) + (a : Int)) = true := fun _ => by simp; omega
          have hd := kn_done u v1 Y a b q' (r + a) HD.out.1 HD.out.2.1 hr' (kn_break u v1 Y a b q' (r + a) hb2 (by omega) hbr)
          rw [← HD.out.2.2] at hd
          have he : q' = Q1 := by omega
          have HE := Lib.hid he
          clear hr hr' hd he hQl hA hbr
          go_wp2
          go_meet
          exact ⟨by rw [← HE.out], rfl⟩
        · have t2 : ∀ _ : True, decide ((4294967296 : Int) ≤ (r : Int) + (a : Int)) = false := fun _ => by simp; omega
          have hq3 : Q1 ≤ q' := by omega
          have hr3 : r + a < 4294967296 := by omega
          clear hr hr' hQl hA hbr
          go_wp2
          go_round
          case rel => exact ⟨q', r + a, by go_num, by go_num, hq3, by omega, hr3, HR'⟩
          case measure => simp [intOf]
      · have t1 : ∀ _ : True, decide ((4294967296 : Int) ≤ (q : Int)) = false := fun _ => by simp; omega
        have hpl : q * b < 18446744073709551616 := by
          have : q * b ≤ 4294967295 * 4294967295 := Nat.mul_le_mul (by omega) (by omega)
          omega
        obtain ⟨p, hp⟩ : ∃ p, p = q * b := ⟨_, rfl⟩
        have rp : ∀ _ : True, IntKind.u64.wrap ((q : Int) * (b : Int)) = (p : Int) := fun _ => by rw [mulC, wrap64N, Nat.mod_eq_of_lt hpl, hp]
        by_cases hB : 4294967296 * r + v1 < p
        · have t3 : ∀ _ : True, decide (4294967296 * (r : Int) + (v1 : Int) < (p : Int)) = true := fun _ => by simp; omega
          have hdn := kn_down u v1 Y a b q r HD.out.1 HD.out.2.1 hr (by rw [← hp]; exact hB)
          rw [← HD.out.2.2] at hdn
          obtain ⟨q', rfl⟩ : ∃ q', q = q' + 1 := ⟨q - 1, by omega⟩
          have t1b : ∀ _ : True, decide ((4294967296 : Int) ≤ (q' : Int) + 1) = false := fun _ => by simp; omega
          have rpb : ∀ _ : True, IntKind.u64.wrap (((q' : Int) + 1) * (b : Int)) = (p : Int) := fun _ => by rw [← rp trivial]; simp
          clear t1 rp
          have hr' : q' * a + (r + a) = u := by rw [← hr, Nat.add_mul]; omega
          have HR' := Lib.hid hr'
          by_cases hbr : 4294967296 ≤ r + a
          · have t2 : ∀ _ : True, decide ((4294967296 : Int) ≤ (r : Int) + (a : Int)) = true := fun _ => by simp; omega
            have hd := kn_done u v1 Y a b q' (r + a) HD.out.1 HD.out.2.1 hr' (kn_break u v1 Y a b q' (r + a) hb2 (by omega) hbr)
            rw [← HD.out.2.2] at hd
            have he : q' = Q1 := by omega
            have HE := Lib.hid he
            clear hr hr' hd he hQl hA hbr hpl hp hB hdn
            go_wp2
            go_meet
            exact ⟨by rw [← HE.out], rfl⟩
          · have t2 : ∀ _ : True, decide ((4294967296 : Int) ≤ (r : Int) + (a : Int)) = false := fun _ => by simp; omega
            have hq3 : Q1 ≤ q' := by omega
            have hr3 : r + a < 4294967296 := by omega
            clear hr hr' hQl hA hbr hpl hp hB hdn
            go_wp2
            go_round
            case rel => exact ⟨q', r + a, by go_num, by go_num, hq3, by omega, hr3, HR'⟩
            case measure => simp [intOf]
        · have t3 : ∀ _ : True, decide (4294967296 * (r : Int) + (v1 : Int) < (p : Int)) = false := fun _ => by simp; omega
          have hd := kn_done u v1 Y a b q r HD.out.1 HD.out.2.1 hr (by rw [← hp]; omega)
          rw [← HD.out.2.2] at hd
          have he : q = Q1 := by omega
          have HE := Lib.hid he
          clear hr hd he hQl hA hpl hp hB
          go_wp2
          go_meet
          exact ⟨by rw [HE.out], rfl⟩
  case rest =>
    obtain ⟨rfl, rfl⟩ := hcut
    go_upto_block 2 with fail
    go_cut [18] (fun x wx => x = .int .u64 (Q0 : Int) ∧ w = wx)
    case first =>
      go_wp2_with fail
      go_loop [18, 16] (fun x y => ∃ q r : Nat, x = .int .u64 (q : Int) ∧ y = .int .u64 (r : Int) ∧ Q0 ≤ q ∧ q ≤ 4294967297 ∧ r < 4294967296 ∧ Hid (q * a + r = t)) (fun x _ => (intOf x).toNat)
      case atStart => exact ⟨q2, r2, rfl, rfl, HBB2.out.1, HBB2.out.2.1, by omega, Lib.hid HBB2.out.2.2.2⟩
      case round =>
        obtain ⟨q, r, rfl, rfl, hq1, hq2, hr1, HR⟩ := hrel
        have hQl := HBB2.out.2.2.1
        have hr := HR.out
        have HD : Hid (Y = a * 4294967296 + b ∧ 0 < Y ∧ Q0 = (t * 4294967296 + v0) / Y) := Lib.hid ⟨HYA.out.1, HYA.out.2, HQ2.out⟩
        by_cases hA : 4294967296 ≤ q
        · obtain ⟨q', rfl⟩ : ∃ q', q = q' + 1 := ⟨q - 1, by omega⟩
          have t1 : ∀ _ : True, decide ((4294967296 : Int) ≤ (q' : Int) + 1) = true := fun _ => by simp; omega
          have hr' : q' * a + (r + a) = t := by rw [← hr, Nat.add_mul]; omega
          have HR' := Lib.hid hr'
          by_cases hbr : 4294967296 ≤ r + a
          · have t2 : ∀ _ : True, decide ((4294967296 : Int) ≤ (r : Int) + (a : Int)) = true := fun _ => by simp; omega
            have hd := kn_done t v0 Y a b q' (r + a) HD.out.1 HD.out.2.1 hr' (kn_break t v0 Y a b q' (r + a) hb2 (by omega) hbr)
            rw [← HD.out.2.2] at hd
            have he : q' = Q0 := by omega
            have HE := Lib.hid he
            clear hr hr' hd he hQl hA hbr
            go_wp2
            go_meet
            exact ⟨by rw [← HE.out], rfl⟩
          · have t2 : ∀ _ : True, decide ((4294967296 : Int) ≤ (r : Int) + (a : Int)) = false := fun _ => by simp; omega
            have hq3 : Q0 ≤ q' := by omega
            have hr3 : r + a < 4294967296 := by omega
            clear hr hr' hQl hA hbr
            go_wp2
            go_round
            case rel => exact ⟨q', r + a, by go_num, by go_num, hq3, by omega, hr3, HR'⟩
            case measure => simp [intOf]
        · have t1 : ∀ _ : True, decide ((4294967296 : Int) ≤ (q : Int)) = false := fun _ => by simp; omega
          have hpl : q * b < 18446744073709551616 := by
            have : q * b ≤ 4294967295 * 4294967295 := Nat.mul_le_mul (by omega) (by omega)
            omega
          obtain ⟨p, hp⟩ : ∃ p, p = q * b := ⟨_, rfl⟩
          have rp : ∀ _ : True, IntKind.u64.wrap ((q : Int) * (b : Int)) = (p : Int) := fun _ => by rw [mulC, wrap64N, Nat.mod_eq_of_lt hpl, hp]
          by_cases hB : 4294967296 * r + v0 < p
          · have t3 : ∀ _ : True, decide (4294967296 * (r : Int) + (v0 : Int) < (p : Int)) = true := fun _ => by simp; omega
            have hdn := kn_down t v0 Y a b q r HD.out.1 HD.out.2.1 hr (by rw [← hp]; exact hB)
            rw [← HD.out.2.2] at hdn
            obtain ⟨q', rfl⟩ : ∃ q', q = q' + 1 := ⟨q - 1, by omega⟩
            have t1b : ∀ _ : True, decide ((4294967296 : Int) ≤ (q' : Int) + 1) = false := fun _ => by simp; omega
            have rpb : ∀ _ : True, IntKind.u64.wrap (((q' : Int) + 1) * (b : Int)) = (p : Int) := fun _ => by rw [← rp trivial]; simp
            clear t1 rp
            have hr' : q' * a + (r + a) = t := by rw [← hr, Nat.add_mul]; omega
            have HR' := Lib.hid hr'
            by_cases hbr : 4294967296 ≤ r + a
            · have t2 : ∀ _ : True, decide ((4294967296 : Int) ≤ (r : Int) + (a : Int)) = true := fun _ => by simp; omega
              have hd := kn_done t v0 Y a b q' (r + a) HD.out.1 HD.out.2.1 hr' (kn_break t v0 Y a b q' (r + a) hb2 (by omega) hbr)
              rw [← HD.out.2.2] at hd
              have he : q' = Q0 := by omega
              have HE := Lib.hid he
              clear hr hr' hd he hQl hA hbr hpl hp hB hdn
              go_wp2
              go_meet
              exact ⟨by rw [← HE.out], rfl⟩
            · have t2 : ∀ _ : True, decide ((4294967296 : Int) ≤ (r : Int) + (a : Int)) = false := fun _ => by simp; omega
              have hq3 : Q0 ≤ q' := by omega
              have hr3 : r + a < 4294967296 := by omega
              clear hr hr' hQl hA hbr hpl hp hB hdn
              go_wp2
              go_round
              case rel => exact ⟨q', r + a, by go_num, by go_num, hq3, by omega, hr3, HR'⟩
              case measure => simp [intOf]
          · have t3 : ∀ _ : True, decide (4294967296 * (r : Int) + (v0 : Int) < (p : Int)) = false := fun _ => by simp; omega
            have hd := kn_done t v0 Y a b q r HD.out.1 HD.out.2.1 hr (by rw [← hp]; omega)
            rw [← HD.out.2.2] at hd
            have he : q = Q0 := by omega
            have HE := Lib.hid he
            clear hr hd he hQl hA hpl hp hB
            go_wp2
            go_meet
            exact ⟨by rw [HE.out], rfl⟩
    case rest =>
      obtain ⟨rfl, rfl⟩ := hcut
      have hQ0l := HBB2.out.2.2.1
      go_wp2
      go_ret2
      obtain ⟨g1, g2⟩ := HFin.out
      exact ⟨ret_two (by unfold divQ; rw [g1]; simp) (by unfold divR; rw [g2]; simp), rfl⟩

theorem div64_any (hi lo y : Nat) (hh : hi < y) (hl : lo < 18446744073709551616) (hy : y < 18446744073709551616) (w : World) :
    Calls Try.prog 32 #[.int .u64 (hi : Int), .int .u64 (lo : Int), .int .u64 (y : Int)] w fun e w' => e = .returned (.tuple #[.int .u64 (divQ 18446744073709551616 hi lo y : Int), .int .u64 (divR 18446744073709551616 hi lo y : Int)]) ∧ ∃ m, w' = w.drewN m := by
  by_cases h0 : hi = 0
  · subst h0
    exact div64_low lo y hh hl hy w
  · exact (div64_high hi lo y (by omega) hh hl hy w).mono fun _ _ ⟨he, hw⟩ => ⟨he, 0, hw.symm⟩
-- impl begin
theorem div64_i (hi lo y : Nat) (hh : hi < y) (hl : lo < 18446744073709551616) (hy : y < 18446744073709551616) (w : World) :
    Calls Try.prog 22 #[.int .u64 (hi : Int), .int .u64 (lo : Int), .int .u64 (y : Int)] w fun e w' => e = .returned (.tuple #[.int .u64 (divQ 18446744073709551616 hi lo y : Int), .int .u64 (divR 18446744073709551616 hi lo y : Int)]) ∧ ∃ m, w' = w.drewN m := by
  go_enter Try.func22, Try.ntmps22
  go_wp2_with (go_at_call 32; refine (div64_any hi lo y hh hl hy _).mono ?_; rintro e w' ⟨rfl, hw⟩)
  go_ret2
  exact ⟨by first | rfl | simp, hw⟩
-- impl end
set_option maxHeartbeats 1000000 in
theorem rem64_any (hi lo y : Nat) (hh : hi < 18446744073709551616) (hl : lo < 18446744073709551616) (hy0 : 0 < y) (hy : y < 18446744073709551616) (w : World) :
    Calls Try.prog 33 #[.int .u64 (hi : Int), .int .u64 (lo : Int), .int .u64 (y : Int)] w fun e w' => e = .returned (.int .u64 (divR 18446744073709551616 (hi % y) lo y : Int)) ∧ ∃ m, w' = w.drewN m := by
  obtain ⟨h2, hh2⟩ : ∃ h2, h2 = hi % y := ⟨_, rfl⟩
  have h2l : h2 < y := by rw [hh2]; exact Nat.mod_lt _ hy0
  have e : (hi : Int) % (y : Int) = (h2 : Int) := by rw [modC, hh2]
  rw [← hh2]
  have r1 : ∀ _ : True, _ = _ := fun _ => e
  have nz : ∀ _ : True, ¬ ((y : Int) = 0) := fun _ => by omega
  have hz0 : (0 : Int) ≤ (hi : Int) := by omega
  have hy1 : (1 : Int) ≤ (y : Int) := by omega
  clear e hh2
  go_enter Try.func33, Try.ntmps33
  go_wp2_with (go_at_call 32; refine (div64_any h2 lo y h2l hl hy _).mono ?_; rintro e w' ⟨rfl, hw⟩)
  go_ret
  exact ⟨rfl, hw⟩

-- impl begin
theorem rem64_i (hi lo y : Nat) (hh : hi < 18446744073709551616) (hl : lo < 18446744073709551616) (hy0 : 0 < y) (hy : y < 18446744073709551616) (w : World) :
    Calls Try.prog 24 #[.int .u64 (hi : Int), .int .u64 (lo : Int), .int .u64 (y : Int)] w fun e w' => e = .returned (.int .u64 (divR 18446744073709551616 (hi % y) lo y : Int)) ∧ ∃ m, w' = w.drewN m := by
  go_enter Try.func24, Try.ntmps24
  go_wp2_with (go_at_call 33; refine (rem64_any hi lo y hh hl hy0 hy _).mono ?_; rintro e w' ⟨rfl, hw⟩)
  go_ret
  exact ⟨by first | rfl | simp, hw⟩
-- impl end
end Go.Proofs.Ytpoadogiganibaa
