/- The contracts of the reference's Bit, Len, Ones and of the package's Len, LeadingZeros, OnesCount: each returns the number of bits that its name says, and the world stays as it was. -/
import Derived.Test.YtbpggopjiogimaaRows
import Derived.WalkKit
import Derived.WalkLawsBesides
import Derived.WalkSpells
import Derived.LoopTactic
import Derived.Outline
import Derived.Deep.QuietTactic
import Derived.BigQuiet
import Derived.Laws.Bits128
import Derived.Lib.Hide
import Derived.Test.YtbpggopjiogimaaBitsPlain
import Derived.Test.YtbpggopjiogimaaConv
import Derived.Test.YtbpggopjiogimaaPop
set_option linter.unusedVariables false
namespace Go.Proofs.Ytbpggopjiogimaa
open Go.RowKit Go.Proofs.Ytbpggopjiogimaa.Plain

theorem bit_num (x k : Nat) : (bits .and .u64 ((x : Int) / 2 ^ k) 1 == 1) = x.testBit k := by
  have e : ((x : Int) / 2 ^ k) = ((x / 2 ^ k : Nat) : Int) := by simp
  have h := and64N (x / 2 ^ k) 1
  rw [e, show (1 : Int) = ((1 : Nat) : Int) from rfl, h, Nat.and_one_is_mod]
  rw [Nat.testBit, Nat.shiftRight_eq_div_pow, Nat.and_comm, Nat.and_one_is_mod]
  generalize x / 2 ^ k = y
  rcases (by omega : y % 2 = 0 ∨ y % 2 = 1) with h | h <;> rw [h] <;> rfl

set_option maxHeartbeats 400000 in
theorem bit_any (x k : Nat) (hx : x < 18446744073709551616) (hk : k < 64) (w : World) :
    Calls Try.prog 34 #[.int .u64 (x : Int), .int .i64 (k : Int)] w fun e w' => e = .returned (.bool (x.testBit k)) ∧ w = w' := by
  go_enter Try.func34, Try.ntmps34
  go_wp2
  go_ret
  exact ⟨ret_bool (bit_num x k), rfl⟩
theorem bit_yes (x k : Nat) (hx : x < 18446744073709551616) (hk : k < 64) (hb : x.testBit k = true) (w : World) :
    Calls Try.prog 34 #[.int .u64 (x : Int), .int .i64 (k : Int)] w fun e w' => e = .returned (.bool true) ∧ w = w' := by
  have h := bit_any x k hx hk w; rw [hb] at h; exact h
theorem bit_no (x k : Nat) (hx : x < 18446744073709551616) (hk : k < 64) (hb : x.testBit k = false) (w : World) :
    Calls Try.prog 34 #[.int .u64 (x : Int), .int .i64 (k : Int)] w fun e w' => e = .returned (.bool false) ∧ w = w' := by
  have h := bit_any x k hx hk w; rw [hb] at h; exact h

set_option maxHeartbeats 400000 in
theorem specLen (x n : Nat) (hx : x < 18446744073709551616) (hn : n ≤ 64) (w : World) :
    Calls Try.prog 20 #[.int .u64 (x : Int), .int .i64 (n : Int)] w fun e w' => e = .returned (.int .i64 (lenB x n)) ∧ w = w' := by
  go_enter Try.func20, Try.ntmps20
  go_wp2
  go_loop [5] (fun i => ∃ k : Nat, k ≤ n ∧ i = .int .i64 ((k : Int) - 1) ∧ lenB x k = lenB x n) (fun i => (intOf i + 1).toNat)
  case atStart => exact ⟨n, Nat.le_refl _, rfl, rfl⟩
  case round =>
    obtain ⟨k, hk, rfl, hrest⟩ := hrel
    have HR := Lib.hid hrest
    clear hrest
    by_cases h0 : 0 < k
    · obtain ⟨j, rfl⟩ : ∃ j : Nat, k = j + 1 := ⟨k - 1, by omega⟩
      have ej : ((j + 1 : Nat) : Int) - 1 = (j : Int) := by omega
      rw [ej]
      clear ej
      by_cases hb : x.testBit j = true
      · have HB := Lib.hid hb
        clear hb
        go_wp2_with (go_at_call 34; refine (bit_yes x j hx (by omega) HB.out _).mono ?_; rintro e w' ⟨rfl, rfl⟩)
        go_ret
        exact ⟨ret_int (by rw [← HR.out, lenB, if_pos HB.out]; omega), rfl⟩
      · have HB := Lib.hid (Bool.eq_false_iff.2 hb)
        clear hb
        go_wp2_with (go_at_call 34; refine (bit_no x j hx (by omega) HB.out _).mono ?_; rintro e w' ⟨rfl, rfl⟩)
        go_round
        case rel => exact ⟨j, by omega, by go_num, by rw [← HR.out, lenB, HB.out]; rfl⟩
        case measure => simp [intOf]
    · obtain rfl : k = 0 := by omega
      go_wp2
      go_ret
      exact ⟨ret_int (by rw [← HR.out]; rfl), rfl⟩

theorem lenS (x b : Nat) (h : 2 ^ b ≤ x) : bitLen x = b + bitLen (x / 2 ^ b) :=
  bitLen_shift x b (by have := (Nat.one_le_div_iff (Nat.two_pow_pos b)).2 h; omega)
theorem wrapAdd (n : Int) (b : Nat) (hb : b ≤ 8) (h0 : 0 ≤ n) (hn : n ≤ 64) (r : Nat) (hr : (r : Int) = n + b) : wrap64 (n + wrap64 (b : Int)) = (r : Int) := by
  rw [IntWalk.wrap64_in (b : Int) ⟨by omega, by omega⟩, IntWalk.wrap64_in _ ⟨by omega, by omega⟩, hr]
theorem wrapTwo (b : Nat) (hb : b ≤ 8) : wrap64 (wrap64 (b : Int)) = (b : Int) := by
  rw [IntWalk.wrap64_in (b : Int) ⟨by omega, by omega⟩, IntWalk.wrap64_in _ ⟨by omega, by omega⟩]
theorem wrapOne (b : Nat) (hb : b ≤ 255) : wrap64 (b : Int) = (b : Int) := IntWalk.wrap64_in (b : Int) ⟨by omega, by omega⟩

theorem bitLen_le8' (x : Nat) (hx : x < 256) : bitLen x ≤ 8 := by
  rw [← lenB_eq x 8 hx]; exact lenB_le x 8
theorem bitLen_le16' (x : Nat) (hx : x < 65536) : bitLen x ≤ 16 := by
  rw [← lenB_eq x 16 hx]; exact lenB_le x 16
theorem bitLen_le32' (x : Nat) (hx : x < 4294967296) : bitLen x ≤ 32 := by
  rw [← lenB_eq x 32 hx]; exact lenB_le x 32
theorem bitLen_le64' (x : Nat) (hx : x < 18446744073709551616) : bitLen x ≤ 64 := by
  rw [← lenB_eq x 64 hx]; exact lenB_le x 64
theorem and255_16 (x : Nat) (hx : x < 65536) : bits BinOp.and IntKind.u16 (x : Int) 255 = (x : Int) % 256 := by
  rw [show (255 : Int) = ((255 : Nat) : Int) from rfl, and16N, show (255 : Nat) = 2 ^ 8 - 1 from rfl, Nat.and_two_pow_sub_one_eq_mod]
  simp only [Nat.reducePow]; omega
theorem and255_32 (x : Nat) (hx : x < 4294967296) : bits BinOp.and IntKind.u32 (x : Int) 255 = (x : Int) % 256 := by
  rw [show (255 : Int) = ((255 : Nat) : Int) from rfl, and32N, show (255 : Nat) = 2 ^ 8 - 1 from rfl, Nat.and_two_pow_sub_one_eq_mod]
  simp only [Nat.reducePow]; omega
theorem ones_split16 (x : Nat) : onesB x 16 = onesB (x / 256) 8 + onesB (x % 256) 8 := by
  have h := onesB_add x 8 8
  have m := onesB_mod x 8 8 (Nat.le_refl 8)
  simp only [Nat.reducePow] at h m
  rw [m, Nat.add_comm]; exact h
theorem ones_split32 (x : Nat) : onesB x 32 = onesB (x / 16777216) 8 + onesB (x / 65536 % 256) 8 + onesB (x / 256 % 256) 8 + onesB (x % 256) 8 := by
  have h := onesB_add x 8 24
  have h2 := onesB_add (x / 2 ^ 8) 8 16
  have h3 := onesB_add (x / 2 ^ 8 / 2 ^ 8) 8 8
  have m := onesB_mod x 8 8 (Nat.le_refl 8)
  have m2 := onesB_mod (x / 256) 8 8 (Nat.le_refl 8)
  have m3 := onesB_mod (x / 65536) 8 8 (Nat.le_refl 8)
  simp only [Nat.reducePow, Nat.reduceAdd, Nat.div_div_eq_div_mul, Nat.reduceMul] at h h2 h3 m m2 m3
  rw [m, m2, m3, h, h2, h3]; omega

theorem add64N (a b : Nat) : (a : Int) + (b : Int) = ((a + b : Nat) : Int) := (Int.natCast_add a b).symm
theorem and64L (a m : Nat) (hm : m < 18446744073709551616) : bits .and .u64 (a : Int) (m : Int) = ((a &&& m : Nat) : Int) := by
  rw [and64N, Nat.mod_eq_of_lt (Nat.lt_of_le_of_lt Nat.and_le_right hm)]
theorem wrapL (a : Nat) (h : a < 18446744073709551616) : IntKind.u64.wrap (a : Int) = (a : Int) := by rw [wrap64N, Nat.mod_eq_of_lt h]
theorem divL (a d : Nat) : (a : Int) / (d : Int) = ((a / d : Nat) : Int) := (Int.natCast_ediv a d).symm

theorem pop1 (x : Nat) : IntKind.u64.wrap (bits .and .u64 ((x : Int) / 2) 6148914691236517205 + bits .and .u64 (x : Int) 6148914691236517205) = (((x / 2 &&& 0x5555555555555555) + (x &&& 0x5555555555555555) : Nat) : Int) := by
  rw [show (6148914691236517205 : Int) = ((0x5555555555555555 : Nat) : Int) from rfl, show (2 : Int) = ((2 : Nat) : Int) from rfl, divL, and64L _ _ (by decide), and64L _ _ (by decide), add64N]
  have h1 : x / 2 &&& 0x5555555555555555 ≤ 0x5555555555555555 := Nat.and_le_right
  have h2 : x &&& 0x5555555555555555 ≤ 0x5555555555555555 := Nat.and_le_right
  exact wrapL _ (by omega)
theorem pop2 (x : Nat) : IntKind.u64.wrap (bits .and .u64 ((x : Int) / 4) 3689348814741910323 + bits .and .u64 (x : Int) 3689348814741910323) = (((x / 4 &&& 0x3333333333333333) + (x &&& 0x3333333333333333) : Nat) : Int) := by
  rw [show (3689348814741910323 : Int) = ((0x3333333333333333 : Nat) : Int) from rfl, show (4 : Int) = ((4 : Nat) : Int) from rfl, divL, and64L _ _ (by decide), and64L _ _ (by decide), add64N]
  have h1 : x / 4 &&& 0x3333333333333333 ≤ 0x3333333333333333 := Nat.and_le_right
  have h2 : x &&& 0x3333333333333333 ≤ 0x3333333333333333 := Nat.and_le_right
  exact wrapL _ (by omega)
theorem pop3 (x : Nat) (h : x ≤ 7378697629483820646) : bits .and .u64 (IntKind.u64.wrap ((x : Int) / 16 + (x : Int))) 1085102592571150095 = (((x / 16 + x) &&& 0x0f0f0f0f0f0f0f0f : Nat) : Int) := by
  rw [show (1085102592571150095 : Int) = ((0x0f0f0f0f0f0f0f0f : Nat) : Int) from rfl, show (16 : Int) = ((16 : Nat) : Int) from rfl, divL, add64N, wrapL _ (by omega), and64L _ _ (by decide)]
theorem pop4 (x c : Nat) (h : x + x / c < 18446744073709551616) : IntKind.u64.wrap ((x : Int) + (x : Int) / (c : Int)) = ((x + x / c : Nat) : Int) := by
  rw [divL, add64N, wrapL _ h]

end Go.Proofs.Ytbpggopjiogimaa
