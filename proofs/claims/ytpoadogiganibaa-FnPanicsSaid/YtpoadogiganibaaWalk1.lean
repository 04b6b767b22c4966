/- The contracts of the reference's Bit, Len, Ones and of the package's Len, LeadingZeros, OnesCount: each returns the number of bits that its name says, and the world stays as it was. -/
import Derived.Test.YtpoadogiganibaaRows
import Derived.WalkKit
import Derived.WalkLawsBesides
import Derived.WalkSpells
import Derived.LoopTactic
import Derived.Outline
import Derived.Deep.QuietTactic
import Derived.BigQuiet
import Derived.Laws.Bits128
import Derived.Lib.Hide
import Derived.Test.YtpoadogiganibaaBitsPlain
import Derived.Test.YtpoadogiganibaaConv
import Derived.Test.YtpoadogiganibaaPop
set_option linter.unusedVariables false
namespace Go.Proofs.Ytpoadogiganibaa
open Go.RowKit Go.Proofs.Ytpoadogiganibaa.Plain

theorem bit_num (x k : Nat) : (bits .and .u64 ((x : Int) / 2 ^ k) 1 == 1) = x.testBit k := by
  have e : ((x : Int) / 2 ^ k) = ((x / 2 ^ k : Nat) : Int) := by simp
  have h := and64N (x / 2 ^ k) 1
  rw [e, show (1 : Int) = ((1 : Nat) : Int) from rfl, h, Nat.and_one_is_mod]
  rw [Nat.testBit, Nat.shiftRight_eq_div_pow, Nat.and_comm, Nat.and_one_is_mod]
  generalize x / 2 ^ k = y
  rcases (by omega : y % 2 = 0 ∨ y % 2 = 1) with h | h <;> rw [h] <;> rfl

set_option maxHeartbeats 400000 in
theorem bit_any (x k : Nat) (hx : x < 18446744073709551616) (hk : k < 64) (w : World) :
    Calls Try.prog 31 #[.int .u64 (x : Int), .int .i64 (k : Int)] w fun e w' => e = .returned (.bool (x.testBit k)) ∧ w = w' := by
  go_enter Try.func31, Try.ntmps31
  go_wp2
  go_ret
  exact ⟨ret_bool (bit_num x k), rfl⟩
theorem bit_yes (x k : Nat) (hx : x < 18446744073709551616) (hk : k < 64) (hb : x.testBit k = true) (w : World) :
    Calls Try.prog 31 #[.int .u64 (x : Int), .int .i64 (k : Int)] w fun e w' => e = .returned (.bool true) ∧ w = w' := by
  have h := bit_any x k hx hk w; rw [hb] at h; exact h
theorem bit_no (x k : Nat) (hx : x < 18446744073709551616) (hk : k < 64) (hb : x.testBit k = false) (w : World) :
    Calls Try.prog 31 #[.int .u64 (x : Int), .int .i64 (k : Int)] w fun e w' => e = .returned (.bool false) ∧ w = w' := by
  have h := bit_any x k hx hk w; rw [hb] at h; exact h

theorem lenS (x b : Nat) (h : 2 ^ b ≤ x) : bitLen x = b + bitLen (x / 2 ^ b) :=
  bitLen_shift x b (by have := (Nat.one_le_div_iff (Nat.two_pow_pos b)).2 h; omega)
theorem wrapAdd (n : Int) (b : Nat) (hb : b ≤ 8) (h0 : 0 ≤ n) (hn : n ≤ 64) (r : Nat) (hr : (r : Int) = n + b) : wrap64 (n + wrap64 (b : Int)) = (r : Int) := by
  rw [IntWalk.wrap64_in (b : Int) ⟨by omega, by omega⟩, IntWalk.wrap64_in _ ⟨by omega, by omega⟩, hr]
theorem wrapTwo (b : Nat) (hb : b ≤ 8) : wrap64 (wrap64 (b : Int)) = (b : Int) := by
  rw [IntWalk.wrap64_in (b : Int) ⟨by omega, by omega⟩, IntWalk.wrap64_in _ ⟨by omega, by omega⟩]
theorem wrapOne (b : Nat) (hb : b ≤ 255) : wrap64 (b : Int) = (b : Int) := IntWalk.wrap64_in (b : Int) ⟨by omega, by omega⟩

set_option maxRecDepth 3000 in
set_option maxHeartbeats 1000000 in
theorem len64_any (x : Nat) (hx : x < 18446744073709551616) (w : World) :
    Calls Try.prog 38 #[.int .u64 (x : Int)] w fun e w' => e = .returned (.int .i64 (bitLen x)) ∧ w = w' := by
  by_cases c32 : (4294967296 : Int) ≤ (x : Int)
  · by_cases c16 : (65536 : Int) ≤ (x : Int) / 4294967296
    · by_cases c8 : (256 : Int) ≤ (x : Int) / 4294967296 / 65536
      · have e0 := lenS (x) 32 (by simp only [Nat.reducePow]; omega)
        have e1 := lenS (x / 4294967296) 16 (by simp only [Nat.reducePow]; omega)
        have e2 := lenS (x / 4294967296 / 65536) 8 (by simp only [Nat.reducePow]; omega)
        simp only [Nat.reducePow] at e0 e1 e2
        have hl : (bitLen x : Int) = 56 + bitLen (x / 4294967296 / 65536 / 256) := by omega
        clear e0 e1 e2
        have hb := bitLen_le8 (x / 4294967296 / 65536 / 256) (by omega)
        have HL := Lib.hid hl
        clear hl
        have HB := Lib.hid hb
        clear hb
        have hi : ∀ _ : True, (0 : Int) ≤ (x : Int) / 4294967296 / 65536 / 256 ∧ (x : Int) / 4294967296 / 65536 / 256 < 256 := fun _ => by omega
        have t32 : ∀ _ : True, decide ((4294967296 : Int) ≤ (x : Int)) = true := fun _ => by simp; omega
        have t16 : ∀ _ : True, decide ((65536 : Int) ≤ (x : Int) / 4294967296) = true := fun _ => by simp; omega
        have t8 : ∀ _ : True, decide ((256 : Int) ≤ (x : Int) / 4294967296 / 65536) = true := fun _ => by simp; omega
        clear c32 c16 c8
        go_enter Try.func38, Try.ntmps38
        go_wp2
        go_ret
        refine ⟨ret_int ?_, rfl⟩
        have hi2 : x / 4294967296 / 65536 / 256 < 256 := by have := hi trivial; omega
        first | rw [cast_tab _ (x / 4294967296 / 65536 / 256) _ bitLen (by decide +kernel) hi2] | rw [cast_tab _ ((x / 4294967296 / 65536 / 256) % 256) _ bitLen (by decide +kernel) (Nat.mod_lt _ (by decide)), Nat.mod_eq_of_lt hi2]
        exact wrapAdd 56 _ HB.out (by decide) (by decide) _ HL.out
      · have e0 := lenS (x) 32 (by simp only [Nat.reducePow]; omega)
        have e1 := lenS (x / 4294967296) 16 (by simp only [Nat.reducePow]; omega)
        simp only [Nat.reducePow] at e0 e1
        have hl : (bitLen x : Int) = 48 + bitLen (x / 4294967296 / 65536) := by omega
        clear e0 e1
        have hb := bitLen_le8 (x / 4294967296 / 65536) (by omega)
        have HL := Lib.hid hl
        clear hl
        have HB := Lib.hid hb
        clear hb
        have hi : ∀ _ : True, (0 : Int) ≤ (x : Int) / 4294967296 / 65536 ∧ (x : Int) / 4294967296 / 65536 < 256 := fun _ => by omega
        have t32 : ∀ _ : True, decide ((4294967296 : Int) ≤ (x : Int)) = true := fun _ => by simp; omega
        have t16 : ∀ _ : True, decide ((65536 : Int) ≤ (x : Int) / 4294967296) = true := fun _ => by simp; omega
        have t8 : ∀ _ : True, decide ((256 : Int) ≤ (x : Int) / 4294967296 / 65536) = false := fun _ => by simp; omega
        clear c32 c16 c8
        go_enter Try.func38, Try.ntmps38
        go_wp2
        go_ret
        refine ⟨ret_int ?_, rfl⟩
        have hi2 : x / 4294967296 / 65536 < 256 := by have := hi trivial; omega
        first | rw [cast_tab _ (x / 4294967296 / 65536) _ bitLen (by decide +kernel) hi2] | rw [cast_tab _ ((x / 4294967296 / 65536) % 256) _ bitLen (by decide +kernel) (Nat.mod_lt _ (by decide)), Nat.mod_eq_of_lt hi2]
        exact wrapAdd 48 _ HB.out (by decide) (by decide) _ HL.out
    · by_cases c8 : (256 : Int) ≤ (x : Int) / 4294967296
      · have e0 := lenS (x) 32 (by simp only [Nat.reducePow]; omega)
        have e1 := lenS (x / 4294967296) 8 (by simp only [Nat.reducePow]; omega)
        simp only [Nat.reducePow] at e0 e1
        have hl : (bitLen x : Int) = 40 + bitLen (x / 4294967296 / 256) := by omega
        clear e0 e1
        have hb := bitLen_le8 (x / 4294967296 / 256) (by omega)
        have HL := Lib.hid hl
        clear hl
        have HB := Lib.hid hb
        clear hb
        have hi : ∀ _ : True, (0 : Int) ≤ (x : Int) / 4294967296 / 256 ∧ (x : Int) / 4294967296 / 256 < 256 := fun _ => by omega
        have t32 : ∀ _ : True, decide ((4294967296 : Int) ≤ (x : Int)) = true := fun _ => by simp; omega
        have t16 : ∀ _ : True, decide ((65536 : Int) ≤ (x : Int) / 4294967296) = false := fun _ => by simp; omega
        have t8 : ∀ _ : True, decide ((256 : Int) ≤ (x : Int) / 4294967296) = true := fun _ => by simp; omega
        clear c32 c16 c8
        go_enter Try.func38, Try.ntmps38
        go_wp2
        go_ret
        refine ⟨ret_int ?_, rfl⟩
        have hi2 : x / 4294967296 / 256 < 256 := by have := hi trivial; omega
        first | rw [cast_tab _ (x / 4294967296 / 256) _ bitLen (by decide +kernel) hi2] | rw [cast_tab _ ((x / 4294967296 / 256) % 256) _ bitLen (by decide +kernel) (Nat.mod_lt _ (by decide)), Nat.mod_eq_of_lt hi2]
        exact wrapAdd 40 _ HB.out (by decide) (by decide) _ HL.out
      · have e0 := lenS (x) 32 (by simp only [Nat.reducePow]; omega)
        simp only [Nat.reducePow] at e0
        have hl : (bitLen x : Int) = 32 + bitLen (x / 4294967296) := by omega
        clear e0
        have hb := bitLen_le8 (x / 4294967296) (by omega)
        have HL := Lib.hid hl
        clear hl
        have HB := Lib.hid hb
        clear hb
        have hi : ∀ _ : True, (0 : Int) ≤ (x : Int) / 4294967296 ∧ (x : Int) / 4294967296 < 256 := fun _ => by omega
        have t32 : ∀ _ : True, decide ((4294967296 : Int) ≤ (x : Int)) = true := fun _ => by simp; omega
        have t16 : ∀ _ : True, decide ((65536 : Int) ≤ (x : Int) / 4294967296) = false := fun _ => by simp; omega
        have t8 : ∀ _ : True, decide ((256 : Int) ≤ (x : Int) / 4294967296) = false := fun _ => by simp; omega
        clear c32 c16 c8
        go_enter Try.func38, Try.ntmps38
        go_wp2
        go_ret
        refine ⟨ret_int ?_, rfl⟩
        have hi2 : x / 4294967296 < 256 := by have := hi trivial; omega
        first | rw [cast_tab _ (x / 4294967296) _ bitLen (by decide +kernel) hi2] | rw [cast_tab _ ((x / 4294967296) % 256) _ bitLen (by decide +kernel) (Nat.mod_lt _ (by decide)), Nat.mod_eq_of_lt hi2]
        exact wrapAdd 32 _ HB.out (by decide) (by decide) _ HL.out
  · by_cases c16 : (65536 : Int) ≤ (x : Int)
    · by_cases c8 : (256 : Int) ≤ (x : Int) / 65536
      · have e0 := lenS (x) 16 (by simp only [Nat.reducePow]; omega)
        have e1 := lenS (x / 65536) 8 (by simp only [Nat.reducePow]; omega)
        simp only [Nat.reducePow] at e0 e1
        have hl : (bitLen x : Int) = 24 + bitLen (x / 65536 / 256) := by omega
        clear e0 e1
        have hb := bitLen_le8 (x / 65536 / 256) (by omega)
        have HL := Lib.hid hl
        clear hl
        have HB := Lib.hid hb
        clear hb
        have hi : ∀ _ : True, (0 : Int) ≤ (x : Int) / 65536 / 256 ∧ (x : Int) / 65536 / 256 < 256 := fun _ => by omega
        have t32 : ∀ _ : True, decide ((4294967296 : Int) ≤ (x : Int)) = false := fun _ => by simp; omega
        have t16 : ∀ _ : True, decide ((65536 : Int) ≤ (x : Int)) = true := fun _ => by simp; omega
        have t8 : ∀ _ : True, decide ((256 : Int) ≤ (x : Int) / 65536) = true := fun _ => by simp; omega
        clear c32 c16 c8
        go_enter Try.func38, Try.ntmps38
        go_wp2
        go_ret
        refine ⟨ret_int ?_, rfl⟩
        have hi2 : x / 65536 / 256 < 256 := by have := hi trivial; omega
        first | rw [cast_tab _ (x / 65536 / 256) _ bitLen (by decide +kernel) hi2] | rw [cast_tab _ ((x / 65536 / 256) % 256) _ bitLen (by decide +kernel) (Nat.mod_lt _ (by decide)), Nat.mod_eq_of_lt hi2]
        exact wrapAdd 24 _ HB.out (by decide) (by decide) _ HL.out
      · have e0 := lenS (x) 16 (by simp only [Nat.reducePow]; omega)
        simp only [Nat.reducePow] at e0
        have hl : (bitLen x : Int) = 16 + bitLen (x / 65536) := by omega
        clear e0
        have hb := bitLen_le8 (x / 65536) (by omega)
        have HL := Lib.hid hl
        clear hl
        have HB := Lib.hid hb
        clear hb
        have hi : ∀ _ : True, (0 : Int) ≤ (x : Int) / 65536 ∧ (x : Int) / 65536 < 256 := fun _ => by omega
        have t32 : ∀ _ : True, decide ((4294967296 : Int) ≤ (x : Int)) = false := fun _ => by simp; omega
        have t16 : ∀ _ : True, decide ((65536 : Int) ≤ (x : Int)) = true := fun _ => by simp; omega
        have t8 : ∀ _ : True, decide ((256 : Int) ≤ (x : Int) / 65536) = false := fun _ => by simp; omega
        clear c32 c16 c8
        go_enter Try.func38, Try.ntmps38
        go_wp2
        go_ret
        refine ⟨ret_int ?_, rfl⟩
        have hi2 : x / 65536 < 256 := by have := hi trivial; omega
        first | rw [cast_tab _ (x / 65536) _ bitLen (by decide +kernel) hi2] | rw [cast_tab _ ((x / 65536) % 256) _ bitLen (by decide +kernel) (Nat.mod_lt _ (by decide)), Nat.mod_eq_of_lt hi2]
        exact wrapAdd 16 _ HB.out (by decide) (by decide) _ HL.out
    · by_cases c8 : (256 : Int) ≤ (x : Int)
      · have e0 := lenS (x) 8 (by simp only [Nat.reducePow]; omega)
        simp only [Nat.reducePow] at e0
        have hl : (bitLen x : Int) = 8 + bitLen (x / 256) := by omega
        clear e0
        have hb := bitLen_le8 (x / 256) (by omega)
        have HL := Lib.hid hl
        clear hl
        have HB := Lib.hid hb
        clear hb
        have hi : ∀ _ : True, (0 : Int) ≤ (x : Int) / 256 ∧ (x : Int) / 256 < 256 := fun _ => by omega
        have t32 : ∀ _ : True, decide ((4294967296 : Int) ≤ (x : Int)) = false := fun _ => by simp; omega
        have t16 : ∀ _ : True, decide ((65536 : Int) ≤ (x : Int)) = false := fun _ => by simp; omega
        have t8 : ∀ _ : True, decide ((256 : Int) ≤ (x : Int)) = true := fun _ => by simp; omega
        clear c32 c16 c8
        go_enter Try.func38, Try.ntmps38
        go_wp2
        go_ret
        refine ⟨ret_int ?_, rfl⟩
        have hi2 : x / 256 < 256 := by have := hi trivial; omega
        first | rw [cast_tab _ (x / 256) _ bitLen (by decide +kernel) hi2] | rw [cast_tab _ ((x / 256) % 256) _ bitLen (by decide +kernel) (Nat.mod_lt _ (by decide)), Nat.mod_eq_of_lt hi2]
        exact wrapAdd 8 _ HB.out (by decide) (by decide) _ HL.out
      · have hl : (bitLen x : Int) = 0 + bitLen (x) := by omega
        have hb := bitLen_le8 (x) (by omega)
        have HL := Lib.hid hl
        clear hl
        have HB := Lib.hid hb
        clear hb
        have hi : ∀ _ : True, (0 : Int) ≤ (x : Int) ∧ (x : Int) < 256 := fun _ => by omega
        have t32 : ∀ _ : True, decide ((4294967296 : Int) ≤ (x : Int)) = false := fun _ => by simp; omega
        have t16 : ∀ _ : True, decide ((65536 : Int) ≤ (x : Int)) = false := fun _ => by simp; omega
        have t8 : ∀ _ : True, decide ((256 : Int) ≤ (x : Int)) = false := fun _ => by simp; omega
        clear c32 c16 c8
        go_enter Try.func38, Try.ntmps38
        go_wp2
        go_ret
        refine ⟨ret_int ?_, rfl⟩
        have hi2 : x < 256 := by have := hi trivial; omega
        first | rw [cast_tab _ (x) _ bitLen (by decide +kernel) hi2] | rw [cast_tab _ ((x) % 256) _ bitLen (by decide +kernel) (Nat.mod_lt _ (by decide)), Nat.mod_eq_of_lt hi2]
        exact wrapTwo _ HB.out

-- impl begin
theorem bitLen_le8' (x : Nat) (hx : x < 256) : bitLen x ≤ 8 := by
  rw [← lenB_eq x 8 hx]; exact lenB_le x 8
theorem bitLen_le16' (x : Nat) (hx : x < 65536) : bitLen x ≤ 16 := by
  rw [← lenB_eq x 16 hx]; exact lenB_le x 16
theorem bitLen_le32' (x : Nat) (hx : x < 4294967296) : bitLen x ≤ 32 := by
  rw [← lenB_eq x 32 hx]; exact lenB_le x 32
theorem bitLen_le64' (x : Nat) (hx : x < 18446744073709551616) : bitLen x ≤ 64 := by
  rw [← lenB_eq x 64 hx]; exact lenB_le x 64
set_option maxHeartbeats 400000 in
theorem lz64_any (x : Nat) (hx : x < 18446744073709551616) (w : World) :
    Calls Try.prog 37 #[.int .u64 (x : Int)] w fun e w' => e = .returned (.int .i64 (64 - (bitLen x : Int))) ∧ w = w' := by
  have hb := bitLen_le64' x hx
  go_enter Try.func37, Try.ntmps37
  go_wp2_with (go_at_call 38; refine (len64_any x hx _).mono ?_; rintro e w' ⟨rfl, rfl⟩)
  go_ret
  exact ⟨rfl, rfl⟩

-- impl begin
theorem and255_16 (x : Nat) (hx : x < 65536) : bits BinOp.and IntKind.u16 (x : Int) 255 = (x : Int) % 256 := by
  rw [show (255 : Int) = ((255 : Nat) : Int) from rfl, and16N, show (255 : Nat) = 2 ^ 8 - 1 from rfl, Nat.and_two_pow_sub_one_eq_mod]
  simp only [Nat.reducePow]; omega
theorem and255_32 (x : Nat) (hx : x < 4294967296) : bits BinOp.and IntKind.u32 (x : Int) 255 = (x : Int) % 256 := by
  rw [show (255 : Int) = ((255 : Nat) : Int) from rfl, and32N, show (255 : Nat) = 2 ^ 8 - 1 from rfl, Nat.and_two_pow_sub_one_eq_mod]
  simp only [Nat.reducePow]; omega
theorem ones_split16 (x : Nat) : onesB x 16 = onesB (x / 256) 8 + onesB (x % 256) 8 := by
  have h := onesB_add x 8 8
  have m := onesB_mod x 8 8 (Nat.le_refl 8)
  simp only [Nat.reducePow] at h m
  rw [m, Nat.add_comm]; exact h
theorem ones_split32 (x : Nat) : onesB x 32 = onesB (x / 16777216) 8 + onesB (x / 65536 % 256) 8 + onesB (x / 256 % 256) 8 + onesB (x % 256) 8 := by
  have h := onesB_add x 8 24
  have h2 := onesB_add (x / 2 ^ 8) 8 16
  have h3 := onesB_add (x / 2 ^ 8 / 2 ^ 8) 8 8
  have m := onesB_mod x 8 8 (Nat.le_refl 8)
  have m2 := onesB_mod (x / 256) 8 8 (Nat.le_refl 8)
  have m3 := onesB_mod (x / 65536) 8 8 (Nat.le_refl 8)
  simp only [Nat.reducePow, Nat.reduceAdd, Nat.div_div_eq_div_mul, Nat.reduceMul] at h h2 h3 m m2 m3
  rw [m, m2, m3, h, h2, h3]; omega

theorem add64N (a b : Nat) : (a : Int) + (b : Int) = ((a + b : Nat) : Int) := (Int.natCast_add a b).symm
theorem and64L (a m : Nat) (hm : m < 18446744073709551616) : bits .and .u64 (a : Int) (m : Int) = ((a &&& m : Nat) : Int) := by
  rw [and64N, Nat.mod_eq_of_lt (Nat.lt_of_le_of_lt Nat.and_le_right hm)]
theorem wrapL (a : Nat) (h : a < 18446744073709551616) : IntKind.u64.wrap (a : Int) = (a : Int) := by rw [wrap64N, Nat.mod_eq_of_lt h]
theorem divL (a d : Nat) : (a : Int) / (d : Int) = ((a / d : Nat) : Int) := (Int.natCast_ediv a d).symm

theorem pop1 (x : Nat) : IntKind.u64.wrap (bits .and .u64 ((x : Int) / 2) 6148914691236517205 + bits .and .u64 (x : Int) 6148914691236517205) = (((x / 2 &&& 0x5555555555555555) + (x &&& 0x5555555555555555) : Nat) : Int) := by
  rw [show (6148914691236517205 : Int) = ((0x5555555555555555 : Nat) : Int) from rfl, show (2 : Int) = ((2 : Nat) : Int) from rfl, divL, and64L _ _ (by decide), and64L _ _ (by decide), add64N]
  have h1 : x / 2 &&& 0x5555555555555555 ≤ 0x5555555555555555 := Nat.and_le_right
  have h2 : x &&& 0x5555555555555555 ≤ 0x5555555555555555 := Nat.and_le_right
  exact wrapL _ (by omega)
theorem pop2 (x : Nat) : IntKind.u64.wrap (bits .and .u64 ((x : Int) / 4) 3689348814741910323 + bits .and .u64 (x : Int) 3689348814741910323) = (((x / 4 &&& 0x3333333333333333) + (x &&& 0x3333333333333333) : Nat) : Int) := by
  rw [show (3689348814741910323 : Int) = ((0x3333333333333333 : Nat) : Int) from rfl, show (4 : Int) = ((4 : Nat) : Int) from rfl, divL, and64L _ _ (by decide), and64L _ _ (by decide), add64N]
  have h1 : x / 4 &&& 0x3333333333333333 ≤ 0x3333333333333333 := Nat.and_le_right
  have h2 : x &&& 0x3333333333333333 ≤ 0x3333333333333333 := Nat.and_le_right
  exact wrapL _ (by omega)
theorem pop3 (x : Nat) (h : x ≤ 7378697629483820646) : bits .and .u64 (IntKind.u64.wrap ((x : Int) / 16 + (x : Int))) 1085102592571150095 = (((x / 16 + x) &&& 0x0f0f0f0f0f0f0f0f : Nat) : Int) := by
  rw [show (1085102592571150095 : Int) = ((0x0f0f0f0f0f0f0f0f : Nat) : Int) from rfl, show (16 : Int) = ((16 : Nat) : Int) from rfl, divL, add64N, wrapL _ (by omega), and64L _ _ (by decide)]
theorem pop4 (x c : Nat) (h : x + x / c < 18446744073709551616) : IntKind.u64.wrap ((x : Int) + (x : Int) / (c : Int)) = ((x + x / c : Nat) : Int) := by
  rw [divL, add64N, wrapL _ h]

end Go.Proofs.Ytpoadogiganibaa
