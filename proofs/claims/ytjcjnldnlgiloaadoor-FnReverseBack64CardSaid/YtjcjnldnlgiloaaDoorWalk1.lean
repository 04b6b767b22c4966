/- The contracts of the reference's Bit, Len, Ones and of the package's Len, LeadingZeros, OnesCount: each returns the number of bits that its name says, and the world stays as it was. -/
import Derived.Test.YtjcjnldnlgiloaaDoorRows
import Derived.WalkKit
import Derived.WalkLawsBesides
import Derived.WalkSpells
import Derived.LoopTactic
import Derived.Outline
import Derived.Deep.QuietTactic
import Derived.BigQuiet
import Derived.Laws.Bits128
import Derived.Lib.Hide
import Derived.Test.YtjcjnldnlgiloaaDoorBitsPlain
import Derived.Test.YtjcjnldnlgiloaaDoorConv
import Derived.Test.YtjcjnldnlgiloaaDoorPop
set_option linter.unusedVariables false
namespace Go.Proofs.YtjcjnldnlgiloaaDoor
open Go.RowKit Go.Proofs.YtjcjnldnlgiloaaDoor.Plain

theorem bit_num (x k : Nat) : (bits .and .u64 ((x : Int) / 2 ^ k) 1 == 1) = x.testBit k := by
  have e : ((x : Int) / 2 ^ k) = ((x / 2 ^ k : Nat) : Int) := by simp
  have h := and64N (x / 2 ^ k) 1
  rw [e, show (1 : Int) = ((1 : Nat) : Int) from rfl, h, Nat.and_one_is_mod]
  rw [Nat.testBit, Nat.shiftRight_eq_div_pow, Nat.and_comm, Nat.and_one_is_mod]
  generalize x / 2 ^ k = y
  rcases (by omega : y % 2 = 0 ∨ y % 2 = 1) with h | h <;> rw [h] <;> rfl

set_option maxHeartbeats 400000 in
theorem bit_any (x k : Nat) (hx : x < 18446744073709551616) (hk : k < 64) (w : World) :
    Calls Tryd.prog 29 #[.int .u64 (x : Int), .int .i64 (k : Int)] w fun e w' => e = .returned (.bool (x.testBit k)) ∧ w = w' := by
  go_enter Tryd.func29, Tryd.ntmps29
  go_wp2
  go_ret
  exact ⟨ret_bool (bit_num x k), rfl⟩
theorem bit_yes (x k : Nat) (hx : x < 18446744073709551616) (hk : k < 64) (hb : x.testBit k = true) (w : World) :
    Calls Tryd.prog 29 #[.int .u64 (x : Int), .int .i64 (k : Int)] w fun e w' => e = .returned (.bool true) ∧ w = w' := by
  have h := bit_any x k hx hk w; rw [hb] at h; exact h
theorem bit_no (x k : Nat) (hx : x < 18446744073709551616) (hk : k < 64) (hb : x.testBit k = false) (w : World) :
    Calls Tryd.prog 29 #[.int .u64 (x : Int), .int .i64 (k : Int)] w fun e w' => e = .returned (.bool false) ∧ w = w' := by
  have h := bit_any x k hx hk w; rw [hb] at h; exact h

theorem lenS (x b : Nat) (h : 2 ^ b ≤ x) : bitLen x = b + bitLen (x / 2 ^ b) :=
  bitLen_shift x b (by have := (Nat.one_le_div_iff (Nat.two_pow_pos b)).2 h; omega)
theorem wrapAdd (n : Int) (b : Nat) (hb : b ≤ 8) (h0 : 0 ≤ n) (hn : n ≤ 64) (r : Nat) (hr : (r : Int) = n + b) : wrap64 (n + wrap64 (b : Int)) = (r : Int) := by
  rw [IntWalk.wrap64_in (b : Int) ⟨by omega, by omega⟩, IntWalk.wrap64_in _ ⟨by omega, by omega⟩, hr]
theorem wrapTwo (b : Nat) (hb : b ≤ 8) : wrap64 (wrap64 (b : Int)) = (b : Int) := by
  rw [IntWalk.wrap64_in (b : Int) ⟨by omega, by omega⟩, IntWalk.wrap64_in _ ⟨by omega, by omega⟩]
theorem wrapOne (b : Nat) (hb : b ≤ 255) : wrap64 (b : Int) = (b : Int) := IntWalk.wrap64_in (b : Int) ⟨by omega, by omega⟩

set_option maxRecDepth 3000 in
set_option maxHeartbeats 1000000 in
theorem len16_any (x : Nat) (hx : x < 65536) (w : World) :
    Calls Tryd.prog 32 #[.int .u16 (x : Int)] w fun e w' => e = .returned (.int .i64 (bitLen x)) ∧ w = w' := by
  by_cases c8 : (256 : Int) ≤ (x : Int)
  · have e0 := lenS (x) 8 (by simp only [Nat.reducePow]; omega)
    simp only [Nat.reducePow] at e0
    have hl : (bitLen x : Int) = 8 + bitLen (x / 256) := by omega
    clear e0
    have hb := bitLen_le8 (x / 256) (by omega)
    have HL := Lib.hid hl
    clear hl
    have HB := Lib.hid hb
    clear hb
    have hi : ∀ _ : True, (0 : Int) ≤ (x : Int) / 256 ∧ (x : Int) / 256 < 256 := fun _ => by omega
    have t8 : ∀ _ : True, decide ((256 : Int) ≤ (x : Int)) = true := fun _ => by simp; omega
    clear c8
    go_enter Tryd.func32, Tryd.ntmps32
    go_wp2
    go_ret
    refine ⟨ret_int ?_, rfl⟩
    have hi2 : x / 256 < 256 := by have := hi trivial; omega
    first | rw [cast_tab _ (x / 256) _ bitLen (by decide +kernel) hi2] | rw [cast_tab _ ((x / 256) % 256) _ bitLen (by decide +kernel) (Nat.mod_lt _ (by decide)), Nat.mod_eq_of_lt hi2]
    exact wrapAdd 8 _ HB.out (by decide) (by decide) _ HL.out
  · have hl : (bitLen x : Int) = 0 + bitLen (x) := by omega
    have hb := bitLen_le8 (x) (by omega)
    have HL := Lib.hid hl
    clear hl
    have HB := Lib.hid hb
    clear hb
    have hi : ∀ _ : True, (0 : Int) ≤ (x : Int) ∧ (x : Int) < 256 := fun _ => by omega
    have t8 : ∀ _ : True, decide ((256 : Int) ≤ (x : Int)) = false := fun _ => by simp; omega
    clear c8
    go_enter Tryd.func32, Tryd.ntmps32
    go_wp2
    go_ret
    refine ⟨ret_int ?_, rfl⟩
    have hi2 : x < 256 := by have := hi trivial; omega
    first | rw [cast_tab _ (x) _ bitLen (by decide +kernel) hi2] | rw [cast_tab _ ((x) % 256) _ bitLen (by decide +kernel) (Nat.mod_lt _ (by decide)), Nat.mod_eq_of_lt hi2]
    exact wrapTwo _ HB.out

-- impl begin
theorem len16_i (x : Nat) (hx : x < 65536) (w : World) :
    Calls Tryd.prog 16 #[.int .u16 (x : Int)] w fun e w' => e = .returned (.int .i64 (bitLen x)) ∧ w = w' := by
  go_enter Tryd.func16, Tryd.ntmps16
  go_wp2_with (go_at_call 32; refine (len16_any x hx _).mono ?_; rintro e w' ⟨rfl, hw⟩)
  go_ret
  exact ⟨by first | rfl | simp, hw⟩
-- impl end
set_option maxRecDepth 3000 in
set_option maxHeartbeats 1000000 in
theorem len32_any (x : Nat) (hx : x < 4294967296) (w : World) :
    Calls Tryd.prog 35 #[.int .u32 (x : Int)] w fun e w' => e = .returned (.int .i64 (bitLen x)) ∧ w = w' := by
  by_cases c16 : (65536 : Int) ≤ (x : Int)
  · by_cases c8 : (256 : Int) ≤ (x : Int) / 65536
    · have e0 := lenS (x) 16 (by simp only [Nat.reducePow]; omega)
      have e1 := lenS (x / 65536) 8 (by simp only [Nat.reducePow]; omega)
      simp only [Nat.reducePow] at e0 e1
      have hl : (bitLen x : Int) = 24 + bitLen (x / 65536 / 256) := by omega
      clear e0 e1
      have hb := bitLen_le8 (x / 65536 / 256) (by omega)
      have HL := Lib.hid hl
      clear hl
      have HB := Lib.hid hb
      clear hb
      have hi : ∀ _ : True, (0 : Int) ≤ (x : Int) / 65536 / 256 ∧ (x : Int) / 65536 / 256 < 256 := fun _ => by omega
      have t16 : ∀ _ : True, decide ((65536 : Int) ≤ (x : Int)) = true := fun _ => by simp; omega
      have t8 : ∀ _ : True, decide ((256 : Int) ≤ (x : Int) / 65536) = true := fun _ => by simp; omega
      clear c16 c8
      go_enter Tryd.func35, Tryd.ntmps35
      go_wp2
      go_ret
      refine ⟨ret_int ?_, rfl⟩
      have hi2 : x / 65536 / 256 < 256 := by have := hi trivial; omega
      first | rw [cast_tab _ (x / 65536 / 256) _ bitLen (by decide +kernel) hi2] | rw [cast_tab _ ((x / 65536 / 256) % 256) _ bitLen (by decide +kernel) (Nat.mod_lt _ (by decide)), Nat.mod_eq_of_lt hi2]
      exact wrapAdd 24 _ HB.out (by decide) (by decide) _ HL.out
    · have e0 := lenS (x) 16 (by simp only [Nat.reducePow]; omega)
      simp only [Nat.reducePow] at e0
      have hl : (bitLen x : Int) = 16 + bitLen (x / 65536) := by omega
      clear e0
      have hb := bitLen_le8 (x / 65536) (by omega)
      have HL := Lib.hid hl
      clear hl
      have HB := Lib.hid hb
      clear hb
      have hi : ∀ _ : True, (0 : Int) ≤ (x : Int) / 65536 ∧ (x : Int) / 65536 < 256 := fun _ => by omega
      have t16 : ∀ _ : True, decide ((65536 : Int) ≤ (x : Int)) = true := fun _ => by simp; omega
      have t8 : ∀ _ : True, decide ((256 : Int) ≤ (x : Int) / 65536) = false := fun _ => by simp; omega
      clear c16 c8
      go_enter Tryd.func35, Tryd.ntmps35
      go_wp2
      go_ret
      refine ⟨ret_int ?_, rfl⟩
      have hi2 : x / 65536 < 256 := by have := hi trivial; omega
      first | rw [cast_tab _ (x / 65536) _ bitLen (by decide +kernel) hi2] | rw [cast_tab _ ((x / 65536) % 256) _ bitLen (by decide +kernel) (Nat.mod_lt _ (by decide)), Nat.mod_eq_of_lt hi2]
      exact wrapAdd 16 _ HB.out (by decide) (by decide) _ HL.out
  · by_cases c8 : (256 : Int) ≤ (x : Int)
    · have e0 := lenS (x) 8 (by simp only [Nat.reducePow]; omega)
      simp only [Nat.reducePow] at e0
      have hl : (bitLen x : Int) = 8 + bitLen (x / 256) := by omega
      clear e0
      have hb := bitLen_le8 (x / 256) (by omega)
      have HL := Lib.hid hl
      clear hl
      have HB := Lib.hid hb
      clear hb
      have hi : ∀ _ : True, (0 : Int) ≤ (x : Int) / 256 ∧ (x : Int) / 256 < 256 := fun _ => by omega
      have t16 : ∀ _ : True, decide ((65536 : Int) ≤ (x : Int)) = false := fun _ => by simp; omega
      have t8 : ∀ _ : True, decide ((256 : Int) ≤ (x : Int)) = true := fun _ => by simp; omega
      clear c16 c8
      go_enter Tryd.func35, Tryd.ntmps35
      go_wp2
      go_ret
      refine ⟨ret_int ?_, rfl⟩
      have hi2 : x / 256 < 256 := by have := hi trivial; omega
      first | rw [cast_tab _ (x / 256) _ bitLen (by decide +kernel) hi2] | rw [cast_tab _ ((x / 256) % 256) _ bitLen (by decide +kernel) (Nat.mod_lt _ (by decide)), Nat.mod_eq_of_lt hi2]
      exact wrapAdd 8 _ HB.out (by decide) (by decide) _ HL.out
    · have hl : (bitLen x : Int) = 0 + bitLen (x) := by omega
      have hb := bitLen_le8 (x) (by omega)
      have HL := Lib.hid hl
      clear hl
      have HB := Lib.hid hb
      clear hb
      have hi : ∀ _ : True, (0 : Int) ≤ (x : Int) ∧ (x : Int) < 256 := fun _ => by omega
      have t16 : ∀ _ : True, decide ((65536 : Int) ≤ (x : Int)) = false := fun _ => by simp; omega
      have t8 : ∀ _ : True, decide ((256 : Int) ≤ (x : Int)) = false := fun _ => by simp; omega
      clear c16 c8
      go_enter Tryd.func35, Tryd.ntmps35
      go_wp2
      go_ret
      refine ⟨ret_int ?_, rfl⟩
      have hi2 : x < 256 := by have := hi trivial; omega
      first | rw [cast_tab _ (x) _ bitLen (by decide +kernel) hi2] | rw [cast_tab _ ((x) % 256) _ bitLen (by decide +kernel) (Nat.mod_lt _ (by decide)), Nat.mod_eq_of_lt hi2]
      exact wrapTwo _ HB.out

-- impl begin
theorem len32_i (x : Nat) (hx : x < 4294967296) (w : World) :
    Calls Tryd.prog 19 #[.int .u32 (x : Int)] w fun e w' => e = .returned (.int .i64 (bitLen x)) ∧ w = w' := by
  go_enter Tryd.func19, Tryd.ntmps19
  go_wp2_with (go_at_call 35; refine (len32_any x hx _).mono ?_; rintro e w' ⟨rfl, hw⟩)
  go_ret
  exact ⟨by first | rfl | simp, hw⟩
-- impl end
set_option maxRecDepth 3000 in
set_option maxHeartbeats 1000000 in
theorem len64_any (x : Nat) (hx : x < 18446744073709551616) (w : World) :
    Calls Tryd.prog 38 #[.int .u64 (x : Int)] w fun e w' => e = .returned (.int .i64 (bitLen x)) ∧ w = w' := by
  by_cases c32 : (4294967296 : Int) ≤ (x : Int)
  · by_cases c16 : (65536 : Int) ≤ (x : Int) / 4294967296
    · by_cases c8 : (256 : Int) ≤ (x : Int) / 4294967296 / 65536
      · have e0 := lenS (x) 32 (by simp only [Nat.reducePow]; omega)
        have e1 := lenS (x / 4294967296) 16 (by simp only [Nat.reducePow]; omega)
        have e2 := lenS (x / 4294967296 / 65536) 8 (by simp only [Nat.reducePow]; omega)
        simp only [Nat.reducePow] at e0 e1 e2
        have hl : (bitLen x : Int) = 56 + bitLen (x / 4294967296 / 65536 / 256) := by omega
        clear e0 e1 e2
        have hb := bitLen_le8 (x / 4294967296 / 65536 / 256) (by omega)
        have HL := Lib.hid hl
        clear hl
        have HB := Lib.hid hb
        clear hb
        have hi : ∀ _ : True, (0 : Int) ≤ (x : Int) / 4294967296 / 65536 / 256 ∧ (x : Int) / 4294967296 / 65536 / 256 < 256 := fun _ => by omega
        have t32 : ∀ _ : True, decide ((4294967296 : Int) ≤ (x : Int)) = true := fun _ => by simp; omega
        have t16 : ∀ _ : True, decide ((65536 : Int) ≤ (x : Int) / 4294967296) = true := fun _ => by simp; omega
        have t8 : ∀ _ : True, decide ((256 : Int) ≤ (x : Int) / 4294967296 / 65536) = true := fun _ => by simp; omega
        clear c32 c16 c8
        go_enter Tryd.func38, Tryd.ntmps38
        go_wp2
        go_ret
        refine ⟨ret_int ?_, rfl⟩
        have hi2 : x / 4294967296 / 65536 / 256 < 256 := by have := hi trivial; omega
        first | rw [cast_tab _ (x / 4294967296 / 65536 / 256) _ bitLen (by decide +kernel) hi2] | rw [cast_tab _ ((x / 4294967296 / 65536 / 256) % 256) _ bitLen (by decide +kernel) (Nat.mod_lt _ (by decide)), Nat.mod_eq_of_lt hi2]
        exact wrapAdd 56 _ HB.out (by decide) (by decide) _ HL.out
      · have e0 := lenS (x) 32 (by simp only [Nat.reducePow]; omega)
        have e1 := lenS (x / 4294967296) 16 (by simp only [Nat.reducePow]; omega)
        simp only [Nat.reducePow] at e0 e1
        have hl : (bitLen x : Int) = 48 + bitLen (x / 4294967296 / 65536) := by omega
        clear e0 e1
        have hb := bitLen_le8 (x / 4294967296 / 65536) (by omega)
        have HL := Lib.hid hl
        clear hl
        have HB := Lib.hid hb
        clear hb
        have hi : ∀ _ : True, (0 : Int) ≤ (x : Int) / 4294967296 / 65536 ∧ (x : Int) / 4294967296 / 65536 < 256 := fun _ => by omega
        have t32 : ∀ _ : True, decide ((4294967296 : Int) ≤ (x : Int)) = true := fun _ => by simp; omega
        have t16 : ∀ _ : True, decide ((65536 : Int) ≤ (x : Int) / 4294967296) = true := fun _ => by simp; omega
        have t8 : ∀ _ : True, decide ((256 : Int) ≤ (x : Int) / 4294967296 / 65536) = false := fun _ => by simp; omega
        clear c32 c16 c8
        go_enter Tryd.func38, Tryd.ntmps38
        go_wp2
        go_ret
        refine ⟨ret_int ?_, rfl⟩
        have hi2 : x / 4294967296 / 65536 < 256 := by have := hi trivial; omega
        first | rw [cast_tab _ (x / 4294967296 / 65536) _ bitLen (by decide +kernel) hi2] | rw [cast_tab _ ((x / 4294967296 / 65536) % 256) _ bitLen (by decide +kernel) (Nat.mod_lt _ (by decide)), Nat.mod_eq_of_lt hi2]
        exact wrapAdd 48 _ HB.out (by decide) (by decide) _ HL.out
    · by_cases c8 : (256 : Int) ≤ (x : Int) / 4294967296
      · have e0 := lenS (x) 32 (by simp only [Nat.reducePow]; omega)
        have e1 := lenS (x / 4294967296) 8 (by simp only [Nat.reducePow]; omega)
        simp only [Nat.reducePow] at e0 e1
        have hl : (bitLen x : Int) = 40 + bitLen (x / 4294967296 / 256) := by omega
        clear e0 e1
        have hb := bitLen_le8 (x / 4294967296 / 256) (by omega)
        have HL := Lib.hid hl
        clear hl
        have HB := Lib.hid hb
        clear hb
        have hi : ∀ _ : True, (0 : Int) ≤ (x : Int) / 4294967296 / 256 ∧ (x : Int) / 4294967296 / 256 < 256 := fun _ => by omega
        have t32 : ∀ _ : True, decide ((4294967296 : Int) ≤ (x : Int)) = true := fun _ => by simp; omega
        have t16 : ∀ _ : True, decide ((65536 : Int) ≤ (x : Int) / 4294967296) = false := fun _ => by simp; omega
        have t8 : ∀ _ : True, decide ((256 : Int) ≤ (x : Int) / 4294967296) = true := fun _ => by simp; omega
        clear c32 c16 c8
        go_enter Tryd.func38, Tryd.ntmps38
        go_wp2
        go_ret
        refine ⟨ret_int ?_, rfl⟩
        have hi2 : x / 4294967296 / 256 < 256 := by have := hi trivial; omega
        first | rw [cast_tab _ (x / 4294967296 / 256) _ bitLen (by decide +kernel) hi2] | rw [cast_tab _ ((x / 4294967296 / 256) % 256) _ bitLen (by decide +kernel) (Nat.mod_lt _ (by decide)), Nat.mod_eq_of_lt hi2]
        exact wrapAdd 40 _ HB.out (by decide) (by decide) _ HL.out
      · have e0 := lenS (x) 32 (by simp only [Nat.reducePow]; omega)
        simp only [Nat.reducePow] at e0
        have hl : (bitLen x : Int) = 32 + bitLen (x / 4294967296) := by omega
        clear e0
        have hb := bitLen_le8 (x / 4294967296) (by omega)
        have HL := Lib.hid hl
        clear hl
        have HB := Lib.hid hb
        clear hb
        have hi : ∀ _ : True, (0 : Int) ≤ (x : Int) / 4294967296 ∧ (x : Int) / 4294967296 < 256 := fun _ => by omega
        have t32 : ∀ _ : True, decide ((4294967296 : Int) ≤ (x : Int)) = true := fun _ => by simp; omega
        have t16 : ∀ _ : True, decide ((65536 : Int) ≤ (x : Int) / 4294967296) = false := fun _ => by simp; omega
        have t8 : ∀ _ : True, decide ((256 : Int) ≤ (x : Int) / 4294967296) = false := fun _ => by simp; omega
        clear c32 c16 c8
        go_enter Tryd.func38, Tryd.ntmps38
        go_wp2
        go_ret
        refine ⟨ret_int ?_, rfl⟩
        have hi2 : x / 4294967296 < 256 := by have := hi trivial; omega
        first | rw [cast_tab _ (x / 4294967296) _ bitLen (by decide +kernel) hi2] | rw [cast_tab _ ((x / 4294967296) % 256) _ bitLen (by decide +kernel) (Nat.mod_lt _ (by decide)), Nat.mod_eq_of_lt hi2]
        exact wrapAdd 32 _ HB.out (by decide) (by decide) _ HL.out
  · by_cases c16 : (65536 : Int) ≤ (x : Int)
    · by_cases c8 : (256 : Int) ≤ (x : Int) / 65536
      · have e0 := lenS (x) 16 (by simp only [Nat.reducePow]; omega)
        have e1 := lenS (x / 65536) 8 (by simp only [Nat.reducePow]; omega)
        simp only [Nat.reducePow] at e0 e1
        have hl : (bitLen x : Int) = 24 + bitLen (x / 65536 / 256) := by omega
        clear e0 e1
        have hb := bitLen_le8 (x / 65536 / 256) (by omega)
        have HL := Lib.hid hl
        clear hl
        have HB := Lib.hid hb
        clear hb
        have hi : ∀ _ : True, (0 : Int) ≤ (x : Int) / 65536 / 256 ∧ (x : Int) / 65536 / 256 < 256 := fun _ => by omega
        have t32 : ∀ _ : True, decide ((4294967296 : Int) ≤ (x : Int)) = false := fun _ => by simp; omega
        have t16 : ∀ _ : True, decide ((65536 : Int) ≤ (x : Int)) = true := fun _ => by simp; omega
        have t8 : ∀ _ : True, decide ((256 : Int) ≤ (x : Int) / 65536) = true := fun _ => by simp; omega
        clear c32 c16 c8
        go_enter Tryd.func38, Tryd.ntmps38
        go_wp2
        go_ret
        refine ⟨ret_int ?_, rfl⟩
        have hi2 : x / 65536 / 256 < 256 := by have := hi trivial; omega
        first | rw [cast_tab _ (x / 65536 / 256) _ bitLen (by decide +kernel) hi2] | rw [cast_tab _ ((x / 65536 / 256) % 256) _ bitLen (by decide +kernel) (Nat.mod_lt _ (by decide)), Nat.mod_eq_of_lt hi2]
        exact wrapAdd 24 _ HB.out (by decide) (by decide) _ HL.out
      · have e0 := lenS (x) 16 (by simp only [Nat.reducePow]; omega)
        simp only [Nat.reducePow] at e0
        have hl : (bitLen x : Int) = 16 + bitLen (x / 65536) := by omega
        clear e0
        have hb := bitLen_le8 (x / 65536) (by omega)
        have HL := Lib.hid hl
        clear hl
        have HB := Lib.hid hb
        clear hb
        have hi : ∀ _ : True, (0 : Int) ≤ (x : Int) / 65536 ∧ (x : Int) / 65536 < 256 := fun _ => by omega
        have t32 : ∀ _ : True, decide ((4294967296 : Int) ≤ (x : Int)) = false := fun _ => by simp; omega
        have t16 : ∀ _ : True, decide ((65536 : Int) ≤ (x : Int)) = true := fun _ => by simp; omega
        have t8 : ∀ _ : True, decide ((256 : Int) ≤ (x : Int) / 65536) = false := fun _ => by simp; omega
        clear c32 c16 c8
        go_enter Tryd.func38, Tryd.ntmps38
        go_wp2
        go_ret
        refine ⟨ret_int ?_, rfl⟩
        have hi2 : x / 65536 < 256 := by have := hi trivial; omega
        first | rw [cast_tab _ (x / 65536) _ bitLen (by decide +kernel) hi2] | rw [cast_tab _ ((x / 65536) % 256) _ bitLen (by decide +kernel) (Nat.mod_lt _ (by decide)), Nat.mod_eq_of_lt hi2]
        exact wrapAdd 16 _ HB.out (by decide) (by decide) _ HL.out
    · by_cases c8 : (256 : Int) ≤ (x : Int)
      · have e0 := lenS (x) 8 (by simp only [Nat.reducePow]; omega)
        simp only [Nat.reducePow] at e0
        have hl : (bitLen x : Int) = 8 + bitLen (x / 256) := by omega
        clear e0
        have hb := bitLen_le8 (x / 256) (by omega)
        have HL := Lib.hid hl
        clear hl
        have HB := Lib.hid hb
        clear hb
        have hi : ∀ _ : True, (0 : Int) ≤ (x : Int) / 256 ∧ (x : Int) / 256 < 256 := fun _ => by omega
        have t32 : ∀ _ : True, decide ((4294967296 : Int) ≤ (x : Int)) = false := fun _ => by simp; omega
        have t16 : ∀ _ : True, decide ((65536 : Int) ≤ (x : Int)) = false := fun _ => by simp; omega
        have t8 : ∀ _ : True, decide ((256 : Int) ≤ (x : Int)) = true := fun _ => by simp; omega
        clear c32 c16 c8
        go_enter Tryd.func38, Tryd.ntmps38
        go_wp2
        go_ret
        refine ⟨ret_int ?_, rfl⟩
        have hi2 : x / 256 < 256 := by have := hi trivial; omega
        first | rw [cast_tab _ (x / 256) _ bitLen (by decide +kernel) hi2] | rw [cast_tab _ ((x / 256) % 256) _ bitLen (by decide +kernel) (Nat.mod_lt _ (by decide)), Nat.mod_eq_of_lt hi2]
        exact wrapAdd 8 _ HB.out (by decide) (by decide) _ HL.out
      · have hl : (bitLen x : Int) = 0 + bitLen (x) := by omega
        have hb := bitLen_le8 (x) (by omega)
        have HL := Lib.hid hl
        clear hl
        have HB := Lib.hid hb
        clear hb
        have hi : ∀ _ : True, (0 : Int) ≤ (x : Int) ∧ (x : Int) < 256 := fun _ => by omega
        have t32 : ∀ _ : True, decide ((4294967296 : Int) ≤ (x : Int)) = false := fun _ => by simp; omega
        have t16 : ∀ _ : True, decide ((65536 : Int) ≤ (x : Int)) = false := fun _ => by simp; omega
        have t8 : ∀ _ : True, decide ((256 : Int) ≤ (x : Int)) = false := fun _ => by simp; omega
        clear c32 c16 c8
        go_enter Tryd.func38, Tryd.ntmps38
        go_wp2
        go_ret
        refine ⟨ret_int ?_, rfl⟩
        have hi2 : x < 256 := by have := hi trivial; omega
        first | rw [cast_tab _ (x) _ bitLen (by decide +kernel) hi2] | rw [cast_tab _ ((x) % 256) _ bitLen (by decide +kernel) (Nat.mod_lt _ (by decide)), Nat.mod_eq_of_lt hi2]
        exact wrapTwo _ HB.out

-- impl begin
theorem len64_i (x : Nat) (hx : x < 18446744073709551616) (w : World) :
    Calls Tryd.prog 22 #[.int .u64 (x : Int)] w fun e w' => e = .returned (.int .i64 (bitLen x)) ∧ w = w' := by
  go_enter Tryd.func22, Tryd.ntmps22
  go_wp2_with (go_at_call 38; refine (len64_any x hx _).mono ?_; rintro e w' ⟨rfl, hw⟩)
  go_ret
  exact ⟨by first | rfl | simp, hw⟩
-- impl end
theorem bitLen_le8' (x : Nat) (hx : x < 256) : bitLen x ≤ 8 := by
  rw [← lenB_eq x 8 hx]; exact lenB_le x 8
theorem bitLen_le16' (x : Nat) (hx : x < 65536) : bitLen x ≤ 16 := by
  rw [← lenB_eq x 16 hx]; exact lenB_le x 16
set_option maxHeartbeats 400000 in
theorem lz16_any (x : Nat) (hx : x < 65536) (w : World) :
    Calls Tryd.prog 33 #[.int .u16 (x : Int)] w fun e w' => e = .returned (.int .i64 (16 - (bitLen x : Int))) ∧ w = w' := by
  have hb := bitLen_le16' x hx
  go_enter Tryd.func33, Tryd.ntmps33
  go_wp2_with (go_at_call 32; refine (len16_any x hx _).mono ?_; rintro e w' ⟨rfl, rfl⟩)
  go_ret
  exact ⟨rfl, rfl⟩

-- impl begin
theorem lz16_i (x : Nat) (hx : x < 65536) (w : World) :
    Calls Tryd.prog 17 #[.int .u16 (x : Int)] w fun e w' => e = .returned (.int .i64 (16 - (bitLen x : Int))) ∧ w = w' := by
  go_enter Tryd.func17, Tryd.ntmps17
  go_wp2_with (go_at_call 33; refine (lz16_any x hx _).mono ?_; rintro e w' ⟨rfl, hw⟩)
  go_ret
  exact ⟨by first | rfl | simp, hw⟩
-- impl end
theorem bitLen_le32' (x : Nat) (hx : x < 4294967296) : bitLen x ≤ 32 := by
  rw [← lenB_eq x 32 hx]; exact lenB_le x 32
set_option maxHeartbeats 400000 in
theorem lz32_any (x : Nat) (hx : x < 4294967296) (w : World) :
    Calls Tryd.prog 36 #[.int .u32 (x : Int)] w fun e w' => e = .returned (.int .i64 (32 - (bitLen x : Int))) ∧ w = w' := by
  have hb := bitLen_le32' x hx
  go_enter Tryd.func36, Tryd.ntmps36
  go_wp2_with (go_at_call 35; refine (len32_any x hx _).mono ?_; rintro e w' ⟨rfl, rfl⟩)
  go_ret
  exact ⟨rfl, rfl⟩

-- impl begin
theorem lz32_i (x : Nat) (hx : x < 4294967296) (w : World) :
    Calls Tryd.prog 20 #[.int .u32 (x : Int)] w fun e w' => e = .returned (.int .i64 (32 - (bitLen x : Int))) ∧ w = w' := by
  go_enter Tryd.func20, Tryd.ntmps20
  go_wp2_with (go_at_call 36; refine (lz32_any x hx _).mono ?_; rintro e w' ⟨rfl, hw⟩)
  go_ret
  exact ⟨by first | rfl | simp, hw⟩
-- impl end
theorem bitLen_le64' (x : Nat) (hx : x < 18446744073709551616) : bitLen x ≤ 64 := by
  rw [← lenB_eq x 64 hx]; exact lenB_le x 64
set_option maxHeartbeats 400000 in
theorem lz64_any (x : Nat) (hx : x < 18446744073709551616) (w : World) :
    Calls Tryd.prog 39 #[.int .u64 (x : Int)] w fun e w' => e = .returned (.int .i64 (64 - (bitLen x : Int))) ∧ w = w' := by
  have hb := bitLen_le64' x hx
  go_enter Tryd.func39, Tryd.ntmps39
  go_wp2_with (go_at_call 38; refine (len64_any x hx _).mono ?_; rintro e w' ⟨rfl, rfl⟩)
  go_ret
  exact ⟨rfl, rfl⟩

-- impl begin
theorem lz64_i (x : Nat) (hx : x < 18446744073709551616) (w : World) :
    Calls Tryd.prog 23 #[.int .u64 (x : Int)] w fun e w' => e = .returned (.int .i64 (64 - (bitLen x : Int))) ∧ w = w' := by
  go_enter Tryd.func23, Tryd.ntmps23
  go_wp2_with (go_at_call 39; refine (lz64_any x hx _).mono ?_; rintro e w' ⟨rfl, hw⟩)
  go_ret
  exact ⟨by first | rfl | simp, hw⟩
-- impl end
theorem and255_16 (x : Nat) (hx : x < 65536) : bits BinOp.and IntKind.u16 (x : Int) 255 = (x : Int) % 256 := by
  rw [show (255 : Int) = ((255 : Nat) : Int) from rfl, and16N, show (255 : Nat) = 2 ^ 8 - 1 from rfl, Nat.and_two_pow_sub_one_eq_mod]
  simp only [Nat.reducePow]; omega
theorem and255_32 (x : Nat) (hx : x < 4294967296) : bits BinOp.and IntKind.u32 (x : Int) 255 = (x : Int) % 256 := by
  rw [show (255 : Int) = ((255 : Nat) : Int) from rfl, and32N, show (255 : Nat) = 2 ^ 8 - 1 from rfl, Nat.and_two_pow_sub_one_eq_mod]
  simp only [Nat.reducePow]; omega
theorem ones_split16 (x : Nat) : onesB x 16 = onesB (x / 256) 8 + onesB (x % 256) 8 := by
  have h := onesB_add x 8 8
  have m := onesB_mod x 8 8 (Nat.le_refl 8)
  simp only [Nat.reducePow] at h m
  rw [m, Nat.add_comm]; exact h
theorem ones_split32 (x : Nat) : onesB x 32 = onesB (x / 16777216) 8 + onesB (x / 65536 % 256) 8 + onesB (x / 256 % 256) 8 + onesB (x % 256) 8 := by
  have h := onesB_add x 8 24
  have h2 := onesB_add (x / 2 ^ 8) 8 16
  have h3 := onesB_add (x / 2 ^ 8 / 2 ^ 8) 8 8
  have m := onesB_mod x 8 8 (Nat.le_refl 8)
  have m2 := onesB_mod (x / 256) 8 8 (Nat.le_refl 8)
  have m3 := onesB_mod (x / 65536) 8 8 (Nat.le_refl 8)
  simp only [Nat.reducePow, Nat.reduceAdd, Nat.div_div_eq_div_mul, Nat.reduceMul] at h h2 h3 m m2 m3
  rw [m, m2, m3, h, h2, h3]; omega

set_option maxRecDepth 3000 in
set_option maxHeartbeats 1000000 in
theorem ones16_any (x : Nat) (hx : x < 65536) (w : World) :
    Calls Tryd.prog 34 #[.int .u16 (x : Int)] w fun e w' => e = .returned (.int .i64 (onesB x 16)) ∧ ∃ m, w' = w.drewN m := by
  have h1 : ∀ _ : True, bits BinOp.and IntKind.u16 (x : Int) 255 = (x : Int) % 256 := fun _ => and255_16 x hx
  have h2 : (0 : Int) ≤ (x : Int) / 256 ∧ (x : Int) / 256 < 256 := by omega
  have h3 : (0 : Int) ≤ (x : Int) % 256 ∧ (x : Int) % 256 < 256 := by omega
  go_enter Tryd.func34, Tryd.ntmps34
  go_wp2
  go_quiet (fail)
  go_wp2
  go_ret
  refine ⟨ret_int ?_, _, rfl⟩
  have hs := ones_split16 x
  have l1 := onesB_le (x / 256) 8
  have l2 := onesB_le (x % 256) 8
  rw [cast_tab _ (x / 256) _ (fun j => onesB j 8) (by decide +kernel) (by omega), cast_tab _ (x % 256) _ (fun j => onesB j 8) (by decide +kernel) (by omega), hs]
  generalize onesB (x / 256) 8 = p at *
  generalize onesB (x % 256) 8 = q at *
  clear hs h2 h3
  omega

-- impl begin
theorem ones16_i (x : Nat) (hx : x < 65536) (w : World) :
    Calls Tryd.prog 18 #[.int .u16 (x : Int)] w fun e w' => e = .returned (.int .i64 (onesB x 16)) ∧ ∃ m, w' = w.drewN m := by
  go_enter Tryd.func18, Tryd.ntmps18
  go_wp2_with (go_at_call 34; refine (ones16_any x hx _).mono ?_; rintro e w' ⟨rfl, hw⟩)
  go_ret
  exact ⟨by first | rfl | simp, hw⟩
-- impl end
set_option maxRecDepth 3000 in
set_option maxHeartbeats 1000000 in
theorem ones32_any (x : Nat) (hx : x < 4294967296) (w : World) :
    Calls Tryd.prog 37 #[.int .u32 (x : Int)] w fun e w' => e = .returned (.int .i64 (onesB x 32)) ∧ ∃ m, w' = w.drewN m := by
  have h1 : ∀ _ : True, bits BinOp.and IntKind.u32 (x : Int) 255 = (x : Int) % 256 := fun _ => and255_32 x hx
  have e1 := and255_32 (x / 256) (by omega)
  have e2 := and255_32 (x / 65536) (by omega)
  have h4 : ∀ _ : True, bits BinOp.and IntKind.u32 ((x : Int) / 256) 255 = (x : Int) / 256 % 256 := fun _ => by simpa using e1
  have h5 : ∀ _ : True, bits BinOp.and IntKind.u32 ((x : Int) / 65536) 255 = (x : Int) / 65536 % 256 := fun _ => by simpa using e2
  clear e1 e2
  have b1 : (0 : Int) ≤ (x : Int) / 16777216 ∧ (x : Int) / 16777216 < 256 := by omega
  have b2 : (0 : Int) ≤ (x : Int) / 65536 % 256 ∧ (x : Int) / 65536 % 256 < 256 := by omega
  have b3 : (0 : Int) ≤ (x : Int) / 256 % 256 ∧ (x : Int) / 256 % 256 < 256 := by omega
  have b4 : (0 : Int) ≤ (x : Int) % 256 ∧ (x : Int) % 256 < 256 := by omega
  go_enter Tryd.func37, Tryd.ntmps37
  go_wp2
  go_quiet (fail)
  go_wp2
  go_ret
  refine ⟨ret_int ?_, _, rfl⟩
  have hs := ones_split32 x
  have l1 := onesB_le (x / 16777216) 8
  have l2 := onesB_le (x / 65536 % 256) 8
  have l3 := onesB_le (x / 256 % 256) 8
  have l4 := onesB_le (x % 256) 8
  have c1 : x / 16777216 < 256 := by omega
  rw [cast_tab _ (x / 16777216) _ (fun j => onesB j 8) (by decide +kernel) c1, cast_tab _ (x / 65536 % 256) _ (fun j => onesB j 8) (by decide +kernel) (Nat.mod_lt _ (by decide)), cast_tab _ (x / 256 % 256) _ (fun j => onesB j 8) (by decide +kernel) (Nat.mod_lt _ (by decide)), cast_tab _ (x % 256) _ (fun j => onesB j 8) (by decide +kernel) (Nat.mod_lt _ (by decide)), hs]
  generalize onesB (x / 16777216) 8 = p at *
  generalize onesB (x / 65536 % 256) 8 = q at *
  generalize onesB (x / 256 % 256) 8 = r at *
  generalize onesB (x % 256) 8 = t at *
  clear hs b1 b2 b3 b4 c1 hx h1 h4 h5
  omega

-- impl begin
theorem ones32_i (x : Nat) (hx : x < 4294967296) (w : World) :
    Calls Tryd.prog 21 #[.int .u32 (x : Int)] w fun e w' => e = .returned (.int .i64 (onesB x 32)) ∧ ∃ m, w' = w.drewN m := by
  go_enter Tryd.func21, Tryd.ntmps21
  go_wp2_with (go_at_call 37; refine (ones32_any x hx _).mono ?_; rintro e w' ⟨rfl, hw⟩)
  go_ret
  exact ⟨by first | rfl | simp, hw⟩
-- impl end
theorem add64N (a b : Nat) : (a : Int) + (b : Int) = ((a + b : Nat) : Int) := (Int.natCast_add a b).symm
theorem and64L (a m : Nat) (hm : m < 18446744073709551616) : bits .and .u64 (a : Int) (m : Int) = ((a &&& m : Nat) : Int) := by
  rw [and64N, Nat.mod_eq_of_lt (Nat.lt_of_le_of_lt Nat.and_le_right hm)]
theorem wrapL (a : Nat) (h : a < 18446744073709551616) : IntKind.u64.wrap (a : Int) = (a : Int) := by rw [wrap64N, Nat.mod_eq_of_lt h]
theorem divL (a d : Nat) : (a : Int) / (d : Int) = ((a / d : Nat) : Int) := (Int.natCast_ediv a d).symm

theorem pop1 (x : Nat) : IntKind.u64.wrap (bits .and .u64 ((x : Int) / 2) 6148914691236517205 + bits .and .u64 (x : Int) 6148914691236517205) = (((x / 2 &&& 0x5555555555555555) + (x &&& 0x5555555555555555) : Nat) : Int) := by
  rw [show (6148914691236517205 : Int) = ((0x5555555555555555 : Nat) : Int) from rfl, show (2 : Int) = ((2 : Nat) : Int) from rfl, divL, and64L _ _ (by decide), and64L _ _ (by decide), add64N]
  have h1 : x / 2 &&& 0x5555555555555555 ≤ 0x5555555555555555 := Nat.and_le_right
  have h2 : x &&& 0x5555555555555555 ≤ 0x5555555555555555 := Nat.and_le_right
  exact wrapL _ (by omega)
theorem pop2 (x : Nat) : IntKind.u64.wrap (bits .and .u64 ((x : Int) / 4) 3689348814741910323 + bits .and .u64 (x : Int) 3689348814741910323) = (((x / 4 &&& 0x3333333333333333) + (x &&& 0x3333333333333333) : Nat) : Int) := by
  rw [show (3689348814741910323 : Int) = ((0x3333333333333333 : Nat) : Int) from rfl, show (4 : Int) = ((4 : Nat) : Int) from rfl, divL, and64L _ _ (by decide), and64L _ _ (by decide), add64N]
  have h1 : x / 4 &&& 0x3333333333333333 ≤ 0x3333333333333333 := Nat.and_le_right
  have h2 : x &&& 0x3333333333333333 ≤ 0x3333333333333333 := Nat.and_le_right
  exact wrapL _ (by omega)
theorem pop3 (x : Nat) (h : x ≤ 7378697629483820646) : bits .and .u64 (IntKind.u64.wrap ((x : Int) / 16 + (x : Int))) 1085102592571150095 = (((x / 16 + x) &&& 0x0f0f0f0f0f0f0f0f : Nat) : Int) := by
  rw [show (1085102592571150095 : Int) = ((0x0f0f0f0f0f0f0f0f : Nat) : Int) from rfl, show (16 : Int) = ((16 : Nat) : Int) from rfl, divL, add64N, wrapL _ (by omega), and64L _ _ (by decide)]
theorem pop4 (x c : Nat) (h : x + x / c < 18446744073709551616) : IntKind.u64.wrap ((x : Int) + (x : Int) / (c : Int)) = ((x + x / c : Nat) : Int) := by
  rw [divL, add64N, wrapL _ h]

set_option maxHeartbeats 1000000 in
theorem ones64_any (x : Nat) (hx : x < 18446744073709551616) (w : World) :
    Calls Tryd.prog 40 #[.int .u64 (x : Int)] w fun e w' => e = .returned (.int .i64 (onesB x 64)) ∧ w = w' := by
  obtain ⟨x1, hx1⟩ : ∃ x1, x1 = (x / 2 &&& 0x5555555555555555) + (x &&& 0x5555555555555555) := ⟨_, rfl⟩
  obtain ⟨x2, hx2⟩ : ∃ x2, x2 = (x1 / 4 &&& 0x3333333333333333) + (x1 &&& 0x3333333333333333) := ⟨_, rfl⟩
  obtain ⟨x3, hx3⟩ : ∃ x3, x3 = (x2 / 16 + x2) &&& 0x0f0f0f0f0f0f0f0f := ⟨_, rfl⟩
  have hsw : swar x = x3 := by rw [hx3, hx2, hx1]; rfl
  have hlt := swar_lt x hx
  have hfin := swar_ones x hx
  rw [hsw] at hlt hfin
  obtain ⟨x4, hx4⟩ : ∃ x4, x4 = x3 + x3 / 256 := ⟨_, rfl⟩
  obtain ⟨x5, hx5⟩ : ∃ x5, x5 = x4 + x4 / 65536 := ⟨_, rfl⟩
  obtain ⟨x6, hx6⟩ : ∃ x6, x6 = x5 + x5 / 4294967296 := ⟨_, rfl⟩
  have l2 : x2 ≤ 7378697629483820646 := by
    have h1 : x1 / 4 &&& 0x3333333333333333 ≤ 0x3333333333333333 := Nat.and_le_right
    have h2 : x1 &&& 0x3333333333333333 ≤ 0x3333333333333333 := Nat.and_le_right
    omega
  have l6 : x6 < 9223372036854775808 := by omega
  have hf : x6 % 128 = onesB x 64 := by rw [← hfin, hx6, hx5, hx4]; rfl
  have p1 := pop1 x
  have p2 := pop2 x1
  have p3 := pop3 x2 l2
  have p4 := pop4 x3 256 (by omega)
  have p5 := pop4 x4 65536 (by omega)
  have p6 := pop4 x5 4294967296 (by omega)
  rw [← hx1] at p1; rw [← hx2] at p2; rw [← hx3] at p3; rw [← hx4] at p4; rw [← hx5] at p5; rw [← hx6] at p6
  have r1 : ∀ _ : True, _ = _ := fun _ => p1
  have r2 : ∀ _ : True, _ = _ := fun _ => p2
  have r3 : ∀ _ : True, _ = _ := fun _ => p3
  have r4 : ∀ _ : True, IntKind.u64.wrap ((x3 : Int) + (x3 : Int) / 256) = (x4 : Int) := fun _ => p4
  have r5 : ∀ _ : True, IntKind.u64.wrap ((x4 : Int) + (x4 : Int) / 65536) = (x5 : Int) := fun _ => p5
  have r6 : ∀ _ : True, IntKind.u64.wrap ((x5 : Int) + (x5 : Int) / 4294967296) = (x6 : Int) := fun _ => p6
  have HF := Lib.hid hf
  have L6 := Lib.hid l6
  have b7 : bits .and .i64 (x6 : Int) 127 = ((onesB x 64 : Nat) : Int) := by rw [i64_and127, ← hf]; omega
  have B7 := Lib.hid b7
  clear p1 p2 p3 p4 p5 p6 hx1 hx2 hx3 hx4 hx5 hx6 hsw hlt hfin l2 hf l6 b7
  go_enter Tryd.func40, Tryd.ntmps40
  go_wp2
  go_ret
  refine ⟨ret_int ?_, rfl⟩
  have l6 := L6.out
  rw [IntWalk.wrap64_in (x6 : Int) ⟨by omega, by omega⟩]
  exact B7.out

-- impl begin
theorem ones64_i (x : Nat) (hx : x < 18446744073709551616) (w : World) :
    Calls Tryd.prog 24 #[.int .u64 (x : Int)] w fun e w' => e = .returned (.int .i64 (onesB x 64)) ∧ w = w' := by
  go_enter Tryd.func24, Tryd.ntmps24
  go_wp2_with (go_at_call 40; refine (ones64_any x hx _).mono ?_; rintro e w' ⟨rfl, hw⟩)
  go_ret
  exact ⟨by first | rfl | simp, hw⟩
-- impl end
end Go.Proofs.YtjcjnldnlgiloaaDoor
