/- The contracts of the reference's placed, Turned, TurnedBytes, Rotated and of the package's Reverse, ReverseBytes, RotateLeft, TrailingZeros8: each returns the number whose bits stand where its name says. -/
import Derived.Test.YtjcjnldnlgiloaaDoorRows
import Derived.WalkKit
import Derived.WalkLawsBesides
import Derived.WalkSpells
import Derived.LoopTactic
import Derived.Outline
import Derived.Lib.Hide
import Derived.Deep.QuietTactic
import Derived.BigQuiet
import Derived.Test.YtjcjnldnlgiloaaDoorRev
import Derived.Test.YtjcjnldnlgiloaaDoorWalk1
set_option linter.unusedVariables false
namespace Go.Proofs.YtjcjnldnlgiloaaDoor
open Go.RowKit Go.Proofs.YtjcjnldnlgiloaaDoor.Plain

theorem grownT {a b c : World} (h1 : Grown a b) (h2 : Grown b c) : Grown a c :=
  ⟨World.keptBut_trans h1.1 h2.1, fun x => (h2.2.1 x).trans (h1.2.1 x), Nat.le_trans h1.2.2 h2.2.2⟩
theorem orBit (x : Nat) (f : Nat → Nat) (k : Nat) (hk : k < 64) : bits .or .u64 (placedB x f k : Int) (IntKind.u64.wrap (2 ^ k)) = ((placedB x f k + 2 ^ k : Nat) : Int) := by
  have h := placedB_lt x f k
  have hp : 2 ^ k < 18446744073709551616 := by
    have : 2 ^ k ≤ 2 ^ 63 := Nat.pow_le_pow_right (by decide) (by omega)
    exact Nat.lt_of_le_of_lt this (by decide)
  have e : ((2 : Int) ^ k) = ((2 ^ k : Nat) : Int) := by simp
  have e2 : 1 * 2 ^ k = 2 ^ k := Nat.one_mul _
  have hp2 : 2 ^ (k + 1) ≤ 2 ^ 64 := Nat.pow_le_pow_right (by decide) (by omega)
  have o : placedB x f k ||| 2 ^ k = placedB x f k + 2 ^ k := by
    have := Nat.two_pow_add_eq_or_of_lt h 1
    rw [Nat.mul_one] at this
    rw [Nat.or_comm, ← this, Nat.add_comm]
  rw [e, wrap64N, Nat.mod_eq_of_lt hp, or64N, o, Nat.mod_eq_of_lt]
  rw [Nat.pow_succ] at hp2
  simp only [Nat.reducePow] at hp2
  omega
theorem placed_yes (x : Nat) (f : Nat → Nat) (k : Nat) (h : x.testBit (f k) = true) : placedB x f (k + 1) = placedB x f k + 2 ^ k := by
  rw [placedB, h]; simp
theorem placed_no (x : Nat) (f : Nat → Nat) (k : Nat) (h : x.testBit (f k) = false) : placedB x f (k + 1) = placedB x f k := by
  rw [placedB, h]; simp

/-- the place from which bit i of a number turned by k places comes -/
def rotF (n : Nat) (k : Int) (i : Nat) : Nat := (((i : Int) - k) % (n : Int)).toNat
theorem rotF_lt (n : Nat) (k : Int) (i : Nat) (hn : 0 < n) : rotF n k i < n := by
  unfold rotF
  have h1 := Int.emod_nonneg ((i : Int) - k) (show (n : Int) ≠ 0 by omega)
  have h2 := Int.emod_lt_of_pos ((i : Int) - k) (show (0 : Int) < n by omega)
  omega
theorem rot_num (n : Nat) (i : Nat) (k : Int) (hn : 0 < n) (hn2 : n ≤ 64) (hi : i < n) (h1 : -9223372036854775808 ≤ k) (h2 : k ≤ 9223372036854775807) :
    (((i : Int) - k.tmod n).tmod n + n).tmod n = (rotF n k i : Int) := by
  unfold rotF
  have hp : (0 : Int) < n := by omega
  have b1 : -(n : Int) < k.tmod n := by have := Int.lt_tmod_of_pos k hp; omega
  have b2 : k.tmod n < n := Int.tmod_lt_of_pos k hp
  generalize hd : k.tdiv n = d
  have e1 : k = k.tmod n + n * d := by rw [← hd]; exact (Int.tmod_add_mul_tdiv k n).symm
  generalize k.tmod n = t at *
  have e2 : ((i : Int) - k) % n = ((i : Int) - t) % n := by
    rw [e1, show (i : Int) - (t + n * d) = (i - t) + n * (-d) by rw [Int.mul_neg]; omega, Int.add_mul_emod_self_left]
  rw [e2]
  clear e1 e2
  have c1 : -(n : Int) < ((i : Int) - t).tmod n := by have := Int.lt_tmod_of_pos ((i : Int) - t) hp; omega
  have c2 : ((i : Int) - t).tmod n < n := Int.tmod_lt_of_pos _ hp
  generalize hd2 : ((i : Int) - t).tdiv n = d2
  have e3 : (i : Int) - t = ((i : Int) - t).tmod n + n * d2 := by rw [← hd2]; exact (Int.tmod_add_mul_tdiv _ n).symm
  generalize hs : ((i : Int) - t).tmod n = s at *
  have e4 : ((i : Int) - t) % n = s % n := by rw [e3, Int.add_mul_emod_self_left]
  rw [e4, Int.tmod_eq_emod_of_nonneg (by omega), Int.add_emod_right]
  have := Int.emod_nonneg s (show (n : Int) ≠ 0 by omega)
  omega

theorem shr_cast (x d : Nat) : (x : Int) / (d : Int) = ((x / d : Nat) : Int) := (Int.natCast_ediv x d).symm
theorem shl_cast (x d : Nat) : (x : Int) * (d : Int) = ((x * d : Nat) : Int) := (Int.natCast_mul x d).symm
theorem mod_cast' (x d : Nat) : (x : Int) % (d : Int) = ((x % d : Nat) : Int) := (Int.natCast_emod x d).symm
theorem and_le_mod (a m M : Nat) (h : m < M) : (a &&& m) % M = a &&& m := Nat.mod_eq_of_lt (Nat.lt_of_le_of_lt Nat.and_le_right h)

theorem swp64 (s m x : Nat) (hx : x < 18446744073709551616) (hm : m * 2 ^ s < 18446744073709551616) :
    bits .or .u64 (bits .and .u64 ((x : Int) / ((2 ^ s : Nat) : Int)) (m : Int)) (IntKind.u64.wrap (bits .and .u64 (x : Int) (m : Int) * ((2 ^ s : Nat) : Int))) = ((swp s m x : Nat) : Int) := by
  have hm1 : m < 18446744073709551616 := Nat.lt_of_le_of_lt (Nat.le_mul_of_pos_right m (Nat.two_pow_pos s)) hm
  have h2 : (x &&& m) * 2 ^ s < 18446744073709551616 := Nat.lt_of_le_of_lt (Nat.mul_le_mul_right _ Nat.and_le_right) hm
  rw [shr_cast, and64N, and64N, and_le_mod _ _ _ hm1, and_le_mod _ _ _ hm1, shl_cast, wrap64N, Nat.mod_eq_of_lt h2, or64N, Nat.mod_eq_of_lt]
  · rfl
  · exact swp_lt s m x 64 hx hm
theorem swp32 (s m x : Nat) (hx : x < 4294967296) (hm : m * 2 ^ s < 4294967296) :
    bits .or .u32 (bits .and .u32 ((x : Int) / ((2 ^ s : Nat) : Int)) (m : Int)) (bits .and .u32 (x : Int) (m : Int) * ((2 ^ s : Nat) : Int) % 4294967296) = ((swp s m x : Nat) : Int) := by
  have hm1 : m < 4294967296 := Nat.lt_of_le_of_lt (Nat.le_mul_of_pos_right m (Nat.two_pow_pos s)) hm
  have h2 : (x &&& m) * 2 ^ s < 4294967296 := Nat.lt_of_le_of_lt (Nat.mul_le_mul_right _ Nat.and_le_right) hm
  rw [shr_cast, and32N, and32N, and_le_mod _ _ _ hm1, and_le_mod _ _ _ hm1, shl_cast, show (4294967296 : Int) = ((4294967296 : Nat) : Int) from rfl, mod_cast', Nat.mod_eq_of_lt h2, or32N, Nat.mod_eq_of_lt]
  · rfl
  · exact swp_lt s m x 32 hx hm
theorem half64 (x : Nat) (hx : x < 18446744073709551616) : bits .or .u64 ((x : Int) / 4294967296) (IntKind.u64.wrap ((x : Int) * 4294967296)) = ((x / 2 ^ 32 ||| x * 2 ^ 32 % 2 ^ 64 : Nat) : Int) := by
  rw [show (4294967296 : Int) = ((2 ^ 32 : Nat) : Int) from rfl, shr_cast, shl_cast, wrap64N, or64N, Nat.mod_eq_of_lt]
  exact Nat.or_lt_two_pow (n := 64) (Nat.lt_of_le_of_lt (Nat.div_le_self _ _) hx) (Nat.mod_lt _ (by decide))
theorem half32 (x : Nat) (hx : x < 4294967296) : bits .or .u32 ((x : Int) / 65536) ((x : Int) * 65536 % 4294967296) = ((x / 2 ^ 16 ||| x * 2 ^ 16 % 2 ^ 32 : Nat) : Int) := by
  rw [show (65536 : Int) = ((2 ^ 16 : Nat) : Int) from rfl, show (4294967296 : Int) = ((2 ^ 32 : Nat) : Int) from rfl, shr_cast, shl_cast, mod_cast', or32N, Nat.mod_eq_of_lt]
  exact Nat.or_lt_two_pow (n := 32) (Nat.lt_of_le_of_lt (Nat.div_le_self _ _) hx) (Nat.mod_lt _ (by decide))
theorem half16 (x : Nat) (hx : x < 65536) : bits .or .u16 ((x : Int) / 256) (IntKind.u16.wrap ((x : Int) * 256)) = ((x / 2 ^ 8 ||| x * 2 ^ 8 % 2 ^ 16 : Nat) : Int) := by
  rw [show (256 : Int) = ((2 ^ 8 : Nat) : Int) from rfl, shr_cast, shl_cast, wrap16N, or16N, Nat.mod_eq_of_lt]
  exact Nat.or_lt_two_pow (n := 16) (Nat.lt_of_le_of_lt (Nat.div_le_self _ _) hx) (Nat.mod_lt _ (by decide))

set_option maxHeartbeats 1000000 in
theorem rb32_any (x : Nat) (hx : x < 4294967296) (w : World) :
    Calls Tryd.prog 44 #[.int .u32 (x : Int)] w fun e w' => e = .returned (.int .u32 (rb32 x : Int)) ∧ w = w' := by
  obtain ⟨y, hy⟩ : ∃ y, y = swp 8 0x00ff00ff x := ⟨_, rfl⟩
  have hl : y < 4294967296 := by rw [hy]; exact swp_lt 8 _ x 32 hx (by decide)
  have p1 := swp32 8 0x00ff00ff x hx (by decide)
  rw [← hy] at p1
  have r1 : ∀ _ : True, bits .or .u32 (bits .and .u32 ((x : Int) / 256) 16711935) (bits .and .u32 (x : Int) 16711935 * 256 % 4294967296) = (y : Int) := fun _ => p1
  have P2 := Lib.hid (half32 y hl)
  have HY := Lib.hid hy
  clear p1 hy hl
  go_enter Tryd.func44, Tryd.ntmps44
  go_wp2
  go_ret
  exact ⟨ret_int (by rw [P2.out, HY.out]; rfl), rfl⟩

-- impl begin
set_option maxHeartbeats 1000000 in
theorem rb64_any (x : Nat) (hx : x < 18446744073709551616) (w : World) :
    Calls Tryd.prog 45 #[.int .u64 (x : Int)] w fun e w' => e = .returned (.int .u64 (rb64 x : Int)) ∧ w = w' := by
  obtain ⟨y, hy⟩ : ∃ y, y = swp 8 0x00ff00ff00ff00ff x := ⟨_, rfl⟩
  have hl : y < 18446744073709551616 := by rw [hy]; exact swp_lt 8 _ x 64 hx (by decide)
  have p1 := swp64 8 0x00ff00ff00ff00ff x hx (by decide)
  rw [← hy] at p1
  have r1 : ∀ _ : True, bits .or .u64 (bits .and .u64 ((x : Int) / 256) 71777214294589695) (IntKind.u64.wrap (bits .and .u64 (x : Int) 71777214294589695 * 256)) = (y : Int) := fun _ => p1
  obtain ⟨z, hz⟩ : ∃ z, z = swp 16 0x0000ffff0000ffff y := ⟨_, rfl⟩
  have hl2 : z < 18446744073709551616 := by rw [hz]; exact swp_lt 16 _ y 64 hl (by decide)
  have p2 := swp64 16 0x0000ffff0000ffff y hl (by decide)
  rw [← hz] at p2
  have r2 : ∀ _ : True, bits .or .u64 (bits .and .u64 ((y : Int) / 65536) 281470681808895) (IntKind.u64.wrap (bits .and .u64 (y : Int) 281470681808895 * 65536)) = (z : Int) := fun _ => p2
  have P2 := Lib.hid (half64 z hl2)
  have HY := Lib.hid hy
  have HZ := Lib.hid hz
  clear p1 hy hl p2 hz hl2
  go_enter Tryd.func45, Tryd.ntmps45
  go_wp2
  go_ret
  exact ⟨ret_int (by rw [P2.out, HZ.out, HY.out]; rfl), rfl⟩

-- impl begin
set_option maxHeartbeats 1000000 in
theorem rev32_any (x : Nat) (hx : x < 4294967296) (w : World) :
    Calls Tryd.prog 42 #[.int .u32 (x : Int)] w fun e w' => e = .returned (.int .u32 (placedB x (fun i => 31 - i) 32 : Int)) ∧ w = w' := by
  obtain ⟨y0, hy0⟩ : ∃ y, y = swp 1 0x55555555 x := ⟨_, rfl⟩
  have ly0 : y0 < 4294967296 := by rw [hy0]; exact swp_lt 1 _ x 32 hx (by decide)
  have p0 := swp32 1 0x55555555 x hx (by decide)
  rw [← hy0] at p0
  have r0 : ∀ _ : True, bits .or .u32 (bits .and .u32 ((x : Int) / 2) 1431655765) (bits .and .u32 (x : Int) 1431655765 * 2 % 4294967296) = (y0 : Int) := fun _ => p0
  obtain ⟨y1, hy1⟩ : ∃ y, y = swp 2 0x33333333 y0 := ⟨_, rfl⟩
  have ly1 : y1 < 4294967296 := by rw [hy1]; exact swp_lt 2 _ y0 32 ly0 (by decide)
  have p1 := swp32 2 0x33333333 y0 ly0 (by decide)
  rw [← hy1] at p1
  have r1 : ∀ _ : True, bits .or .u32 (bits .and .u32 ((y0 : Int) / 4) 858993459) (bits .and .u32 (y0 : Int) 858993459 * 4 % 4294967296) = (y1 : Int) := fun _ => p1
  obtain ⟨y2, hy2⟩ : ∃ y, y = swp 4 0x0f0f0f0f y1 := ⟨_, rfl⟩
  have ly2 : y2 < 4294967296 := by rw [hy2]; exact swp_lt 4 _ y1 32 ly1 (by decide)
  have p2 := swp32 4 0x0f0f0f0f y1 ly1 (by decide)
  rw [← hy2] at p2
  have r2 : ∀ _ : True, bits .or .u32 (bits .and .u32 ((y1 : Int) / 16) 252645135) (bits .and .u32 (y1 : Int) 252645135 * 16 % 4294967296) = (y2 : Int) := fun _ => p2
  have HY := Lib.hid (And.intro hy0 (And.intro hy1 hy2))
  have LY := Lib.hid ly2
  clear p0 p1 p2 hy0 hy1 hy2 ly0 ly1 ly2
  go_enter Tryd.func42, Tryd.ntmps42
  go_wp2_with (go_at_call 44; refine (rb32_any y2 LY.out _).mono ?_; rintro e w' ⟨rfl, rfl⟩)
  go_ret
  refine ⟨ret_int ?_, rfl⟩
  obtain ⟨e0, e1, e2⟩ := HY.out
  rw [← rv32_eq x hx, e2, e1, e0]; rfl

-- impl begin
theorem rev32_i (x : Nat) (hx : x < 4294967296) (w : World) :
    Calls Tryd.prog 26 #[.int .u32 (x : Int)] w fun e w' => e = .returned (.int .u32 (placedB x (fun i => 31 - i) 32 : Int)) ∧ w = w' := by
  go_enter Tryd.func26, Tryd.ntmps26
  go_wp2_with (go_at_call 42; refine (rev32_any x hx _).mono ?_; rintro e w' ⟨rfl, hw⟩)
  go_ret
  exact ⟨by first | rfl | simp, hw⟩
-- impl end
set_option maxHeartbeats 1000000 in
theorem rev64_any (x : Nat) (hx : x < 18446744073709551616) (w : World) :
    Calls Tryd.prog 43 #[.int .u64 (x : Int)] w fun e w' => e = .returned (.int .u64 (placedB x (fun i => 63 - i) 64 : Int)) ∧ w = w' := by
  obtain ⟨y0, hy0⟩ : ∃ y, y = swp 1 0x5555555555555555 x := ⟨_, rfl⟩
  have ly0 : y0 < 18446744073709551616 := by rw [hy0]; exact swp_lt 1 _ x 64 hx (by decide)
  have p0 := swp64 1 0x5555555555555555 x hx (by decide)
  rw [← hy0] at p0
  have r0 : ∀ _ : True, bits .or .u64 (bits .and .u64 ((x : Int) / 2) 6148914691236517205) (IntKind.u64.wrap (bits .and .u64 (x : Int) 6148914691236517205 * 2)) = (y0 : Int) := fun _ => p0
  obtain ⟨y1, hy1⟩ : ∃ y, y = swp 2 0x3333333333333333 y0 := ⟨_, rfl⟩
  have ly1 : y1 < 18446744073709551616 := by rw [hy1]; exact swp_lt 2 _ y0 64 ly0 (by decide)
  have p1 := swp64 2 0x3333333333333333 y0 ly0 (by decide)
  rw [← hy1] at p1
  have r1 : ∀ _ : True, bits .or .u64 (bits .and .u64 ((y0 : Int) / 4) 3689348814741910323) (IntKind.u64.wrap (bits .and .u64 (y0 : Int) 3689348814741910323 * 4)) = (y1 : Int) := fun _ => p1
  obtain ⟨y2, hy2⟩ : ∃ y, y = swp 4 0x0f0f0f0f0f0f0f0f y1 := ⟨_, rfl⟩
  have ly2 : y2 < 18446744073709551616 := by rw [hy2]; exact swp_lt 4 _ y1 64 ly1 (by decide)
  have p2 := swp64 4 0x0f0f0f0f0f0f0f0f y1 ly1 (by decide)
  rw [← hy2] at p2
  have r2 : ∀ _ : True, bits .or .u64 (bits .and .u64 ((y1 : Int) / 16) 1085102592571150095) (IntKind.u64.wrap (bits .and .u64 (y1 : Int) 1085102592571150095 * 16)) = (y2 : Int) := fun _ => p2
  have HY := Lib.hid (And.intro hy0 (And.intro hy1 hy2))
  have LY := Lib.hid ly2
  clear p0 p1 p2 hy0 hy1 hy2 ly0 ly1 ly2
  go_enter Tryd.func43, Tryd.ntmps43
  go_wp2_with (go_at_call 45; refine (rb64_any y2 LY.out _).mono ?_; rintro e w' ⟨rfl, rfl⟩)
  go_ret
  refine ⟨ret_int ?_, rfl⟩
  obtain ⟨e0, e1, e2⟩ := HY.out
  rw [← rv64_eq x hx, e2, e1, e0]; rfl

-- impl begin
theorem rev64_i (x : Nat) (hx : x < 18446744073709551616) (w : World) :
    Calls Tryd.prog 27 #[.int .u64 (x : Int)] w fun e w' => e = .returned (.int .u64 (placedB x (fun i => 63 - i) 64 : Int)) ∧ w = w' := by
  go_enter Tryd.func27, Tryd.ntmps27
  go_wp2_with (go_at_call 43; refine (rev64_any x hx _).mono ?_; rintro e w' ⟨rfl, hw⟩)
  go_ret
  exact ⟨by first | rfl | simp, hw⟩
-- impl end
theorem rev16_num (x : Nat) (hx : x < 65536) : bits .or .u16 (IntKind.u16.wrap (placedB (x / 256) (fun i => 7 - i) 8 : Int)) (IntKind.u16.wrap (IntKind.u16.wrap (placedB (x % 256) (fun i => 7 - i) 8 : Int) * 256)) = (placedB x (fun i => 15 - i) 16 : Int) := by
  have h1 : placedB (x / 256) (fun i => 7 - i) 8 < 256 := placedB_lt _ _ 8
  have h2 : placedB (x % 256) (fun i => 7 - i) 8 < 256 := placedB_lt _ _ 8
  rw [wrap16N, wrap16N, show (256 : Int) = ((256 : Nat) : Int) from rfl, shl_cast, wrap16N, Nat.mod_eq_of_lt (by omega), Nat.mod_eq_of_lt (show placedB (x % 256) (fun i => 7 - i) 8 < 65536 by omega), Nat.mod_eq_of_lt (by omega), or16N, Nat.mod_eq_of_lt (Nat.or_lt_two_pow (n := 16) (by omega) (by omega))]
  congr 1
  apply eq_placedB
  · exact Nat.or_lt_two_pow (n := 16) (by omega) (by omega)
  · intro i hi
    rw [show (256 : Nat) = 2 ^ 8 from rfl, Nat.mul_comm, Nat.testBit_or, Nat.testBit_two_pow_mul, testBit_placedB, testBit_placedB, Nat.testBit_div_two_pow, Nat.testBit_mod_two_pow]
    by_cases h : i < 8
    · have e : ¬ i ≥ 8 := by omega
      have e2 : 7 - i + 8 = 15 - i := by omega
      simp [h, e, e2]
    · have e : i ≥ 8 := by omega
      have e2 : 7 - (i - 8) = 15 - i := by omega
      have e3 : i - 8 < 8 := by omega
      have e4 : 15 - i < 8 := by omega
      simp [h, e, e2, e3, e4]
set_option maxRecDepth 3000 in
set_option maxHeartbeats 1000000 in
theorem rev16_any (x : Nat) (hx : x < 65536) (w : World) :
    Calls Tryd.prog 41 #[.int .u16 (x : Int)] w fun e w' => e = .returned (.int .u16 (placedB x (fun i => 15 - i) 16 : Int)) ∧ ∃ m, w' = w.drewN m := by
  have h1 : ∀ _ : True, bits BinOp.and IntKind.u16 (x : Int) 255 = (x : Int) % 256 := fun _ => and255_16 x hx
  have h2 : (0 : Int) ≤ (x : Int) / 256 ∧ (x : Int) / 256 < 256 := by omega
  have h3 : (0 : Int) ≤ (x : Int) % 256 ∧ (x : Int) % 256 < 256 := by omega
  go_enter Tryd.func41, Tryd.ntmps41
  go_wp2
  go_quiet (fail)
  go_wp2
  go_ret
  refine ⟨ret_int ?_, _, rfl⟩
  rw [cast_tab _ (x / 256) _ (fun j => placedB j (fun i => 7 - i) 8) (by decide +kernel) (by omega), cast_tab _ (x % 256) _ (fun j => placedB j (fun i => 7 - i) 8) (by decide +kernel) (by omega)]
  exact rev16_num x hx

-- impl begin
theorem rev16_i (x : Nat) (hx : x < 65536) (w : World) :
    Calls Tryd.prog 25 #[.int .u16 (x : Int)] w fun e w' => e = .returned (.int .u16 (placedB x (fun i => 15 - i) 16 : Int)) ∧ ∃ m, w' = w.drewN m := by
  go_enter Tryd.func25, Tryd.ntmps25
  go_wp2_with (go_at_call 41; refine (rev16_any x hx _).mono ?_; rintro e w' ⟨rfl, hw⟩)
  go_ret
  exact ⟨by first | rfl | simp, hw⟩
-- impl end
theorem andLow8 (k : Int) : bits .and .u64 (IntKind.u64.wrap k) 7 = (((k % 8).toNat : Nat) : Int) := by
  have e : IntKind.u64.wrap k = (((k % 18446744073709551616).toNat : Nat) : Int) := by rw [IntKind.wrap_u64]; omega
  rw [e, show (7 : Int) = ((2 ^ 3 - 1 : Nat) : Int) from rfl, and64N, Nat.and_two_pow_sub_one_eq_mod]
  simp only [Nat.reducePow]; omega
theorem rot_num8 (x s : Nat) (hx : x < 256) : bits .or .u8 ((x : Int) * 2 ^ s % 256) ((x : Int) / 2 ^ (8 - s)) = (rotB 8 x s : Int) := by
  have e : ∀ n : Nat, ((2 : Int) ^ n) = ((2 ^ n : Nat) : Int) := fun n => by simp
  rw [e, e, shl_cast, show (256 : Int) = ((256 : Nat) : Int) from rfl, mod_cast', shr_cast, or8N, Nat.mod_eq_of_lt]
  · rfl
  · exact rotB_lt 8 x s hx
theorem andLow16 (k : Int) : bits .and .u64 (IntKind.u64.wrap k) 15 = (((k % 16).toNat : Nat) : Int) := by
  have e : IntKind.u64.wrap k = (((k % 18446744073709551616).toNat : Nat) : Int) := by rw [IntKind.wrap_u64]; omega
  rw [e, show (15 : Int) = ((2 ^ 4 - 1 : Nat) : Int) from rfl, and64N, Nat.and_two_pow_sub_one_eq_mod]
  simp only [Nat.reducePow]; omega
theorem rot_num16 (x s : Nat) (hx : x < 65536) : bits .or .u16 (IntKind.u16.wrap ((x : Int) * 2 ^ s)) ((x : Int) / 2 ^ (16 - s)) = (rotB 16 x s : Int) := by
  have e : ∀ n : Nat, ((2 : Int) ^ n) = ((2 ^ n : Nat) : Int) := fun n => by simp
  rw [e, e, shl_cast, wrap16N, shr_cast, or16N, Nat.mod_eq_of_lt]
  · rfl
  · exact rotB_lt 16 x s hx
theorem andLow32 (k : Int) : bits .and .u64 (IntKind.u64.wrap k) 31 = (((k % 32).toNat : Nat) : Int) := by
  have e : IntKind.u64.wrap k = (((k % 18446744073709551616).toNat : Nat) : Int) := by rw [IntKind.wrap_u64]; omega
  rw [e, show (31 : Int) = ((2 ^ 5 - 1 : Nat) : Int) from rfl, and64N, Nat.and_two_pow_sub_one_eq_mod]
  simp only [Nat.reducePow]; omega
theorem rot_num32 (x s : Nat) (hx : x < 4294967296) : bits .or .u32 ((x : Int) * 2 ^ s % 4294967296) ((x : Int) / 2 ^ (32 - s)) = (rotB 32 x s : Int) := by
  have e : ∀ n : Nat, ((2 : Int) ^ n) = ((2 ^ n : Nat) : Int) := fun n => by simp
  rw [e, e, shl_cast, show (4294967296 : Int) = ((4294967296 : Nat) : Int) from rfl, mod_cast', shr_cast, or32N, Nat.mod_eq_of_lt]
  · rfl
  · exact rotB_lt 32 x s hx
theorem andLow64 (k : Int) : bits .and .u64 (IntKind.u64.wrap k) 63 = (((k % 64).toNat : Nat) : Int) := by
  have e : IntKind.u64.wrap k = (((k % 18446744073709551616).toNat : Nat) : Int) := by rw [IntKind.wrap_u64]; omega
  rw [e, show (63 : Int) = ((2 ^ 6 - 1 : Nat) : Int) from rfl, and64N, Nat.and_two_pow_sub_one_eq_mod]
  simp only [Nat.reducePow]; omega
theorem rot_num64 (x s : Nat) (hx : x < 18446744073709551616) : bits .or .u64 (IntKind.u64.wrap ((x : Int) * 2 ^ s)) ((x : Int) / 2 ^ (64 - s)) = (rotB 64 x s : Int) := by
  have e : ∀ n : Nat, ((2 : Int) ^ n) = ((2 ^ n : Nat) : Int) := fun n => by simp
  rw [e, e, shl_cast, wrap64N, shr_cast, or64N, Nat.mod_eq_of_lt]
  · rfl
  · exact rotB_lt 64 x s hx
end Go.Proofs.YtjcjnldnlgiloaaDoor
