/- The contract of the reference's Trailing: the place of the lowest bit that is 1, n of 0. -/
import Derived.Test.YtjcjnldnlgiloaaDoorRows
import Derived.WalkKit
import Derived.WalkLawsBesides
import Derived.WalkSpells
import Derived.LoopTactic
import Derived.Outline
import Derived.Lib.Hide
import Derived.Deep.QuietTactic
import Derived.BigQuiet
import Derived.Test.YtjcjnldnlgiloaaDoorBack
import Derived.Test.YtjcjnldnlgiloaaDoorWalk1
import Derived.Test.YtjcjnldnlgiloaaDoorWalk2
set_option linter.unusedVariables false
namespace Go.Proofs.YtjcjnldnlgiloaaDoor
open Go.RowKit Go.Proofs.YtjcjnldnlgiloaaDoor.Plain

theorem grownD5 {w w' : World} (h : ∃ m, w' = w.drewN m) : Grown w w' := by obtain ⟨m, rfl⟩ := h; exact Grown.refl w
theorem qs5 {P : Program} {f : FuncId} {args : Array Value} {w : World} {n : Nat} {v : Value} (h : Calls P f args (w.drewN n) fun e w' => e = .returned v ∧ w.drewN n = w') :
    Calls P f args (w.drewN n) fun e w'' => e = .returned v ∧ ∃ m, w'' = w.drewN m := h.mono fun _ _ ⟨he, hm⟩ => ⟨he, n, hm.symm⟩
set_option maxHeartbeats 400000 in
theorem specTrailing (x n : Nat) (hx : x < 18446744073709551616) (hn : n ≤ 64) (hxn : x < 2 ^ n) (w : World) :
    Calls Tryd.prog 13 #[.int .u64 (x : Int), .int .i64 (n : Int)] w fun e w' => e = .returned (.int .i64 (Lib.ctz n x : Int)) ∧ w = w' := by
  have HX := Lib.hid hxn
  clear hxn
  go_enter Tryd.func13, Tryd.ntmps13
  go_wp2
  go_loop [7] (fun i => ∃ k : Nat, k ≤ n ∧ i = .int .i64 (k : Int) ∧ Hid (∀ j, j < k → x.testBit j = false)) (fun i => (n - intOf i).toNat)
  case atStart => exact ⟨0, Nat.zero_le _, rfl, Lib.hid (fun j hj => absurd hj (Nat.not_lt_zero j))⟩
  case round =>
    obtain ⟨k, hk, rfl, HLo⟩ := hrel
    by_cases h0 : k < n
    · by_cases hb : x.testBit k = true
      · have HB := Lib.hid hb
        clear hb
        go_wp2_with (go_at_call 29; refine (bit_yes x k hx (by omega) HB.out _).mono ?_; rintro e w' ⟨rfl, rfl⟩)
        go_ret
        exact ⟨ret_int (by rw [ctz_of n x k HX.out HB.out HLo.out]), rfl⟩
      · have HB := Lib.hid (Bool.eq_false_iff.2 hb)
        clear hb
        go_wp2_with (go_at_call 29; refine (bit_no x k hx (by omega) HB.out _).mono ?_; rintro e w' ⟨rfl, rfl⟩)
        go_round
        case rel => exact ⟨k + 1, by omega, by go_num, Lib.hid (fun j hj => by
          rcases Nat.lt_or_ge j k with h | h
          · exact HLo.out j h
          · have : j = k := by omega
            rw [this]; exact HB.out)⟩
        case measure => simp [intOf]; omega
    · obtain rfl : k = n := by omega
      go_wp2
      go_ret
      have e0 := zero_of_low k x HX.out HLo.out
      exact ⟨ret_int (by rw [e0]; simp [Lib.ctz]), rfl⟩

def zs32 : List Int := [0, 1, 28, 2, 29, 14, 24, 3, 30, 22, 20, 15, 25, 17, 4, 8, 31, 27, 13, 23, 21, 19, 16, 7, 26, 12, 18, 6, 11, 5, 10, 9]
def zs64 : List Int := [0, 1, 56, 2, 57, 49, 28, 3, 61, 58, 42, 50, 38, 29, 17, 4, 62, 47, 59, 36, 45, 43, 51, 22, 53, 39, 33, 30, 24, 18, 12, 5, 63, 55, 48, 27, 60, 41, 37, 16, 46, 35, 44, 21, 52, 32, 23, 11, 54, 26, 40, 15, 34, 20, 31, 10, 25, 14, 19, 9, 13, 8, 7, 6]
/-- the cells of the table that a function reads: block g holds the numbers zs -/
def Tab (w : World) (g : Nat) (zs : List Int) : Prop := ∀ i, i < zs.length → w.cell? ⟨g, i, none⟩ = some (.int .u8 (zs.getD i 0))
theorem Tab.drewN {w : World} {g : Nat} {zs : List Int} (h : Tab w g zs) (n : Nat) : Tab (w.drewN n) g zs := h
theorem db32 : ∀ c : Fin 32, 2 ^ c.val * 125613361 % 4294967296 / 134217728 < 32 ∧ zs32.getD (2 ^ c.val * 125613361 % 4294967296 / 134217728) 0 = (c.val : Int) := by decide +kernel
theorem db64 : ∀ c : Fin 64, 2 ^ c.val * 285870213051353865 % 18446744073709551616 / 288230376151711744 < 64 ∧ zs64.getD (2 ^ c.val * 285870213051353865 % 18446744073709551616 / 288230376151711744) 0 = (c.val : Int) := by decide +kernel
theorem low16 (x : Nat) (h0 : x ≠ 0) (hx : x < 65536) : bits .and .u16 (x : Int) (IntKind.u16.wrap (-(x : Int))) = ((2 ^ Lib.ctz 16 x : Nat) : Int) ∧ Lib.ctz 16 x < 16 := by
  obtain ⟨h1, h2⟩ := Lib.lowest_bit 16 x h0 hx
  have e : IntKind.u16.wrap (-(x : Int)) = ((65536 - x : Nat) : Int) := by
    have := sub16N 0 x
    simp only [Nat.mod_eq_of_lt hx, Nat.zero_add] at this
    rw [show (-(x : Int)) = ((0 : Nat) : Int) - (x : Int) by omega, this, Nat.mod_eq_of_lt (by omega)]
  rw [e, and16N, Nat.mod_eq_of_lt (Nat.and_lt_two_pow (n := 16) _ (by omega))]
  exact ⟨congrArg _ h1, h2⟩
theorem low32 (x : Nat) (h0 : x ≠ 0) (hx : x < 4294967296) : bits .and .u32 (x : Int) (-(x : Int) % 4294967296) = ((2 ^ Lib.ctz 32 x : Nat) : Int) ∧ Lib.ctz 32 x < 32 := by
  obtain ⟨h1, h2⟩ := Lib.lowest_bit 32 x h0 hx
  have e : -(x : Int) % 4294967296 = ((4294967296 - x : Nat) : Int) := by omega
  rw [e, and32N, Nat.mod_eq_of_lt (Nat.and_lt_two_pow (n := 32) _ (by omega))]
  exact ⟨congrArg _ h1, h2⟩
theorem low64 (x : Nat) (h0 : x ≠ 0) (hx : x < 18446744073709551616) : bits .and .u64 (x : Int) (IntKind.u64.wrap (-(x : Int))) = ((2 ^ Lib.ctz 64 x : Nat) : Int) ∧ Lib.ctz 64 x < 64 := by
  obtain ⟨h1, h2⟩ := Lib.lowest_bit 64 x h0 hx
  have e : IntKind.u64.wrap (-(x : Int)) = ((18446744073709551616 - x : Nat) : Int) := by rw [IntKind.wrap_u64]; omega
  rw [e, and64N, Nat.mod_eq_of_lt (Nat.and_lt_two_pow (n := 64) _ (by omega))]
  exact ⟨congrArg _ h1, h2⟩

set_option maxHeartbeats 400000 in
theorem tz16_any (x : Nat) (hx : x < 65536) (w : World) (hT : Tab w 0 zs32) :
    Calls Tryd.prog 28 #[.int .u16 (x : Int)] w fun e w' => e = .returned (.int .i64 (Lib.ctz 16 x : Int)) ∧ w = w' := by
  by_cases h0 : x = 0
  · have t0 : ((x : Int) == 0) = true := by simp; omega
    clear hT
    go_enter Tryd.func28, Tryd.ntmps28
    go_wp2
    go_ret
    exact ⟨ret_int (by rw [h0]; simp [Lib.ctz]), rfl⟩
  · have t0 : ((x : Int) == 0) = false := by simp; omega
    obtain ⟨e1, hc⟩ := low16 x h0 hx
    obtain ⟨c, hc0⟩ : ∃ c, c = Lib.ctz 16 x := ⟨_, rfl⟩
    rw [← hc0] at e1 hc ⊢
    obtain ⟨d1, d2⟩ := db32 ⟨c, by omega⟩
    simp only at d1 d2
    obtain ⟨p, hp⟩ : ∃ p, p = 2 ^ c := ⟨_, rfl⟩
    have hpl : p ≤ 32768 := by rw [hp]; exact Nat.pow_le_pow_right (n := 2) (by decide) (show c ≤ 16 - 1 by omega)
    rw [← hp] at e1 d1 d2
    obtain ⟨m, hm⟩ : ∃ m, m = p * 125613361 % 4294967296 := ⟨_, rfl⟩
    rw [← hm] at d1 d2
    have e2 : (p : Int) * 125613361 % 4294967296 = (m : Int) := by rw [hm]; omega
    obtain ⟨i, hi⟩ : ∃ i, i = m / 134217728 := ⟨_, rfl⟩
    rw [← hi] at d1 d2
    have e3 : (m : Int) / 134217728 = (i : Int) := by omega
    have hcell := hT i (by simpa [zs32] using d1)
    rw [d2] at hcell
    have r1 : ∀ _ : True, _ = _ := fun _ => e1
    have r2 : ∀ _ : True, _ = _ := fun _ => e2
    have r3 : ∀ _ : True, _ = _ := fun _ => e3
    clear e1 e2 e3 hm hi hp hT h0 hc0 d2
    go_enter Tryd.func28, Tryd.ntmps28
    go_wp2
    go_ret
    exact ⟨ret_int (by first | rfl | exact IntWalk.wrap64_in _ ⟨by omega, by omega⟩), rfl⟩

set_option maxHeartbeats 400000 in
theorem tz32_any (x : Nat) (hx : x < 4294967296) (w : World) (hT : Tab w 0 zs32) :
    Calls Tryd.prog 30 #[.int .u32 (x : Int)] w fun e w' => e = .returned (.int .i64 (Lib.ctz 32 x : Int)) ∧ w = w' := by
  by_cases h0 : x = 0
  · have t0 : ((x : Int) == 0) = true := by simp; omega
    clear hT
    go_enter Tryd.func30, Tryd.ntmps30
    go_wp2
    go_ret
    exact ⟨ret_int (by rw [h0]; simp [Lib.ctz]), rfl⟩
  · have t0 : ((x : Int) == 0) = false := by simp; omega
    obtain ⟨e1, hc⟩ := low32 x h0 hx
    obtain ⟨c, hc0⟩ : ∃ c, c = Lib.ctz 32 x := ⟨_, rfl⟩
    rw [← hc0] at e1 hc ⊢
    obtain ⟨d1, d2⟩ := db32 ⟨c, by omega⟩
    simp only at d1 d2
    obtain ⟨p, hp⟩ : ∃ p, p = 2 ^ c := ⟨_, rfl⟩
    have hpl : p ≤ 2147483648 := by rw [hp]; exact Nat.pow_le_pow_right (n := 2) (by decide) (show c ≤ 32 - 1 by omega)
    rw [← hp] at e1 d1 d2
    obtain ⟨m, hm⟩ : ∃ m, m = p * 125613361 % 4294967296 := ⟨_, rfl⟩
    rw [← hm] at d1 d2
    have e2 : (p : Int) * 125613361 % 4294967296 = (m : Int) := by rw [hm]; omega
    obtain ⟨i, hi⟩ : ∃ i, i = m / 134217728 := ⟨_, rfl⟩
    rw [← hi] at d1 d2
    have e3 : (m : Int) / 134217728 = (i : Int) := by omega
    have hcell := hT i (by simpa [zs32] using d1)
    rw [d2] at hcell
    have r1 : ∀ _ : True, _ = _ := fun _ => e1
    have r2 : ∀ _ : True, _ = _ := fun _ => e2
    have r3 : ∀ _ : True, _ = _ := fun _ => e3
    clear e1 e2 e3 hm hi hp hT h0 hc0 d2
    go_enter Tryd.func30, Tryd.ntmps30
    go_wp2
    go_ret
    exact ⟨ret_int (by first | rfl | exact IntWalk.wrap64_in _ ⟨by omega, by omega⟩), rfl⟩

set_option maxHeartbeats 400000 in
theorem tz64_any (x : Nat) (hx : x < 18446744073709551616) (w : World) (hT : Tab w 1 zs64) :
    Calls Tryd.prog 31 #[.int .u64 (x : Int)] w fun e w' => e = .returned (.int .i64 (Lib.ctz 64 x : Int)) ∧ w = w' := by
  by_cases h0 : x = 0
  · have t0 : ((x : Int) == 0) = true := by simp; omega
    clear hT
    go_enter Tryd.func31, Tryd.ntmps31
    go_wp2
    go_ret
    exact ⟨ret_int (by rw [h0]; simp [Lib.ctz]), rfl⟩
  · have t0 : ((x : Int) == 0) = false := by simp; omega
    obtain ⟨e1, hc⟩ := low64 x h0 hx
    obtain ⟨c, hc0⟩ : ∃ c, c = Lib.ctz 64 x := ⟨_, rfl⟩
    rw [← hc0] at e1 hc ⊢
    obtain ⟨d1, d2⟩ := db64 ⟨c, by omega⟩
    simp only at d1 d2
    obtain ⟨p, hp⟩ : ∃ p, p = 2 ^ c := ⟨_, rfl⟩
    have hpl : p ≤ 9223372036854775808 := by rw [hp]; exact Nat.pow_le_pow_right (n := 2) (by decide) (show c ≤ 64 - 1 by omega)
    rw [← hp] at e1 d1 d2
    obtain ⟨m, hm⟩ : ∃ m, m = p * 285870213051353865 % 18446744073709551616 := ⟨_, rfl⟩
    rw [← hm] at d1 d2
    have e2 : IntKind.u64.wrap ((p : Int) * 285870213051353865) = (m : Int) := by rw [hm, IntKind.wrap_u64]; omega
    obtain ⟨i, hi⟩ : ∃ i, i = m / 288230376151711744 := ⟨_, rfl⟩
    rw [← hi] at d1 d2
    have e3 : (m : Int) / 288230376151711744 = (i : Int) := by omega
    have hcell := hT i (by simpa [zs64] using d1)
    rw [d2] at hcell
    have r1 : ∀ _ : True, _ = _ := fun _ => e1
    have r2 : ∀ _ : True, _ = _ := fun _ => e2
    have r3 : ∀ _ : True, _ = _ := fun _ => e3
    clear e1 e2 e3 hm hi hp hT h0 hc0 d2
    go_enter Tryd.func31, Tryd.ntmps31
    go_wp2
    go_ret
    exact ⟨ret_int (by first | rfl | exact IntWalk.wrap64_in _ ⟨by omega, by omega⟩), rfl⟩

-- impl begin
theorem tz16_i (x : Nat) (hx : x < 65536) (w : World) (hT : Tab w 0 zs32) :
    Calls Tryd.prog 12 #[.int .u16 (x : Int)] w fun e w' => e = .returned (.int .i64 (Lib.ctz 16 x : Int)) ∧ w = w' := by
  have HT := Lib.hid hT
  clear hT
  go_enter Tryd.func12, Tryd.ntmps12
  go_wp2_with (go_at_call 28; refine (tz16_any x hx _ HT.out).mono ?_; rintro e w' ⟨rfl, hw⟩)
  go_ret
  exact ⟨rfl, hw⟩
-- impl end
-- impl begin
theorem tz32_i (x : Nat) (hx : x < 4294967296) (w : World) (hT : Tab w 0 zs32) :
    Calls Tryd.prog 14 #[.int .u32 (x : Int)] w fun e w' => e = .returned (.int .i64 (Lib.ctz 32 x : Int)) ∧ w = w' := by
  have HT := Lib.hid hT
  clear hT
  go_enter Tryd.func14, Tryd.ntmps14
  go_wp2_with (go_at_call 30; refine (tz32_any x hx _ HT.out).mono ?_; rintro e w' ⟨rfl, hw⟩)
  go_ret
  exact ⟨rfl, hw⟩
-- impl end
-- impl begin
theorem tz64_i (x : Nat) (hx : x < 18446744073709551616) (w : World) (hT : Tab w 1 zs64) :
    Calls Tryd.prog 15 #[.int .u64 (x : Int)] w fun e w' => e = .returned (.int .i64 (Lib.ctz 64 x : Int)) ∧ w = w' := by
  have HT := Lib.hid hT
  clear hT
  go_enter Tryd.func15, Tryd.ntmps15
  go_wp2_with (go_at_call 31; refine (tz64_any x hx _ HT.out).mono ?_; rintro e w' ⟨rfl, hw⟩)
  go_ret
  exact ⟨rfl, hw⟩
-- impl end

end Go.Proofs.YtjcjnldnlgiloaaDoor
