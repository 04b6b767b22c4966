/- The contracts of the package's trunc and of what calls it: by the bits. -/
import Derived.Test.YtmopnnbhpeaiaaaWalkF3
import Derived.Test.YtmopnnbhpeaiaaaFTrunc
set_option linter.unusedVariables false
namespace Go.Proofs.Ytmopnnbhpeaiaaa
open Go.RowKit Go.Proofs.Ytmopnnbhpeaiaaa.Plain

set_option maxHeartbeats 400000 in
theorem trunc_small (b : Nat) (hb : b < 18446744073709551616) (h : ef b < 1023) (w : World) :
    Calls Try.prog 47 #[.float .f64 b] w fun e w' => e = .returned (.float .f64 (wordD (negB b) 0)) ∧ w = w' := by
  have t1 : ∀ _ : True, _ = true := fun _ => (abs_lt_one b).trans (by simp; omega)
  have c := fun w => abs_any b hb w
  generalize rung b = r at t1 c
  have d := fun w => copysign_any 0 b (by omega) hb w
  rw [show rung 0 = 0 by decide] at d
  generalize wordD (negB b) 0 = v at d ⊢
  clear h
  go_enter Try.func47, Try.ntmps47
  go_wp2_with (first | (go_at_call 43; refine (c _).mono ?_; rintro e w' ⟨rfl, rfl⟩) | (go_at_call 44; refine (d _).mono ?_; rintro e w' ⟨rfl, rfl⟩))
  go_ret
  exact ⟨rfl, rfl⟩

set_option maxHeartbeats 400000 in
theorem trunc_mid (b : Nat) (hb : b < 18446744073709551616) (h1 : 1023 ≤ ef b) (h2 : ef b < 1075) (w : World) :
    Calls Try.prog 47 #[.float .f64 b] w fun e w' => e = .returned (.float .f64 (b / 2 ^ (1075 - ef b) * 2 ^ (1075 - ef b))) ∧ w = w' := by
  have t1 : ∀ _ : True, _ = false := fun _ => (abs_lt_one b).trans (by simp; omega)
  have c := fun w => abs_any b hb w
  generalize rung b = r at t1 c
  have r1 : ∀ _ : True, _ = _ := fun _ => ef_num b
  generalize ef b = E at r1 h1 h2 ⊢
  obtain ⟨z, hz⟩ : ∃ z : Nat, z = E - 1023 := ⟨_, rfl⟩
  obtain ⟨k, hk⟩ : ∃ k : Nat, k = 1075 - E := ⟨_, rfl⟩
  have r2 : ∀ _ : True, IntKind.u64.wrap ((E : Int) - 1023) = (z : Int) := fun _ => by rw [IntKind.wrap_u64]; omega
  have r3 : ∀ _ : True, decide ((z : Int) < 52) = true := fun _ => by simp; omega
  have r4 : ∀ _ : True, IntKind.u64.wrap (52 - (z : Int)) = (k : Int) := fun _ => by rw [IntKind.wrap_u64]; omega
  have hk6 : k ≤ 63 := by omega
  have hp1 : (2 : Nat) ^ k ≤ 2 ^ 63 := Nat.pow_le_pow_right (by decide) hk6
  have hp0 : 0 < (2 : Nat) ^ k := Nat.pow_pos (by decide)
  have e5 := andNot_low b k hb hk6
  have r8 : ∀ _ : True, min k 64 = k := fun _ => by omega
  rw [← hk]
  obtain ⟨p, hp⟩ : ∃ p : Nat, p = 2 ^ k := ⟨_, rfl⟩
  obtain ⟨p', hp'⟩ : ∃ p' : Nat, p' = 2 ^ k - 1 := ⟨_, rfl⟩
  obtain ⟨v, hv⟩ : ∃ v : Nat, v = b / 2 ^ k * 2 ^ k := ⟨_, rfl⟩
  have hpi : ((2 : Int) ^ k) = (p : Int) := by rw [hp]; simp
  have r6 : ∀ _ : True, IntKind.u64.wrap ((2 : Int) ^ k) = (p : Int) := fun _ => by rw [hpi, IntKind.wrap_u64]; omega
  have r7 : ∀ _ : True, IntKind.u64.wrap ((p : Int) - 1) = (p' : Int) := fun _ => by rw [IntKind.wrap_u64]; omega
  rw [← hp', ← hv] at e5
  rw [← hv]
  have r5 : ∀ _ : True, _ = _ := fun _ => e5
  clear hz hk hk6 hp1 hp0 e5 hp hp' hv hpi h1 h2
  go_enter Try.func47, Try.ntmps47
  go_wp2_with (first | (go_at_call 43; refine (c _).mono ?_; rintro e w' ⟨rfl, rfl⟩) | (go_at_call 46; refine (bits_any _ _).mono ?_; rintro e w' ⟨rfl, rfl⟩) | (go_at_call 48; refine (frombits_any _ _).mono ?_; rintro e w' ⟨rfl, rfl⟩))
  go_ret
  exact ⟨rfl, rfl⟩

set_option maxHeartbeats 400000 in
theorem trunc_big (b : Nat) (hb : b < 18446744073709551616) (h : 1075 ≤ ef b) (w : World) :
    Calls Try.prog 47 #[.float .f64 b] w fun e w' => e = .returned (.float .f64 b) ∧ w = w' := by
  have t1 : ∀ _ : True, _ = false := fun _ => (abs_lt_one b).trans (by simp; omega)
  have c := fun w => abs_any b hb w
  generalize rung b = r at t1 c
  have r1 : ∀ _ : True, _ = _ := fun _ => ef_num b
  have hl := ef_lt b
  generalize ef b = E at r1 h hl ⊢
  obtain ⟨z, hz⟩ : ∃ z : Nat, z = E - 1023 := ⟨_, rfl⟩
  have r2 : ∀ _ : True, IntKind.u64.wrap ((E : Int) - 1023) = (z : Int) := fun _ => by rw [IntKind.wrap_u64]; omega
  have r3 : ∀ _ : True, decide ((z : Int) < 52) = false := fun _ => by simp; omega
  clear hz h hl
  go_enter Try.func47, Try.ntmps47
  go_wp2_with (first | (go_at_call 43; refine (c _).mono ?_; rintro e w' ⟨rfl, rfl⟩) | (go_at_call 46; refine (bits_any _ _).mono ?_; rintro e w' ⟨rfl, rfl⟩) | (go_at_call 48; refine (frombits_any _ _).mono ?_; rintro e w' ⟨rfl, rfl⟩))
  go_ret
  exact ⟨rfl, rfl⟩

theorem trunc_any (b : Nat) (hb : b < 18446744073709551616) (w : World) :
    Calls Try.prog 47 #[.float .f64 b] w fun e w' => e = .returned (.float .f64 (truncW b)) ∧ w = w' := by
  unfold truncW
  by_cases h : ef b < 1023
  · rw [if_pos h]; exact trunc_small b hb h w
  · rw [if_neg h]
    by_cases g : ef b < 1075
    · rw [if_pos g]; exact trunc_mid b hb (by omega) g w
    · rw [if_neg g]; exact trunc_big b hb (by omega) w

set_option maxHeartbeats 400000 in
theorem Trunc_any (b : Nat) (hb : b < 18446744073709551616) (w : World) :
    Calls Try.prog 32 #[.float .f64 b] w fun e w' => e = .returned (.float .f64 (truncW b)) ∧ w = w' := by
  go_enter Try.func32, Try.ntmps32
  go_wp2_with (first | (go_at_call 47; refine (trunc_any _ hb _).mono ?_; rintro e w' ⟨rfl, rfl⟩))
  go_ret
  exact ⟨rfl, rfl⟩

set_option maxHeartbeats 400000 in
theorem i_trunc (b : Nat) (hb : b < 18446744073709551616) (w : World) :
    Calls Try.prog 15 #[.int .u64 (b : Int)] w fun e w' => e = .returned (.int .u64 (truncW b : Int)) ∧ w = w' := by
  go_enter Try.func15, Try.ntmps15
  go_wp2_with (first | (go_at_call 33; refine (float_any _ _).mono ?_; rintro e w' ⟨rfl, rfl⟩) | (go_at_call 31; refine (bitsOf_any _ _).mono ?_; rintro e w' ⟨rfl, rfl⟩) | (go_at_call 32; refine (Trunc_any _ hb _).mono ?_; rintro e w' ⟨rfl, rfl⟩))
  go_ret
  exact ⟨rfl, rfl⟩

end Go.Proofs.Ytmopnnbhpeaiaaa
