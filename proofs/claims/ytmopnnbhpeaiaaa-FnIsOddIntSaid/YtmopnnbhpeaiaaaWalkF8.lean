/- whole -/
import Derived.Test.YtmopnnbhpeaiaaaWalkF6
import Derived.Test.YtmopnnbhpeaiaaaFTrunc
set_option linter.unusedVariables false
namespace Go.Proofs.Ytmopnnbhpeaiaaa
open Go.RowKit Go.Proofs.Ytmopnnbhpeaiaaa.Plain
set_option maxHeartbeats 400000 in
theorem whole_pos (b : Nat) (hb : b < 18446744073709551616) (y : Int) (h1 : 0 ≤ expW b) (w : World) :
    Calls Try.prog 18 #[.int .u64 (b : Int), .int .i64 y] w fun e w' => e = .returned (.int .u64 (b : Int)) ∧ Grown w w' := by
  have c := fun w => of_any b hb w
  have t1 : ∀ _ : True, decide (0 ≤ expW b) = true := fun _ => by simpa using h1
  generalize expW b = E at *
  generalize mantW b = M at *
  generalize negB b = n at *
  clear h1
  go_enter Try.func18, Try.ntmps18
  go_wp2_with fail
  refine (c _).mono ?_
  rintro e w1 ⟨rfl, hg⟩
  go_wp2
  go_ret
  exact ⟨rfl, hg.alloc _ _⟩
theorem whole_cut (b : Nat) (hb : b < 18446744073709551616) (h1 : expW b < 0) (w : World) :
    Calls Try.prog 18 #[.int .u64 (b : Int), .int .i64 0] w fun e w' => e = .returned (.int .u64 (near (negB b) (mantW b / 2 ^ cutK b) 0 : Int)) ∧ Grown w w' := by
  have c := fun w => of_any b hb w
  have t1 : ∀ _ : True, decide (0 ≤ expW b) = false := fun _ => by simpa using h1
  have hlo : -1074 ≤ expW b := by unfold expW; omega
  have hM := mantW_lt b
  obtain ⟨k, hk⟩ : ∃ k, k = cutK b := ⟨_, rfl⟩
  rw [← hk]
  unfold cutK at hk
  generalize expW b = E at *
  generalize mantW b = M at *
  generalize negB b = n at *
  have k1 : 1 ≤ k := by omega
  have k2 : k ≤ 60 := by omega
  obtain ⟨K, hK⟩ : ∃ K : Nat, K = (-E).toNat := ⟨_, rfl⟩
  have r1 : ∀ _ : True, IntKind.i64.wrap (-E) = (K : Int) := fun _ => by rw [IntKind.wrap_i64]; omega
  have r1b : ∀ _ : True, IntKind.i64.wrap (0 - E) = (K : Int) := fun _ => by rw [IntKind.wrap_i64]; omega
  have r1c : ∀ _ : True, wrap64 (-E) = (K : Int) := fun _ => by unfold wrap64; omega
  have hk3 : k = min K 60 := by omega
  clear h1 hlo hk hK
  obtain ⟨j, hj⟩ : ∃ j : Nat, k = j + 1 := ⟨k - 1, by omega⟩
  have hp1 : (2 : Nat) ^ k ≤ 2 ^ 60 := Nat.pow_le_pow_right (by decide) k2
  have hp0 : 0 < (2 : Nat) ^ k := Nat.pow_pos (by decide)
  have hj1 : (2 : Nat) ^ j ≤ 2 ^ 60 := Nat.pow_le_pow_right (by decide) (by omega)
  obtain ⟨p, hp⟩ : ∃ p : Nat, p = 2 ^ k := ⟨_, rfl⟩
  obtain ⟨p', hp'⟩ : ∃ p' : Nat, p' = 2 ^ k - 1 := ⟨_, rfl⟩
  obtain ⟨hf, hhf⟩ : ∃ hf : Nat, hf = 2 ^ j := ⟨_, rfl⟩
  obtain ⟨q, hq⟩ : ∃ q : Nat, q = M / 2 ^ k := ⟨_, rfl⟩
  obtain ⟨rs, hrs⟩ : ∃ rs : Nat, rs = M % 2 ^ k := ⟨_, rfl⟩
  have hpi : ((2 : Int) ^ k) = (p : Int) := by rw [hp]; simp
  have hji : ((2 : Int) ^ j) = (hf : Int) := by rw [hhf]; simp
  have r2 : ∀ _ : True, IntKind.u64.wrap ((2 : Int) ^ k) = (p : Int) := fun _ => by rw [hpi, IntKind.wrap_u64]; omega
  have r3 : ∀ _ : True, IntKind.u64.wrap ((p : Int) - 1) = (p' : Int) := fun _ => by rw [IntKind.wrap_u64]; omega
  have r4 : ∀ _ : True, IntKind.u64.wrap ((2 : Int) ^ j) = (hf : Int) := fun _ => by rw [hji, IntKind.wrap_u64]; omega
  have r5 : ∀ _ : True, IntKind.i64.wrap ((k : Int) - 1) = (j : Int) := fun _ => by rw [IntKind.wrap_i64]; omega
  have r6 : ∀ _ : True, min k 64 = k := fun _ => by omega
  have r7 : ∀ _ : True, min j 64 = j := fun _ => by omega
  have r8 : ∀ _ : True, (M : Int) / (2 : Int) ^ k = (q : Int) := fun _ => by rw [hpi, hp, fdivC, hq]
  have r9 : ∀ _ : True, bits .and .u64 (M : Int) (p' : Int) = (rs : Int) := fun _ => by
    rw [and64N, hp', Nat.and_two_pow_sub_one_eq_mod, hrs, Nat.mod_eq_of_lt]
    exact Nat.lt_of_le_of_lt (Nat.mod_le _ _) (by omega)
  have hq53 : q < 9007199254740992 := by rw [hq]; exact Nat.lt_of_le_of_lt (Nat.div_le_self _ _) hM
  have d := fun w => bits_near n q 0 hq53 (by omega) (by omega) w
  rw [← hq]
  have HK := Lib.hid (And.intro hk3 (And.intro k1 k2))
  by_cases g : (K : Int) ≤ 60
  · have hk4 : K = k := by omega
    clear hp1 hp0 hj1 hp hp' hhf hq hrs hpi hji hq53 hM k1 k2 hj hk3
    subst hk4
    go_enter Try.func18, Try.ntmps18
    go_wp2_with fail
    refine (c _).mono ?_
    rintro e w1 ⟨rfl, hg⟩
    go_wp2
    go_quiet (fail)
    go_wp2_with fail
    refine (d _).mono ?_
    rintro e w2 ⟨rfl, hg2⟩
    go_wp2
    go_ret
    exact ⟨rfl, fgrownT (fgrownT (hg.alloc _ _) (fgrownD ⟨_, rfl⟩)) hg2⟩
  · have hk4 : k = 60 := by omega
    subst hk4
    have g2 : (60 : Int) < (K : Int) := by omega
    have r10 : ∀ _ : True, (M : Int) / 1152921504606846976 = (q : Int) := fun _ => by rw [hq]; omega
    have hp2 : p' = 1152921504606846975 := by omega
    rw [hp2] at r9
    have r11 : ∀ _ : True, bits .and .u64 (M : Int) 1152921504606846975 = (rs : Int) := r9
    clear hp1 hp0 hj1 hp hp' hhf hq hrs hpi hji hq53 hM k1 k2 hj hk3 r2 r3 r4 r5 r6 r7 r8 r9 hp2
    go_enter Try.func18, Try.ntmps18
    go_wp2_with fail
    refine (c _).mono ?_
    rintro e w1 ⟨rfl, hg⟩
    go_wp2
    go_quiet (fail)
    go_wp2_with fail
    refine (d _).mono ?_
    rintro e w2 ⟨rfl, hg2⟩
    go_wp2
    go_ret
    exact ⟨rfl, fgrownT (fgrownT (hg.alloc _ _) (fgrownD ⟨_, rfl⟩)) hg2⟩
end Go.Proofs.Ytmopnnbhpeaiaaa
