/- The contracts of the package's Round and of what calls it: by the bits. -/
import Derived.Test.YtmopnnbhpeaiaaaWalkF3
import Derived.Test.YtmopnnbhpeaiaaaFRound3
set_option linter.unusedVariables false
namespace Go.Proofs.Ytmopnnbhpeaiaaa
open Go.RowKit Go.Proofs.Ytmopnnbhpeaiaaa.Plain

set_option maxHeartbeats 400000 in
theorem round_small (b : Nat) (hb : b < 18446744073709551616) (h : ef b < 1022) (w : World) :
    Calls Try.prog 38 #[.float .f64 b] w fun e w' => e = .returned (.float .f64 (signW (negB b))) ∧ w = w' := by
  have r1 : ∀ _ : True, _ = _ := fun _ => ef_num b
  have hl := ef_lt b
  have r2 : ∀ _ : True, _ = _ := fun _ => sgn_num b hb
  generalize signW (negB b) = v at r2 ⊢
  generalize ef b = E at *
  have t1 : ∀ _ : True, decide ((E : Int) < 1023) = true := fun _ => by simp; omega
  have t2 : ∀ _ : True, ((E : Int) == 1022) = false := fun _ => by simp; omega
  clear h hl
  go_enter Try.func38, Try.ntmps38
  go_wp2_with (first | (go_at_call 46; refine (bits_any _ _).mono ?_; rintro e w' ⟨rfl, rfl⟩) | (go_at_call 48; refine (frombits_any _ _).mono ?_; rintro e w' ⟨rfl, rfl⟩))
  go_ret
  exact ⟨rfl, rfl⟩

set_option maxHeartbeats 400000 in
theorem round_half (b : Nat) (hb : b < 18446744073709551616) (h : ef b = 1022) (w : World) :
    Calls Try.prog 38 #[.float .f64 b] w fun e w' => e = .returned (.float .f64 (wordD (negB b) 4607182418800017408)) ∧ w = w' := by
  have r1 : ∀ _ : True, _ = _ := fun _ => ef_num b
  have hl := ef_lt b
  have r2 : ∀ _ : True, _ = _ := fun _ => sgn_num b hb
  have r3 : ∀ _ : True, bits .or .u64 (signW (negB b) : Int) 4607182418800017408 = (wordD (negB b) 4607182418800017408 : Int) := fun _ => or_sgn 4607182418800017408 (negB b) (by omega)
  generalize wordD (negB b) 4607182418800017408 = u at r3 ⊢
  generalize signW (negB b) = v at r2 r3
  generalize ef b = E at *
  have t1 : ∀ _ : True, decide ((E : Int) < 1023) = true := fun _ => by simp; omega
  have t2 : ∀ _ : True, ((E : Int) == 1022) = true := fun _ => by simp; omega
  clear h hl
  go_enter Try.func38, Try.ntmps38
  go_wp2_with (first | (go_at_call 46; refine (bits_any _ _).mono ?_; rintro e w' ⟨rfl, rfl⟩) | (go_at_call 48; refine (frombits_any _ _).mono ?_; rintro e w' ⟨rfl, rfl⟩))
  go_ret
  exact ⟨rfl, rfl⟩

set_option maxHeartbeats 400000 in
theorem round_big (b : Nat) (hb : b < 18446744073709551616) (h : 1075 ≤ ef b) (w : World) :
    Calls Try.prog 38 #[.float .f64 b] w fun e w' => e = .returned (.float .f64 b) ∧ w = w' := by
  have r1 : ∀ _ : True, _ = _ := fun _ => ef_num b
  have hl := ef_lt b
  generalize ef b = E at *
  have t1 : ∀ _ : True, decide ((E : Int) < 1023) = false := fun _ => by simp; omega
  have t2 : ∀ _ : True, decide ((E : Int) < 1075) = false := fun _ => by simp; omega
  clear h hl
  go_enter Try.func38, Try.ntmps38
  go_wp2_with (first | (go_at_call 46; refine (bits_any _ _).mono ?_; rintro e w' ⟨rfl, rfl⟩) | (go_at_call 48; refine (frombits_any _ _).mono ?_; rintro e w' ⟨rfl, rfl⟩))
  go_ret
  exact ⟨rfl, rfl⟩

set_option maxHeartbeats 400000 in
theorem round_mid (b : Nat) (hb : b < 18446744073709551616) (h1 : 1023 ≤ ef b) (h2 : ef b < 1075) (j : Nat) (hj : j = 1074 - ef b) (w : World) :
    Calls Try.prog 38 #[.float .f64 b] w fun e w' => e = .returned (.float .f64 ((b + 2 ^ j) / 2 ^ (j + 1) * 2 ^ (j + 1))) ∧ w = w' := by
  have r1 : ∀ _ : True, _ = _ := fun _ => ef_num b
  have hl := ef_lt b
  have hnn : b + 2 ^ j < 18446744073709551616 := by
    have hf := fields_word b hb
    have hm := mf_lt b
    have hp : (2 : Nat) ^ j ≤ 2 ^ 51 := Nat.pow_le_pow_right (by decide) (by omega)
    have hs : signW (negB b) ≤ 9223372036854775808 := by unfold signW; split <;> omega
    omega
  have e5 := andNot_low (b + 2 ^ j) (j + 1) hnn (by omega)
  generalize ef b = E at *
  obtain ⟨z, hz⟩ : ∃ z : Nat, z = E - 1023 := ⟨_, rfl⟩
  have hz51 : z ≤ 51 := by omega
  have hjz : j = 51 - z := by omega
  have hp1 : (2 : Nat) ^ j ≤ 2 ^ 51 := Nat.pow_le_pow_right (by decide) (by omega)
  have q1 : 2251799813685248 / 2 ^ z = 2 ^ j := by rw [show (2251799813685248 : Nat) = 2 ^ 51 by decide, Nat.pow_div hz51 (by decide), hjz]
  have q2 : 4503599627370495 / 2 ^ z = 2 ^ (j + 1) - 1 := by
    have hzp : 0 < (2 : Nat) ^ z := Nat.pow_pos (by decide)
    have hd : 2 ^ z * 2 ^ (j + 1) = 4503599627370496 := by rw [← Nat.pow_add, show z + (j + 1) = 52 by omega]
    have hzle : (2 : Nat) ^ z ≤ 2 ^ 51 := Nat.pow_le_pow_right (by decide) hz51
    have hj0 : 0 < (2 : Nat) ^ (j + 1) := Nat.pow_pos (by decide)
    rw [show 4503599627370495 = 2 ^ z * (2 ^ (j + 1) - 1) + (2 ^ z - 1) by rw [Nat.mul_sub, hd, Nat.mul_one]; omega, Nat.mul_add_div hzp, Nat.div_eq_of_lt (by omega)]; omega
  obtain ⟨c, hc⟩ : ∃ c : Nat, c = 2 ^ j := ⟨_, rfl⟩
  obtain ⟨p', hp'⟩ : ∃ p' : Nat, p' = 2 ^ (j + 1) - 1 := ⟨_, rfl⟩
  obtain ⟨v, hv⟩ : ∃ v : Nat, v = (b + 2 ^ j) / 2 ^ (j + 1) * 2 ^ (j + 1) := ⟨_, rfl⟩
  rw [← hp', ← hv] at e5
  rw [← hv]
  rw [← hp'] at q2
  rw [← hc] at q1 e5 hnn
  obtain ⟨s, hs⟩ : ∃ s : Nat, s = b + c := ⟨_, rfl⟩
  rw [← hs] at e5 hnn
  have t1 : ∀ _ : True, decide ((E : Int) < 1023) = false := fun _ => by simp; omega
  have t2 : ∀ _ : True, decide ((E : Int) < 1075) = true := fun _ => by simp; omega
  have r2 : ∀ _ : True, IntKind.u64.wrap ((E : Int) - 1023) = (z : Int) := fun _ => by rw [IntKind.wrap_u64]; omega
  have r3 : ∀ _ : True, (2251799813685248 : Int) / (2 : Int) ^ z = (c : Int) := fun _ => by
    rw [← q1, show (2251799813685248 : Int) = ((2251799813685248 : Nat) : Int) from rfl, show ((2 : Int) ^ z) = ((2 ^ z : Nat) : Int) by simp, fdivC]
  have r4 : ∀ _ : True, (4503599627370495 : Int) / (2 : Int) ^ z = (p' : Int) := fun _ => by
    rw [← q2, show (4503599627370495 : Int) = ((4503599627370495 : Nat) : Int) from rfl, show ((2 : Int) ^ z) = ((2 ^ z : Nat) : Int) by simp, fdivC]
  have r6 : ∀ _ : True, IntKind.u64.wrap ((b : Int) + (c : Int)) = (s : Int) := fun _ => by rw [IntKind.wrap_u64]; omega
  have r5 : ∀ _ : True, _ = _ := fun _ => e5
  have r7 : ∀ _ : True, min z 64 = z := fun _ => by omega
  clear h1 h2 hj hl hz hz51 hjz hp1 q1 q2 hc hp' hv e5 hnn hs
  go_enter Try.func38, Try.ntmps38
  go_wp2_with (first | (go_at_call 46; refine (bits_any _ _).mono ?_; rintro e w' ⟨rfl, rfl⟩) | (go_at_call 48; refine (frombits_any _ _).mono ?_; rintro e w' ⟨rfl, rfl⟩))
  go_ret
  exact ⟨rfl, rfl⟩

theorem round_any (b : Nat) (hb : b < 18446744073709551616) (w : World) :
    Calls Try.prog 38 #[.float .f64 b] w fun e w' => e = .returned (.float .f64 (roundW b)) ∧ w = w' := by
  unfold roundW
  by_cases h : ef b < 1022
  · rw [if_pos h]; exact round_small b hb h w
  · rw [if_neg h]
    by_cases h2 : ef b = 1022
    · rw [if_pos h2]; exact round_half b hb h2 w
    · rw [if_neg h2]
      by_cases g : ef b < 1075
      · rw [if_pos g]; exact round_mid b hb (by omega) g _ rfl w
      · rw [if_neg g]; exact round_big b hb (by omega) w

set_option maxHeartbeats 400000 in
theorem i_round (b : Nat) (hb : b < 18446744073709551616) (w : World) :
    Calls Try.prog 21 #[.int .u64 (b : Int)] w fun e w' => e = .returned (.int .u64 (roundW b : Int)) ∧ w = w' := by
  go_enter Try.func21, Try.ntmps21
  go_wp2_with (first | (go_at_call 33; refine (float_any _ _).mono ?_; rintro e w' ⟨rfl, rfl⟩) | (go_at_call 31; refine (bitsOf_any _ _).mono ?_; rintro e w' ⟨rfl, rfl⟩) | (go_at_call 38; refine (round_any _ hb _).mono ?_; rintro e w' ⟨rfl, rfl⟩))
  go_ret
  exact ⟨rfl, rfl⟩

end Go.Proofs.Ytmopnnbhpeaiaaa
