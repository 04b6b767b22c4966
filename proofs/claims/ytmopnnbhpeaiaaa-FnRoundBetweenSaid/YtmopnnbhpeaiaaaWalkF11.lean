/- The contracts of the package's RoundToEven and of what calls it: by the bits. -/
import Derived.Test.YtmopnnbhpeaiaaaWalkF3
import Derived.Test.YtmopnnbhpeaiaaaFEven
set_option linter.unusedVariables false
namespace Go.Proofs.Ytmopnnbhpeaiaaa
open Go.RowKit Go.Proofs.Ytmopnnbhpeaiaaa.Plain

set_option maxHeartbeats 400000 in
theorem even_small (b : Nat) (hb : b < 18446744073709551616) (h : ef b < 1022) (w : World) :
    Calls Try.prog 39 #[.float .f64 b] w fun e w' => e = .returned (.float .f64 (signW (negB b))) ∧ w = w' := by
  have r1 : ∀ _ : True, _ = _ := fun _ => ef_num b
  have hl := ef_lt b
  have r2 : ∀ _ : True, _ = _ := fun _ => sgn_num b hb
  generalize signW (negB b) = v at r2 ⊢
  generalize ef b = E at *
  have t1 : ∀ _ : True, decide ((1023 : Int) ≤ (E : Int)) = false := fun _ => by simp; omega
  have t2 : ∀ _ : True, ((E : Int) == 1022) = false := fun _ => by simp; omega
  clear h hl
  go_enter Try.func39, Try.ntmps39
  go_wp2_with (first | (go_at_call 46; refine (bits_any _ _).mono ?_; rintro e w' ⟨rfl, rfl⟩) | (go_at_call 48; refine (frombits_any _ _).mono ?_; rintro e w' ⟨rfl, rfl⟩))
  go_ret
  exact ⟨rfl, rfl⟩

set_option maxHeartbeats 400000 in
theorem even_half0 (b : Nat) (hb : b < 18446744073709551616) (h : ef b = 1022) (h0 : mf b = 0) (w : World) :
    Calls Try.prog 39 #[.float .f64 b] w fun e w' => e = .returned (.float .f64 (signW (negB b))) ∧ w = w' := by
  have r1 : ∀ _ : True, _ = _ := fun _ => ef_num b
  have hl := ef_lt b
  have r2 : ∀ _ : True, _ = _ := fun _ => sgn_num b hb
  have r4 : ∀ _ : True, _ = _ := fun _ => mf_num b
  generalize mf b = m at *
  generalize signW (negB b) = v at r2 ⊢
  generalize ef b = E at *
  have t1 : ∀ _ : True, decide ((1023 : Int) ≤ (E : Int)) = false := fun _ => by simp; omega
  have t2 : ∀ _ : True, ((E : Int) == 1022) = true := fun _ => by simp; omega
  have t3 : ∀ _ : True, ((m : Int) != 0) = false := fun _ => by simp; omega
  have t4 : ∀ _ : True, ((m : Int) == 0) = true := fun _ => by simp; omega
  clear h hl h0
  go_enter Try.func39, Try.ntmps39
  go_wp2_with (first | (go_at_call 46; refine (bits_any _ _).mono ?_; rintro e w' ⟨rfl, rfl⟩) | (go_at_call 48; refine (frombits_any _ _).mono ?_; rintro e w' ⟨rfl, rfl⟩))
  go_ret
  exact ⟨rfl, rfl⟩

set_option maxHeartbeats 400000 in
theorem even_half1 (b : Nat) (hb : b < 18446744073709551616) (h : ef b = 1022) (h0 : mf b ≠ 0) (w : World) :
    Calls Try.prog 39 #[.float .f64 b] w fun e w' => e = .returned (.float .f64 (wordD (negB b) 4607182418800017408)) ∧ w = w' := by
  have r1 : ∀ _ : True, _ = _ := fun _ => ef_num b
  have hl := ef_lt b
  have r2 : ∀ _ : True, _ = _ := fun _ => sgn_num b hb
  have r4 : ∀ _ : True, _ = _ := fun _ => mf_num b
  generalize mf b = m at *
  have r3 : ∀ _ : True, bits .or .u64 (signW (negB b) : Int) 4607182418800017408 = (wordD (negB b) 4607182418800017408 : Int) := fun _ => or_sgn 4607182418800017408 (negB b) (by omega)
  generalize wordD (negB b) 4607182418800017408 = u at r3 ⊢
  generalize signW (negB b) = v at r2 r3
  generalize ef b = E at *
  have t1 : ∀ _ : True, decide ((1023 : Int) ≤ (E : Int)) = false := fun _ => by simp; omega
  have t2 : ∀ _ : True, ((E : Int) == 1022) = true := fun _ => by simp; omega
  have t3 : ∀ _ : True, ((m : Int) != 0) = true := fun _ => by simp; omega
  have t4 : ∀ _ : True, ((m : Int) == 0) = false := fun _ => by simp; omega
  clear h hl h0
  go_enter Try.func39, Try.ntmps39
  go_wp2_with (first | (go_at_call 46; refine (bits_any _ _).mono ?_; rintro e w' ⟨rfl, rfl⟩) | (go_at_call 48; refine (frombits_any _ _).mono ?_; rintro e w' ⟨rfl, rfl⟩))
  go_ret
  exact ⟨rfl, rfl⟩

set_option maxHeartbeats 400000 in
theorem even_big0 (b : Nat) (hb : b < 18446744073709551616) (h : ef b = 1075) (w : World) :
    Calls Try.prog 39 #[.float .f64 b] w fun e w' => e = .returned (.float .f64 b) ∧ w = w' := by
  have r1 : ∀ _ : True, bits .and .u64 ((b : Int) / 4503599627370496) 2047 = 1075 := fun _ => by rw [ef_num, h]; rfl
  obtain ⟨o, ho⟩ : ∃ o : Nat, o = b % 2 := ⟨_, rfl⟩
  have r2 : ∀ _ : True, bits .and .u64 (b : Int) 1 = (o : Int) := fun _ => by
    rw [show (1 : Int) = ((1 : Nat) : Int) from rfl, and64N, Nat.and_one_is_mod, ho]; congr 1; omega
  have r3 : ∀ _ : True, IntKind.u64.wrap (2251799813685247 + (o : Int)) = ((2251799813685247 + o : Nat) : Int) := fun _ => by rw [IntKind.wrap_u64]; omega
  have r4 : ∀ _ : True, ((2251799813685247 + o : Nat) : Int) / 4503599627370496 = 0 := fun _ => by omega
  have r5 : ∀ _ : True, bits .andNot .u64 (b : Int) 0 = (b : Int) := fun _ => by
    have := andNot_low b 0 hb (by omega)
    simpa using this
  have r6 : ∀ _ : True, IntKind.u64.wrap ((b : Int) + 0) = (b : Int) := fun _ => by rw [IntKind.wrap_u64]; omega
  have r7 : ∀ _ : True, IntKind.u64.wrap (b : Int) = (b : Int) := fun _ => by rw [IntKind.wrap_u64]; omega
  generalize 2251799813685247 + o = y at r3 r4
  clear h ho
  go_enter Try.func39, Try.ntmps39
  go_wp2_with (first | (go_at_call 46; refine (bits_any _ _).mono ?_; rintro e w' ⟨rfl, rfl⟩) | (go_at_call 48; refine (frombits_any _ _).mono ?_; rintro e w' ⟨rfl, rfl⟩))
  go_ret
  exact ⟨rfl, rfl⟩

set_option maxHeartbeats 400000 in
theorem even_big (b : Nat) (hb : b < 18446744073709551616) (h : 1076 ≤ ef b) (w : World) :
    Calls Try.prog 39 #[.float .f64 b] w fun e w' => e = .returned (.float .f64 b) ∧ w = w' := by
  have r1 : ∀ _ : True, _ = _ := fun _ => ef_num b
  have hl := ef_lt b
  generalize ef b = E at *
  have t1 : ∀ _ : True, decide ((1023 : Int) ≤ (E : Int)) = true := fun _ => by simp; omega
  obtain ⟨z, hz⟩ : ∃ z : Nat, z = E - 1023 := ⟨_, rfl⟩
  obtain ⟨u, hu⟩ : ∃ u : Nat, u = 18446744073709551668 - z := ⟨_, rfl⟩
  have r2 : ∀ _ : True, IntKind.u64.wrap ((E : Int) - 1023) = (z : Int) := fun _ => by rw [IntKind.wrap_u64]; omega
  have r3 : ∀ _ : True, IntKind.u64.wrap (52 - (z : Int)) = (u : Int) := fun _ => by rw [IntKind.wrap_u64]; omega
  have r4 : ∀ _ : True, min u 64 = 64 := fun _ => by omega
  have r4b : ∀ _ : True, (b : Int) / 18446744073709551616 = 0 := fun _ => by omega
  have r4c : ∀ _ : True, bits .and .u64 0 1 = 0 := fun _ => by decide
  have r4d : ∀ _ : True, IntKind.u64.wrap (2251799813685247 + 0) = 2251799813685247 := fun _ => by decide
  obtain ⟨y, hy⟩ : ∃ y : Nat, y = min z 64 := ⟨_, rfl⟩
  have r7 : ∀ _ : True, min z 64 = y := fun _ => hy.symm
  have hp : (2 : Nat) ^ 52 ≤ 2 ^ y := Nat.pow_le_pow_right (by decide) (by omega)
  have r8 : ∀ _ : True, (2251799813685247 : Int) / (2 : Int) ^ y = 0 := fun _ => by
    rw [show (2251799813685247 : Int) = ((2251799813685247 : Nat) : Int) from rfl, show ((2 : Int) ^ y) = ((2 ^ y : Nat) : Int) by simp, fdivC, Nat.div_eq_of_lt (by omega)]; rfl
  have r9 : ∀ _ : True, (4503599627370495 : Int) / (2 : Int) ^ y = 0 := fun _ => by
    rw [show (4503599627370495 : Int) = ((4503599627370495 : Nat) : Int) from rfl, show ((2 : Int) ^ y) = ((2 ^ y : Nat) : Int) by simp, fdivC, Nat.div_eq_of_lt (by omega)]; rfl
  have r5 : ∀ _ : True, bits .andNot .u64 (b : Int) 0 = (b : Int) := fun _ => by
    have := andNot_low b 0 hb (by omega)
    simpa using this
  have r6 : ∀ _ : True, IntKind.u64.wrap ((b : Int) + 0) = (b : Int) := fun _ => by rw [IntKind.wrap_u64]; omega
  have r6b : ∀ _ : True, IntKind.u64.wrap (b : Int) = (b : Int) := fun _ => by rw [IntKind.wrap_u64]; omega
  clear h hl hz hu hy hp
  go_enter Try.func39, Try.ntmps39
  go_wp2_with (first | (go_at_call 46; refine (bits_any _ _).mono ?_; rintro e w' ⟨rfl, rfl⟩) | (go_at_call 48; refine (frombits_any _ _).mono ?_; rintro e w' ⟨rfl, rfl⟩))
  go_ret
  exact ⟨rfl, rfl⟩

set_option maxHeartbeats 400000 in
theorem even_mid (b : Nat) (hb : b < 18446744073709551616) (h1 : 1023 ≤ ef b) (h2 : ef b < 1075) (j : Nat) (hj : j = 1074 - ef b) (w : World) :
    Calls Try.prog 39 #[.float .f64 b] w fun e w' => e = .returned (.float .f64 ((b + evenC b j) / 2 ^ (j + 1) * 2 ^ (j + 1))) ∧ w = w' := by
  have r1 : ∀ _ : True, _ = _ := fun _ => ef_num b
  have hl := ef_lt b
  obtain ⟨o, ho⟩ : ∃ o : Nat, o = b / 2 ^ (j + 1) % 2 := ⟨_, rfl⟩
  obtain ⟨c, hc⟩ : ∃ c : Nat, c = evenC b j := ⟨_, rfl⟩
  have hc2 : c = 2 ^ j - 1 + o := by rw [hc, ho]; rfl
  have ho2 : o < 2 := by omega
  have hj0 : 0 < (2 : Nat) ^ j := Nat.pow_pos (by decide)
  have hj51 : (2 : Nat) ^ j ≤ 2 ^ 51 := Nat.pow_le_pow_right (by decide) (by omega)
  have hnn : b + c < 18446744073709551616 := by
    have hf := fields_word b hb
    have hm := mf_lt b
    have hs : signW (negB b) ≤ 9223372036854775808 := by unfold signW; split <;> omega
    omega
  have e5 := andNot_low (b + c) (j + 1) hnn (by omega)
  rw [← hc]
  obtain ⟨bq, hbq⟩ : ∃ bq : Nat, bq = b / 2 ^ (j + 1) := ⟨_, rfl⟩
  generalize ef b = E at *
  obtain ⟨z, hz⟩ : ∃ z : Nat, z = E - 1023 := ⟨_, rfl⟩
  have hz51 : z ≤ 51 := by omega
  have hjz : j = 51 - z := by omega
  obtain ⟨j1, hj1⟩ : ∃ j1 : Nat, j1 = j + 1 := ⟨_, rfl⟩
  have q1 : (2251799813685247 + o) / 2 ^ z = c := by
    have hd : 2 ^ z * 2 ^ j = 2251799813685248 := by rw [← Nat.pow_add, show z + j = 51 by omega]
    have hz0 : 0 < (2 : Nat) ^ z := Nat.pow_pos (by decide)
    have hzz : (2 : Nat) ^ z ≤ 2 ^ 51 := Nat.pow_le_pow_right (by decide) (by omega)
    rw [hc2]
    rcases (by omega : o = 0 ∨ o = 1) with g | g
    · rw [g, show 2251799813685247 + 0 = 2 ^ z * (2 ^ j - 1) + (2 ^ z - 1) by rw [Nat.mul_sub, hd, Nat.mul_one]; omega, Nat.mul_add_div hz0, Nat.div_eq_of_lt (by omega)]
    · rw [g, show 2251799813685247 + 1 = 2 ^ z * 2 ^ j by rw [hd], Nat.mul_div_cancel_left _ hz0]; omega
  have q2 : 4503599627370495 / 2 ^ z = 2 ^ (j + 1) - 1 := by
    have hzp : 0 < (2 : Nat) ^ z := Nat.pow_pos (by decide)
    have hd : 2 ^ z * 2 ^ (j + 1) = 4503599627370496 := by rw [← Nat.pow_add, show z + (j + 1) = 52 by omega]
    have hzle : (2 : Nat) ^ z ≤ 2 ^ 51 := Nat.pow_le_pow_right (by decide) hz51
    have hjp : 0 < (2 : Nat) ^ (j + 1) := Nat.pow_pos (by decide)
    rw [show 4503599627370495 = 2 ^ z * (2 ^ (j + 1) - 1) + (2 ^ z - 1) by rw [Nat.mul_sub, hd, Nat.mul_one]; omega, Nat.mul_add_div hzp, Nat.div_eq_of_lt (by omega)]; omega
  obtain ⟨p', hp'⟩ : ∃ p' : Nat, p' = 2 ^ (j + 1) - 1 := ⟨_, rfl⟩
  obtain ⟨v, hv⟩ : ∃ v : Nat, v = (b + c) / 2 ^ (j + 1) * 2 ^ (j + 1) := ⟨_, rfl⟩
  rw [← hp', ← hv] at e5
  rw [← hv]
  rw [← hp'] at q2
  obtain ⟨s, hs⟩ : ∃ s : Nat, s = b + c := ⟨_, rfl⟩
  rw [← hs] at e5 hnn
  obtain ⟨y, hy⟩ : ∃ y : Nat, y = 2251799813685247 + o := ⟨_, rfl⟩
  rw [← hy] at q1
  have t1 : ∀ _ : True, decide ((1023 : Int) ≤ (E : Int)) = true := fun _ => by simp; omega
  have r2 : ∀ _ : True, IntKind.u64.wrap ((E : Int) - 1023) = (z : Int) := fun _ => by rw [IntKind.wrap_u64]; omega
  have r2b : ∀ _ : True, IntKind.u64.wrap (52 - (z : Int)) = (j1 : Int) := fun _ => by rw [IntKind.wrap_u64]; omega
  have r2c : ∀ _ : True, min j1 64 = j1 := fun _ => by omega
  have r2d : ∀ _ : True, (b : Int) / (2 : Int) ^ j1 = (bq : Int) := fun _ => by
    rw [show ((2 : Int) ^ j1) = ((2 ^ j1 : Nat) : Int) by simp, fdivC, hj1, hbq]
  have r2e : ∀ _ : True, bits .and .u64 (bq : Int) 1 = (o : Int) := fun _ => by
    rw [show (1 : Int) = ((1 : Nat) : Int) from rfl, and64N, Nat.and_one_is_mod, ho, hbq]; congr 1; omega
  have r2f : ∀ _ : True, IntKind.u64.wrap (2251799813685247 + (o : Int)) = (y : Int) := fun _ => by rw [IntKind.wrap_u64]; omega
  have r3 : ∀ _ : True, (y : Int) / (2 : Int) ^ z = (c : Int) := fun _ => by
    rw [← q1, show ((2 : Int) ^ z) = ((2 ^ z : Nat) : Int) by simp, fdivC]
  have r4 : ∀ _ : True, (4503599627370495 : Int) / (2 : Int) ^ z = (p' : Int) := fun _ => by
    rw [← q2, show (4503599627370495 : Int) = ((4503599627370495 : Nat) : Int) from rfl, show ((2 : Int) ^ z) = ((2 ^ z : Nat) : Int) by simp, fdivC]
  have r6 : ∀ _ : True, IntKind.u64.wrap ((b : Int) + (c : Int)) = (s : Int) := fun _ => by rw [IntKind.wrap_u64]; omega
  have r5 : ∀ _ : True, _ = _ := fun _ => e5
  have r7 : ∀ _ : True, min z 64 = z := fun _ => by omega
  clear h1 h2 hj hl hz hz51 hjz q1 q2 hc hc2 ho ho2 hj0 hj51 hbq hj1 hp' hv e5 hnn hs hy
  go_enter Try.func39, Try.ntmps39
  go_wp2_with (first | (go_at_call 46; refine (bits_any _ _).mono ?_; rintro e w' ⟨rfl, rfl⟩) | (go_at_call 48; refine (frombits_any _ _).mono ?_; rintro e w' ⟨rfl, rfl⟩))
  go_ret
  exact ⟨rfl, rfl⟩

theorem even_any (b : Nat) (hb : b < 18446744073709551616) (w : World) :
    Calls Try.prog 39 #[.float .f64 b] w fun e w' => e = .returned (.float .f64 (evenW b)) ∧ w = w' := by
  unfold evenW
  by_cases h : ef b < 1022
  · rw [if_pos h]; exact even_small b hb h w
  · rw [if_neg h]
    by_cases h2 : ef b = 1022
    · rw [if_pos h2]
      by_cases h3 : mf b = 0
      · rw [if_pos h3]; exact even_half0 b hb h2 h3 w
      · rw [if_neg h3]; exact even_half1 b hb h2 h3 w
    · rw [if_neg h2]
      by_cases g : ef b < 1075
      · rw [if_pos g]; exact even_mid b hb (by omega) g _ rfl w
      · rw [if_neg g]
        by_cases g2 : ef b = 1075
        · exact even_big0 b hb g2 w
        · exact even_big b hb (by omega) w

set_option maxHeartbeats 400000 in
theorem i_even (b : Nat) (hb : b < 18446744073709551616) (w : World) :
    Calls Try.prog 22 #[.int .u64 (b : Int)] w fun e w' => e = .returned (.int .u64 (evenW b : Int)) ∧ w = w' := by
  go_enter Try.func22, Try.ntmps22
  go_wp2_with (first | (go_at_call 33; refine (float_any _ _).mono ?_; rintro e w' ⟨rfl, rfl⟩) | (go_at_call 31; refine (bitsOf_any _ _).mono ?_; rintro e w' ⟨rfl, rfl⟩) | (go_at_call 39; refine (even_any _ hb _).mono ?_; rintro e w' ⟨rfl, rfl⟩))
  go_ret
  exact ⟨rfl, rfl⟩

end Go.Proofs.Ytmopnnbhpeaiaaa
