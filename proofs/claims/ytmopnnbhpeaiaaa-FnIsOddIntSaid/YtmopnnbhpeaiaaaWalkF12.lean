/- The contracts of the package's Modf and of what calls it, and of the reference's Fraction: by the bits. -/
import Derived.Test.YtmopnnbhpeaiaaaWalkF7
import Derived.Test.YtmopnnbhpeaiaaaWalkF8
import Derived.Test.YtmopnnbhpeaiaaaWalkH
import Derived.Test.YtmopnnbhpeaiaaaFModf
set_option linter.unusedVariables false
namespace Go.Proofs.Ytmopnnbhpeaiaaa
open Go.RowKit Go.Proofs.Ytmopnnbhpeaiaaa.Plain

set_option maxHeartbeats 400000 in
theorem modf_fin (b : Nat) (hb : b < 18446744073709551616) (hf : rung b < 9218868437227405312) (w : World) :
    Calls Try.prog 40 #[.float .f64 b] w fun e w' => e = .returned (.tuple #[.float .f64 (truncW b), .float .f64 (fracW b)]) ∧ w = w' := by
  have c := fun w => Trunc_any b hb w
  obtain ⟨v, hv, hsub, hcp⟩ := sub_trunc b hb hf
  have d := fun w => copysign_any v b hv hb w
  rw [hcp] at d
  generalize truncW b = t at *
  generalize fracW b = f at *
  have r1 : ∀ ty w, (binOp .sub ty (.float .f64 b) (.float .f64 t)).run Try.prog w = .ok (.float .f64 v) w := fun ty w => run_float_arith w .sub ty .f64 b t v hsub
  clear hf hv hsub hcp
  go_enter Try.func40, Try.ntmps40
  go_wp2_with (first | (go_at_call 32; refine (c _).mono ?_; rintro e w' ⟨rfl, rfl⟩) | (go_at_call 44; refine (d _).mono ?_; rintro e w' ⟨rfl, rfl⟩))
  go_ret2
  exact ⟨rfl, rfl⟩

theorem run_sub_none (P : Program) (ty : TypeId) (x y : Nat) (h : Ieee.double.sub x y = none) (w : World) :
    (binOp .sub ty (.float .f64 x) (.float .f64 y)).run P w = .ok (.float .f64 (nanD w (.nanBits .f64 x y))) w.drew := by
  have h2 : FloatKind.f64.format.sub x y = none := h
  simp [binOp, Op.floatArith, h2, nanD, Question.forced]

set_option maxHeartbeats 400000 in
theorem modf_bad (b : Nat) (hb : b < 18446744073709551616) (hf : ¬ rung b < 9218868437227405312) (w : World) :
    Calls Try.prog 40 #[.float .f64 b] w fun e w' => (∃ v, v < 18446744073709551616 ∧ isNan v = true ∧ e = .returned (.tuple #[.float .f64 b, .float .f64 v])) ∧ Grown w w' := by
  have c := fun w => Trunc_any b hb w
  have ht : truncW b = b := trunc_whole b (by
    have h := fin_ef b
    rw [expW_norm b (by omega)]; omega)
  rw [ht] at c
  have r1 : ∀ ty w, (binOp .sub ty (.float .f64 b) (.float .f64 b)).run Try.prog w = .ok (.float .f64 (nanD w (.nanBits .f64 b b))) w.drew := fun ty w => run_sub_none _ ty b b (sub_inf b hf) w
  clear hf ht
  go_enter Try.func40, Try.ntmps40
  go_wp2_with (first | (go_at_call 32; refine (c _).mono ?_; rintro e w' ⟨rfl, rfl⟩) | (go_at_call 44; refine (copysign_any _ b (nan_drawn _ _ _).2 hb _).mono ?_; rintro e w' ⟨rfl, rfl⟩))
  go_ret2
  refine ⟨⟨_, wordD_lt _ _ (rung_lt _), ?_, rfl⟩, fgrownD ⟨1, rfl⟩⟩
  rw [nan_word _ _ (rung_lt _), nan_rung]; exact (nan_drawn _ _ _).1

set_option maxHeartbeats 400000 in
theorem i_modf_fin (b : Nat) (hb : b < 18446744073709551616) (hf : rung b < 9218868437227405312) (w : World) :
    Calls Try.prog 24 #[.int .u64 (b : Int)] w fun e w' => e = .returned (.tuple #[.int .u64 (truncW b : Int), .int .u64 (fracW b : Int)]) ∧ w = w' := by
  have c := fun w => modf_fin b hb hf w
  generalize truncW b = t at *
  generalize fracW b = f at *
  clear hf
  go_enter Try.func24, Try.ntmps24
  go_wp2_with (first | (go_at_call 33; refine (float_any _ _).mono ?_; rintro e w' ⟨rfl, rfl⟩) | (go_at_call 31; refine (bitsOf_any _ _).mono ?_; rintro e w' ⟨rfl, rfl⟩) | (go_at_call 40; refine (c _).mono ?_; rintro e w' ⟨rfl, rfl⟩))
  go_ret2
  exact ⟨rfl, rfl⟩

set_option maxHeartbeats 400000 in
theorem i_modf_bad (b : Nat) (hb : b < 18446744073709551616) (hf : ¬ rung b < 9218868437227405312) (w : World) :
    Calls Try.prog 24 #[.int .u64 (b : Int)] w fun e w' => (∃ v : Nat, v < 18446744073709551616 ∧ isNan v = true ∧ e = .returned (.tuple #[.int .u64 (b : Int), .int .u64 (v : Int)])) ∧ Grown w w' := by
  have c := fun w => modf_bad b hb hf w
  clear hf
  go_enter Try.func24, Try.ntmps24
  go_wp2_with (first | (go_at_call 33; refine (float_any _ _).mono ?_; rintro e w' ⟨rfl, rfl⟩) | (go_at_call 31; refine (bitsOf_any _ _).mono ?_; rintro e w' ⟨rfl, rfl⟩) | (go_at_call 40; refine (c _).mono ?_; rintro e w' ⟨⟨v, hv, hn, rfl⟩, hg⟩))
  go_ret2
  exact ⟨⟨v, hv, hn, rfl⟩, hg⟩

set_option maxHeartbeats 400000 in
theorem fraction_pos (b : Nat) (hb : b < 18446744073709551616) (h1 : 0 ≤ expW b) (w : World) :
    Calls Try.prog 25 #[.int .u64 (b : Int)] w fun e w' => e = .returned (.int .u64 (wordD (negB b) 0 : Int)) ∧ Grown w w' := by
  have c := fun w => of_any b hb w
  have t1 : ∀ _ : True, decide (0 ≤ expW b) = true := fun _ => by simpa using h1
  have hN : signW (negB b) = wordD (negB b) 0 := by cases negB b <;> rfl
  rw [← hN]
  clear hN
  generalize expW b = E at *
  generalize mantW b = M at *
  generalize negB b = n at *
  clear h1
  go_enter Try.func25, Try.ntmps25
  go_wp2_with fail
  refine (c _).mono ?_
  rintro e w1 ⟨rfl, hg⟩
  go_wp2_with fail
  refine (sign_any n _).mono ?_
  rintro e w2 ⟨rfl, rfl⟩
  go_wp2
  go_ret
  exact ⟨rfl, hg.alloc _ _⟩

set_option maxHeartbeats 400000 in
theorem fraction_low (b : Nat) (hb : b < 18446744073709551616) (h1 : expW b < -60) (w : World) :
    Calls Try.prog 25 #[.int .u64 (b : Int)] w fun e w' => e = .returned (.int .u64 (b : Int)) ∧ Grown w w' := by
  have c := fun w => of_any b hb w
  have t1 : ∀ _ : True, decide (0 ≤ expW b) = false := fun _ => by simp; omega
  have t2 : ∀ _ : True, decide (expW b < -60) = true := fun _ => by simp; omega
  generalize expW b = E at *
  generalize mantW b = M at *
  generalize negB b = n at *
  clear h1
  go_enter Try.func25, Try.ntmps25
  go_wp2_with fail
  refine (c _).mono ?_
  rintro e w1 ⟨rfl, hg⟩
  go_wp2
  go_ret
  exact ⟨rfl, hg.alloc _ _⟩

set_option maxHeartbeats 400000 in
theorem fraction_mid (b : Nat) (hb : b < 18446744073709551616) (h1 : expW b < 0) (h2 : -60 ≤ expW b) (w : World) :
    Calls Try.prog 25 #[.int .u64 (b : Int)] w fun e w' => e = .returned (.int .u64 (near (negB b) (mantW b % 2 ^ cutK b) (expW b) : Int)) ∧ Grown w w' := by
  have c := fun w => of_any b hb w
  have t1 : ∀ _ : True, decide (0 ≤ expW b) = false := fun _ => by simp; omega
  have t2 : ∀ _ : True, decide (expW b < -60) = false := fun _ => by simp; omega
  have hM := mantW_lt b
  obtain ⟨k, hk⟩ : ∃ k, k = cutK b := ⟨_, rfl⟩
  rw [← hk]
  have hk2 : k = (-expW b).toNat := by rw [hk]; unfold cutK; omega
  clear hk
  generalize expW b = E at *
  generalize mantW b = M at *
  generalize negB b = n at *
  have k2 : k ≤ 60 := by omega
  have r1 : ∀ _ : True, IntKind.i64.wrap (-E) = (k : Int) := fun _ => by rw [IntKind.wrap_i64]; omega
  have r1b : ∀ _ : True, IntKind.i64.wrap (0 - E) = (k : Int) := fun _ => by rw [IntKind.wrap_i64]; omega
  have r1c : ∀ _ : True, wrap64 (-E) = (k : Int) := fun _ => by unfold wrap64; omega
  have hp1 : (2 : Nat) ^ k ≤ 2 ^ 60 := Nat.pow_le_pow_right (by decide) k2
  have hp0 : 0 < (2 : Nat) ^ k := Nat.pow_pos (by decide)
  obtain ⟨p, hp⟩ : ∃ p : Nat, p = 2 ^ k := ⟨_, rfl⟩
  obtain ⟨p', hp'⟩ : ∃ p' : Nat, p' = 2 ^ k - 1 := ⟨_, rfl⟩
  obtain ⟨rs, hrs⟩ : ∃ rs : Nat, rs = M % 2 ^ k := ⟨_, rfl⟩
  have hpi : ((2 : Int) ^ k) = (p : Int) := by rw [hp]; simp
  have r2 : ∀ _ : True, IntKind.u64.wrap ((2 : Int) ^ k) = (p : Int) := fun _ => by rw [hpi, IntKind.wrap_u64]; omega
  have r3 : ∀ _ : True, IntKind.u64.wrap ((p : Int) - 1) = (p' : Int) := fun _ => by rw [IntKind.wrap_u64]; omega
  have r6 : ∀ _ : True, min k 64 = k := fun _ => by omega
  have r9 : ∀ _ : True, bits .and .u64 (M : Int) (p' : Int) = (rs : Int) := fun _ => by
    rw [and64N, hp', Nat.and_two_pow_sub_one_eq_mod, hrs, Nat.mod_eq_of_lt]
    exact Nat.lt_of_le_of_lt (Nat.mod_le _ _) (by omega)
  have hr2 : rs ≤ M := by rw [hrs]; exact Nat.mod_le _ _
  have d := fun w => bits_near n rs E (by omega) (by omega) (by omega) w
  rw [← hrs]
  generalize near n rs E = N at d ⊢
  have r10 : ∀ _ : True, decide ((0 : Int) ≤ (k : Int)) = true := fun _ => by simp
  clear h1 h2 hM hk2 k2 hp1 hp0 hp hp' hrs hpi hr2
  go_enter Try.func25, Try.ntmps25
  go_wp2_with fail
  refine (c _).mono ?_
  rintro e w1 ⟨rfl, hg⟩
  go_wp2
  go_region_held3 (fun w' => w'.cell? ⟨w1.heap.size, 0, none⟩ = some (.bool n) ∧ w'.cell? ⟨w1.heap.size, 1, none⟩ = some (.int .u64 (M : Int)) ∧ w'.cell? ⟨w1.heap.size, 2, none⟩ = some (.int .i64 E) ∧ w1.heap.size < w'.heap.size ∧ GrownH w w') (first | exact held_next hg2 (by assumption) | (refine ⟨?_, ?_, ?_, ?_, ⟨(hg.alloc _ _).drew⟩⟩ <;> go_keep)) (first | (go_at_call 35; refine (d _).mono ?_; rintro e w2 ⟨rfl, hg2⟩))
  go_wp2
  go_ret
  exact ⟨rfl, held_out (by assumption)⟩

theorem fraction_any (b : Nat) (hb : b < 18446744073709551616) (w : World) :
    Calls Try.prog 25 #[.int .u64 (b : Int)] w fun e w' => e = .returned (.int .u64 (fracW b : Int)) ∧ Grown w w' := by
  unfold fracW
  by_cases h : expW b < 0
  · rw [if_pos h]
    by_cases g : expW b < -60
    · have hN : near (negB b) (mantW b % 2 ^ cutK b) (expW b) = b := by
        have hM := mantW_lt b
        have hc : cutK b = 60 := by unfold cutK; omega
        have hz : ef b < 2047 := by
          by_cases hz : ef b = 0
          · omega
          · rw [expW_norm b hz] at h; omega
        have hr := (fin_ef b).2 hz
        rw [hc, Nat.mod_eq_of_lt (by omega)]
        unfold mantW expW
        rw [near_rung _ _ (by omega), word_of b hb]
      rw [hN]
      exact fraction_low b hb g w
    · exact fraction_mid b hb h (by omega) w
  · rw [if_neg h]; exact fraction_pos b hb (by omega) w

end Go.Proofs.Ytmopnnbhpeaiaaa
