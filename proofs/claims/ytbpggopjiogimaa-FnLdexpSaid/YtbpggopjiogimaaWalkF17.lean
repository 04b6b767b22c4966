/- The contract of the reference's Bits for a power below -1074. -/
import Derived.Test.YtbpggopjiogimaaWalkF6
import Derived.Test.YtbpggopjiogimaaFLdexp
import Derived.Test.YtbpggopjiogimaaFOrd
set_option linter.unusedVariables false
namespace Go.Proofs.Ytbpggopjiogimaa
open Go.RowKit Go.Proofs.Ytbpggopjiogimaa.Plain

set_option maxHeartbeats 2000000 in
theorem bits_low_gt (n : Bool) (m : Nat) (e : Int) (hm0 : m ≠ 0) (hm : m < 9007199254740992) (K : Nat) (hK : (K : Int) = -1074 - e) (heL : -10000 < e) (hK1 : 1 < K) (hK2 : K < 63) (hc : 2 ^ (K - 1) < m % 2 ^ K) (w : World) :
    Calls Try.prog 21 #[.agg #[.bool n, .int .u64 (m : Int), .int .i64 e]] w fun e' w' => e' = .returned (.int .u64 (near n m e : Int)) ∧ Grown w w' := by
  have t1 : ∀ _ : True, ((m : Int) == 0) = false := fun _ => by simp; omega
  have t2 : ∀ _ : True, decide (-1074 < e) = false := fun _ => by simp; omega
  have t3 : ∀ _ : True, decide (e < -1074) = true := fun _ => by simp; omega
  have t4 : ∀ _ : True, decide ((9007199254740992 : Int) ≤ (m : Int)) = false := fun _ => by simp; omega
  have x1 : ∀ _ : True, wrap64 (-1074 - e) = (K : Int) := fun _ => by unfold wrap64; omega
  have x1b : ∀ _ : True, IntKind.i64.wrap (-1074 - e) = (K : Int) := fun _ => by rw [IntKind.wrap_i64]; omega
  have hN := near_low_cut n m e hm0 hm (by omega) K hK
  rw [hN]
  have y1 : (1 : Int) < (K : Int) := by omega
  have y2 : (K : Int) < 63 := by omega
  obtain ⟨j, hj⟩ : ∃ j : Nat, j = K - 1 := ⟨_, rfl⟩
  rw [← hj] at hc
  have hp1 : (2 : Nat) ^ K ≤ 2 ^ 62 := Nat.pow_le_pow_right (by decide) (by omega)
  have hp0 : 0 < (2 : Nat) ^ K := Nat.pow_pos (by decide)
  have hp2 : (2 : Nat) ^ 2 ≤ 2 ^ K := Nat.pow_le_pow_right (by decide) (by omega)
  have hj1 : (2 : Nat) ^ j ≤ 2 ^ 62 := Nat.pow_le_pow_right (by decide) (by omega)
  obtain ⟨p, hp⟩ : ∃ p : Nat, p = 2 ^ K := ⟨_, rfl⟩
  obtain ⟨p', hp'⟩ : ∃ p' : Nat, p' = 2 ^ K - 1 := ⟨_, rfl⟩
  obtain ⟨hf, hhf⟩ : ∃ hf : Nat, hf = 2 ^ j := ⟨_, rfl⟩
  obtain ⟨q, hq⟩ : ∃ q : Nat, q = m / 2 ^ K := ⟨_, rfl⟩
  obtain ⟨rs, hrs⟩ : ∃ rs : Nat, rs = m % 2 ^ K := ⟨_, rfl⟩
  have hpi : ((2 : Int) ^ K) = (p : Int) := by rw [hp]; simp
  have hji : ((2 : Int) ^ j) = (hf : Int) := by rw [hhf]; simp
  have r2 : ∀ _ : True, IntKind.u64.wrap ((2 : Int) ^ K) = (p : Int) := fun _ => by rw [hpi, IntKind.wrap_u64]; omega
  have r3 : ∀ _ : True, IntKind.u64.wrap ((p : Int) - 1) = (p' : Int) := fun _ => by rw [IntKind.wrap_u64]; omega
  have r4 : ∀ _ : True, IntKind.u64.wrap ((2 : Int) ^ j) = (hf : Int) := fun _ => by rw [hji, IntKind.wrap_u64]; omega
  have r5 : ∀ _ : True, wrap64 ((K : Int) - 1) = (j : Int) := fun _ => by unfold wrap64; omega
  have r5b : ∀ _ : True, IntKind.i64.wrap ((K : Int) - 1) = (j : Int) := fun _ => by rw [IntKind.wrap_i64]; omega
  have r6 : ∀ _ : True, min K 64 = K := fun _ => by omega
  have r7 : ∀ _ : True, min j 64 = j := fun _ => by omega
  have r8 : ∀ _ : True, (m : Int) / (2 : Int) ^ K = (q : Int) := fun _ => by rw [hpi, hp, fdivC, hq]
  have r9 : ∀ _ : True, bits .and .u64 (m : Int) (p' : Int) = (rs : Int) := fun _ => by
    rw [and64N, hp', Nat.and_two_pow_sub_one_eq_mod, hrs, Nat.mod_eq_of_lt]
    exact Nat.lt_of_le_of_lt (Nat.mod_le _ _) (by omega)
  have r10 : ∀ _ : True, wrap64 (e + (K : Int)) = -1074 := fun _ => by unfold wrap64; omega
  have r10b : ∀ _ : True, IntKind.i64.wrap (e + (K : Int)) = -1074 := fun _ => by rw [IntKind.wrap_i64]; omega
  have hqm : q < 4503599627370496 := by
    rw [hq]; exact Nat.lt_of_le_of_lt (Nat.div_le_div_left hp2 (by decide)) (by omega)
  have r11 : ∀ _ : True, decide ((9007199254740992 : Int) ≤ (q : Int)) = false := fun _ => by simp; omega
  have rq : ∀ _ : True, IntKind.u64.wrap ((q : Int) + 1) = ((q + 1 : Nat) : Int) := fun _ => by rw [IntKind.wrap_u64]; omega
  have hmo : moreE m K = true := by
    unfold moreE; rw [← hj, ← hhf, ← hrs, ← hq]
    (try rw [← hhf] at hc); (try rw [← hrs] at hc); (try rw [← hq] at hc)
    simp; omega
  rw [← hq, hmo]
  (try rw [← hhf] at hc); (try rw [← hrs] at hc); (try rw [← hq] at hc)
  have s1 : ∀ _ : True, decide (hf < rs) = true := fun _ => by simp; omega
  have s2 : ∀ _ : True, ((rs : Int) == (hf : Int)) = false := fun _ => by simp; omega
  obtain ⟨v, hv⟩ : ∃ v : Nat, v = q + 1 := ⟨_, rfl⟩
  have hif : q + (if true = true then 1 else 0) = v := by rw [hv]; rfl
  rw [hif]
  rw [← hv] at rq
  obtain ⟨N, hNN⟩ : ∃ N, wordD n v = N := ⟨_, rfl⟩
  rw [hNN]
  have z0 : ∀ _ : True, ((v : Int) == 0) = false := fun _ => by simp; omega
  have HV := Lib.hid (And.intro (show v ≠ 0 by omega) (And.intro (show v ≤ 4503599627370496 by omega) hNN))
  have H0 := Lib.hid hK
  clear hv hif hNN
  clear heL hm0 hm hN hK hK1 hK2 hj hc hp1 hp0 hp2 hj1 hp hp' hhf hq hrs hpi hji hqm hmo
  go_enter Try.func21, Try.ntmps21
  go_wp2
  go_quiet (fail)
  go_wp2
  go_loop [3, 4] (fun mv ev => mv = .int .u64 (m : Int) ∧ ev = .int .i64 e) (fun _ _ => 0)
  case atStart => exact ⟨rfl, rfl⟩
  case round =>
    obtain ⟨rfl, rfl⟩ := hrel
    rcases Nat.lt_or_ge m 4503599627370496 with c | c
    · have s0 : ∀ _ : True, decide ((m : Int) < 4503599627370496) = true := fun _ => by simp; omega
      clear c
      go_wp2
      go_loop [3, 4] (fun mv ev => (mv = .int .u64 (m : Int) ∧ ev = .int .i64 e) ∨ (∃ m' : Nat, mv = .int .u64 (m' : Int) ∧ ev = .int .i64 (-1074) ∧ m' ≠ 0 ∧ m' ≤ 4503599627370496 ∧ wordD n m' = N)) (fun _ ev => (-1074 - intOf ev).toNat)
      case atStart => exact Or.inl ⟨rfl, rfl⟩
      case round =>
        rcases hrel with ⟨rfl, rfl⟩ | ⟨m', rfl, rfl, g1, g2, g3⟩
        · go_wp2
          go_loop [5] (fun kv => kv = .int .i64 (K : Int)) (fun _ => 0)
          case atStart => rfl
          case round =>
            obtain rfl := hrel
            go_wp2
            go_round
            case rel => exact Or.inr ⟨v, rfl, rfl, HV.out⟩
            case measure => have := H0.out; simp [intOf]; omega
        · skip
          have z2 : ∀ _ : True, decide ((9007199254740992 : Int) ≤ (m' : Int)) = false := fun _ => by simp; omega
          by_cases g4 : m' < 4503599627370496
          · have z1 : ∀ _ : True, decide ((m' : Int) < 4503599627370496) = true := fun _ => by simp; omega
            have z3 : ∀ _ : True, _ = _ := fun _ => or_sgn m' n (by omega)
            rw [g3] at z3
            clear g1 g2 g3 g4
            go_wp2_with (go_at_call 35; refine (sign_any n _).mono ?_; rintro e w' ⟨rfl, rfl⟩)
            go_ret
            exact ⟨rfl, fgrownT ((Grown.refl _).alloc _ _) (fgrownD ⟨_, rfl⟩)⟩
          · obtain rfl : m' = 4503599627370496 := by omega
            have z3 : ∀ _ : True, bits .or .u64 (signW n : Int) 4503599627370496 = (wordD n 4503599627370496 : Int) := fun _ => or_sgn 4503599627370496 n (by omega)
            rw [g3] at z3
            have z4 : ∀ _ : True, bits .and .u64 4503599627370496 4503599627370495 = 0 := fun _ => by decide
            have z5 : ∀ _ : True, bits .or .u64 (N : Int) 0 = (N : Int) := fun _ => by
              have hl : N < 18446744073709551616 := by rw [← g3]; exact wordD_lt _ _ (by omega)
              rw [show (0 : Int) = ((0 : Nat) : Int) from rfl, or64N, Nat.or_zero, Nat.mod_eq_of_lt hl]
            clear g1 g2 g3 g4
            go_wp2_with (go_at_call 35; refine (sign_any n _).mono ?_; rintro e w' ⟨rfl, rfl⟩)
            go_ret
            exact ⟨rfl, fgrownT ((Grown.refl _).alloc _ _) (fgrownD ⟨_, rfl⟩)⟩
    · have s0 : ∀ _ : True, decide ((m : Int) < 4503599627370496) = false := fun _ => by simp; omega
      clear c
      go_wp2
      go_loop [3, 4] (fun mv ev => (mv = .int .u64 (m : Int) ∧ ev = .int .i64 e) ∨ (∃ m' : Nat, mv = .int .u64 (m' : Int) ∧ ev = .int .i64 (-1074) ∧ m' ≠ 0 ∧ m' ≤ 4503599627370496 ∧ wordD n m' = N)) (fun _ ev => (-1074 - intOf ev).toNat)
      case atStart => exact Or.inl ⟨rfl, rfl⟩
      case round =>
        rcases hrel with ⟨rfl, rfl⟩ | ⟨m', rfl, rfl, g1, g2, g3⟩
        · go_wp2
          go_loop [5] (fun kv => kv = .int .i64 (K : Int)) (fun _ => 0)
          case atStart => rfl
          case round =>
            obtain rfl := hrel
            go_wp2
            go_round
            case rel => exact Or.inr ⟨v, rfl, rfl, HV.out⟩
            case measure => have := H0.out; simp [intOf]; omega
        · skip
          have z2 : ∀ _ : True, decide ((9007199254740992 : Int) ≤ (m' : Int)) = false := fun _ => by simp; omega
          by_cases g4 : m' < 4503599627370496
          · have z1 : ∀ _ : True, decide ((m' : Int) < 4503599627370496) = true := fun _ => by simp; omega
            have z3 : ∀ _ : True, _ = _ := fun _ => or_sgn m' n (by omega)
            rw [g3] at z3
            clear g1 g2 g3 g4
            go_wp2_with (go_at_call 35; refine (sign_any n _).mono ?_; rintro e w' ⟨rfl, rfl⟩)
            go_ret
            exact ⟨rfl, fgrownT ((Grown.refl _).alloc _ _) (fgrownD ⟨_, rfl⟩)⟩
          · obtain rfl : m' = 4503599627370496 := by omega
            have z3 : ∀ _ : True, bits .or .u64 (signW n : Int) 4503599627370496 = (wordD n 4503599627370496 : Int) := fun _ => or_sgn 4503599627370496 n (by omega)
            rw [g3] at z3
            have z4 : ∀ _ : True, bits .and .u64 4503599627370496 4503599627370495 = 0 := fun _ => by decide
            have z5 : ∀ _ : True, bits .or .u64 (N : Int) 0 = (N : Int) := fun _ => by
              have hl : N < 18446744073709551616 := by rw [← g3]; exact wordD_lt _ _ (by omega)
              rw [show (0 : Int) = ((0 : Nat) : Int) from rfl, or64N, Nat.or_zero, Nat.mod_eq_of_lt hl]
            clear g1 g2 g3 g4
            go_wp2_with (go_at_call 35; refine (sign_any n _).mono ?_; rintro e w' ⟨rfl, rfl⟩)
            go_ret
            exact ⟨rfl, fgrownT ((Grown.refl _).alloc _ _) (fgrownD ⟨_, rfl⟩)⟩

set_option maxHeartbeats 2000000 in
theorem bits_low_odd (n : Bool) (m : Nat) (e : Int) (hm0 : m ≠ 0) (hm : m < 9007199254740992) (K : Nat) (hK : (K : Int) = -1074 - e) (heL : -10000 < e) (hK1 : 1 < K) (hK2 : K < 63) (hc : m % 2 ^ K = 2 ^ (K - 1) ∧ m / 2 ^ K % 2 = 1) (w : World) :
    Calls Try.prog 21 #[.agg #[.bool n, .int .u64 (m : Int), .int .i64 e]] w fun e' w' => e' = .returned (.int .u64 (near n m e : Int)) ∧ Grown w w' := by
  have t1 : ∀ _ : True, ((m : Int) == 0) = false := fun _ => by simp; omega
  have t2 : ∀ _ : True, decide (-1074 < e) = false := fun _ => by simp; omega
  have t3 : ∀ _ : True, decide (e < -1074) = true := fun _ => by simp; omega
  have t4 : ∀ _ : True, decide ((9007199254740992 : Int) ≤ (m : Int)) = false := fun _ => by simp; omega
  have x1 : ∀ _ : True, wrap64 (-1074 - e) = (K : Int) := fun _ => by unfold wrap64; omega
  have x1b : ∀ _ : True, IntKind.i64.wrap (-1074 - e) = (K : Int) := fun _ => by rw [IntKind.wrap_i64]; omega
  have hN := near_low_cut n m e hm0 hm (by omega) K hK
  rw [hN]
  have y1 : (1 : Int) < (K : Int) := by omega
  have y2 : (K : Int) < 63 := by omega
  obtain ⟨j, hj⟩ : ∃ j : Nat, j = K - 1 := ⟨_, rfl⟩
  rw [← hj] at hc
  have hp1 : (2 : Nat) ^ K ≤ 2 ^ 62 := Nat.pow_le_pow_right (by decide) (by omega)
  have hp0 : 0 < (2 : Nat) ^ K := Nat.pow_pos (by decide)
  have hp2 : (2 : Nat) ^ 2 ≤ 2 ^ K := Nat.pow_le_pow_right (by decide) (by omega)
  have hj1 : (2 : Nat) ^ j ≤ 2 ^ 62 := Nat.pow_le_pow_right (by decide) (by omega)
  obtain ⟨p, hp⟩ : ∃ p : Nat, p = 2 ^ K := ⟨_, rfl⟩
  obtain ⟨p', hp'⟩ : ∃ p' : Nat, p' = 2 ^ K - 1 := ⟨_, rfl⟩
  obtain ⟨hf, hhf⟩ : ∃ hf : Nat, hf = 2 ^ j := ⟨_, rfl⟩
  obtain ⟨q, hq⟩ : ∃ q : Nat, q = m / 2 ^ K := ⟨_, rfl⟩
  obtain ⟨rs, hrs⟩ : ∃ rs : Nat, rs = m % 2 ^ K := ⟨_, rfl⟩
  have hpi : ((2 : Int) ^ K) = (p : Int) := by rw [hp]; simp
  have hji : ((2 : Int) ^ j) = (hf : Int) := by rw [hhf]; simp
  have r2 : ∀ _ : True, IntKind.u64.wrap ((2 : Int) ^ K) = (p : Int) := fun _ => by rw [hpi, IntKind.wrap_u64]; omega
  have r3 : ∀ _ : True, IntKind.u64.wrap ((p : Int) - 1) = (p' : Int) := fun _ => by rw [IntKind.wrap_u64]; omega
  have r4 : ∀ _ : True, IntKind.u64.wrap ((2 : Int) ^ j) = (hf : Int) := fun _ => by rw [hji, IntKind.wrap_u64]; omega
  have r5 : ∀ _ : True, wrap64 ((K : Int) - 1) = (j : Int) := fun _ => by unfold wrap64; omega
  have r5b : ∀ _ : True, IntKind.i64.wrap ((K : Int) - 1) = (j : Int) := fun _ => by rw [IntKind.wrap_i64]; omega
  have r6 : ∀ _ : True, min K 64 = K := fun _ => by omega
  have r7 : ∀ _ : True, min j 64 = j := fun _ => by omega
  have r8 : ∀ _ : True, (m : Int) / (2 : Int) ^ K = (q : Int) := fun _ => by rw [hpi, hp, fdivC, hq]
  have r9 : ∀ _ : True, bits .and .u64 (m : Int) (p' : Int) = (rs : Int) := fun _ => by
    rw [and64N, hp', Nat.and_two_pow_sub_one_eq_mod, hrs, Nat.mod_eq_of_lt]
    exact Nat.lt_of_le_of_lt (Nat.mod_le _ _) (by omega)
  have r10 : ∀ _ : True, wrap64 (e + (K : Int)) = -1074 := fun _ => by unfold wrap64; omega
  have r10b : ∀ _ : True, IntKind.i64.wrap (e + (K : Int)) = -1074 := fun _ => by rw [IntKind.wrap_i64]; omega
  have hqm : q < 4503599627370496 := by
    rw [hq]; exact Nat.lt_of_le_of_lt (Nat.div_le_div_left hp2 (by decide)) (by omega)
  have r11 : ∀ _ : True, decide ((9007199254740992 : Int) ≤ (q : Int)) = false := fun _ => by simp; omega
  have rq : ∀ _ : True, IntKind.u64.wrap ((q : Int) + 1) = ((q + 1 : Nat) : Int) := fun _ => by rw [IntKind.wrap_u64]; omega
  have hmo : moreE m K = true := by
    unfold moreE; rw [← hj, ← hhf, ← hrs, ← hq]
    (try rw [← hhf] at hc); (try rw [← hrs] at hc); (try rw [← hq] at hc)
    simp; omega
  rw [← hq, hmo]
  (try rw [← hhf] at hc); (try rw [← hrs] at hc); (try rw [← hq] at hc)
  have s1 : ∀ _ : True, decide (hf < rs) = false := fun _ => by simp; omega
  have s2 : ∀ _ : True, ((rs : Int) == (hf : Int)) = true := fun _ => by simp; omega
  have s3 : ∀ _ : True, (bits .and .u64 (q : Int) 1 == 1) = true := fun _ => by rw [show (1 : Int) = ((1 : Nat) : Int) from rfl, and64N, Nat.and_one_is_mod, Bool.eq_iff_iff]; simp; omega
  obtain ⟨v, hv⟩ : ∃ v : Nat, v = q + 1 := ⟨_, rfl⟩
  have hif : q + (if true = true then 1 else 0) = v := by rw [hv]; rfl
  rw [hif]
  rw [← hv] at rq
  obtain ⟨N, hNN⟩ : ∃ N, wordD n v = N := ⟨_, rfl⟩
  rw [hNN]
  have z0 : ∀ _ : True, ((v : Int) == 0) = false := fun _ => by simp; omega
  have HV := Lib.hid (And.intro (show v ≠ 0 by omega) (And.intro (show v ≤ 4503599627370496 by omega) hNN))
  have H0 := Lib.hid hK
  clear hv hif hNN
  clear heL hm0 hm hN hK hK1 hK2 hj hc hp1 hp0 hp2 hj1 hp hp' hhf hq hrs hpi hji hqm hmo
  go_enter Try.func21, Try.ntmps21
  go_wp2
  go_quiet (fail)
  go_wp2
  go_loop [3, 4] (fun mv ev => mv = .int .u64 (m : Int) ∧ ev = .int .i64 e) (fun _ _ => 0)
  case atStart => exact ⟨rfl, rfl⟩
  case round =>
    obtain ⟨rfl, rfl⟩ := hrel
    rcases Nat.lt_or_ge m 4503599627370496 with c | c
    · have s0 : ∀ _ : True, decide ((m : Int) < 4503599627370496) = true := fun _ => by simp; omega
      clear c
      go_wp2
      go_loop [3, 4] (fun mv ev => (mv = .int .u64 (m : Int) ∧ ev = .int .i64 e) ∨ (∃ m' : Nat, mv = .int .u64 (m' : Int) ∧ ev = .int .i64 (-1074) ∧ m' ≠ 0 ∧ m' ≤ 4503599627370496 ∧ wordD n m' = N)) (fun _ ev => (-1074 - intOf ev).toNat)
      case atStart => exact Or.inl ⟨rfl, rfl⟩
      case round =>
        rcases hrel with ⟨rfl, rfl⟩ | ⟨m', rfl, rfl, g1, g2, g3⟩
        · go_wp2
          go_loop [5] (fun kv => kv = .int .i64 (K : Int)) (fun _ => 0)
          case atStart => rfl
          case round =>
            obtain rfl := hrel
            go_wp2
            go_round
            case rel => exact Or.inr ⟨v, rfl, rfl, HV.out⟩
            case measure => have := H0.out; simp [intOf]; omega
        · skip
          have z2 : ∀ _ : True, decide ((9007199254740992 : Int) ≤ (m' : Int)) = false := fun _ => by simp; omega
          by_cases g4 : m' < 4503599627370496
          · have z1 : ∀ _ : True, decide ((m' : Int) < 4503599627370496) = true := fun _ => by simp; omega
            have z3 : ∀ _ : True, _ = _ := fun _ => or_sgn m' n (by omega)
            rw [g3] at z3
            clear g1 g2 g3 g4
            go_wp2_with (go_at_call 35; refine (sign_any n _).mono ?_; rintro e w' ⟨rfl, rfl⟩)
            go_ret
            exact ⟨rfl, fgrownT ((Grown.refl _).alloc _ _) (fgrownD ⟨_, rfl⟩)⟩
          · obtain rfl : m' = 4503599627370496 := by omega
            have z3 : ∀ _ : True, bits .or .u64 (signW n : Int) 4503599627370496 = (wordD n 4503599627370496 : Int) := fun _ => or_sgn 4503599627370496 n (by omega)
            rw [g3] at z3
            have z4 : ∀ _ : True, bits .and .u64 4503599627370496 4503599627370495 = 0 := fun _ => by decide
            have z5 : ∀ _ : True, bits .or .u64 (N : Int) 0 = (N : Int) := fun _ => by
              have hl : N < 18446744073709551616 := by rw [← g3]; exact wordD_lt _ _ (by omega)
              rw [show (0 : Int) = ((0 : Nat) : Int) from rfl, or64N, Nat.or_zero, Nat.mod_eq_of_lt hl]
            clear g1 g2 g3 g4
            go_wp2_with (go_at_call 35; refine (sign_any n _).mono ?_; rintro e w' ⟨rfl, rfl⟩)
            go_ret
            exact ⟨rfl, fgrownT ((Grown.refl _).alloc _ _) (fgrownD ⟨_, rfl⟩)⟩
    · have s0 : ∀ _ : True, decide ((m : Int) < 4503599627370496) = false := fun _ => by simp; omega
      clear c
      go_wp2
      go_loop [3, 4] (fun mv ev => (mv = .int .u64 (m : Int) ∧ ev = .int .i64 e) ∨ (∃ m' : Nat, mv = .int .u64 (m' : Int) ∧ ev = .int .i64 (-1074) ∧ m' ≠ 0 ∧ m' ≤ 4503599627370496 ∧ wordD n m' = N)) (fun _ ev => (-1074 - intOf ev).toNat)
      case atStart => exact Or.inl ⟨rfl, rfl⟩
      case round =>
        rcases hrel with ⟨rfl, rfl⟩ | ⟨m', rfl, rfl, g1, g2, g3⟩
        · go_wp2
          go_loop [5] (fun kv => kv = .int .i64 (K : Int)) (fun _ => 0)
          case atStart => rfl
          case round =>
            obtain rfl := hrel
            go_wp2
            go_round
            case rel => exact Or.inr ⟨v, rfl, rfl, HV.out⟩
            case measure => have := H0.out; simp [intOf]; omega
        · skip
          have z2 : ∀ _ : True, decide ((9007199254740992 : Int) ≤ (m' : Int)) = false := fun _ => by simp; omega
          by_cases g4 : m' < 4503599627370496
          · have z1 : ∀ _ : True, decide ((m' : Int) < 4503599627370496) = true := fun _ => by simp; omega
            have z3 : ∀ _ : True, _ = _ := fun _ => or_sgn m' n (by omega)
            rw [g3] at z3
            clear g1 g2 g3 g4
            go_wp2_with (go_at_call 35; refine (sign_any n _).mono ?_; rintro e w' ⟨rfl, rfl⟩)
            go_ret
            exact ⟨rfl, fgrownT ((Grown.refl _).alloc _ _) (fgrownD ⟨_, rfl⟩)⟩
          · obtain rfl : m' = 4503599627370496 := by omega
            have z3 : ∀ _ : True, bits .or .u64 (signW n : Int) 4503599627370496 = (wordD n 4503599627370496 : Int) := fun _ => or_sgn 4503599627370496 n (by omega)
            rw [g3] at z3
            have z4 : ∀ _ : True, bits .and .u64 4503599627370496 4503599627370495 = 0 := fun _ => by decide
            have z5 : ∀ _ : True, bits .or .u64 (N : Int) 0 = (N : Int) := fun _ => by
              have hl : N < 18446744073709551616 := by rw [← g3]; exact wordD_lt _ _ (by omega)
              rw [show (0 : Int) = ((0 : Nat) : Int) from rfl, or64N, Nat.or_zero, Nat.mod_eq_of_lt hl]
            clear g1 g2 g3 g4
            go_wp2_with (go_at_call 35; refine (sign_any n _).mono ?_; rintro e w' ⟨rfl, rfl⟩)
            go_ret
            exact ⟨rfl, fgrownT ((Grown.refl _).alloc _ _) (fgrownD ⟨_, rfl⟩)⟩

set_option maxHeartbeats 2000000 in
theorem bits_low_even_some (n : Bool) (m : Nat) (e : Int) (hm0 : m ≠ 0) (hm : m < 9007199254740992) (K : Nat) (hK : (K : Int) = -1074 - e) (heL : -10000 < e) (hK1 : 1 < K) (hK2 : K < 63) (hc : m % 2 ^ K = 2 ^ (K - 1) ∧ m / 2 ^ K % 2 = 0) (hnz : m / 2 ^ K ≠ 0) (w : World) :
    Calls Try.prog 21 #[.agg #[.bool n, .int .u64 (m : Int), .int .i64 e]] w fun e' w' => e' = .returned (.int .u64 (near n m e : Int)) ∧ Grown w w' := by
  have t1 : ∀ _ : True, ((m : Int) == 0) = false := fun _ => by simp; omega
  have t2 : ∀ _ : True, decide (-1074 < e) = false := fun _ => by simp; omega
  have t3 : ∀ _ : True, decide (e < -1074) = true := fun _ => by simp; omega
  have t4 : ∀ _ : True, decide ((9007199254740992 : Int) ≤ (m : Int)) = false := fun _ => by simp; omega
  have x1 : ∀ _ : True, wrap64 (-1074 - e) = (K : Int) := fun _ => by unfold wrap64; omega
  have x1b : ∀ _ : True, IntKind.i64.wrap (-1074 - e) = (K : Int) := fun _ => by rw [IntKind.wrap_i64]; omega
  have hN := near_low_cut n m e hm0 hm (by omega) K hK
  rw [hN]
  have y1 : (1 : Int) < (K : Int) := by omega
  have y2 : (K : Int) < 63 := by omega
  obtain ⟨j, hj⟩ : ∃ j : Nat, j = K - 1 := ⟨_, rfl⟩
  rw [← hj] at hc
  have hp1 : (2 : Nat) ^ K ≤ 2 ^ 62 := Nat.pow_le_pow_right (by decide) (by omega)
  have hp0 : 0 < (2 : Nat) ^ K := Nat.pow_pos (by decide)
  have hp2 : (2 : Nat) ^ 2 ≤ 2 ^ K := Nat.pow_le_pow_right (by decide) (by omega)
  have hj1 : (2 : Nat) ^ j ≤ 2 ^ 62 := Nat.pow_le_pow_right (by decide) (by omega)
  obtain ⟨p, hp⟩ : ∃ p : Nat, p = 2 ^ K := ⟨_, rfl⟩
  obtain ⟨p', hp'⟩ : ∃ p' : Nat, p' = 2 ^ K - 1 := ⟨_, rfl⟩
  obtain ⟨hf, hhf⟩ : ∃ hf : Nat, hf = 2 ^ j := ⟨_, rfl⟩
  obtain ⟨q, hq⟩ : ∃ q : Nat, q = m / 2 ^ K := ⟨_, rfl⟩
  obtain ⟨rs, hrs⟩ : ∃ rs : Nat, rs = m % 2 ^ K := ⟨_, rfl⟩
  have hpi : ((2 : Int) ^ K) = (p : Int) := by rw [hp]; simp
  have hji : ((2 : Int) ^ j) = (hf : Int) := by rw [hhf]; simp
  have r2 : ∀ _ : True, IntKind.u64.wrap ((2 : Int) ^ K) = (p : Int) := fun _ => by rw [hpi, IntKind.wrap_u64]; omega
  have r3 : ∀ _ : True, IntKind.u64.wrap ((p : Int) - 1) = (p' : Int) := fun _ => by rw [IntKind.wrap_u64]; omega
  have r4 : ∀ _ : True, IntKind.u64.wrap ((2 : Int) ^ j) = (hf : Int) := fun _ => by rw [hji, IntKind.wrap_u64]; omega
  have r5 : ∀ _ : True, wrap64 ((K : Int) - 1) = (j : Int) := fun _ => by unfold wrap64; omega
  have r5b : ∀ _ : True, IntKind.i64.wrap ((K : Int) - 1) = (j : Int) := fun _ => by rw [IntKind.wrap_i64]; omega
  have r6 : ∀ _ : True, min K 64 = K := fun _ => by omega
  have r7 : ∀ _ : True, min j 64 = j := fun _ => by omega
  have r8 : ∀ _ : True, (m : Int) / (2 : Int) ^ K = (q : Int) := fun _ => by rw [hpi, hp, fdivC, hq]
  have r9 : ∀ _ : True, bits .and .u64 (m : Int) (p' : Int) = (rs : Int) := fun _ => by
    rw [and64N, hp', Nat.and_two_pow_sub_one_eq_mod, hrs, Nat.mod_eq_of_lt]
    exact Nat.lt_of_le_of_lt (Nat.mod_le _ _) (by omega)
  have r10 : ∀ _ : True, wrap64 (e + (K : Int)) = -1074 := fun _ => by unfold wrap64; omega
  have r10b : ∀ _ : True, IntKind.i64.wrap (e + (K : Int)) = -1074 := fun _ => by rw [IntKind.wrap_i64]; omega
  have hqm : q < 4503599627370496 := by
    rw [hq]; exact Nat.lt_of_le_of_lt (Nat.div_le_div_left hp2 (by decide)) (by omega)
  have r11 : ∀ _ : True, decide ((9007199254740992 : Int) ≤ (q : Int)) = false := fun _ => by simp; omega
  have rq : ∀ _ : True, IntKind.u64.wrap ((q : Int) + 1) = ((q + 1 : Nat) : Int) := fun _ => by rw [IntKind.wrap_u64]; omega
  have hmo : moreE m K = false := by
    unfold moreE; rw [← hj, ← hhf, ← hrs, ← hq]
    (try rw [← hhf] at hc); (try rw [← hrs] at hc); (try rw [← hq] at hc)
    simp; omega
  rw [← hq, hmo]
  rw [← hq] at hnz
  (try rw [← hhf] at hc); (try rw [← hrs] at hc); (try rw [← hq] at hc)
  have s1 : ∀ _ : True, decide (hf < rs) = false := fun _ => by simp; omega
  have s2 : ∀ _ : True, ((rs : Int) == (hf : Int)) = true := fun _ => by simp; omega
  have s3 : ∀ _ : True, (bits .and .u64 (q : Int) 1 == 1) = false := fun _ => by rw [show (1 : Int) = ((1 : Nat) : Int) from rfl, and64N, Nat.and_one_is_mod, Bool.eq_iff_iff]; simp; omega
  have hif : q + (if false = true then 1 else 0) = q := rfl
  rw [hif]
  obtain ⟨v, hv⟩ : ∃ v : Nat, q = v := ⟨_, rfl⟩
  subst hv
  obtain ⟨N, hNN⟩ : ∃ N, wordD n q = N := ⟨_, rfl⟩
  rw [hNN]
  have z0 : ∀ _ : True, ((q : Int) == 0) = false := fun _ => by simp; omega
  have HV := Lib.hid (And.intro (show q ≠ 0 by omega) (And.intro (show q ≤ 4503599627370496 by omega) hNN))
  have H0 := Lib.hid hK
  clear hif hNN hnz
  clear heL hm0 hm hN hK hK1 hK2 hj hc hp1 hp0 hp2 hj1 hp hp' hhf hq hrs hpi hji hqm hmo
  go_enter Try.func21, Try.ntmps21
  go_wp2
  go_quiet (fail)
  go_wp2
  go_loop [3, 4] (fun mv ev => mv = .int .u64 (m : Int) ∧ ev = .int .i64 e) (fun _ _ => 0)
  case atStart => exact ⟨rfl, rfl⟩
  case round =>
    obtain ⟨rfl, rfl⟩ := hrel
    rcases Nat.lt_or_ge m 4503599627370496 with c | c
    · have s0 : ∀ _ : True, decide ((m : Int) < 4503599627370496) = true := fun _ => by simp; omega
      clear c
      go_wp2
      go_loop [3, 4] (fun mv ev => (mv = .int .u64 (m : Int) ∧ ev = .int .i64 e) ∨ (∃ m' : Nat, mv = .int .u64 (m' : Int) ∧ ev = .int .i64 (-1074) ∧ m' ≠ 0 ∧ m' ≤ 4503599627370496 ∧ wordD n m' = N)) (fun _ ev => (-1074 - intOf ev).toNat)
      case atStart => exact Or.inl ⟨rfl, rfl⟩
      case round =>
        rcases hrel with ⟨rfl, rfl⟩ | ⟨m', rfl, rfl, g1, g2, g3⟩
        · go_wp2
          go_loop [5] (fun kv => kv = .int .i64 (K : Int)) (fun _ => 0)
          case atStart => rfl
          case round =>
            obtain rfl := hrel
            go_wp2
            go_round
            case rel => exact Or.inr ⟨q, rfl, rfl, HV.out⟩
            case measure => have := H0.out; simp [intOf]; omega
        · skip
          have z2 : ∀ _ : True, decide ((9007199254740992 : Int) ≤ (m' : Int)) = false := fun _ => by simp; omega
          by_cases g4 : m' < 4503599627370496
          · have z1 : ∀ _ : True, decide ((m' : Int) < 4503599627370496) = true := fun _ => by simp; omega
            have z3 : ∀ _ : True, _ = _ := fun _ => or_sgn m' n (by omega)
            rw [g3] at z3
            clear g1 g2 g3 g4
            go_wp2_with (go_at_call 35; refine (sign_any n _).mono ?_; rintro e w' ⟨rfl, rfl⟩)
            go_ret
            exact ⟨rfl, fgrownT ((Grown.refl _).alloc _ _) (fgrownD ⟨_, rfl⟩)⟩
          · obtain rfl : m' = 4503599627370496 := by omega
            have z3 : ∀ _ : True, bits .or .u64 (signW n : Int) 4503599627370496 = (wordD n 4503599627370496 : Int) := fun _ => or_sgn 4503599627370496 n (by omega)
            rw [g3] at z3
            have z4 : ∀ _ : True, bits .and .u64 4503599627370496 4503599627370495 = 0 := fun _ => by decide
            have z5 : ∀ _ : True, bits .or .u64 (N : Int) 0 = (N : Int) := fun _ => by
              have hl : N < 18446744073709551616 := by rw [← g3]; exact wordD_lt _ _ (by omega)
              rw [show (0 : Int) = ((0 : Nat) : Int) from rfl, or64N, Nat.or_zero, Nat.mod_eq_of_lt hl]
            clear g1 g2 g3 g4
            go_wp2_with (go_at_call 35; refine (sign_any n _).mono ?_; rintro e w' ⟨rfl, rfl⟩)
            go_ret
            exact ⟨rfl, fgrownT ((Grown.refl _).alloc _ _) (fgrownD ⟨_, rfl⟩)⟩
    · have s0 : ∀ _ : True, decide ((m : Int) < 4503599627370496) = false := fun _ => by simp; omega
      clear c
      go_wp2
      go_loop [3, 4] (fun mv ev => (mv = .int .u64 (m : Int) ∧ ev = .int .i64 e) ∨ (∃ m' : Nat, mv = .int .u64 (m' : Int) ∧ ev = .int .i64 (-1074) ∧ m' ≠ 0 ∧ m' ≤ 4503599627370496 ∧ wordD n m' = N)) (fun _ ev => (-1074 - intOf ev).toNat)
      case atStart => exact Or.inl ⟨rfl, rfl⟩
      case round =>
        rcases hrel with ⟨rfl, rfl⟩ | ⟨m', rfl, rfl, g1, g2, g3⟩
        · go_wp2
          go_loop [5] (fun kv => kv = .int .i64 (K : Int)) (fun _ => 0)
          case atStart => rfl
          case round =>
            obtain rfl := hrel
            go_wp2
            go_round
            case rel => exact Or.inr ⟨q, rfl, rfl, HV.out⟩
            case measure => have := H0.out; simp [intOf]; omega
        · skip
          have z2 : ∀ _ : True, decide ((9007199254740992 : Int) ≤ (m' : Int)) = false := fun _ => by simp; omega
          by_cases g4 : m' < 4503599627370496
          · have z1 : ∀ _ : True, decide ((m' : Int) < 4503599627370496) = true := fun _ => by simp; omega
            have z3 : ∀ _ : True, _ = _ := fun _ => or_sgn m' n (by omega)
            rw [g3] at z3
            clear g1 g2 g3 g4
            go_wp2_with (go_at_call 35; refine (sign_any n _).mono ?_; rintro e w' ⟨rfl, rfl⟩)
            go_ret
            exact ⟨rfl, fgrownT ((Grown.refl _).alloc _ _) (fgrownD ⟨_, rfl⟩)⟩
          · obtain rfl : m' = 4503599627370496 := by omega
            have z3 : ∀ _ : True, bits .or .u64 (signW n : Int) 4503599627370496 = (wordD n 4503599627370496 : Int) := fun _ => or_sgn 4503599627370496 n (by omega)
            rw [g3] at z3
            have z4 : ∀ _ : True, bits .and .u64 4503599627370496 4503599627370495 = 0 := fun _ => by decide
            have z5 : ∀ _ : True, bits .or .u64 (N : Int) 0 = (N : Int) := fun _ => by
              have hl : N < 18446744073709551616 := by rw [← g3]; exact wordD_lt _ _ (by omega)
              rw [show (0 : Int) = ((0 : Nat) : Int) from rfl, or64N, Nat.or_zero, Nat.mod_eq_of_lt hl]
            clear g1 g2 g3 g4
            go_wp2_with (go_at_call 35; refine (sign_any n _).mono ?_; rintro e w' ⟨rfl, rfl⟩)
            go_ret
            exact ⟨rfl, fgrownT ((Grown.refl _).alloc _ _) (fgrownD ⟨_, rfl⟩)⟩

set_option maxHeartbeats 2000000 in
theorem bits_low_even_none (n : Bool) (m : Nat) (e : Int) (hm0 : m ≠ 0) (hm : m < 9007199254740992) (K : Nat) (hK : (K : Int) = -1074 - e) (heL : -10000 < e) (hK1 : 1 < K) (hK2 : K < 63) (hc : m % 2 ^ K = 2 ^ (K - 1) ∧ m / 2 ^ K % 2 = 0) (hnz : m / 2 ^ K = 0) (w : World) :
    Calls Try.prog 21 #[.agg #[.bool n, .int .u64 (m : Int), .int .i64 e]] w fun e' w' => e' = .returned (.int .u64 (near n m e : Int)) ∧ Grown w w' := by
  have t1 : ∀ _ : True, ((m : Int) == 0) = false := fun _ => by simp; omega
  have t2 : ∀ _ : True, decide (-1074 < e) = false := fun _ => by simp; omega
  have t3 : ∀ _ : True, decide (e < -1074) = true := fun _ => by simp; omega
  have t4 : ∀ _ : True, decide ((9007199254740992 : Int) ≤ (m : Int)) = false := fun _ => by simp; omega
  have x1 : ∀ _ : True, wrap64 (-1074 - e) = (K : Int) := fun _ => by unfold wrap64; omega
  have x1b : ∀ _ : True, IntKind.i64.wrap (-1074 - e) = (K : Int) := fun _ => by rw [IntKind.wrap_i64]; omega
  have hN := near_low_cut n m e hm0 hm (by omega) K hK
  rw [hN]
  have y1 : (1 : Int) < (K : Int) := by omega
  have y2 : (K : Int) < 63 := by omega
  obtain ⟨j, hj⟩ : ∃ j : Nat, j = K - 1 := ⟨_, rfl⟩
  rw [← hj] at hc
  have hp1 : (2 : Nat) ^ K ≤ 2 ^ 62 := Nat.pow_le_pow_right (by decide) (by omega)
  have hp0 : 0 < (2 : Nat) ^ K := Nat.pow_pos (by decide)
  have hp2 : (2 : Nat) ^ 2 ≤ 2 ^ K := Nat.pow_le_pow_right (by decide) (by omega)
  have hj1 : (2 : Nat) ^ j ≤ 2 ^ 62 := Nat.pow_le_pow_right (by decide) (by omega)
  obtain ⟨p, hp⟩ : ∃ p : Nat, p = 2 ^ K := ⟨_, rfl⟩
  obtain ⟨p', hp'⟩ : ∃ p' : Nat, p' = 2 ^ K - 1 := ⟨_, rfl⟩
  obtain ⟨hf, hhf⟩ : ∃ hf : Nat, hf = 2 ^ j := ⟨_, rfl⟩
  obtain ⟨q, hq⟩ : ∃ q : Nat, q = m / 2 ^ K := ⟨_, rfl⟩
  obtain ⟨rs, hrs⟩ : ∃ rs : Nat, rs = m % 2 ^ K := ⟨_, rfl⟩
  have hpi : ((2 : Int) ^ K) = (p : Int) := by rw [hp]; simp
  have hji : ((2 : Int) ^ j) = (hf : Int) := by rw [hhf]; simp
  have r2 : ∀ _ : True, IntKind.u64.wrap ((2 : Int) ^ K) = (p : Int) := fun _ => by rw [hpi, IntKind.wrap_u64]; omega
  have r3 : ∀ _ : True, IntKind.u64.wrap ((p : Int) - 1) = (p' : Int) := fun _ => by rw [IntKind.wrap_u64]; omega
  have r4 : ∀ _ : True, IntKind.u64.wrap ((2 : Int) ^ j) = (hf : Int) := fun _ => by rw [hji, IntKind.wrap_u64]; omega
  have r5 : ∀ _ : True, wrap64 ((K : Int) - 1) = (j : Int) := fun _ => by unfold wrap64; omega
  have r5b : ∀ _ : True, IntKind.i64.wrap ((K : Int) - 1) = (j : Int) := fun _ => by rw [IntKind.wrap_i64]; omega
  have r6 : ∀ _ : True, min K 64 = K := fun _ => by omega
  have r7 : ∀ _ : True, min j 64 = j := fun _ => by omega
  have r8 : ∀ _ : True, (m : Int) / (2 : Int) ^ K = (q : Int) := fun _ => by rw [hpi, hp, fdivC, hq]
  have r9 : ∀ _ : True, bits .and .u64 (m : Int) (p' : Int) = (rs : Int) := fun _ => by
    rw [and64N, hp', Nat.and_two_pow_sub_one_eq_mod, hrs, Nat.mod_eq_of_lt]
    exact Nat.lt_of_le_of_lt (Nat.mod_le _ _) (by omega)
  have r10 : ∀ _ : True, wrap64 (e + (K : Int)) = -1074 := fun _ => by unfold wrap64; omega
  have r10b : ∀ _ : True, IntKind.i64.wrap (e + (K : Int)) = -1074 := fun _ => by rw [IntKind.wrap_i64]; omega
  have hqm : q < 4503599627370496 := by
    rw [hq]; exact Nat.lt_of_le_of_lt (Nat.div_le_div_left hp2 (by decide)) (by omega)
  have r11 : ∀ _ : True, decide ((9007199254740992 : Int) ≤ (q : Int)) = false := fun _ => by simp; omega
  have rq : ∀ _ : True, IntKind.u64.wrap ((q : Int) + 1) = ((q + 1 : Nat) : Int) := fun _ => by rw [IntKind.wrap_u64]; omega
  have hmo : moreE m K = false := by
    unfold moreE; rw [← hj, ← hhf, ← hrs, ← hq]
    (try rw [← hhf] at hc); (try rw [← hrs] at hc); (try rw [← hq] at hc)
    simp; omega
  rw [← hq, hmo]
  rw [← hq] at hnz
  (try rw [← hhf] at hc); (try rw [← hrs] at hc); (try rw [← hq] at hc)
  have s1 : ∀ _ : True, decide (hf < rs) = false := fun _ => by simp; omega
  have s2 : ∀ _ : True, ((rs : Int) == (hf : Int)) = true := fun _ => by simp; omega
  have s3 : ∀ _ : True, (bits .and .u64 (q : Int) 1 == 1) = false := fun _ => by rw [show (1 : Int) = ((1 : Nat) : Int) from rfl, and64N, Nat.and_one_is_mod, Bool.eq_iff_iff]; simp; omega
  have hif : q + (if false = true then 1 else 0) = q := rfl
  rw [hif]
  obtain rfl : q = 0 := hnz
  obtain ⟨N, hNN⟩ : ∃ N, N = signW n := ⟨_, rfl⟩
  have hw : wordD n 0 = signW n := by cases n <;> rfl
  rw [hw]
  have H0 := Lib.hid hK
  clear hif hNN hw
  clear heL hm0 hm hN hK hK1 hK2 hj hc hp1 hp0 hp2 hj1 hp hp' hhf hq hrs hpi hji hqm hmo
  go_enter Try.func21, Try.ntmps21
  go_wp2
  go_quiet (fail)
  go_wp2
  go_loop [3, 4] (fun mv ev => mv = .int .u64 (m : Int) ∧ ev = .int .i64 e) (fun _ _ => 0)
  case atStart => exact ⟨rfl, rfl⟩
  case round =>
    obtain ⟨rfl, rfl⟩ := hrel
    rcases Nat.lt_or_ge m 4503599627370496 with c | c
    · have s0 : ∀ _ : True, decide ((m : Int) < 4503599627370496) = true := fun _ => by simp; omega
      clear c
      go_wp2
      go_loop [3, 4] (fun mv ev => mv = .int .u64 (m : Int) ∧ ev = .int .i64 e) (fun _ _ => 0)
      case atStart => exact ⟨rfl, rfl⟩
      case round =>
        obtain ⟨rfl, rfl⟩ := hrel
        · go_wp2
          go_loop [5] (fun kv => kv = .int .i64 (K : Int)) (fun _ => 0)
          case atStart => rfl
          case round =>
            obtain rfl := hrel
            go_wp2_with (go_at_call 35; refine (sign_any n _).mono ?_; rintro e w' ⟨rfl, rfl⟩)
            go_ret
            exact ⟨rfl, fgrownT ((Grown.refl _).alloc _ _) (fgrownD ⟨_, rfl⟩)⟩
    · have s0 : ∀ _ : True, decide ((m : Int) < 4503599627370496) = false := fun _ => by simp; omega
      clear c
      go_wp2
      go_loop [3, 4] (fun mv ev => mv = .int .u64 (m : Int) ∧ ev = .int .i64 e) (fun _ _ => 0)
      case atStart => exact ⟨rfl, rfl⟩
      case round =>
        obtain ⟨rfl, rfl⟩ := hrel
        · go_wp2
          go_loop [5] (fun kv => kv = .int .i64 (K : Int)) (fun _ => 0)
          case atStart => rfl
          case round =>
            obtain rfl := hrel
            go_wp2_with (go_at_call 35; refine (sign_any n _).mono ?_; rintro e w' ⟨rfl, rfl⟩)
            go_ret
            exact ⟨rfl, fgrownT ((Grown.refl _).alloc _ _) (fgrownD ⟨_, rfl⟩)⟩

set_option maxHeartbeats 2000000 in
theorem bits_low_lt_some (n : Bool) (m : Nat) (e : Int) (hm0 : m ≠ 0) (hm : m < 9007199254740992) (K : Nat) (hK : (K : Int) = -1074 - e) (heL : -10000 < e) (hK1 : 1 < K) (hK2 : K < 63) (hc : m % 2 ^ K < 2 ^ (K - 1)) (hnz : m / 2 ^ K ≠ 0) (w : World) :
    Calls Try.prog 21 #[.agg #[.bool n, .int .u64 (m : Int), .int .i64 e]] w fun e' w' => e' = .returned (.int .u64 (near n m e : Int)) ∧ Grown w w' := by
  have t1 : ∀ _ : True, ((m : Int) == 0) = false := fun _ => by simp; omega
  have t2 : ∀ _ : True, decide (-1074 < e) = false := fun _ => by simp; omega
  have t3 : ∀ _ : True, decide (e < -1074) = true := fun _ => by simp; omega
  have t4 : ∀ _ : True, decide ((9007199254740992 : Int) ≤ (m : Int)) = false := fun _ => by simp; omega
  have x1 : ∀ _ : True, wrap64 (-1074 - e) = (K : Int) := fun _ => by unfold wrap64; omega
  have x1b : ∀ _ : True, IntKind.i64.wrap (-1074 - e) = (K : Int) := fun _ => by rw [IntKind.wrap_i64]; omega
  have hN := near_low_cut n m e hm0 hm (by omega) K hK
  rw [hN]
  have y1 : (1 : Int) < (K : Int) := by omega
  have y2 : (K : Int) < 63 := by omega
  obtain ⟨j, hj⟩ : ∃ j : Nat, j = K - 1 := ⟨_, rfl⟩
  rw [← hj] at hc
  have hp1 : (2 : Nat) ^ K ≤ 2 ^ 62 := Nat.pow_le_pow_right (by decide) (by omega)
  have hp0 : 0 < (2 : Nat) ^ K := Nat.pow_pos (by decide)
  have hp2 : (2 : Nat) ^ 2 ≤ 2 ^ K := Nat.pow_le_pow_right (by decide) (by omega)
  have hj1 : (2 : Nat) ^ j ≤ 2 ^ 62 := Nat.pow_le_pow_right (by decide) (by omega)
  obtain ⟨p, hp⟩ : ∃ p : Nat, p = 2 ^ K := ⟨_, rfl⟩
  obtain ⟨p', hp'⟩ : ∃ p' : Nat, p' = 2 ^ K - 1 := ⟨_, rfl⟩
  obtain ⟨hf, hhf⟩ : ∃ hf : Nat, hf = 2 ^ j := ⟨_, rfl⟩
  obtain ⟨q, hq⟩ : ∃ q : Nat, q = m / 2 ^ K := ⟨_, rfl⟩
  obtain ⟨rs, hrs⟩ : ∃ rs : Nat, rs = m % 2 ^ K := ⟨_, rfl⟩
  have hpi : ((2 : Int) ^ K) = (p : Int) := by rw [hp]; simp
  have hji : ((2 : Int) ^ j) = (hf : Int) := by rw [hhf]; simp
  have r2 : ∀ _ : True, IntKind.u64.wrap ((2 : Int) ^ K) = (p : Int) := fun _ => by rw [hpi, IntKind.wrap_u64]; omega
  have r3 : ∀ _ : True, IntKind.u64.wrap ((p : Int) - 1) = (p' : Int) := fun _ => by rw [IntKind.wrap_u64]; omega
  have r4 : ∀ _ : True, IntKind.u64.wrap ((2 : Int) ^ j) = (hf : Int) := fun _ => by rw [hji, IntKind.wrap_u64]; omega
  have r5 : ∀ _ : True, wrap64 ((K : Int) - 1) = (j : Int) := fun _ => by unfold wrap64; omega
  have r5b : ∀ _ : True, IntKind.i64.wrap ((K : Int) - 1) = (j : Int) := fun _ => by rw [IntKind.wrap_i64]; omega
  have r6 : ∀ _ : True, min K 64 = K := fun _ => by omega
  have r7 : ∀ _ : True, min j 64 = j := fun _ => by omega
  have r8 : ∀ _ : True, (m : Int) / (2 : Int) ^ K = (q : Int) := fun _ => by rw [hpi, hp, fdivC, hq]
  have r9 : ∀ _ : True, bits .and .u64 (m : Int) (p' : Int) = (rs : Int) := fun _ => by
    rw [and64N, hp', Nat.and_two_pow_sub_one_eq_mod, hrs, Nat.mod_eq_of_lt]
    exact Nat.lt_of_le_of_lt (Nat.mod_le _ _) (by omega)
  have r10 : ∀ _ : True, wrap64 (e + (K : Int)) = -1074 := fun _ => by unfold wrap64; omega
  have r10b : ∀ _ : True, IntKind.i64.wrap (e + (K : Int)) = -1074 := fun _ => by rw [IntKind.wrap_i64]; omega
  have hqm : q < 4503599627370496 := by
    rw [hq]; exact Nat.lt_of_le_of_lt (Nat.div_le_div_left hp2 (by decide)) (by omega)
  have r11 : ∀ _ : True, decide ((9007199254740992 : Int) ≤ (q : Int)) = false := fun _ => by simp; omega
  have rq : ∀ _ : True, IntKind.u64.wrap ((q : Int) + 1) = ((q + 1 : Nat) : Int) := fun _ => by rw [IntKind.wrap_u64]; omega
  have hmo : moreE m K = false := by
    unfold moreE; rw [← hj, ← hhf, ← hrs, ← hq]
    (try rw [← hhf] at hc); (try rw [← hrs] at hc); (try rw [← hq] at hc)
    simp; omega
  rw [← hq, hmo]
  rw [← hq] at hnz
  (try rw [← hhf] at hc); (try rw [← hrs] at hc); (try rw [← hq] at hc)
  have s1 : ∀ _ : True, decide (hf < rs) = false := fun _ => by simp; omega
  have s2 : ∀ _ : True, ((rs : Int) == (hf : Int)) = false := fun _ => by simp; omega
  have hif : q + (if false = true then 1 else 0) = q := rfl
  rw [hif]
  obtain ⟨v, hv⟩ : ∃ v : Nat, q = v := ⟨_, rfl⟩
  subst hv
  obtain ⟨N, hNN⟩ : ∃ N, wordD n q = N := ⟨_, rfl⟩
  rw [hNN]
  have z0 : ∀ _ : True, ((q : Int) == 0) = false := fun _ => by simp; omega
  have HV := Lib.hid (And.intro (show q ≠ 0 by omega) (And.intro (show q ≤ 4503599627370496 by omega) hNN))
  have H0 := Lib.hid hK
  clear hif hNN hnz
  clear heL hm0 hm hN hK hK1 hK2 hj hc hp1 hp0 hp2 hj1 hp hp' hhf hq hrs hpi hji hqm hmo
  go_enter Try.func21, Try.ntmps21
  go_wp2
  go_quiet (fail)
  go_wp2
  go_loop [3, 4] (fun mv ev => mv = .int .u64 (m : Int) ∧ ev = .int .i64 e) (fun _ _ => 0)
  case atStart => exact ⟨rfl, rfl⟩
  case round =>
    obtain ⟨rfl, rfl⟩ := hrel
    rcases Nat.lt_or_ge m 4503599627370496 with c | c
    · have s0 : ∀ _ : True, decide ((m : Int) < 4503599627370496) = true := fun _ => by simp; omega
      clear c
      go_wp2
      go_loop [3, 4] (fun mv ev => (mv = .int .u64 (m : Int) ∧ ev = .int .i64 e) ∨ (∃ m' : Nat, mv = .int .u64 (m' : Int) ∧ ev = .int .i64 (-1074) ∧ m' ≠ 0 ∧ m' ≤ 4503599627370496 ∧ wordD n m' = N)) (fun _ ev => (-1074 - intOf ev).toNat)
      case atStart => exact Or.inl ⟨rfl, rfl⟩
      case round =>
        rcases hrel with ⟨rfl, rfl⟩ | ⟨m', rfl, rfl, g1, g2, g3⟩
        · go_wp2
          go_loop [5] (fun kv => kv = .int .i64 (K : Int)) (fun _ => 0)
          case atStart => rfl
          case round =>
            obtain rfl := hrel
            go_wp2
            go_round
            case rel => exact Or.inr ⟨q, rfl, rfl, HV.out⟩
            case measure => have := H0.out; simp [intOf]; omega
        · skip
          have z2 : ∀ _ : True, decide ((9007199254740992 : Int) ≤ (m' : Int)) = false := fun _ => by simp; omega
          by_cases g4 : m' < 4503599627370496
          · have z1 : ∀ _ : True, decide ((m' : Int) < 4503599627370496) = true := fun _ => by simp; omega
            have z3 : ∀ _ : True, _ = _ := fun _ => or_sgn m' n (by omega)
            rw [g3] at z3
            clear g1 g2 g3 g4
            go_wp2_with (go_at_call 35; refine (sign_any n _).mono ?_; rintro e w' ⟨rfl, rfl⟩)
            go_ret
            exact ⟨rfl, fgrownT ((Grown.refl _).alloc _ _) (fgrownD ⟨_, rfl⟩)⟩
          · obtain rfl : m' = 4503599627370496 := by omega
            have z3 : ∀ _ : True, bits .or .u64 (signW n : Int) 4503599627370496 = (wordD n 4503599627370496 : Int) := fun _ => or_sgn 4503599627370496 n (by omega)
            rw [g3] at z3
            have z4 : ∀ _ : True, bits .and .u64 4503599627370496 4503599627370495 = 0 := fun _ => by decide
            have z5 : ∀ _ : True, bits .or .u64 (N : Int) 0 = (N : Int) := fun _ => by
              have hl : N < 18446744073709551616 := by rw [← g3]; exact wordD_lt _ _ (by omega)
              rw [show (0 : Int) = ((0 : Nat) : Int) from rfl, or64N, Nat.or_zero, Nat.mod_eq_of_lt hl]
            clear g1 g2 g3 g4
            go_wp2_with (go_at_call 35; refine (sign_any n _).mono ?_; rintro e w' ⟨rfl, rfl⟩)
            go_ret
            exact ⟨rfl, fgrownT ((Grown.refl _).alloc _ _) (fgrownD ⟨_, rfl⟩)⟩
    · have s0 : ∀ _ : True, decide ((m : Int) < 4503599627370496) = false := fun _ => by simp; omega
      clear c
      go_wp2
      go_loop [3, 4] (fun mv ev => (mv = .int .u64 (m : Int) ∧ ev = .int .i64 e) ∨ (∃ m' : Nat, mv = .int .u64 (m' : Int) ∧ ev = .int .i64 (-1074) ∧ m' ≠ 0 ∧ m' ≤ 4503599627370496 ∧ wordD n m' = N)) (fun _ ev => (-1074 - intOf ev).toNat)
      case atStart => exact Or.inl ⟨rfl, rfl⟩
      case round =>
        rcases hrel with ⟨rfl, rfl⟩ | ⟨m', rfl, rfl, g1, g2, g3⟩
        · go_wp2
          go_loop [5] (fun kv => kv = .int .i64 (K : Int)) (fun _ => 0)
          case atStart => rfl
          case round =>
            obtain rfl := hrel
            go_wp2
            go_round
            case rel => exact Or.inr ⟨q, rfl, rfl, HV.out⟩
            case measure => have := H0.out; simp [intOf]; omega
        · skip
          have z2 : ∀ _ : True, decide ((9007199254740992 : Int) ≤ (m' : Int)) = false := fun _ => by simp; omega
          by_cases g4 : m' < 4503599627370496
          · have z1 : ∀ _ : True, decide ((m' : Int) < 4503599627370496) = true := fun _ => by simp; omega
            have z3 : ∀ _ : True, _ = _ := fun _ => or_sgn m' n (by omega)
            rw [g3] at z3
            clear g1 g2 g3 g4
            go_wp2_with (go_at_call 35; refine (sign_any n _).mono ?_; rintro e w' ⟨rfl, rfl⟩)
            go_ret
            exact ⟨rfl, fgrownT ((Grown.refl _).alloc _ _) (fgrownD ⟨_, rfl⟩)⟩
          · obtain rfl : m' = 4503599627370496 := by omega
            have z3 : ∀ _ : True, bits .or .u64 (signW n : Int) 4503599627370496 = (wordD n 4503599627370496 : Int) := fun _ => or_sgn 4503599627370496 n (by omega)
            rw [g3] at z3
            have z4 : ∀ _ : True, bits .and .u64 4503599627370496 4503599627370495 = 0 := fun _ => by decide
            have z5 : ∀ _ : True, bits .or .u64 (N : Int) 0 = (N : Int) := fun _ => by
              have hl : N < 18446744073709551616 := by rw [← g3]; exact wordD_lt _ _ (by omega)
              rw [show (0 : Int) = ((0 : Nat) : Int) from rfl, or64N, Nat.or_zero, Nat.mod_eq_of_lt hl]
            clear g1 g2 g3 g4
            go_wp2_with (go_at_call 35; refine (sign_any n _).mono ?_; rintro e w' ⟨rfl, rfl⟩)
            go_ret
            exact ⟨rfl, fgrownT ((Grown.refl _).alloc _ _) (fgrownD ⟨_, rfl⟩)⟩

set_option maxHeartbeats 2000000 in
theorem bits_low_lt_none (n : Bool) (m : Nat) (e : Int) (hm0 : m ≠ 0) (hm : m < 9007199254740992) (K : Nat) (hK : (K : Int) = -1074 - e) (heL : -10000 < e) (hK1 : 1 < K) (hK2 : K < 63) (hc : m % 2 ^ K < 2 ^ (K - 1)) (hnz : m / 2 ^ K = 0) (w : World) :
    Calls Try.prog 21 #[.agg #[.bool n, .int .u64 (m : Int), .int .i64 e]] w fun e' w' => e' = .returned (.int .u64 (near n m e : Int)) ∧ Grown w w' := by
  have t1 : ∀ _ : True, ((m : Int) == 0) = false := fun _ => by simp; omega
  have t2 : ∀ _ : True, decide (-1074 < e) = false := fun _ => by simp; omega
  have t3 : ∀ _ : True, decide (e < -1074) = true := fun _ => by simp; omega
  have t4 : ∀ _ : True, decide ((9007199254740992 : Int) ≤ (m : Int)) = false := fun _ => by simp; omega
  have x1 : ∀ _ : True, wrap64 (-1074 - e) = (K : Int) := fun _ => by unfold wrap64; omega
  have x1b : ∀ _ : True, IntKind.i64.wrap (-1074 - e) = (K : Int) := fun _ => by rw [IntKind.wrap_i64]; omega
  have hN := near_low_cut n m e hm0 hm (by omega) K hK
  rw [hN]
  have y1 : (1 : Int) < (K : Int) := by omega
  have y2 : (K : Int) < 63 := by omega
  obtain ⟨j, hj⟩ : ∃ j : Nat, j = K - 1 := ⟨_, rfl⟩
  rw [← hj] at hc
  have hp1 : (2 : Nat) ^ K ≤ 2 ^ 62 := Nat.pow_le_pow_right (by decide) (by omega)
  have hp0 : 0 < (2 : Nat) ^ K := Nat.pow_pos (by decide)
  have hp2 : (2 : Nat) ^ 2 ≤ 2 ^ K := Nat.pow_le_pow_right (by decide) (by omega)
  have hj1 : (2 : Nat) ^ j ≤ 2 ^ 62 := Nat.pow_le_pow_right (by decide) (by omega)
  obtain ⟨p, hp⟩ : ∃ p : Nat, p = 2 ^ K := ⟨_, rfl⟩
  obtain ⟨p', hp'⟩ : ∃ p' : Nat, p' = 2 ^ K - 1 := ⟨_, rfl⟩
  obtain ⟨hf, hhf⟩ : ∃ hf : Nat, hf = 2 ^ j := ⟨_, rfl⟩
  obtain ⟨q, hq⟩ : ∃ q : Nat, q = m / 2 ^ K := ⟨_, rfl⟩
  obtain ⟨rs, hrs⟩ : ∃ rs : Nat, rs = m % 2 ^ K := ⟨_, rfl⟩
  have hpi : ((2 : Int) ^ K) = (p : Int) := by rw [hp]; simp
  have hji : ((2 : Int) ^ j) = (hf : Int) := by rw [hhf]; simp
  have r2 : ∀ _ : True, IntKind.u64.wrap ((2 : Int) ^ K) = (p : Int) := fun _ => by rw [hpi, IntKind.wrap_u64]; omega
  have r3 : ∀ _ : True, IntKind.u64.wrap ((p : Int) - 1) = (p' : Int) := fun _ => by rw [IntKind.wrap_u64]; omega
  have r4 : ∀ _ : True, IntKind.u64.wrap ((2 : Int) ^ j) = (hf : Int) := fun _ => by rw [hji, IntKind.wrap_u64]; omega
  have r5 : ∀ _ : True, wrap64 ((K : Int) - 1) = (j : Int) := fun _ => by unfold wrap64; omega
  have r5b : ∀ _ : True, IntKind.i64.wrap ((K : Int) - 1) = (j : Int) := fun _ => by rw [IntKind.wrap_i64]; omega
  have r6 : ∀ _ : True, min K 64 = K := fun _ => by omega
  have r7 : ∀ _ : True, min j 64 = j := fun _ => by omega
  have r8 : ∀ _ : True, (m : Int) / (2 : Int) ^ K = (q : Int) := fun _ => by rw [hpi, hp, fdivC, hq]
  have r9 : ∀ _ : True, bits .and .u64 (m : Int) (p' : Int) = (rs : Int) := fun _ => by
    rw [and64N, hp', Nat.and_two_pow_sub_one_eq_mod, hrs, Nat.mod_eq_of_lt]
    exact Nat.lt_of_le_of_lt (Nat.mod_le _ _) (by omega)
  have r10 : ∀ _ : True, wrap64 (e + (K : Int)) = -1074 := fun _ => by unfold wrap64; omega
  have r10b : ∀ _ : True, IntKind.i64.wrap (e + (K : Int)) = -1074 := fun _ => by rw [IntKind.wrap_i64]; omega
  have hqm : q < 4503599627370496 := by
    rw [hq]; exact Nat.lt_of_le_of_lt (Nat.div_le_div_left hp2 (by decide)) (by omega)
  have r11 : ∀ _ : True, decide ((9007199254740992 : Int) ≤ (q : Int)) = false := fun _ => by simp; omega
  have rq : ∀ _ : True, IntKind.u64.wrap ((q : Int) + 1) = ((q + 1 : Nat) : Int) := fun _ => by rw [IntKind.wrap_u64]; omega
  have hmo : moreE m K = false := by
    unfold moreE; rw [← hj, ← hhf, ← hrs, ← hq]
    (try rw [← hhf] at hc); (try rw [← hrs] at hc); (try rw [← hq] at hc)
    simp; omega
  rw [← hq, hmo]
  rw [← hq] at hnz
  (try rw [← hhf] at hc); (try rw [← hrs] at hc); (try rw [← hq] at hc)
  have s1 : ∀ _ : True, decide (hf < rs) = false := fun _ => by simp; omega
  have s2 : ∀ _ : True, ((rs : Int) == (hf : Int)) = false := fun _ => by simp; omega
  have hif : q + (if false = true then 1 else 0) = q := rfl
  rw [hif]
  obtain rfl : q = 0 := hnz
  obtain ⟨N, hNN⟩ : ∃ N, N = signW n := ⟨_, rfl⟩
  have hw : wordD n 0 = signW n := by cases n <;> rfl
  rw [hw]
  have H0 := Lib.hid hK
  clear hif hNN hw
  clear heL hm0 hm hN hK hK1 hK2 hj hc hp1 hp0 hp2 hj1 hp hp' hhf hq hrs hpi hji hqm hmo
  go_enter Try.func21, Try.ntmps21
  go_wp2
  go_quiet (fail)
  go_wp2
  go_loop [3, 4] (fun mv ev => mv = .int .u64 (m : Int) ∧ ev = .int .i64 e) (fun _ _ => 0)
  case atStart => exact ⟨rfl, rfl⟩
  case round =>
    obtain ⟨rfl, rfl⟩ := hrel
    rcases Nat.lt_or_ge m 4503599627370496 with c | c
    · have s0 : ∀ _ : True, decide ((m : Int) < 4503599627370496) = true := fun _ => by simp; omega
      clear c
      go_wp2
      go_loop [3, 4] (fun mv ev => mv = .int .u64 (m : Int) ∧ ev = .int .i64 e) (fun _ _ => 0)
      case atStart => exact ⟨rfl, rfl⟩
      case round =>
        obtain ⟨rfl, rfl⟩ := hrel
        · go_wp2
          go_loop [5] (fun kv => kv = .int .i64 (K : Int)) (fun _ => 0)
          case atStart => rfl
          case round =>
            obtain rfl := hrel
            go_wp2_with (go_at_call 35; refine (sign_any n _).mono ?_; rintro e w' ⟨rfl, rfl⟩)
            go_ret
            exact ⟨rfl, fgrownT ((Grown.refl _).alloc _ _) (fgrownD ⟨_, rfl⟩)⟩
    · have s0 : ∀ _ : True, decide ((m : Int) < 4503599627370496) = false := fun _ => by simp; omega
      clear c
      go_wp2
      go_loop [3, 4] (fun mv ev => mv = .int .u64 (m : Int) ∧ ev = .int .i64 e) (fun _ _ => 0)
      case atStart => exact ⟨rfl, rfl⟩
      case round =>
        obtain ⟨rfl, rfl⟩ := hrel
        · go_wp2
          go_loop [5] (fun kv => kv = .int .i64 (K : Int)) (fun _ => 0)
          case atStart => rfl
          case round =>
            obtain rfl := hrel
            go_wp2_with (go_at_call 35; refine (sign_any n _).mono ?_; rintro e w' ⟨rfl, rfl⟩)
            go_ret
            exact ⟨rfl, fgrownT ((Grown.refl _).alloc _ _) (fgrownD ⟨_, rfl⟩)⟩

set_option maxHeartbeats 2000000 in
theorem bits_one_odd (n : Bool) (m : Nat) (e : Int) (hm0 : m ≠ 0) (hm : m < 9007199254740992) (K : Nat) (hK : (K : Int) = -1074 - e) (heL : -10000 < e) (hK1 : K = 1) (hc : m % 2 ^ K = 1 ∧ m / 2 ^ K % 2 = 1) (w : World) :
    Calls Try.prog 21 #[.agg #[.bool n, .int .u64 (m : Int), .int .i64 e]] w fun e' w' => e' = .returned (.int .u64 (near n m e : Int)) ∧ Grown w w' := by
  have t1 : ∀ _ : True, ((m : Int) == 0) = false := fun _ => by simp; omega
  have t2 : ∀ _ : True, decide (-1074 < e) = false := fun _ => by simp; omega
  have t3 : ∀ _ : True, decide (e < -1074) = true := fun _ => by simp; omega
  have t4 : ∀ _ : True, decide ((9007199254740992 : Int) ≤ (m : Int)) = false := fun _ => by simp; omega
  have x1 : ∀ _ : True, wrap64 (-1074 - e) = (K : Int) := fun _ => by unfold wrap64; omega
  have x1b : ∀ _ : True, IntKind.i64.wrap (-1074 - e) = (K : Int) := fun _ => by rw [IntKind.wrap_i64]; omega
  have hN := near_low_cut n m e hm0 hm (by omega) K hK
  rw [hN]
  obtain rfl : e = -1075 := by omega
  obtain ⟨q, hq⟩ : ∃ q : Nat, q = m / 2 ^ K := ⟨_, rfl⟩
  obtain ⟨rs, hrs⟩ : ∃ rs : Nat, rs = m % 2 ^ K := ⟨_, rfl⟩
  have hmo : moreE m K = true := by
    unfold moreE; rw [← hrs, ← hq]
    (try rw [← hrs] at hc); (try rw [← hq] at hc)
    subst hK1
    simp; omega
  rw [← hq, hmo]
  (try rw [← hrs] at hc); (try rw [← hq] at hc)
  subst hK1
  rw [Nat.pow_one] at hq hrs
  have r8 : ∀ _ : True, (m : Int) / 2 = (q : Int) := fun _ => by omega
  have r9 : ∀ _ : True, bits .and .u64 (m : Int) 1 = (rs : Int) := fun _ => by
    rw [show (1 : Int) = ((1 : Nat) : Int) from rfl, and64N, Nat.and_one_is_mod, hrs]; congr 1; omega
  have r11 : ∀ _ : True, decide ((9007199254740992 : Int) ≤ (q : Int)) = false := fun _ => by simp; omega
  have rq : ∀ _ : True, IntKind.u64.wrap ((q : Int) + 1) = ((q + 1 : Nat) : Int) := fun _ => by rw [IntKind.wrap_u64]; omega
  have s1 : ∀ _ : True, decide ((1 : Int) < (rs : Int)) = false := fun _ => by simp; omega
  have s2 : ∀ _ : True, ((rs : Int) == 1) = true := fun _ => by simp; omega
  have s3 : ∀ _ : True, (bits .and .u64 (q : Int) 1 == 1) = true := fun _ => by rw [show (1 : Int) = ((1 : Nat) : Int) from rfl, and64N, Nat.and_one_is_mod, Bool.eq_iff_iff]; simp; omega
  obtain ⟨v, hv⟩ : ∃ v : Nat, v = q + 1 := ⟨_, rfl⟩
  have hif : q + (if true = true then 1 else 0) = v := by rw [hv]; rfl
  rw [hif]
  rw [← hv] at rq
  obtain ⟨N, hNN⟩ : ∃ N, wordD n v = N := ⟨_, rfl⟩
  rw [hNN]
  have z0 : ∀ _ : True, ((v : Int) == 0) = false := fun _ => by simp; omega
  have HV := Lib.hid (And.intro (show v ≠ 0 by omega) (And.intro (show v ≤ 4503599627370496 by omega) hNN))
  clear hv hif hNN
  clear heL hm0 hm hN hK hc hq hrs hmo t2 t3 x1 x1b
  go_enter Try.func21, Try.ntmps21
  go_wp2
  go_quiet (fail)
  go_wp2
  go_loop [3, 4] (fun mv ev => mv = .int .u64 (m : Int) ∧ ev = .int .i64 (-1075)) (fun _ _ => 0)
  case atStart => exact ⟨rfl, rfl⟩
  case round =>
    obtain ⟨rfl, rfl⟩ := hrel
    rcases Nat.lt_or_ge m 4503599627370496 with c | c
    · have s0 : ∀ _ : True, decide ((m : Int) < 4503599627370496) = true := fun _ => by simp; omega
      clear c
      go_wp2
      go_loop [3, 4] (fun mv ev => (mv = .int .u64 (m : Int) ∧ ev = .int .i64 (-1075)) ∨ (∃ m' : Nat, mv = .int .u64 (m' : Int) ∧ ev = .int .i64 (-1074) ∧ m' ≠ 0 ∧ m' ≤ 4503599627370496 ∧ wordD n m' = N)) (fun _ ev => (-1074 - intOf ev).toNat)
      case atStart => exact Or.inl ⟨rfl, rfl⟩
      case round =>
        rcases hrel with ⟨rfl, rfl⟩ | ⟨m', rfl, rfl, g1, g2, g3⟩
        · go_wp2
          go_loop [5] (fun kv => kv = .int .i64 1) (fun _ => 0)
          case atStart => rfl
          case round =>
            obtain rfl := hrel
            go_wp2
            go_round
            case rel => exact Or.inr ⟨v, rfl, rfl, HV.out⟩
            case measure => simp [intOf]
        · skip
          have z2 : ∀ _ : True, decide ((9007199254740992 : Int) ≤ (m' : Int)) = false := fun _ => by simp; omega
          by_cases g4 : m' < 4503599627370496
          · have z1 : ∀ _ : True, decide ((m' : Int) < 4503599627370496) = true := fun _ => by simp; omega
            have z3 : ∀ _ : True, _ = _ := fun _ => or_sgn m' n (by omega)
            rw [g3] at z3
            clear g1 g2 g3 g4
            go_wp2_with (go_at_call 35; refine (sign_any n _).mono ?_; rintro e w' ⟨rfl, rfl⟩)
            go_ret
            exact ⟨rfl, fgrownT ((Grown.refl _).alloc _ _) (fgrownD ⟨_, rfl⟩)⟩
          · obtain rfl : m' = 4503599627370496 := by omega
            have z3 : ∀ _ : True, bits .or .u64 (signW n : Int) 4503599627370496 = (wordD n 4503599627370496 : Int) := fun _ => or_sgn 4503599627370496 n (by omega)
            rw [g3] at z3
            have z4 : ∀ _ : True, bits .and .u64 4503599627370496 4503599627370495 = 0 := fun _ => by decide
            have z5 : ∀ _ : True, bits .or .u64 (N : Int) 0 = (N : Int) := fun _ => by
              have hl : N < 18446744073709551616 := by rw [← g3]; exact wordD_lt _ _ (by omega)
              rw [show (0 : Int) = ((0 : Nat) : Int) from rfl, or64N, Nat.or_zero, Nat.mod_eq_of_lt hl]
            clear g1 g2 g3 g4
            go_wp2_with (go_at_call 35; refine (sign_any n _).mono ?_; rintro e w' ⟨rfl, rfl⟩)
            go_ret
            exact ⟨rfl, fgrownT ((Grown.refl _).alloc _ _) (fgrownD ⟨_, rfl⟩)⟩
    · have s0 : ∀ _ : True, decide ((m : Int) < 4503599627370496) = false := fun _ => by simp; omega
      clear c
      go_wp2
      go_loop [3, 4] (fun mv ev => (mv = .int .u64 (m : Int) ∧ ev = .int .i64 (-1075)) ∨ (∃ m' : Nat, mv = .int .u64 (m' : Int) ∧ ev = .int .i64 (-1074) ∧ m' ≠ 0 ∧ m' ≤ 4503599627370496 ∧ wordD n m' = N)) (fun _ ev => (-1074 - intOf ev).toNat)
      case atStart => exact Or.inl ⟨rfl, rfl⟩
      case round =>
        rcases hrel with ⟨rfl, rfl⟩ | ⟨m', rfl, rfl, g1, g2, g3⟩
        · go_wp2
          go_loop [5] (fun kv => kv = .int .i64 1) (fun _ => 0)
          case atStart => rfl
          case round =>
            obtain rfl := hrel
            go_wp2
            go_round
            case rel => exact Or.inr ⟨v, rfl, rfl, HV.out⟩
            case measure => simp [intOf]
        · skip
          have z2 : ∀ _ : True, decide ((9007199254740992 : Int) ≤ (m' : Int)) = false := fun _ => by simp; omega
          by_cases g4 : m' < 4503599627370496
          · have z1 : ∀ _ : True, decide ((m' : Int) < 4503599627370496) = true := fun _ => by simp; omega
            have z3 : ∀ _ : True, _ = _ := fun _ => or_sgn m' n (by omega)
            rw [g3] at z3
            clear g1 g2 g3 g4
            go_wp2_with (go_at_call 35; refine (sign_any n _).mono ?_; rintro e w' ⟨rfl, rfl⟩)
            go_ret
            exact ⟨rfl, fgrownT ((Grown.refl _).alloc _ _) (fgrownD ⟨_, rfl⟩)⟩
          · obtain rfl : m' = 4503599627370496 := by omega
            have z3 : ∀ _ : True, bits .or .u64 (signW n : Int) 4503599627370496 = (wordD n 4503599627370496 : Int) := fun _ => or_sgn 4503599627370496 n (by omega)
            rw [g3] at z3
            have z4 : ∀ _ : True, bits .and .u64 4503599627370496 4503599627370495 = 0 := fun _ => by decide
            have z5 : ∀ _ : True, bits .or .u64 (N : Int) 0 = (N : Int) := fun _ => by
              have hl : N < 18446744073709551616 := by rw [← g3]; exact wordD_lt _ _ (by omega)
              rw [show (0 : Int) = ((0 : Nat) : Int) from rfl, or64N, Nat.or_zero, Nat.mod_eq_of_lt hl]
            clear g1 g2 g3 g4
            go_wp2_with (go_at_call 35; refine (sign_any n _).mono ?_; rintro e w' ⟨rfl, rfl⟩)
            go_ret
            exact ⟨rfl, fgrownT ((Grown.refl _).alloc _ _) (fgrownD ⟨_, rfl⟩)⟩

set_option maxHeartbeats 2000000 in
theorem bits_one_even_some (n : Bool) (m : Nat) (e : Int) (hm0 : m ≠ 0) (hm : m < 9007199254740992) (K : Nat) (hK : (K : Int) = -1074 - e) (heL : -10000 < e) (hK1 : K = 1) (hc : m % 2 ^ K = 1 ∧ m / 2 ^ K % 2 = 0) (hnz : m / 2 ^ K ≠ 0) (w : World) :
    Calls Try.prog 21 #[.agg #[.bool n, .int .u64 (m : Int), .int .i64 e]] w fun e' w' => e' = .returned (.int .u64 (near n m e : Int)) ∧ Grown w w' := by
  have t1 : ∀ _ : True, ((m : Int) == 0) = false := fun _ => by simp; omega
  have t2 : ∀ _ : True, decide (-1074 < e) = false := fun _ => by simp; omega
  have t3 : ∀ _ : True, decide (e < -1074) = true := fun _ => by simp; omega
  have t4 : ∀ _ : True, decide ((9007199254740992 : Int) ≤ (m : Int)) = false := fun _ => by simp; omega
  have x1 : ∀ _ : True, wrap64 (-1074 - e) = (K : Int) := fun _ => by unfold wrap64; omega
  have x1b : ∀ _ : True, IntKind.i64.wrap (-1074 - e) = (K : Int) := fun _ => by rw [IntKind.wrap_i64]; omega
  have hN := near_low_cut n m e hm0 hm (by omega) K hK
  rw [hN]
  obtain rfl : e = -1075 := by omega
  obtain ⟨q, hq⟩ : ∃ q : Nat, q = m / 2 ^ K := ⟨_, rfl⟩
  obtain ⟨rs, hrs⟩ : ∃ rs : Nat, rs = m % 2 ^ K := ⟨_, rfl⟩
  have hmo : moreE m K = false := by
    unfold moreE; rw [← hrs, ← hq]
    (try rw [← hrs] at hc); (try rw [← hq] at hc)
    subst hK1
    simp; omega
  rw [← hq, hmo]
  (try rw [← hrs] at hc); (try rw [← hq] at hc)
  rw [← hq] at hnz
  subst hK1
  rw [Nat.pow_one] at hq hrs
  have r8 : ∀ _ : True, (m : Int) / 2 = (q : Int) := fun _ => by omega
  have r9 : ∀ _ : True, bits .and .u64 (m : Int) 1 = (rs : Int) := fun _ => by
    rw [show (1 : Int) = ((1 : Nat) : Int) from rfl, and64N, Nat.and_one_is_mod, hrs]; congr 1; omega
  have r11 : ∀ _ : True, decide ((9007199254740992 : Int) ≤ (q : Int)) = false := fun _ => by simp; omega
  have rq : ∀ _ : True, IntKind.u64.wrap ((q : Int) + 1) = ((q + 1 : Nat) : Int) := fun _ => by rw [IntKind.wrap_u64]; omega
  have s1 : ∀ _ : True, decide ((1 : Int) < (rs : Int)) = false := fun _ => by simp; omega
  have s2 : ∀ _ : True, ((rs : Int) == 1) = true := fun _ => by simp; omega
  have s3 : ∀ _ : True, (bits .and .u64 (q : Int) 1 == 1) = false := fun _ => by rw [show (1 : Int) = ((1 : Nat) : Int) from rfl, and64N, Nat.and_one_is_mod, Bool.eq_iff_iff]; simp; omega
  have hif : q + (if false = true then 1 else 0) = q := rfl
  rw [hif]
  obtain ⟨N, hNN⟩ : ∃ N, wordD n q = N := ⟨_, rfl⟩
  rw [hNN]
  have z0 : ∀ _ : True, ((q : Int) == 0) = false := fun _ => by simp; omega
  have HV := Lib.hid (And.intro (show q ≠ 0 by omega) (And.intro (show q ≤ 4503599627370496 by omega) hNN))
  clear hif hNN hnz
  clear heL hm0 hm hN hK hc hq hrs hmo t2 t3 x1 x1b
  go_enter Try.func21, Try.ntmps21
  go_wp2
  go_quiet (fail)
  go_wp2
  go_loop [3, 4] (fun mv ev => mv = .int .u64 (m : Int) ∧ ev = .int .i64 (-1075)) (fun _ _ => 0)
  case atStart => exact ⟨rfl, rfl⟩
  case round =>
    obtain ⟨rfl, rfl⟩ := hrel
    rcases Nat.lt_or_ge m 4503599627370496 with c | c
    · have s0 : ∀ _ : True, decide ((m : Int) < 4503599627370496) = true := fun _ => by simp; omega
      clear c
      go_wp2
      go_loop [3, 4] (fun mv ev => (mv = .int .u64 (m : Int) ∧ ev = .int .i64 (-1075)) ∨ (∃ m' : Nat, mv = .int .u64 (m' : Int) ∧ ev = .int .i64 (-1074) ∧ m' ≠ 0 ∧ m' ≤ 4503599627370496 ∧ wordD n m' = N)) (fun _ ev => (-1074 - intOf ev).toNat)
      case atStart => exact Or.inl ⟨rfl, rfl⟩
      case round =>
        rcases hrel with ⟨rfl, rfl⟩ | ⟨m', rfl, rfl, g1, g2, g3⟩
        · go_wp2
          go_loop [5] (fun kv => kv = .int .i64 1) (fun _ => 0)
          case atStart => rfl
          case round =>
            obtain rfl := hrel
            go_wp2
            go_round
            case rel => exact Or.inr ⟨q, rfl, rfl, HV.out⟩
            case measure => simp [intOf]
        · skip
          have z2 : ∀ _ : True, decide ((9007199254740992 : Int) ≤ (m' : Int)) = false := fun _ => by simp; omega
          by_cases g4 : m' < 4503599627370496
          · have z1 : ∀ _ : True, decide ((m' : Int) < 4503599627370496) = true := fun _ => by simp; omega
            have z3 : ∀ _ : True, _ = _ := fun _ => or_sgn m' n (by omega)
            rw [g3] at z3
            clear g1 g2 g3 g4
            go_wp2_with (go_at_call 35; refine (sign_any n _).mono ?_; rintro e w' ⟨rfl, rfl⟩)
            go_ret
            exact ⟨rfl, fgrownT ((Grown.refl _).alloc _ _) (fgrownD ⟨_, rfl⟩)⟩
          · obtain rfl : m' = 4503599627370496 := by omega
            have z3 : ∀ _ : True, bits .or .u64 (signW n : Int) 4503599627370496 = (wordD n 4503599627370496 : Int) := fun _ => or_sgn 4503599627370496 n (by omega)
            rw [g3] at z3
            have z4 : ∀ _ : True, bits .and .u64 4503599627370496 4503599627370495 = 0 := fun _ => by decide
            have z5 : ∀ _ : True, bits .or .u64 (N : Int) 0 = (N : Int) := fun _ => by
              have hl : N < 18446744073709551616 := by rw [← g3]; exact wordD_lt _ _ (by omega)
              rw [show (0 : Int) = ((0 : Nat) : Int) from rfl, or64N, Nat.or_zero, Nat.mod_eq_of_lt hl]
            clear g1 g2 g3 g4
            go_wp2_with (go_at_call 35; refine (sign_any n _).mono ?_; rintro e w' ⟨rfl, rfl⟩)
            go_ret
            exact ⟨rfl, fgrownT ((Grown.refl _).alloc _ _) (fgrownD ⟨_, rfl⟩)⟩
    · have s0 : ∀ _ : True, decide ((m : Int) < 4503599627370496) = false := fun _ => by simp; omega
      clear c
      go_wp2
      go_loop [3, 4] (fun mv ev => (mv = .int .u64 (m : Int) ∧ ev = .int .i64 (-1075)) ∨ (∃ m' : Nat, mv = .int .u64 (m' : Int) ∧ ev = .int .i64 (-1074) ∧ m' ≠ 0 ∧ m' ≤ 4503599627370496 ∧ wordD n m' = N)) (fun _ ev => (-1074 - intOf ev).toNat)
      case atStart => exact Or.inl ⟨rfl, rfl⟩
      case round =>
        rcases hrel with ⟨rfl, rfl⟩ | ⟨m', rfl, rfl, g1, g2, g3⟩
        · go_wp2
          go_loop [5] (fun kv => kv = .int .i64 1) (fun _ => 0)
          case atStart => rfl
          case round =>
            obtain rfl := hrel
            go_wp2
            go_round
            case rel => exact Or.inr ⟨q, rfl, rfl, HV.out⟩
            case measure => simp [intOf]
        · skip
          have z2 : ∀ _ : True, decide ((9007199254740992 : Int) ≤ (m' : Int)) = false := fun _ => by simp; omega
          by_cases g4 : m' < 4503599627370496
          · have z1 : ∀ _ : True, decide ((m' : Int) < 4503599627370496) = true := fun _ => by simp; omega
            have z3 : ∀ _ : True, _ = _ := fun _ => or_sgn m' n (by omega)
            rw [g3] at z3
            clear g1 g2 g3 g4
            go_wp2_with (go_at_call 35; refine (sign_any n _).mono ?_; rintro e w' ⟨rfl, rfl⟩)
            go_ret
            exact ⟨rfl, fgrownT ((Grown.refl _).alloc _ _) (fgrownD ⟨_, rfl⟩)⟩
          · obtain rfl : m' = 4503599627370496 := by omega
            have z3 : ∀ _ : True, bits .or .u64 (signW n : Int) 4503599627370496 = (wordD n 4503599627370496 : Int) := fun _ => or_sgn 4503599627370496 n (by omega)
            rw [g3] at z3
            have z4 : ∀ _ : True, bits .and .u64 4503599627370496 4503599627370495 = 0 := fun _ => by decide
            have z5 : ∀ _ : True, bits .or .u64 (N : Int) 0 = (N : Int) := fun _ => by
              have hl : N < 18446744073709551616 := by rw [← g3]; exact wordD_lt _ _ (by omega)
              rw [show (0 : Int) = ((0 : Nat) : Int) from rfl, or64N, Nat.or_zero, Nat.mod_eq_of_lt hl]
            clear g1 g2 g3 g4
            go_wp2_with (go_at_call 35; refine (sign_any n _).mono ?_; rintro e w' ⟨rfl, rfl⟩)
            go_ret
            exact ⟨rfl, fgrownT ((Grown.refl _).alloc _ _) (fgrownD ⟨_, rfl⟩)⟩

set_option maxHeartbeats 2000000 in
theorem bits_one_even_none (n : Bool) (m : Nat) (e : Int) (hm0 : m ≠ 0) (hm : m < 9007199254740992) (K : Nat) (hK : (K : Int) = -1074 - e) (heL : -10000 < e) (hK1 : K = 1) (hc : m % 2 ^ K = 1 ∧ m / 2 ^ K % 2 = 0) (hnz : m / 2 ^ K = 0) (w : World) :
    Calls Try.prog 21 #[.agg #[.bool n, .int .u64 (m : Int), .int .i64 e]] w fun e' w' => e' = .returned (.int .u64 (near n m e : Int)) ∧ Grown w w' := by
  have t1 : ∀ _ : True, ((m : Int) == 0) = false := fun _ => by simp; omega
  have t2 : ∀ _ : True, decide (-1074 < e) = false := fun _ => by simp; omega
  have t3 : ∀ _ : True, decide (e < -1074) = true := fun _ => by simp; omega
  have t4 : ∀ _ : True, decide ((9007199254740992 : Int) ≤ (m : Int)) = false := fun _ => by simp; omega
  have x1 : ∀ _ : True, wrap64 (-1074 - e) = (K : Int) := fun _ => by unfold wrap64; omega
  have x1b : ∀ _ : True, IntKind.i64.wrap (-1074 - e) = (K : Int) := fun _ => by rw [IntKind.wrap_i64]; omega
  have hN := near_low_cut n m e hm0 hm (by omega) K hK
  rw [hN]
  obtain rfl : e = -1075 := by omega
  obtain ⟨q, hq⟩ : ∃ q : Nat, q = m / 2 ^ K := ⟨_, rfl⟩
  obtain ⟨rs, hrs⟩ : ∃ rs : Nat, rs = m % 2 ^ K := ⟨_, rfl⟩
  have hmo : moreE m K = false := by
    unfold moreE; rw [← hrs, ← hq]
    (try rw [← hrs] at hc); (try rw [← hq] at hc)
    subst hK1
    simp; omega
  rw [← hq, hmo]
  (try rw [← hrs] at hc); (try rw [← hq] at hc)
  rw [← hq] at hnz
  subst hK1
  rw [Nat.pow_one] at hq hrs
  have r8 : ∀ _ : True, (m : Int) / 2 = (q : Int) := fun _ => by omega
  have r9 : ∀ _ : True, bits .and .u64 (m : Int) 1 = (rs : Int) := fun _ => by
    rw [show (1 : Int) = ((1 : Nat) : Int) from rfl, and64N, Nat.and_one_is_mod, hrs]; congr 1; omega
  have r11 : ∀ _ : True, decide ((9007199254740992 : Int) ≤ (q : Int)) = false := fun _ => by simp; omega
  have rq : ∀ _ : True, IntKind.u64.wrap ((q : Int) + 1) = ((q + 1 : Nat) : Int) := fun _ => by rw [IntKind.wrap_u64]; omega
  have s1 : ∀ _ : True, decide ((1 : Int) < (rs : Int)) = false := fun _ => by simp; omega
  have s2 : ∀ _ : True, ((rs : Int) == 1) = true := fun _ => by simp; omega
  have s3 : ∀ _ : True, (bits .and .u64 (q : Int) 1 == 1) = false := fun _ => by rw [show (1 : Int) = ((1 : Nat) : Int) from rfl, and64N, Nat.and_one_is_mod, Bool.eq_iff_iff]; simp; omega
  have hif : q + (if false = true then 1 else 0) = q := rfl
  rw [hif]
  obtain rfl : q = 0 := hnz
  have hw : wordD n 0 = signW n := by cases n <;> rfl
  rw [hw]
  clear hif hw
  clear heL hm0 hm hN hK hc hq hrs hmo t2 t3 x1 x1b
  go_enter Try.func21, Try.ntmps21
  go_wp2
  go_quiet (fail)
  go_wp2
  go_loop [3, 4] (fun mv ev => mv = .int .u64 (m : Int) ∧ ev = .int .i64 (-1075)) (fun _ _ => 0)
  case atStart => exact ⟨rfl, rfl⟩
  case round =>
    obtain ⟨rfl, rfl⟩ := hrel
    rcases Nat.lt_or_ge m 4503599627370496 with c | c
    · have s0 : ∀ _ : True, decide ((m : Int) < 4503599627370496) = true := fun _ => by simp; omega
      clear c
      go_wp2
      go_loop [3, 4] (fun mv ev => mv = .int .u64 (m : Int) ∧ ev = .int .i64 (-1075)) (fun _ _ => 0)
      case atStart => exact ⟨rfl, rfl⟩
      case round =>
        obtain ⟨rfl, rfl⟩ := hrel
        · go_wp2
          go_loop [5] (fun kv => kv = .int .i64 1) (fun _ => 0)
          case atStart => rfl
          case round =>
            obtain rfl := hrel
            go_wp2_with (go_at_call 35; refine (sign_any n _).mono ?_; rintro e w' ⟨rfl, rfl⟩)
            go_ret
            exact ⟨rfl, fgrownT ((Grown.refl _).alloc _ _) (fgrownD ⟨_, rfl⟩)⟩
    · have s0 : ∀ _ : True, decide ((m : Int) < 4503599627370496) = false := fun _ => by simp; omega
      clear c
      go_wp2
      go_loop [3, 4] (fun mv ev => mv = .int .u64 (m : Int) ∧ ev = .int .i64 (-1075)) (fun _ _ => 0)
      case atStart => exact ⟨rfl, rfl⟩
      case round =>
        obtain ⟨rfl, rfl⟩ := hrel
        · go_wp2
          go_loop [5] (fun kv => kv = .int .i64 1) (fun _ => 0)
          case atStart => rfl
          case round =>
            obtain rfl := hrel
            go_wp2_with (go_at_call 35; refine (sign_any n _).mono ?_; rintro e w' ⟨rfl, rfl⟩)
            go_ret
            exact ⟨rfl, fgrownT ((Grown.refl _).alloc _ _) (fgrownD ⟨_, rfl⟩)⟩

set_option maxHeartbeats 2000000 in
theorem bits_one_lt_some (n : Bool) (m : Nat) (e : Int) (hm0 : m ≠ 0) (hm : m < 9007199254740992) (K : Nat) (hK : (K : Int) = -1074 - e) (heL : -10000 < e) (hK1 : K = 1) (hc : m % 2 ^ K = 0) (hnz : m / 2 ^ K ≠ 0) (w : World) :
    Calls Try.prog 21 #[.agg #[.bool n, .int .u64 (m : Int), .int .i64 e]] w fun e' w' => e' = .returned (.int .u64 (near n m e : Int)) ∧ Grown w w' := by
  have t1 : ∀ _ : True, ((m : Int) == 0) = false := fun _ => by simp; omega
  have t2 : ∀ _ : True, decide (-1074 < e) = false := fun _ => by simp; omega
  have t3 : ∀ _ : True, decide (e < -1074) = true := fun _ => by simp; omega
  have t4 : ∀ _ : True, decide ((9007199254740992 : Int) ≤ (m : Int)) = false := fun _ => by simp; omega
  have x1 : ∀ _ : True, wrap64 (-1074 - e) = (K : Int) := fun _ => by unfold wrap64; omega
  have x1b : ∀ _ : True, IntKind.i64.wrap (-1074 - e) = (K : Int) := fun _ => by rw [IntKind.wrap_i64]; omega
  have hN := near_low_cut n m e hm0 hm (by omega) K hK
  rw [hN]
  obtain rfl : e = -1075 := by omega
  obtain ⟨q, hq⟩ : ∃ q : Nat, q = m / 2 ^ K := ⟨_, rfl⟩
  obtain ⟨rs, hrs⟩ : ∃ rs : Nat, rs = m % 2 ^ K := ⟨_, rfl⟩
  have hmo : moreE m K = false := by
    unfold moreE; rw [← hrs, ← hq]
    (try rw [← hrs] at hc); (try rw [← hq] at hc)
    subst hK1
    simp; omega
  rw [← hq, hmo]
  (try rw [← hrs] at hc); (try rw [← hq] at hc)
  rw [← hq] at hnz
  subst hK1
  rw [Nat.pow_one] at hq hrs
  have r8 : ∀ _ : True, (m : Int) / 2 = (q : Int) := fun _ => by omega
  have r9 : ∀ _ : True, bits .and .u64 (m : Int) 1 = (rs : Int) := fun _ => by
    rw [show (1 : Int) = ((1 : Nat) : Int) from rfl, and64N, Nat.and_one_is_mod, hrs]; congr 1; omega
  have r11 : ∀ _ : True, decide ((9007199254740992 : Int) ≤ (q : Int)) = false := fun _ => by simp; omega
  have rq : ∀ _ : True, IntKind.u64.wrap ((q : Int) + 1) = ((q + 1 : Nat) : Int) := fun _ => by rw [IntKind.wrap_u64]; omega
  have s1 : ∀ _ : True, decide ((1 : Int) < (rs : Int)) = false := fun _ => by simp; omega
  have s2 : ∀ _ : True, ((rs : Int) == 1) = false := fun _ => by simp; omega
  have hif : q + (if false = true then 1 else 0) = q := rfl
  rw [hif]
  obtain ⟨N, hNN⟩ : ∃ N, wordD n q = N := ⟨_, rfl⟩
  rw [hNN]
  have z0 : ∀ _ : True, ((q : Int) == 0) = false := fun _ => by simp; omega
  have HV := Lib.hid (And.intro (show q ≠ 0 by omega) (And.intro (show q ≤ 4503599627370496 by omega) hNN))
  clear hif hNN hnz
  clear heL hm0 hm hN hK hc hq hrs hmo t2 t3 x1 x1b
  go_enter Try.func21, Try.ntmps21
  go_wp2
  go_quiet (fail)
  go_wp2
  go_loop [3, 4] (fun mv ev => mv = .int .u64 (m : Int) ∧ ev = .int .i64 (-1075)) (fun _ _ => 0)
  case atStart => exact ⟨rfl, rfl⟩
  case round =>
    obtain ⟨rfl, rfl⟩ := hrel
    rcases Nat.lt_or_ge m 4503599627370496 with c | c
    · have s0 : ∀ _ : True, decide ((m : Int) < 4503599627370496) = true := fun _ => by simp; omega
      clear c
      go_wp2
      go_loop [3, 4] (fun mv ev => (mv = .int .u64 (m : Int) ∧ ev = .int .i64 (-1075)) ∨ (∃ m' : Nat, mv = .int .u64 (m' : Int) ∧ ev = .int .i64 (-1074) ∧ m' ≠ 0 ∧ m' ≤ 4503599627370496 ∧ wordD n m' = N)) (fun _ ev => (-1074 - intOf ev).toNat)
      case atStart => exact Or.inl ⟨rfl, rfl⟩
      case round =>
        rcases hrel with ⟨rfl, rfl⟩ | ⟨m', rfl, rfl, g1, g2, g3⟩
        · go_wp2
          go_loop [5] (fun kv => kv = .int .i64 1) (fun _ => 0)
          case atStart => rfl
          case round =>
            obtain rfl := hrel
            go_wp2
            go_round
            case rel => exact Or.inr ⟨q, rfl, rfl, HV.out⟩
            case measure => simp [intOf]
        · skip
          have z2 : ∀ _ : True, decide ((9007199254740992 : Int) ≤ (m' : Int)) = false := fun _ => by simp; omega
          by_cases g4 : m' < 4503599627370496
          · have z1 : ∀ _ : True, decide ((m' : Int) < 4503599627370496) = true := fun _ => by simp; omega
            have z3 : ∀ _ : True, _ = _ := fun _ => or_sgn m' n (by omega)
            rw [g3] at z3
            clear g1 g2 g3 g4
            go_wp2_with (go_at_call 35; refine (sign_any n _).mono ?_; rintro e w' ⟨rfl, rfl⟩)
            go_ret
            exact ⟨rfl, fgrownT ((Grown.refl _).alloc _ _) (fgrownD ⟨_, rfl⟩)⟩
          · obtain rfl : m' = 4503599627370496 := by omega
            have z3 : ∀ _ : True, bits .or .u64 (signW n : Int) 4503599627370496 = (wordD n 4503599627370496 : Int) := fun _ => or_sgn 4503599627370496 n (by omega)
            rw [g3] at z3
            have z4 : ∀ _ : True, bits .and .u64 4503599627370496 4503599627370495 = 0 := fun _ => by decide
            have z5 : ∀ _ : True, bits .or .u64 (N : Int) 0 = (N : Int) := fun _ => by
              have hl : N < 18446744073709551616 := by rw [← g3]; exact wordD_lt _ _ (by omega)
              rw [show (0 : Int) = ((0 : Nat) : Int) from rfl, or64N, Nat.or_zero, Nat.mod_eq_of_lt hl]
            clear g1 g2 g3 g4
            go_wp2_with (go_at_call 35; refine (sign_any n _).mono ?_; rintro e w' ⟨rfl, rfl⟩)
            go_ret
            exact ⟨rfl, fgrownT ((Grown.refl _).alloc _ _) (fgrownD ⟨_, rfl⟩)⟩
    · have s0 : ∀ _ : True, decide ((m : Int) < 4503599627370496) = false := fun _ => by simp; omega
      clear c
      go_wp2
      go_loop [3, 4] (fun mv ev => (mv = .int .u64 (m : Int) ∧ ev = .int .i64 (-1075)) ∨ (∃ m' : Nat, mv = .int .u64 (m' : Int) ∧ ev = .int .i64 (-1074) ∧ m' ≠ 0 ∧ m' ≤ 4503599627370496 ∧ wordD n m' = N)) (fun _ ev => (-1074 - intOf ev).toNat)
      case atStart => exact Or.inl ⟨rfl, rfl⟩
      case round =>
        rcases hrel with ⟨rfl, rfl⟩ | ⟨m', rfl, rfl, g1, g2, g3⟩
        · go_wp2
          go_loop [5] (fun kv => kv = .int .i64 1) (fun _ => 0)
          case atStart => rfl
          case round =>
            obtain rfl := hrel
            go_wp2
            go_round
            case rel => exact Or.inr ⟨q, rfl, rfl, HV.out⟩
            case measure => simp [intOf]
        · skip
          have z2 : ∀ _ : True, decide ((9007199254740992 : Int) ≤ (m' : Int)) = false := fun _ => by simp; omega
          by_cases g4 : m' < 4503599627370496
          · have z1 : ∀ _ : True, decide ((m' : Int) < 4503599627370496) = true := fun _ => by simp; omega
            have z3 : ∀ _ : True, _ = _ := fun _ => or_sgn m' n (by omega)
            rw [g3] at z3
            clear g1 g2 g3 g4
            go_wp2_with (go_at_call 35; refine (sign_any n _).mono ?_; rintro e w' ⟨rfl, rfl⟩)
            go_ret
            exact ⟨rfl, fgrownT ((Grown.refl _).alloc _ _) (fgrownD ⟨_, rfl⟩)⟩
          · obtain rfl : m' = 4503599627370496 := by omega
            have z3 : ∀ _ : True, bits .or .u64 (signW n : Int) 4503599627370496 = (wordD n 4503599627370496 : Int) := fun _ => or_sgn 4503599627370496 n (by omega)
            rw [g3] at z3
            have z4 : ∀ _ : True, bits .and .u64 4503599627370496 4503599627370495 = 0 := fun _ => by decide
            have z5 : ∀ _ : True, bits .or .u64 (N : Int) 0 = (N : Int) := fun _ => by
              have hl : N < 18446744073709551616 := by rw [← g3]; exact wordD_lt _ _ (by omega)
              rw [show (0 : Int) = ((0 : Nat) : Int) from rfl, or64N, Nat.or_zero, Nat.mod_eq_of_lt hl]
            clear g1 g2 g3 g4
            go_wp2_with (go_at_call 35; refine (sign_any n _).mono ?_; rintro e w' ⟨rfl, rfl⟩)
            go_ret
            exact ⟨rfl, fgrownT ((Grown.refl _).alloc _ _) (fgrownD ⟨_, rfl⟩)⟩

set_option maxHeartbeats 2000000 in
theorem bits_low_far (n : Bool) (m : Nat) (e : Int) (hm0 : m ≠ 0) (hm : m < 9007199254740992) (K : Nat) (hK : (K : Int) = -1074 - e) (heL : -10000 < e) (hK1 : 63 ≤ K) (w : World) :
    Calls Try.prog 21 #[.agg #[.bool n, .int .u64 (m : Int), .int .i64 e]] w fun e' w' => e' = .returned (.int .u64 (near n m e : Int)) ∧ Grown w w' := by
  have t1 : ∀ _ : True, ((m : Int) == 0) = false := fun _ => by simp; omega
  have t2 : ∀ _ : True, decide (-1074 < e) = false := fun _ => by simp; omega
  have t3 : ∀ _ : True, decide (e < -1074) = true := fun _ => by simp; omega
  have t4 : ∀ _ : True, decide ((9007199254740992 : Int) ≤ (m : Int)) = false := fun _ => by simp; omega
  have x1 : ∀ _ : True, wrap64 (-1074 - e) = (K : Int) := fun _ => by unfold wrap64; omega
  have x1b : ∀ _ : True, IntKind.i64.wrap (-1074 - e) = (K : Int) := fun _ => by rw [IntKind.wrap_i64]; omega
  have hN := near_low_cut n m e hm0 hm (by omega) K hK
  rw [hN]
  rw [← hN, near_gone n m e hm (by omega)]
  have y2 : (63 : Int) ≤ (K : Int) := by omega
  have hw : wordD n 0 = signW n := by cases n <;> rfl
  rw [hw]
  have r8 : ∀ _ : True, (m : Int) / 9223372036854775808 = 0 := fun _ => by omega
  have r9 : ∀ _ : True, bits .and .u64 (m : Int) 9223372036854775807 = (m : Int) := fun _ => by rw [low63]; unfold rung; omega
  have s1 : ∀ _ : True, decide ((4611686018427387904 : Int) < (m : Int)) = false := fun _ => by simp; omega
  have s2 : ∀ _ : True, ((m : Int) == 4611686018427387904) = false := fun _ => by simp; omega
  clear heL hm0 hm hN hK hK1 hw
  go_enter Try.func21, Try.ntmps21
  go_wp2
  go_quiet (fail)
  go_wp2
  go_loop [3, 4] (fun mv ev => mv = .int .u64 (m : Int) ∧ ev = .int .i64 e) (fun _ _ => 0)
  case atStart => exact ⟨rfl, rfl⟩
  case round =>
    obtain ⟨rfl, rfl⟩ := hrel
    rcases Nat.lt_or_ge m 4503599627370496 with c | c
    · have s0 : ∀ _ : True, decide ((m : Int) < 4503599627370496) = true := fun _ => by simp; omega
      clear c
      go_wp2
      go_loop [3, 4] (fun mv ev => mv = .int .u64 (m : Int) ∧ ev = .int .i64 e) (fun _ _ => 0)
      case atStart => exact ⟨rfl, rfl⟩
      case round =>
        obtain ⟨rfl, rfl⟩ := hrel
        · go_wp2
          go_loop [5] (fun kv => kv = .int .i64 63) (fun _ => 0)
          case atStart => rfl
          case round =>
            obtain rfl := hrel
            go_wp2_with (go_at_call 35; refine (sign_any n _).mono ?_; rintro e w' ⟨rfl, rfl⟩)
            go_ret
            exact ⟨rfl, fgrownT ((Grown.refl _).alloc _ _) (fgrownD ⟨_, rfl⟩)⟩
    · have s0 : ∀ _ : True, decide ((m : Int) < 4503599627370496) = false := fun _ => by simp; omega
      clear c
      go_wp2
      go_loop [3, 4] (fun mv ev => mv = .int .u64 (m : Int) ∧ ev = .int .i64 e) (fun _ _ => 0)
      case atStart => exact ⟨rfl, rfl⟩
      case round =>
        obtain ⟨rfl, rfl⟩ := hrel
        · go_wp2
          go_loop [5] (fun kv => kv = .int .i64 63) (fun _ => 0)
          case atStart => rfl
          case round =>
            obtain rfl := hrel
            go_wp2_with (go_at_call 35; refine (sign_any n _).mono ?_; rintro e w' ⟨rfl, rfl⟩)
            go_ret
            exact ⟨rfl, fgrownT ((Grown.refl _).alloc _ _) (fgrownD ⟨_, rfl⟩)⟩

/-- the contract for every power above -10000 -/
theorem bits_every (n : Bool) (m : Nat) (e : Int) (hm : m < 9007199254740992) (he : -10000 < e) (he2 : e < 10000) (w : World) :
    Calls Try.prog 21 #[.agg #[.bool n, .int .u64 (m : Int), .int .i64 e]] w fun e' w' => e' = .returned (.int .u64 (near n m e : Int)) ∧ Grown w w' := by
  by_cases h0 : m = 0
  · subst h0; rw [near_zero]; exact bits_zero n e w
  by_cases h : -1074 ≤ e
  · exact bits_near n m e hm h he2 w
  obtain ⟨K, hK⟩ : ∃ K : Nat, (K : Int) = -1074 - e := ⟨(-1074 - e).toNat, by omega⟩
  rcases (by omega : K = 1 ∨ (1 < K ∧ K < 63) ∨ 63 ≤ K) with g | ⟨g1, g2⟩ | g
  · have hp : (2 : Nat) ^ K = 2 := by rw [g]
    have hr : m % 2 ^ K = 0 ∨ m % 2 ^ K = 1 := by rw [hp]; omega
    rcases hr with hr | hr
    · exact bits_one_lt_some n m e h0 hm K hK he g hr (by rw [hp] at *; omega) w
    · rcases Nat.mod_two_eq_zero_or_one (m / 2 ^ K) with hq | hq
      · by_cases hz : m / 2 ^ K = 0
        · exact bits_one_even_none n m e h0 hm K hK he g ⟨hr, hq⟩ hz w
        · exact bits_one_even_some n m e h0 hm K hK he g ⟨hr, hq⟩ hz w
      · exact bits_one_odd n m e h0 hm K hK he g ⟨hr, hq⟩ w
  · rcases Nat.lt_trichotomy (m % 2 ^ K) (2 ^ (K - 1)) with hr | hr | hr
    · by_cases hz : m / 2 ^ K = 0
      · exact bits_low_lt_none n m e h0 hm K hK he g1 g2 hr hz w
      · exact bits_low_lt_some n m e h0 hm K hK he g1 g2 hr hz w
    · rcases Nat.mod_two_eq_zero_or_one (m / 2 ^ K) with hq | hq
      · by_cases hz : m / 2 ^ K = 0
        · exact bits_low_even_none n m e h0 hm K hK he g1 g2 ⟨hr, hq⟩ hz w
        · exact bits_low_even_some n m e h0 hm K hK he g1 g2 ⟨hr, hq⟩ hz w
      · exact bits_low_odd n m e h0 hm K hK he g1 g2 ⟨hr, hq⟩ w
    · exact bits_low_gt n m e h0 hm K hK he g1 g2 hr w
  · exact bits_low_far n m e h0 hm K hK he g w

end Go.Proofs.Ytbpggopjiogimaa
