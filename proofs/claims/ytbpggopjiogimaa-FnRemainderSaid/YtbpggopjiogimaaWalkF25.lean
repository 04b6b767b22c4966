/- The contract of the reference's Remainder. -/
import Derived.Test.YtbpggopjiogimaaWalkF20
import Derived.Test.YtbpggopjiogimaaWalkF24
import Derived.Test.YtbpggopjiogimaaFRem3
set_option linter.unusedVariables false
namespace Go.Proofs.Ytbpggopjiogimaa
open Go.RowKit Go.Proofs.Ytbpggopjiogimaa.Plain

set_option maxHeartbeats 4000000 in
theorem srm_lt (x y : Nat) (hx : x < 18446744073709551616) (hy : y < 18446744073709551616) (h0 : rung y ≠ 0) (hc : 2 * remM x y < remY x y) (w : World) :
    Calls Try.prog 17 #[.int .u64 (x : Int), .int .u64 (y : Int)] w fun e w' => e = .returned (.int .u64 (remW x y : Int)) ∧ Grown w w' := by
  have hm0 : mantW y ≠ 0 := fun g => h0 ((mantW_zero y).1 g)
  have cx := fun w => of_any x hx w
  have cy := fun w => of_any y hy w
  have cr := fun w => rem_any (negB x) (negB y) x y hm0 w
  have hrl := remM_lt x y hm0
  have hre := remE_lo x y
  have hye := expW_lo y
  have hym := mantW_lt y
  have hle : remE x y ≤ expW y := by unfold remE; omega
  obtain ⟨D, hD⟩ : ∃ D : Nat, D = (expW y - remE x y).toNat := ⟨_, rfl⟩
  have hYe : remY x y = mantW y * 2 ^ D := by rw [hD]; rfl
  have hDi : (D : Int) = expW y - remE x y := by omega
  obtain ⟨tv, htv, ct⟩ : ∃ tv : Int, tv = -1 ∧ ∀ w, Calls Try.prog 32 #[.agg #[.bool false, .int .u64 (remM x y : Int), .int .i64 (remE x y)], .agg #[.bool (negB y), .int .u64 (mantW y : Int), .int .i64 (expW y)]] w fun e w' => e = .returned (.int .i64 tv) ∧ Grown w w' := by
    refine ⟨_, rfl, fun w => ?_⟩
    by_cases c : 60 < D
    · exact tw_far _ _ _ _ _ _ hrl hym hm0 hre hye D hDi c w
    · by_cases c2 : 18446744073709551616 ≤ mantW y * 2 ^ D
      · exact tw_over _ _ _ _ _ _ hrl hym hm0 hre hye D hDi (by omega) c2 w
      · exact tw_lt _ _ _ _ _ _ hrl hym hm0 hre hye D hDi (by omega) (by omega) (by omega) w
  rw [rem_spec_dn x y hm0 (Or.inl hc)]
  have cb := fun w => bits_near (negB x) (remM x y) (remE x y) hrl (by omega) (by omega) w
  generalize near (negB x) (remM x y) (remE x y) = N at *
  clear hYe hc h0
  generalize remM x y = rm at *
  generalize remE x y = re at *
  generalize remO x y = ro at *
  generalize mantW x = xm at *
  generalize expW x = xe at *
  generalize negB x = xn at *
  generalize mantW y = ym at *
  generalize expW y = ye at *
  generalize negB y = yn at *
  subst htv
  clear hm0 hrl hre hye hym hle hD hDi
  go_enter Try.func17, Try.ntmps17
  go_wp2_with fail
  refine (cx _).mono ?_
  rintro e w1 ⟨rfl, hg1⟩
  go_wp2_with fail
  refine (cy _).mono ?_
  rintro e w2 ⟨rfl, hg2⟩
  go_wp2_with fail
  refine (cr _).mono ?_
  rintro e w3 ⟨rfl, hg3⟩
  have hcl3 := grown_cells hg3
  have hz3 : w2.heap.size + 1 < w3.heap.size := Nat.lt_of_lt_of_le (by simp) hg3.2.2
  have x0 : w3.cell? ⟨w2.heap.size, 0, none⟩ = some (.bool xn) := by
    rw [hcl3 _ 0 (by simp; try omega)]; go_keep
  have x1 : w3.cell? ⟨w2.heap.size, 1, none⟩ = some (.int .u64 (xm : Int)) := by
    rw [hcl3 _ 1 (by simp; try omega)]; go_keep
  have x2 : w3.cell? ⟨w2.heap.size, 2, none⟩ = some (.int .i64 xe) := by
    rw [hcl3 _ 2 (by simp; try omega)]; go_keep
  have y0 : w3.cell? ⟨w2.heap.size + 1, 0, none⟩ = some (.bool yn) := by
    rw [hcl3 _ 0 (by simp)]; go_keep
  have y1 : w3.cell? ⟨w2.heap.size + 1, 1, none⟩ = some (.int .u64 (ym : Int)) := by
    rw [hcl3 _ 1 (by simp)]; go_keep
  have y2 : w3.cell? ⟨w2.heap.size + 1, 2, none⟩ = some (.int .i64 ye) := by
    rw [hcl3 _ 2 (by simp)]; go_keep
  clear hcl3
  go_wp2_with fail
  refine (ct _).mono ?_
  rintro e w4 ⟨rfl, hg4⟩
  have hcl4 := grown_cells hg4
  have hz4 : w3.heap.size < w4.heap.size := Nat.lt_of_lt_of_le (by simp) hg4.2.2
  have x0b : w4.cell? ⟨w2.heap.size, 0, none⟩ = some (.bool xn) := by
    rw [hcl4 _ 0 (by simp; omega)]; go_keep
  have x1b : w4.cell? ⟨w2.heap.size, 1, none⟩ = some (.int .u64 (xm : Int)) := by
    rw [hcl4 _ 1 (by simp; omega)]; go_keep
  have x2b : w4.cell? ⟨w2.heap.size, 2, none⟩ = some (.int .i64 xe) := by
    rw [hcl4 _ 2 (by simp; omega)]; go_keep
  have y0b : w4.cell? ⟨w2.heap.size + 1, 0, none⟩ = some (.bool yn) := by
    rw [hcl4 _ 0 (by simp; omega)]; go_keep
  have y1b : w4.cell? ⟨w2.heap.size + 1, 1, none⟩ = some (.int .u64 (ym : Int)) := by
    rw [hcl4 _ 1 (by simp; omega)]; go_keep
  have y2b : w4.cell? ⟨w2.heap.size + 1, 2, none⟩ = some (.int .i64 ye) := by
    rw [hcl4 _ 2 (by simp; omega)]; go_keep
  have r0b : w4.cell? ⟨w3.heap.size, 0, none⟩ = some (.bool false) := by
    rw [hcl4 _ 0 (by simp)]; go_keep
  have r1b : w4.cell? ⟨w3.heap.size, 1, none⟩ = some (.int .u64 (rm : Int)) := by
    rw [hcl4 _ 1 (by simp)]; go_keep
  have r2b : w4.cell? ⟨w3.heap.size, 2, none⟩ = some (.int .i64 re) := by
    rw [hcl4 _ 2 (by simp)]; go_keep
  clear hcl4 x0 x1 x2 y0 y1 y2
  have gw4 : Grown w w4 := fgrownT ((fgrownT (((fgrownT hg1 hg2).alloc _ _).alloc _ _) hg3).alloc _ _) hg4
  go_wp2_with fail
  refine (cb _).mono ?_
  rintro e w5 ⟨rfl, hg5⟩
  go_wp2
  go_ret
  exact ⟨rfl, fgrownT gw4 hg5⟩

set_option maxHeartbeats 4000000 in
theorem srm_eqf (x y : Nat) (hx : x < 18446744073709551616) (hy : y < 18446744073709551616) (h0 : rung y ≠ 0) (hc : remY x y = 2 * remM x y) (ho : remO x y = false) (w : World) :
    Calls Try.prog 17 #[.int .u64 (x : Int), .int .u64 (y : Int)] w fun e w' => e = .returned (.int .u64 (remW x y : Int)) ∧ Grown w w' := by
  have hm0 : mantW y ≠ 0 := fun g => h0 ((mantW_zero y).1 g)
  have cx := fun w => of_any x hx w
  have cy := fun w => of_any y hy w
  have cr := fun w => rem_any (negB x) (negB y) x y hm0 w
  have hrl := remM_lt x y hm0
  have hre := remE_lo x y
  have hye := expW_lo y
  have hym := mantW_lt y
  have hle : remE x y ≤ expW y := by unfold remE; omega
  obtain ⟨D, hD⟩ : ∃ D : Nat, D = (expW y - remE x y).toNat := ⟨_, rfl⟩
  have hYe : remY x y = mantW y * 2 ^ D := by rw [hD]; rfl
  have hDi : (D : Int) = expW y - remE x y := by omega
  obtain ⟨tv, htv, ct⟩ : ∃ tv : Int, tv = 0 ∧ ∀ w, Calls Try.prog 32 #[.agg #[.bool false, .int .u64 (remM x y : Int), .int .i64 (remE x y)], .agg #[.bool (negB y), .int .u64 (mantW y : Int), .int .i64 (expW y)]] w fun e w' => e = .returned (.int .i64 tv) ∧ Grown w w' := by
    refine ⟨_, rfl, fun w => ?_⟩
    have hD60 : D ≤ 60 := by
      rcases Nat.lt_or_ge 60 D with c | c
      · exfalso
        have h1 : (2 : Nat) ^ 61 ≤ 2 ^ D := Nat.pow_le_pow_right (by decide) c
        have h2 : 2 ^ D ≤ mantW y * 2 ^ D := Nat.le_mul_of_pos_left _ (by omega)
        omega
      · exact c
    exact tw_eq _ _ _ _ _ _ hrl hym hm0 hre hye D hDi hD60 (by omega) (by omega) w
  rw [rem_spec_dn x y hm0 (Or.inr ⟨hc, ho⟩)]
  have cb := fun w => bits_near (negB x) (remM x y) (remE x y) hrl (by omega) (by omega) w
  generalize near (negB x) (remM x y) (remE x y) = N at *
  clear hYe hc h0
  generalize remM x y = rm at *
  generalize remE x y = re at *
  generalize remO x y = ro at *
  generalize mantW x = xm at *
  generalize expW x = xe at *
  generalize negB x = xn at *
  generalize mantW y = ym at *
  generalize expW y = ye at *
  generalize negB y = yn at *
  subst htv
  subst ho
  clear hm0 hrl hre hye hym hle hD hDi
  go_enter Try.func17, Try.ntmps17
  go_wp2_with fail
  refine (cx _).mono ?_
  rintro e w1 ⟨rfl, hg1⟩
  go_wp2_with fail
  refine (cy _).mono ?_
  rintro e w2 ⟨rfl, hg2⟩
  go_wp2_with fail
  refine (cr _).mono ?_
  rintro e w3 ⟨rfl, hg3⟩
  have hcl3 := grown_cells hg3
  have hz3 : w2.heap.size + 1 < w3.heap.size := Nat.lt_of_lt_of_le (by simp) hg3.2.2
  have x0 : w3.cell? ⟨w2.heap.size, 0, none⟩ = some (.bool xn) := by
    rw [hcl3 _ 0 (by simp; try omega)]; go_keep
  have x1 : w3.cell? ⟨w2.heap.size, 1, none⟩ = some (.int .u64 (xm : Int)) := by
    rw [hcl3 _ 1 (by simp; try omega)]; go_keep
  have x2 : w3.cell? ⟨w2.heap.size, 2, none⟩ = some (.int .i64 xe) := by
    rw [hcl3 _ 2 (by simp; try omega)]; go_keep
  have y0 : w3.cell? ⟨w2.heap.size + 1, 0, none⟩ = some (.bool yn) := by
    rw [hcl3 _ 0 (by simp)]; go_keep
  have y1 : w3.cell? ⟨w2.heap.size + 1, 1, none⟩ = some (.int .u64 (ym : Int)) := by
    rw [hcl3 _ 1 (by simp)]; go_keep
  have y2 : w3.cell? ⟨w2.heap.size + 1, 2, none⟩ = some (.int .i64 ye) := by
    rw [hcl3 _ 2 (by simp)]; go_keep
  clear hcl3
  go_wp2_with fail
  refine (ct _).mono ?_
  rintro e w4 ⟨rfl, hg4⟩
  have hcl4 := grown_cells hg4
  have hz4 : w3.heap.size < w4.heap.size := Nat.lt_of_lt_of_le (by simp) hg4.2.2
  have x0b : w4.cell? ⟨w2.heap.size, 0, none⟩ = some (.bool xn) := by
    rw [hcl4 _ 0 (by simp; omega)]; go_keep
  have x1b : w4.cell? ⟨w2.heap.size, 1, none⟩ = some (.int .u64 (xm : Int)) := by
    rw [hcl4 _ 1 (by simp; omega)]; go_keep
  have x2b : w4.cell? ⟨w2.heap.size, 2, none⟩ = some (.int .i64 xe) := by
    rw [hcl4 _ 2 (by simp; omega)]; go_keep
  have y0b : w4.cell? ⟨w2.heap.size + 1, 0, none⟩ = some (.bool yn) := by
    rw [hcl4 _ 0 (by simp; omega)]; go_keep
  have y1b : w4.cell? ⟨w2.heap.size + 1, 1, none⟩ = some (.int .u64 (ym : Int)) := by
    rw [hcl4 _ 1 (by simp; omega)]; go_keep
  have y2b : w4.cell? ⟨w2.heap.size + 1, 2, none⟩ = some (.int .i64 ye) := by
    rw [hcl4 _ 2 (by simp; omega)]; go_keep
  have r0b : w4.cell? ⟨w3.heap.size, 0, none⟩ = some (.bool false) := by
    rw [hcl4 _ 0 (by simp)]; go_keep
  have r1b : w4.cell? ⟨w3.heap.size, 1, none⟩ = some (.int .u64 (rm : Int)) := by
    rw [hcl4 _ 1 (by simp)]; go_keep
  have r2b : w4.cell? ⟨w3.heap.size, 2, none⟩ = some (.int .i64 re) := by
    rw [hcl4 _ 2 (by simp)]; go_keep
  clear hcl4 x0 x1 x2 y0 y1 y2
  have gw4 : Grown w w4 := fgrownT ((fgrownT (((fgrownT hg1 hg2).alloc _ _).alloc _ _) hg3).alloc _ _) hg4
  go_wp2_with fail
  refine (cb _).mono ?_
  rintro e w5 ⟨rfl, hg5⟩
  go_wp2
  go_ret
  exact ⟨rfl, fgrownT gw4 hg5⟩

set_option maxHeartbeats 4000000 in
theorem srm_gt (x y : Nat) (hx : x < 18446744073709551616) (hy : y < 18446744073709551616) (h0 : rung y ≠ 0) (hc : remY x y < 2 * remM x y) (w : World) :
    Calls Try.prog 17 #[.int .u64 (x : Int), .int .u64 (y : Int)] w fun e w' => e = .returned (.int .u64 (remW x y : Int)) ∧ Grown w w' := by
  have hm0 : mantW y ≠ 0 := fun g => h0 ((mantW_zero y).1 g)
  have cx := fun w => of_any x hx w
  have cy := fun w => of_any y hy w
  have cr := fun w => rem_any (negB x) (negB y) x y hm0 w
  have hrl := remM_lt x y hm0
  have hre := remE_lo x y
  have hye := expW_lo y
  have hym := mantW_lt y
  have hle : remE x y ≤ expW y := by unfold remE; omega
  obtain ⟨D, hD⟩ : ∃ D : Nat, D = (expW y - remE x y).toNat := ⟨_, rfl⟩
  have hYe : remY x y = mantW y * 2 ^ D := by rw [hD]; rfl
  have hDi : (D : Int) = expW y - remE x y := by omega
  obtain ⟨tv, htv, ct⟩ : ∃ tv : Int, tv = 1 ∧ ∀ w, Calls Try.prog 32 #[.agg #[.bool false, .int .u64 (remM x y : Int), .int .i64 (remE x y)], .agg #[.bool (negB y), .int .u64 (mantW y : Int), .int .i64 (expW y)]] w fun e w' => e = .returned (.int .i64 tv) ∧ Grown w w' := by
    refine ⟨_, rfl, fun w => ?_⟩
    have hD60 : D ≤ 60 := by
      rcases Nat.lt_or_ge 60 D with c | c
      · exfalso
        have h1 : (2 : Nat) ^ 61 ≤ 2 ^ D := Nat.pow_le_pow_right (by decide) c
        have h2 : 2 ^ D ≤ mantW y * 2 ^ D := Nat.le_mul_of_pos_left _ (by omega)
        omega
      · exact c
    exact tw_gt _ _ _ _ _ _ hrl hym hm0 hre hye D hDi hD60 (by omega) (by omega) w
  rw [rem_spec_up x y hm0 (Or.inl hc)]
  have hRY : remM x y < remY x y := by obtain ⟨P, _, _, _, _, _, e5⟩ := rem_parts x y hm0; exact e5
  have hml : remY x y - remM x y < 9007199254740992 := by omega
  have cb := fun w => bits_near (!negB x) (remY x y - remM x y) (remE x y) hml (by omega) (by omega) w
  generalize near (!negB x) (remY x y - remM x y) (remE x y) = N at *
  obtain ⟨m, hm⟩ : ∃ m : Nat, m = remY x y - remM x y := ⟨_, rfl⟩
  rw [← hm] at cb
  obtain ⟨xn2, hxn2⟩ : ∃ b : Bool, b = !negB x := ⟨_, rfl⟩
  rw [← hxn2] at cb
  have sn : ∀ _ : True, (!negB x) = xn2 := fun _ => hxn2.symm
  obtain ⟨p, hp⟩ : ∃ p : Nat, p = remY x y := ⟨_, rfl⟩
  have hD60 : D ≤ 60 := by
    rcases Nat.lt_or_ge 60 D with c | c
    · exfalso
      have h1 : (2 : Nat) ^ 61 ≤ 2 ^ D := Nat.pow_le_pow_right (by decide) c
      have h2 : 2 ^ D ≤ mantW y * 2 ^ D := Nat.le_mul_of_pos_left _ (by omega)
      omega
    · exact c
  have hpi : (mantW y : Int) * (2 : Int) ^ D = (p : Int) := by rw [hp, hYe]; simp
  have r1 : ∀ _ : True, IntKind.u64.wrap ((mantW y : Int) * (2 : Int) ^ D) = (p : Int) := fun _ => by rw [hpi, IntKind.wrap_u64]; omega
  have r2 : ∀ _ : True, IntKind.u64.wrap ((p : Int) - (remM x y : Int)) = (m : Int) := fun _ => by rw [IntKind.wrap_u64]; omega
  have r6 : ∀ _ : True, min D 64 = D := fun _ => by omega
  have r8 : ∀ _ : True, IntKind.u64.wrap (remM x y : Int) = (remM x y : Int) := fun _ => by rw [IntKind.wrap_u64]; omega
  have q0 : ∀ _ : True, wrap64 (remE x y - remE x y) = 0 := fun _ => by unfold wrap64; omega
  have q0b : ∀ _ : True, IntKind.i64.wrap (remE x y - remE x y) = 0 := fun _ => by rw [IntKind.wrap_i64]; omega
  have q7 : ∀ _ : True, wrap64 (expW y - remE x y) = (D : Int) := fun _ => by unfold wrap64; omega
  have q8 : ∀ _ : True, IntKind.i64.wrap (expW y - remE x y) = (D : Int) := fun _ => by rw [IntKind.wrap_i64]; omega
  clear hYe hc h0 hml hm hp hpi hD60 hxn2 hRY
  generalize remM x y = rm at *
  generalize remE x y = re at *
  generalize remO x y = ro at *
  generalize mantW x = xm at *
  generalize expW x = xe at *
  generalize negB x = xn at *
  generalize mantW y = ym at *
  generalize expW y = ye at *
  generalize negB y = yn at *
  subst htv
  clear hm0 hrl hre hye hym hD hDi
  go_enter Try.func17, Try.ntmps17
  go_wp2_with fail
  refine (cx _).mono ?_
  rintro e w1 ⟨rfl, hg1⟩
  go_wp2_with fail
  refine (cy _).mono ?_
  rintro e w2 ⟨rfl, hg2⟩
  go_wp2_with fail
  refine (cr _).mono ?_
  rintro e w3 ⟨rfl, hg3⟩
  have hcl3 := grown_cells hg3
  have hz3 : w2.heap.size + 1 < w3.heap.size := Nat.lt_of_lt_of_le (by simp) hg3.2.2
  have x0 : w3.cell? ⟨w2.heap.size, 0, none⟩ = some (.bool xn) := by
    rw [hcl3 _ 0 (by simp; try omega)]; go_keep
  have x1 : w3.cell? ⟨w2.heap.size, 1, none⟩ = some (.int .u64 (xm : Int)) := by
    rw [hcl3 _ 1 (by simp; try omega)]; go_keep
  have x2 : w3.cell? ⟨w2.heap.size, 2, none⟩ = some (.int .i64 xe) := by
    rw [hcl3 _ 2 (by simp; try omega)]; go_keep
  have y0 : w3.cell? ⟨w2.heap.size + 1, 0, none⟩ = some (.bool yn) := by
    rw [hcl3 _ 0 (by simp)]; go_keep
  have y1 : w3.cell? ⟨w2.heap.size + 1, 1, none⟩ = some (.int .u64 (ym : Int)) := by
    rw [hcl3 _ 1 (by simp)]; go_keep
  have y2 : w3.cell? ⟨w2.heap.size + 1, 2, none⟩ = some (.int .i64 ye) := by
    rw [hcl3 _ 2 (by simp)]; go_keep
  clear hcl3
  go_wp2_with fail
  refine (ct _).mono ?_
  rintro e w4 ⟨rfl, hg4⟩
  have hcl4 := grown_cells hg4
  have hz4 : w3.heap.size < w4.heap.size := Nat.lt_of_lt_of_le (by simp) hg4.2.2
  have x0b : w4.cell? ⟨w2.heap.size, 0, none⟩ = some (.bool xn) := by
    rw [hcl4 _ 0 (by simp; omega)]; go_keep
  have x1b : w4.cell? ⟨w2.heap.size, 1, none⟩ = some (.int .u64 (xm : Int)) := by
    rw [hcl4 _ 1 (by simp; omega)]; go_keep
  have x2b : w4.cell? ⟨w2.heap.size, 2, none⟩ = some (.int .i64 xe) := by
    rw [hcl4 _ 2 (by simp; omega)]; go_keep
  have y0b : w4.cell? ⟨w2.heap.size + 1, 0, none⟩ = some (.bool yn) := by
    rw [hcl4 _ 0 (by simp; omega)]; go_keep
  have y1b : w4.cell? ⟨w2.heap.size + 1, 1, none⟩ = some (.int .u64 (ym : Int)) := by
    rw [hcl4 _ 1 (by simp; omega)]; go_keep
  have y2b : w4.cell? ⟨w2.heap.size + 1, 2, none⟩ = some (.int .i64 ye) := by
    rw [hcl4 _ 2 (by simp; omega)]; go_keep
  have r0b : w4.cell? ⟨w3.heap.size, 0, none⟩ = some (.bool false) := by
    rw [hcl4 _ 0 (by simp)]; go_keep
  have r1b : w4.cell? ⟨w3.heap.size, 1, none⟩ = some (.int .u64 (rm : Int)) := by
    rw [hcl4 _ 1 (by simp)]; go_keep
  have r2b : w4.cell? ⟨w3.heap.size, 2, none⟩ = some (.int .i64 re) := by
    rw [hcl4 _ 2 (by simp)]; go_keep
  clear hcl4 x0 x1 x2 y0 y1 y2
  have gw4 : Grown w w4 := fgrownT ((fgrownT (((fgrownT hg1 hg2).alloc _ _).alloc _ _) hg3).alloc _ _) hg4
  go_wp2_with fail
  go_quiet (fail)
  go_wp2_with fail
  refine (cb _).mono ?_
  rintro e w5 ⟨rfl, hg5⟩
  go_wp2
  go_ret
  exact ⟨rfl, fgrownT (fgrownT gw4 (fgrownD ⟨_, rfl⟩)) hg5⟩

set_option maxHeartbeats 4000000 in
theorem srm_eqt (x y : Nat) (hx : x < 18446744073709551616) (hy : y < 18446744073709551616) (h0 : rung y ≠ 0) (hc : remY x y = 2 * remM x y) (ho : remO x y = true) (w : World) :
    Calls Try.prog 17 #[.int .u64 (x : Int), .int .u64 (y : Int)] w fun e w' => e = .returned (.int .u64 (remW x y : Int)) ∧ Grown w w' := by
  have hm0 : mantW y ≠ 0 := fun g => h0 ((mantW_zero y).1 g)
  have cx := fun w => of_any x hx w
  have cy := fun w => of_any y hy w
  have cr := fun w => rem_any (negB x) (negB y) x y hm0 w
  have hrl := remM_lt x y hm0
  have hre := remE_lo x y
  have hye := expW_lo y
  have hym := mantW_lt y
  have hle : remE x y ≤ expW y := by unfold remE; omega
  obtain ⟨D, hD⟩ : ∃ D : Nat, D = (expW y - remE x y).toNat := ⟨_, rfl⟩
  have hYe : remY x y = mantW y * 2 ^ D := by rw [hD]; rfl
  have hDi : (D : Int) = expW y - remE x y := by omega
  obtain ⟨tv, htv, ct⟩ : ∃ tv : Int, tv = 0 ∧ ∀ w, Calls Try.prog 32 #[.agg #[.bool false, .int .u64 (remM x y : Int), .int .i64 (remE x y)], .agg #[.bool (negB y), .int .u64 (mantW y : Int), .int .i64 (expW y)]] w fun e w' => e = .returned (.int .i64 tv) ∧ Grown w w' := by
    refine ⟨_, rfl, fun w => ?_⟩
    have hD60 : D ≤ 60 := by
      rcases Nat.lt_or_ge 60 D with c | c
      · exfalso
        have h1 : (2 : Nat) ^ 61 ≤ 2 ^ D := Nat.pow_le_pow_right (by decide) c
        have h2 : 2 ^ D ≤ mantW y * 2 ^ D := Nat.le_mul_of_pos_left _ (by omega)
        omega
      · exact c
    exact tw_eq _ _ _ _ _ _ hrl hym hm0 hre hye D hDi hD60 (by omega) (by omega) w
  rw [rem_spec_up x y hm0 (Or.inr ⟨hc, ho⟩)]
  have hRY : remM x y < remY x y := by obtain ⟨P, _, _, _, _, _, e5⟩ := rem_parts x y hm0; exact e5
  have hml : remY x y - remM x y < 9007199254740992 := by omega
  have cb := fun w => bits_near (!negB x) (remY x y - remM x y) (remE x y) hml (by omega) (by omega) w
  generalize near (!negB x) (remY x y - remM x y) (remE x y) = N at *
  obtain ⟨m, hm⟩ : ∃ m : Nat, m = remY x y - remM x y := ⟨_, rfl⟩
  rw [← hm] at cb
  obtain ⟨xn2, hxn2⟩ : ∃ b : Bool, b = !negB x := ⟨_, rfl⟩
  rw [← hxn2] at cb
  have sn : ∀ _ : True, (!negB x) = xn2 := fun _ => hxn2.symm
  obtain ⟨p, hp⟩ : ∃ p : Nat, p = remY x y := ⟨_, rfl⟩
  have hD60 : D ≤ 60 := by
    rcases Nat.lt_or_ge 60 D with c | c
    · exfalso
      have h1 : (2 : Nat) ^ 61 ≤ 2 ^ D := Nat.pow_le_pow_right (by decide) c
      have h2 : 2 ^ D ≤ mantW y * 2 ^ D := Nat.le_mul_of_pos_left _ (by omega)
      omega
    · exact c
  have hpi : (mantW y : Int) * (2 : Int) ^ D = (p : Int) := by rw [hp, hYe]; simp
  have r1 : ∀ _ : True, IntKind.u64.wrap ((mantW y : Int) * (2 : Int) ^ D) = (p : Int) := fun _ => by rw [hpi, IntKind.wrap_u64]; omega
  have r2 : ∀ _ : True, IntKind.u64.wrap ((p : Int) - (remM x y : Int)) = (m : Int) := fun _ => by rw [IntKind.wrap_u64]; omega
  have r6 : ∀ _ : True, min D 64 = D := fun _ => by omega
  have r8 : ∀ _ : True, IntKind.u64.wrap (remM x y : Int) = (remM x y : Int) := fun _ => by rw [IntKind.wrap_u64]; omega
  have q0 : ∀ _ : True, wrap64 (remE x y - remE x y) = 0 := fun _ => by unfold wrap64; omega
  have q0b : ∀ _ : True, IntKind.i64.wrap (remE x y - remE x y) = 0 := fun _ => by rw [IntKind.wrap_i64]; omega
  have q7 : ∀ _ : True, wrap64 (expW y - remE x y) = (D : Int) := fun _ => by unfold wrap64; omega
  have q8 : ∀ _ : True, IntKind.i64.wrap (expW y - remE x y) = (D : Int) := fun _ => by rw [IntKind.wrap_i64]; omega
  clear hYe hc h0 hml hm hp hpi hD60 hxn2 hRY
  generalize remM x y = rm at *
  generalize remE x y = re at *
  generalize remO x y = ro at *
  generalize mantW x = xm at *
  generalize expW x = xe at *
  generalize negB x = xn at *
  generalize mantW y = ym at *
  generalize expW y = ye at *
  generalize negB y = yn at *
  subst htv
  subst ho
  clear hm0 hrl hre hye hym hD hDi
  go_enter Try.func17, Try.ntmps17
  go_wp2_with fail
  refine (cx _).mono ?_
  rintro e w1 ⟨rfl, hg1⟩
  go_wp2_with fail
  refine (cy _).mono ?_
  rintro e w2 ⟨rfl, hg2⟩
  go_wp2_with fail
  refine (cr _).mono ?_
  rintro e w3 ⟨rfl, hg3⟩
  have hcl3 := grown_cells hg3
  have hz3 : w2.heap.size + 1 < w3.heap.size := Nat.lt_of_lt_of_le (by simp) hg3.2.2
  have x0 : w3.cell? ⟨w2.heap.size, 0, none⟩ = some (.bool xn) := by
    rw [hcl3 _ 0 (by simp; try omega)]; go_keep
  have x1 : w3.cell? ⟨w2.heap.size, 1, none⟩ = some (.int .u64 (xm : Int)) := by
    rw [hcl3 _ 1 (by simp; try omega)]; go_keep
  have x2 : w3.cell? ⟨w2.heap.size, 2, none⟩ = some (.int .i64 xe) := by
    rw [hcl3 _ 2 (by simp; try omega)]; go_keep
  have y0 : w3.cell? ⟨w2.heap.size + 1, 0, none⟩ = some (.bool yn) := by
    rw [hcl3 _ 0 (by simp)]; go_keep
  have y1 : w3.cell? ⟨w2.heap.size + 1, 1, none⟩ = some (.int .u64 (ym : Int)) := by
    rw [hcl3 _ 1 (by simp)]; go_keep
  have y2 : w3.cell? ⟨w2.heap.size + 1, 2, none⟩ = some (.int .i64 ye) := by
    rw [hcl3 _ 2 (by simp)]; go_keep
  clear hcl3
  go_wp2_with fail
  refine (ct _).mono ?_
  rintro e w4 ⟨rfl, hg4⟩
  have hcl4 := grown_cells hg4
  have hz4 : w3.heap.size < w4.heap.size := Nat.lt_of_lt_of_le (by simp) hg4.2.2
  have x0b : w4.cell? ⟨w2.heap.size, 0, none⟩ = some (.bool xn) := by
    rw [hcl4 _ 0 (by simp; omega)]; go_keep
  have x1b : w4.cell? ⟨w2.heap.size, 1, none⟩ = some (.int .u64 (xm : Int)) := by
    rw [hcl4 _ 1 (by simp; omega)]; go_keep
  have x2b : w4.cell? ⟨w2.heap.size, 2, none⟩ = some (.int .i64 xe) := by
    rw [hcl4 _ 2 (by simp; omega)]; go_keep
  have y0b : w4.cell? ⟨w2.heap.size + 1, 0, none⟩ = some (.bool yn) := by
    rw [hcl4 _ 0 (by simp; omega)]; go_keep
  have y1b : w4.cell? ⟨w2.heap.size + 1, 1, none⟩ = some (.int .u64 (ym : Int)) := by
    rw [hcl4 _ 1 (by simp; omega)]; go_keep
  have y2b : w4.cell? ⟨w2.heap.size + 1, 2, none⟩ = some (.int .i64 ye) := by
    rw [hcl4 _ 2 (by simp; omega)]; go_keep
  have r0b : w4.cell? ⟨w3.heap.size, 0, none⟩ = some (.bool false) := by
    rw [hcl4 _ 0 (by simp)]; go_keep
  have r1b : w4.cell? ⟨w3.heap.size, 1, none⟩ = some (.int .u64 (rm : Int)) := by
    rw [hcl4 _ 1 (by simp)]; go_keep
  have r2b : w4.cell? ⟨w3.heap.size, 2, none⟩ = some (.int .i64 re) := by
    rw [hcl4 _ 2 (by simp)]; go_keep
  clear hcl4 x0 x1 x2 y0 y1 y2
  have gw4 : Grown w w4 := fgrownT ((fgrownT (((fgrownT hg1 hg2).alloc _ _).alloc _ _) hg3).alloc _ _) hg4
  go_wp2_with fail
  go_quiet (fail)
  go_wp2_with fail
  refine (cb _).mono ?_
  rintro e w5 ⟨rfl, hg5⟩
  go_wp2
  go_ret
  exact ⟨rfl, fgrownT (fgrownT gw4 (fgrownD ⟨_, rfl⟩)) hg5⟩

theorem srm_any (x y : Nat) (hx : x < 18446744073709551616) (hy : y < 18446744073709551616) (h0 : rung y ≠ 0) (w : World) :
    Calls Try.prog 17 #[.int .u64 (x : Int), .int .u64 (y : Int)] w fun e w' => e = .returned (.int .u64 (remW x y : Int)) ∧ Grown w w' := by
  rcases Nat.lt_trichotomy (remY x y) (2 * remM x y) with h | h | h
  · exact srm_gt x y hx hy h0 h w
  · rcases Bool.eq_false_or_eq_true (remO x y) with o | o
    · exact srm_eqt x y hx hy h0 h o w
    · exact srm_eqf x y hx hy h0 h o w
  · exact srm_lt x y hx hy h0 h w

end Go.Proofs.Ytbpggopjiogimaa
