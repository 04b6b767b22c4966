/- The contract of the reference's twice. -/
import Derived.Test.YtbpggopjiogimaaWalkF6
import Derived.Test.YtbpggopjiogimaaWalkH
import Derived.Test.YtbpggopjiogimaaFRemains
set_option linter.unusedVariables false
namespace Go.Proofs.Ytbpggopjiogimaa
open Go.RowKit Go.Proofs.Ytbpggopjiogimaa.Plain

set_option maxHeartbeats 2000000 in
theorem tw_far (a b : Bool) (rm ym : Nat) (re ye : Int) (hr : rm < 9007199254740992) (hy : ym < 9007199254740992) (hy0 : ym ≠ 0) (lr : -1074 ≤ re ∧ re ≤ 972) (ly : -1074 ≤ ye ∧ ye ≤ 972) (D : Nat) (hD : (D : Int) = ye - re) (hB : 60 < D) (w : World) :
    Calls Try.prog 32 #[.agg #[.bool a, .int .u64 (rm : Int), .int .i64 re], .agg #[.bool b, .int .u64 (ym : Int), .int .i64 ye]] w fun e w' => e = .returned (.int .i64 (-1)) ∧ Grown w w' := by
  have hle : re ≤ ye := by omega
  have q0 : ∀ _ : True, wrap64 (re - re) = 0 := fun _ => by unfold wrap64; omega
  have q0b : ∀ _ : True, IntKind.i64.wrap (re - re) = 0 := fun _ => by rw [IntKind.wrap_i64]; omega
  have q7 : ∀ _ : True, wrap64 (ye - re) = (D : Int) := fun _ => by unfold wrap64; omega
  have q8 : ∀ _ : True, IntKind.i64.wrap (ye - re) = (D : Int) := fun _ => by rw [IntKind.wrap_i64]; omega
  have r8 : ∀ _ : True, IntKind.u64.wrap (rm : Int) = (rm : Int) := fun _ => by rw [IntKind.wrap_u64]; omega
  have t2 : ∀ _ : True, decide ((60 : Int) < (D : Int)) = true := fun _ => by simp; omega
  have t2n : ∀ _ : True, decide (60 < D) = true := fun _ => by simp; omega
  clear hr hy hy0 lr ly hD hB
  go_enter Try.func32, Try.ntmps32
  go_wp2
  go_quiet (fail)
  go_wp2
  go_ret
  exact ⟨rfl, fgrownT (((Grown.refl w).alloc _ _).alloc _ _) (fgrownD ⟨_, rfl⟩)⟩

set_option maxHeartbeats 2000000 in
theorem tw_over (a b : Bool) (rm ym : Nat) (re ye : Int) (hr : rm < 9007199254740992) (hy : ym < 9007199254740992) (hy0 : ym ≠ 0) (lr : -1074 ≤ re ∧ re ≤ 972) (ly : -1074 ≤ ye ∧ ye ≤ 972) (D : Nat) (hD : (D : Int) = ye - re) (hB : D ≤ 60) (hB2 : 18446744073709551616 ≤ ym * 2 ^ D) (w : World) :
    Calls Try.prog 32 #[.agg #[.bool a, .int .u64 (rm : Int), .int .i64 re], .agg #[.bool b, .int .u64 (ym : Int), .int .i64 ye]] w fun e w' => e = .returned (.int .i64 (-1)) ∧ Grown w w' := by
  have hle : re ≤ ye := by omega
  have q0 : ∀ _ : True, wrap64 (re - re) = 0 := fun _ => by unfold wrap64; omega
  have q0b : ∀ _ : True, IntKind.i64.wrap (re - re) = 0 := fun _ => by rw [IntKind.wrap_i64]; omega
  have q7 : ∀ _ : True, wrap64 (ye - re) = (D : Int) := fun _ => by unfold wrap64; omega
  have q8 : ∀ _ : True, IntKind.i64.wrap (ye - re) = (D : Int) := fun _ => by rw [IntKind.wrap_i64]; omega
  have r8 : ∀ _ : True, IntKind.u64.wrap (rm : Int) = (rm : Int) := fun _ => by rw [IntKind.wrap_u64]; omega
  obtain ⟨p, hp⟩ : ∃ p : Nat, p = ym * 2 ^ D % 18446744073709551616 := ⟨_, rfl⟩
  have t2 : ∀ _ : True, decide ((60 : Int) < (D : Int)) = false := fun _ => by simp; omega
  have t2n : ∀ _ : True, decide (60 < D) = false := fun _ => by simp; omega
  have r6 : ∀ _ : True, min D 64 = D := fun _ => by omega
  have hpi : (ym : Int) * (2 : Int) ^ D = ((ym * 2 ^ D : Nat) : Int) := by simp
  have r1 : ∀ _ : True, IntKind.u64.wrap ((ym : Int) * (2 : Int) ^ D) = (p : Int) := fun _ => by rw [hpi, wrap64N, hp]
  have h2i : ((2 : Int) ^ D) = ((2 ^ D : Nat) : Int) := by simp
  obtain ⟨p2, hp2⟩ : ∃ p2 : Nat, p2 = p / 2 ^ D := ⟨_, rfl⟩
  have r2 : ∀ _ : True, (p : Int) / (2 : Int) ^ D = (p2 : Int) := fun _ => by rw [h2i, fdivC, hp2]
  have hpos : 0 < (2 : Nat) ^ D := Nat.two_pow_pos _
  have hne : p2 ≠ ym := fun g => by
    have h1 : p < 18446744073709551616 := by rw [hp]; exact Nat.mod_lt _ (by decide)
    have h2 : p2 * 2 ^ D ≤ p := by rw [hp2]; exact Nat.div_mul_le_self _ _
    rw [g] at h2; omega
  have t3 : ∀ _ : True, ((p2 : Int) != (ym : Int)) = true := fun _ => by simp; omega
  have t3b : ∀ _ : True, ((p2 : Int) == (ym : Int)) = false := fun _ => by simp; omega
  clear hr hy hy0 lr ly hD hB hB2 hp hpi h2i hp2 hne hpos
  go_enter Try.func32, Try.ntmps32
  go_wp2
  go_quiet (fail)
  go_wp2
  go_ret
  exact ⟨rfl, fgrownT (((Grown.refl w).alloc _ _).alloc _ _) (fgrownD ⟨_, rfl⟩)⟩

set_option maxHeartbeats 2000000 in
theorem tw_lt (a b : Bool) (rm ym : Nat) (re ye : Int) (hr : rm < 9007199254740992) (hy : ym < 9007199254740992) (hy0 : ym ≠ 0) (lr : -1074 ≤ re ∧ re ≤ 972) (ly : -1074 ≤ ye ∧ ye ≤ 972) (D : Nat) (hD : (D : Int) = ye - re) (hB : D ≤ 60) (hB2 : ym * 2 ^ D < 18446744073709551616) (hB3 : 2 * rm < ym * 2 ^ D) (w : World) :
    Calls Try.prog 32 #[.agg #[.bool a, .int .u64 (rm : Int), .int .i64 re], .agg #[.bool b, .int .u64 (ym : Int), .int .i64 ye]] w fun e w' => e = .returned (.int .i64 (-1)) ∧ Grown w w' := by
  have hle : re ≤ ye := by omega
  have q0 : ∀ _ : True, wrap64 (re - re) = 0 := fun _ => by unfold wrap64; omega
  have q0b : ∀ _ : True, IntKind.i64.wrap (re - re) = 0 := fun _ => by rw [IntKind.wrap_i64]; omega
  have q7 : ∀ _ : True, wrap64 (ye - re) = (D : Int) := fun _ => by unfold wrap64; omega
  have q8 : ∀ _ : True, IntKind.i64.wrap (ye - re) = (D : Int) := fun _ => by rw [IntKind.wrap_i64]; omega
  have r8 : ∀ _ : True, IntKind.u64.wrap (rm : Int) = (rm : Int) := fun _ => by rw [IntKind.wrap_u64]; omega
  obtain ⟨p, hp⟩ : ∃ p : Nat, p = ym * 2 ^ D % 18446744073709551616 := ⟨_, rfl⟩
  have t2 : ∀ _ : True, decide ((60 : Int) < (D : Int)) = false := fun _ => by simp; omega
  have t2n : ∀ _ : True, decide (60 < D) = false := fun _ => by simp; omega
  have r6 : ∀ _ : True, min D 64 = D := fun _ => by omega
  have hpi : (ym : Int) * (2 : Int) ^ D = ((ym * 2 ^ D : Nat) : Int) := by simp
  have r1 : ∀ _ : True, IntKind.u64.wrap ((ym : Int) * (2 : Int) ^ D) = (p : Int) := fun _ => by rw [hpi, wrap64N, hp]
  have h2i : ((2 : Int) ^ D) = ((2 ^ D : Nat) : Int) := by simp
  obtain ⟨p2, hp2⟩ : ∃ p2 : Nat, p2 = p / 2 ^ D := ⟨_, rfl⟩
  have r2 : ∀ _ : True, (p : Int) / (2 : Int) ^ D = (p2 : Int) := fun _ => by rw [h2i, fdivC, hp2]
  have hpos : 0 < (2 : Nat) ^ D := Nat.two_pow_pos _
  have hpe : p = ym * 2 ^ D := by rw [hp, Nat.mod_eq_of_lt hB2]
  have hp3 : p2 = ym := by rw [hp2, hpe, Nat.mul_div_cancel _ hpos]
  rw [hp3] at r2
  have t3 : ∀ _ : True, ((ym : Int) != (ym : Int)) = false := fun _ => by simp
  rw [← hpe] at hB3
  obtain ⟨t, ht⟩ : ∃ t : Nat, t = 2 * rm := ⟨_, rfl⟩
  have r7 : ∀ _ : True, IntKind.u64.wrap ((rm : Int) * 2) = (t : Int) := fun _ => by rw [IntKind.wrap_u64]; omega
  have t4 : ∀ _ : True, decide (t < p) = true := fun _ => by simp; omega
  have t4b : ∀ _ : True, decide ((t : Int) < (p : Int)) = true := fun _ => by simp; omega
  have t5 : ∀ _ : True, decide (p < t) = false := fun _ => by simp; omega
  have t5b : ∀ _ : True, decide ((p : Int) < (t : Int)) = false := fun _ => by simp; omega
  clear hr hy hy0 lr ly hD hB hB2 hB3 hp hpi h2i hp2 hpos hpe hp3 ht
  go_enter Try.func32, Try.ntmps32
  go_wp2
  go_quiet (fail)
  go_wp2
  go_quiet (fail)
  go_wp2
  go_ret
  exact ⟨rfl, fgrownT (((Grown.refl w).alloc _ _).alloc _ _) (fgrownD ⟨_, rfl⟩)⟩

set_option maxHeartbeats 2000000 in
theorem tw_gt (a b : Bool) (rm ym : Nat) (re ye : Int) (hr : rm < 9007199254740992) (hy : ym < 9007199254740992) (hy0 : ym ≠ 0) (lr : -1074 ≤ re ∧ re ≤ 972) (ly : -1074 ≤ ye ∧ ye ≤ 972) (D : Nat) (hD : (D : Int) = ye - re) (hB : D ≤ 60) (hB2 : ym * 2 ^ D < 18446744073709551616) (hB3 : ym * 2 ^ D < 2 * rm) (w : World) :
    Calls Try.prog 32 #[.agg #[.bool a, .int .u64 (rm : Int), .int .i64 re], .agg #[.bool b, .int .u64 (ym : Int), .int .i64 ye]] w fun e w' => e = .returned (.int .i64 1) ∧ Grown w w' := by
  have hle : re ≤ ye := by omega
  have q0 : ∀ _ : True, wrap64 (re - re) = 0 := fun _ => by unfold wrap64; omega
  have q0b : ∀ _ : True, IntKind.i64.wrap (re - re) = 0 := fun _ => by rw [IntKind.wrap_i64]; omega
  have q7 : ∀ _ : True, wrap64 (ye - re) = (D : Int) := fun _ => by unfold wrap64; omega
  have q8 : ∀ _ : True, IntKind.i64.wrap (ye - re) = (D : Int) := fun _ => by rw [IntKind.wrap_i64]; omega
  have r8 : ∀ _ : True, IntKind.u64.wrap (rm : Int) = (rm : Int) := fun _ => by rw [IntKind.wrap_u64]; omega
  obtain ⟨p, hp⟩ : ∃ p : Nat, p = ym * 2 ^ D % 18446744073709551616 := ⟨_, rfl⟩
  have t2 : ∀ _ : True, decide ((60 : Int) < (D : Int)) = false := fun _ => by simp; omega
  have t2n : ∀ _ : True, decide (60 < D) = false := fun _ => by simp; omega
  have r6 : ∀ _ : True, min D 64 = D := fun _ => by omega
  have hpi : (ym : Int) * (2 : Int) ^ D = ((ym * 2 ^ D : Nat) : Int) := by simp
  have r1 : ∀ _ : True, IntKind.u64.wrap ((ym : Int) * (2 : Int) ^ D) = (p : Int) := fun _ => by rw [hpi, wrap64N, hp]
  have h2i : ((2 : Int) ^ D) = ((2 ^ D : Nat) : Int) := by simp
  obtain ⟨p2, hp2⟩ : ∃ p2 : Nat, p2 = p / 2 ^ D := ⟨_, rfl⟩
  have r2 : ∀ _ : True, (p : Int) / (2 : Int) ^ D = (p2 : Int) := fun _ => by rw [h2i, fdivC, hp2]
  have hpos : 0 < (2 : Nat) ^ D := Nat.two_pow_pos _
  have hpe : p = ym * 2 ^ D := by rw [hp, Nat.mod_eq_of_lt hB2]
  have hp3 : p2 = ym := by rw [hp2, hpe, Nat.mul_div_cancel _ hpos]
  rw [hp3] at r2
  have t3 : ∀ _ : True, ((ym : Int) != (ym : Int)) = false := fun _ => by simp
  rw [← hpe] at hB3
  obtain ⟨t, ht⟩ : ∃ t : Nat, t = 2 * rm := ⟨_, rfl⟩
  have r7 : ∀ _ : True, IntKind.u64.wrap ((rm : Int) * 2) = (t : Int) := fun _ => by rw [IntKind.wrap_u64]; omega
  have t4 : ∀ _ : True, decide (t < p) = false := fun _ => by simp; omega
  have t4b : ∀ _ : True, decide ((t : Int) < (p : Int)) = false := fun _ => by simp; omega
  have t5 : ∀ _ : True, decide (p < t) = true := fun _ => by simp; omega
  have t5b : ∀ _ : True, decide ((p : Int) < (t : Int)) = true := fun _ => by simp; omega
  clear hr hy hy0 lr ly hD hB hB2 hB3 hp hpi h2i hp2 hpos hpe hp3 ht
  go_enter Try.func32, Try.ntmps32
  go_wp2
  go_quiet (fail)
  go_wp2
  go_quiet (fail)
  go_wp2
  go_ret
  exact ⟨rfl, fgrownT (((Grown.refl w).alloc _ _).alloc _ _) (fgrownD ⟨_, rfl⟩)⟩

set_option maxHeartbeats 2000000 in
theorem tw_eq (a b : Bool) (rm ym : Nat) (re ye : Int) (hr : rm < 9007199254740992) (hy : ym < 9007199254740992) (hy0 : ym ≠ 0) (lr : -1074 ≤ re ∧ re ≤ 972) (ly : -1074 ≤ ye ∧ ye ≤ 972) (D : Nat) (hD : (D : Int) = ye - re) (hB : D ≤ 60) (hB2 : ym * 2 ^ D < 18446744073709551616) (hB3 : ym * 2 ^ D = 2 * rm) (w : World) :
    Calls Try.prog 32 #[.agg #[.bool a, .int .u64 (rm : Int), .int .i64 re], .agg #[.bool b, .int .u64 (ym : Int), .int .i64 ye]] w fun e w' => e = .returned (.int .i64 0) ∧ Grown w w' := by
  have hle : re ≤ ye := by omega
  have q0 : ∀ _ : True, wrap64 (re - re) = 0 := fun _ => by unfold wrap64; omega
  have q0b : ∀ _ : True, IntKind.i64.wrap (re - re) = 0 := fun _ => by rw [IntKind.wrap_i64]; omega
  have q7 : ∀ _ : True, wrap64 (ye - re) = (D : Int) := fun _ => by unfold wrap64; omega
  have q8 : ∀ _ : True, IntKind.i64.wrap (ye - re) = (D : Int) := fun _ => by rw [IntKind.wrap_i64]; omega
  have r8 : ∀ _ : True, IntKind.u64.wrap (rm : Int) = (rm : Int) := fun _ => by rw [IntKind.wrap_u64]; omega
  obtain ⟨p, hp⟩ : ∃ p : Nat, p = ym * 2 ^ D % 18446744073709551616 := ⟨_, rfl⟩
  have t2 : ∀ _ : True, decide ((60 : Int) < (D : Int)) = false := fun _ => by simp; omega
  have t2n : ∀ _ : True, decide (60 < D) = false := fun _ => by simp; omega
  have r6 : ∀ _ : True, min D 64 = D := fun _ => by omega
  have hpi : (ym : Int) * (2 : Int) ^ D = ((ym * 2 ^ D : Nat) : Int) := by simp
  have r1 : ∀ _ : True, IntKind.u64.wrap ((ym : Int) * (2 : Int) ^ D) = (p : Int) := fun _ => by rw [hpi, wrap64N, hp]
  have h2i : ((2 : Int) ^ D) = ((2 ^ D : Nat) : Int) := by simp
  obtain ⟨p2, hp2⟩ : ∃ p2 : Nat, p2 = p / 2 ^ D := ⟨_, rfl⟩
  have r2 : ∀ _ : True, (p : Int) / (2 : Int) ^ D = (p2 : Int) := fun _ => by rw [h2i, fdivC, hp2]
  have hpos : 0 < (2 : Nat) ^ D := Nat.two_pow_pos _
  have hpe : p = ym * 2 ^ D := by rw [hp, Nat.mod_eq_of_lt hB2]
  have hp3 : p2 = ym := by rw [hp2, hpe, Nat.mul_div_cancel _ hpos]
  rw [hp3] at r2
  have t3 : ∀ _ : True, ((ym : Int) != (ym : Int)) = false := fun _ => by simp
  rw [← hpe] at hB3
  obtain ⟨t, ht⟩ : ∃ t : Nat, t = 2 * rm := ⟨_, rfl⟩
  have r7 : ∀ _ : True, IntKind.u64.wrap ((rm : Int) * 2) = (t : Int) := fun _ => by rw [IntKind.wrap_u64]; omega
  have t4 : ∀ _ : True, decide (t < p) = false := fun _ => by simp; omega
  have t4b : ∀ _ : True, decide ((t : Int) < (p : Int)) = false := fun _ => by simp; omega
  have t5 : ∀ _ : True, decide (p < t) = false := fun _ => by simp; omega
  have t5b : ∀ _ : True, decide ((p : Int) < (t : Int)) = false := fun _ => by simp; omega
  clear hr hy hy0 lr ly hD hB hB2 hB3 hp hpi h2i hp2 hpos hpe hp3 ht
  go_enter Try.func32, Try.ntmps32
  go_wp2
  go_quiet (fail)
  go_wp2
  go_quiet (fail)
  go_wp2
  go_ret
  exact ⟨rfl, fgrownT (((Grown.refl w).alloc _ _).alloc _ _) (fgrownD ⟨_, rfl⟩)⟩

end Go.Proofs.Ytbpggopjiogimaa
