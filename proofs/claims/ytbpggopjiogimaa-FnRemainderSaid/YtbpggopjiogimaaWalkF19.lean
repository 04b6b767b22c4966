/- The contract of the reference's remains. -/
import Derived.Test.YtbpggopjiogimaaWalkF6
import Derived.Test.YtbpggopjiogimaaWalkH
import Derived.Laws.ResultCell
import Derived.StillTail
import Derived.Test.YtbpggopjiogimaaFRemains
set_option linter.unusedVariables false
namespace Go.Proofs.Ytbpggopjiogimaa
open Go.RowKit Go.Proofs.Ytbpggopjiogimaa.Plain

theorem grown_drewN {w W : World} {n : Nat} (h : Grown w W) : Grown w (W.drewN n) := fgrownT h (fgrownD ⟨n, rfl⟩)

set_option maxHeartbeats 2000000 in
theorem rem_A (a b : Bool) (xm ym : Nat) (xe ye : Int) (hx : xm < 9007199254740992) (hy : ym < 9007199254740992) (hy0 : ym ≠ 0) (lx : -1074 ≤ xe ∧ xe ≤ 972) (ly : -1074 ≤ ye ∧ ye ≤ 972) (h : ye ≤ xe) (w : World) :
    Calls Try.prog 30 #[.agg #[.bool a, .int .u64 (xm : Int), .int .i64 xe], .agg #[.bool b, .int .u64 (ym : Int), .int .i64 ye]] w fun e w' => e = .returned (.tuple #[.agg #[.bool false, .int .u64 ((xm * 2 ^ (xe - ye).toNat % ym : Nat) : Int), .int .i64 ye], .bool (decide (xm * 2 ^ (xe - ye).toNat / ym % 2 = 1))]) ∧ Grown w w' := by
  have t1 : ∀ _ : True, decide (xe < ye) = false := fun _ => by simp; omega
  obtain ⟨L, hL⟩ : ∃ L : Nat, L = (xe - ye).toNat := ⟨_, rfl⟩
  rw [← hL]
  obtain ⟨RM, hRM⟩ : ∃ RM : Nat, RM = xm * 2 ^ L % ym := ⟨_, rfl⟩
  obtain ⟨RO, hRO⟩ : ∃ RO : Bool, RO = decide (xm * 2 ^ L / ym % 2 = 1) := ⟨_, rfl⟩
  rw [← hRM, ← hRO]
  have HF := Lib.hid (And.intro hRM hRO)
  clear hRM hRO
  obtain ⟨r0, hr0⟩ : ∃ r0 : Nat, r0 = xm % ym := ⟨_, rfl⟩
  obtain ⟨q0, hq0⟩ : ∃ q0 : Nat, q0 = xm / ym := ⟨_, rfl⟩
  obtain ⟨o0, ho0⟩ : ∃ o0 : Nat, o0 = q0 % 2 := ⟨_, rfl⟩
  have q1 : ∀ _ : True, (xm : Int) % (ym : Int) = (r0 : Int) := fun _ => by rw [hr0]; rfl
  have q2 : ∀ _ : True, (xm : Int) / (ym : Int) = (q0 : Int) := fun _ => by rw [hq0]; rfl
  have q3 : ∀ _ : True, (q0 : Int) % 2 = (o0 : Int) := fun _ => by rw [ho0]; rfl
  obtain ⟨ob, hob⟩ : ∃ ob : Bool, ob = decide (o0 = 1) := ⟨_, rfl⟩
  have q4 : ∀ _ : True, ((o0 : Int) == 1) = ob := fun _ => by rw [hob, Bool.eq_iff_iff]; simp; omega
  have hql : q0 ≤ xm := by rw [hq0]; exact Nat.div_le_self _ _
  have q12 : ∀ _ : True, IntKind.u64.wrap (q0 : Int) = (q0 : Int) := fun _ => by rw [IntKind.wrap_u64]; omega
  have q5 : ∀ _ : True, ((ym : Int) == 0) = false := fun _ => by simp; omega
  have q6 : ∀ _ : True, ¬ ((ym : Int) = 0) := fun _ => by omega
  have q7 : ∀ _ : True, wrap64 (xe - ye) = (L : Int) := fun _ => by unfold wrap64; omega
  have q8 : ∀ _ : True, IntKind.i64.wrap (xe - ye) = (L : Int) := fun _ => by rw [IntKind.wrap_i64]; omega
  have q9 : ∀ _ : True, (xm : Int).tmod (ym : Int) = (r0 : Int) := fun _ => by rw [hr0]; rfl
  have q10 : ∀ _ : True, (xm : Int).tdiv (ym : Int) = (q0 : Int) := fun _ => by rw [hq0]; rfl
  have q11 : ∀ _ : True, (q0 : Int).tmod 2 = (o0 : Int) := fun _ => by rw [ho0]; rfl
  have H0 := Lib.hid (And.intro hx (And.intro hy (And.intro hy0 (And.intro lx (And.intro ly (And.intro h (And.intro hL (And.intro hr0 (And.intro hq0 (And.intro ho0 hob))))))))))
  have n1 : ((ym : Int) == 0) = false := by simp; omega
  have n2 : (1 : Int) ≤ (ym : Int) := by omega
  have n3 : (0 : Int) ≤ (xm : Int) := by omega
  have n4 : (0 : Int) ≤ (q0 : Int) := by omega
  clear hx hy hy0 lx ly h hL hr0 hq0 ho0 hob hql
  go_enter Try.func30, Try.ntmps30
  go_wp2
  go_quiet (fail)
  go_wp2
  go_loop [7, 8, 70] (fun rv ov iv => ∃ i : Nat, i ≤ L ∧ iv = .int .i64 (i : Int) ∧ (∃ r : Nat, rv = .int .u64 (r : Int) ∧ r = xm * 2 ^ i % ym) ∧ (∃ o : Bool, ov = .bool o ∧ o = decide (xm * 2 ^ i / ym % 2 = 1))) (fun _ _ iv => ((L : Int) - intOf iv).toNat)
  case atStart =>
    obtain ⟨hx, hy, hy0, lx, ly, h, hL, hr0, hq0, ho0, hob⟩ := H0.out
    exact ⟨0, Nat.zero_le _, rfl, ⟨r0, rfl, by rw [Nat.pow_zero, Nat.mul_one]; exact hr0⟩, ⟨ob, rfl, by rw [Nat.pow_zero, Nat.mul_one, ← hq0, ← ho0]; exact hob⟩⟩
  case round =>
    obtain ⟨i, hi, rfl, ⟨r, rfl, hr⟩, ⟨o, rfl, ho⟩⟩ := hrel
    rcases Nat.lt_or_ge i L with c | c
    · obtain ⟨hx, hy, hy0, lx, ly, h, hL, hr0, hq0, ho0, hob⟩ := H0.out
      have hrl : r < ym := by rw [hr]; exact Nat.mod_lt _ (by omega)
      obtain ⟨st1, st2⟩ := rem_step (xm * 2 ^ i) ym (by omega)
      have hp : xm * 2 ^ (i + 1) = 2 * (xm * 2 ^ i) := by rw [Nat.pow_succ, ← Nat.mul_assoc, Nat.mul_comm]
      rw [← hp, ← hr] at st1 st2
      obtain ⟨t, ht⟩ : ∃ t : Nat, t = 2 * r := ⟨_, rfl⟩
      rw [← ht] at st1 st2
      have s1 : ∀ _ : True, decide (i < L) = true := fun _ => by simpa using c
      have s1b : ∀ _ : True, decide ((i : Int) < (L : Int)) = true := fun _ => by simpa using c
      have s2 : ∀ _ : True, IntKind.u64.wrap ((r : Int) * 2) = (t : Int) := fun _ => by rw [IntKind.wrap_u64]; omega
      obtain ⟨i1, hi1⟩ : ∃ i1 : Nat, i1 = i + 1 := ⟨_, rfl⟩
      have s3 : ∀ _ : True, wrap64 ((i : Int) + 1) = (i1 : Int) := fun _ => by unfold wrap64; omega
      rw [← hi1] at st1 st2
      by_cases g : ym ≤ t
      · rw [if_pos g] at st1
        obtain ⟨u, hu⟩ : ∃ u : Nat, u = t - ym := ⟨_, rfl⟩
        rw [← hu] at st1
        have s4 : ∀ _ : True, decide (ym ≤ t) = true := fun _ => by simpa using g
        have s4b : ∀ _ : True, decide ((ym : Int) ≤ (t : Int)) = true := fun _ => by simpa using g
        have s5 : ∀ _ : True, IntKind.u64.wrap ((t : Int) - (ym : Int)) = (u : Int) := fun _ => by rw [IntKind.wrap_u64]; omega
        have st3 : true = decide (xm * 2 ^ i1 / ym % 2 = 1) := by rw [st2]; symm; simpa using g
        have HR := Lib.hid (And.intro hi (And.intro c (And.intro hi1 (And.intro st1 st3))))
        clear hx hy hy0 lx ly h hL hr0 hq0 ho0 hob hrl st1 st2 hp ht hi1 g hu hr ho c hi st3
        go_wp2
        go_round
        case rel => exact ⟨i1, by have := HR.out; omega, congrArg _ (s3 trivial), ⟨u, rfl, HR.out.2.2.2.1.symm⟩, ⟨true, rfl, HR.out.2.2.2.2⟩⟩
        case measure =>
          have h3 := s3 trivial
          show ((L : Int) - intOf (.int .i64 (wrap64 ((i : Int) + 1)))).toNat < ((L : Int) - intOf (.int .i64 (i : Int))).toNat
          rw [h3]
          clear h3 s3
          have h4 := HR.out
          simp only [intOf]
          omega
      · rw [if_neg g] at st1
        have s4 : ∀ _ : True, decide (ym ≤ t) = false := fun _ => by simpa using g
        have s4b : ∀ _ : True, decide ((ym : Int) ≤ (t : Int)) = false := fun _ => by simpa using g
        have st3 : false = decide (xm * 2 ^ i1 / ym % 2 = 1) := by rw [st2]; symm; simpa using g
        have HR := Lib.hid (And.intro hi (And.intro c (And.intro hi1 (And.intro st1 st3))))
        clear hx hy hy0 lx ly h hL hr0 hq0 ho0 hob hrl st1 st2 hp ht hi1 g hr ho c hi st3
        go_wp2
        go_round
        case rel => exact ⟨i1, by have := HR.out; omega, congrArg _ (s3 trivial), ⟨t, rfl, HR.out.2.2.2.1.symm⟩, ⟨false, rfl, HR.out.2.2.2.2⟩⟩
        case measure =>
          have h3 := s3 trivial
          show ((L : Int) - intOf (.int .i64 (wrap64 ((i : Int) + 1)))).toNat < ((L : Int) - intOf (.int .i64 (i : Int))).toNat
          rw [h3]
          clear h3 s3
          have h4 := HR.out
          simp only [intOf]
          omega
    · have s1 : ∀ _ : True, decide (i < L) = false := fun _ => by simp; omega
      have s1b : ∀ _ : True, decide ((i : Int) < (L : Int)) = false := fun _ => by simp; omega
      have hiL : i = L := by omega
      obtain ⟨hRM, hRO⟩ := HF.out
      rw [hiL, ← hRM] at hr
      rw [hiL, ← hRO] at ho
      subst hr
      subst ho
      clear hi c hiL hRM hRO
      go_wp2
      refine bodyPost_ret (v := .tuple #[.agg #[.bool false, .int .u64 (r : Int), .int .i64 ye], .bool o]) ?_ rfl ⟨rfl, ?_⟩
      · rw [results_cell_tmp rfl]
        go_simp
      · exact (((fgrownT ((((Grown.refl w).alloc _ _).alloc _ _).alloc _ _) (fgrownD ⟨_, rfl⟩)).setCell (by show w.heap.size ≤ w.heap.size + 1 + 1; omega) _).setCell (by show w.heap.size ≤ w.heap.size + 1 + 1; omega) _).setCell (by show w.heap.size ≤ w.heap.size + 1 + 1; omega) _

set_option maxHeartbeats 2000000 in
theorem rem_B1 (a b : Bool) (xm ym : Nat) (xe ye : Int) (hx : xm < 9007199254740992) (hy : ym < 9007199254740992) (hy0 : ym ≠ 0) (lx : -1074 ≤ xe ∧ xe ≤ 972) (ly : -1074 ≤ ye ∧ ye ≤ 972) (D : Nat) (hD : (D : Int) = ye - xe) (hD1 : 1 ≤ D) (hB : 60 < D) (w : World) :
    Calls Try.prog 30 #[.agg #[.bool a, .int .u64 (xm : Int), .int .i64 xe], .agg #[.bool b, .int .u64 (ym : Int), .int .i64 ye]] w fun e w' => e = .returned (.tuple #[.agg #[.bool false, .int .u64 (xm : Int), .int .i64 xe], .bool false]) ∧ Grown w w' := by
  have t1 : ∀ _ : True, decide (xe < ye) = true := fun _ => by simp; omega
  have q7 : ∀ _ : True, wrap64 (ye - xe) = (D : Int) := fun _ => by unfold wrap64; omega
  have q8 : ∀ _ : True, IntKind.i64.wrap (ye - xe) = (D : Int) := fun _ => by rw [IntKind.wrap_i64]; omega
  have t2 : ∀ _ : True, decide ((60 : Int) < (D : Int)) = true := fun _ => by simp; omega
  clear hx hy hy0 lx ly hD hD1 hB
  go_enter Try.func30, Try.ntmps30
  go_wp2
  go_quiet (fail)
  go_wp2
  refine bodyPost_ret (v := .tuple #[.agg #[.bool false, .int .u64 (xm : Int), .int .i64 xe], .bool false]) ?_ rfl ⟨rfl, ?_⟩
  · rw [results_cell_tmp rfl]
    go_simp
  · exact (((fgrownT ((((Grown.refl w).alloc _ _).alloc _ _).alloc _ _) (fgrownD ⟨_, rfl⟩)).setCell (by show w.heap.size ≤ w.heap.size + 1 + 1; omega) _).setCell (by show w.heap.size ≤ w.heap.size + 1 + 1; omega) _).setCell (by show w.heap.size ≤ w.heap.size + 1 + 1; omega) _

set_option maxHeartbeats 2000000 in
theorem rem_B2 (a b : Bool) (xm ym : Nat) (xe ye : Int) (hx : xm < 9007199254740992) (hy : ym < 9007199254740992) (hy0 : ym ≠ 0) (lx : -1074 ≤ xe ∧ xe ≤ 972) (ly : -1074 ≤ ye ∧ ye ≤ 972) (D : Nat) (hD : (D : Int) = ye - xe) (hD1 : 1 ≤ D) (hB : D ≤ 60) (hB2 : 18446744073709551616 ≤ ym * 2 ^ D) (w : World) :
    Calls Try.prog 30 #[.agg #[.bool a, .int .u64 (xm : Int), .int .i64 xe], .agg #[.bool b, .int .u64 (ym : Int), .int .i64 ye]] w fun e w' => e = .returned (.tuple #[.agg #[.bool false, .int .u64 (xm : Int), .int .i64 xe], .bool false]) ∧ Grown w w' := by
  have t1 : ∀ _ : True, decide (xe < ye) = true := fun _ => by simp; omega
  have q7 : ∀ _ : True, wrap64 (ye - xe) = (D : Int) := fun _ => by unfold wrap64; omega
  have q8 : ∀ _ : True, IntKind.i64.wrap (ye - xe) = (D : Int) := fun _ => by rw [IntKind.wrap_i64]; omega
  obtain ⟨p, hp⟩ : ∃ p : Nat, p = ym * 2 ^ D % 18446744073709551616 := ⟨_, rfl⟩
  have t2 : ∀ _ : True, decide ((60 : Int) < (D : Int)) = false := fun _ => by simp; omega
  have r6 : ∀ _ : True, min D 64 = D := fun _ => by omega
  have hpi : (ym : Int) * (2 : Int) ^ D = ((ym * 2 ^ D : Nat) : Int) := by simp
  have r1 : ∀ _ : True, IntKind.u64.wrap ((ym : Int) * (2 : Int) ^ D) = (p : Int) := fun _ => by rw [hpi, wrap64N, hp]
  have h2i : ((2 : Int) ^ D) = ((2 ^ D : Nat) : Int) := by simp
  obtain ⟨p2, hp2⟩ : ∃ p2 : Nat, p2 = p / 2 ^ D := ⟨_, rfl⟩
  have r2 : ∀ _ : True, (p : Int) / (2 : Int) ^ D = (p2 : Int) := fun _ => by rw [h2i, fdivC, hp2]
  have hpos : 0 < (2 : Nat) ^ D := Nat.two_pow_pos _
  have hne : p2 ≠ ym := fun g => by
    have h1 : p < 18446744073709551616 := by rw [hp]; exact Nat.mod_lt _ (by decide)
    have h2 : p2 * 2 ^ D ≤ p := by rw [hp2]; exact Nat.div_mul_le_self _ _
    rw [g] at h2; omega
  have t3 : ∀ _ : True, ((p2 : Int) != (ym : Int)) = true := fun _ => by simp; omega
  have t3b : ∀ _ : True, ((p2 : Int) == (ym : Int)) = false := fun _ => by simp; omega
  clear hx hy hy0 lx ly hD hD1 hB hB2 hp hpi h2i hp2 hne hpos
  go_enter Try.func30, Try.ntmps30
  go_wp2
  go_quiet (fail)
  go_wp2
  refine bodyPost_ret (v := .tuple #[.agg #[.bool false, .int .u64 (xm : Int), .int .i64 xe], .bool false]) ?_ rfl ⟨rfl, ?_⟩
  · rw [results_cell_tmp rfl]
    go_simp
  · exact (((fgrownT ((((Grown.refl w).alloc _ _).alloc _ _).alloc _ _) (fgrownD ⟨_, rfl⟩)).setCell (by show w.heap.size ≤ w.heap.size + 1 + 1; omega) _).setCell (by show w.heap.size ≤ w.heap.size + 1 + 1; omega) _).setCell (by show w.heap.size ≤ w.heap.size + 1 + 1; omega) _

set_option maxHeartbeats 2000000 in
theorem rem_B3 (a b : Bool) (xm ym : Nat) (xe ye : Int) (hx : xm < 9007199254740992) (hy : ym < 9007199254740992) (hy0 : ym ≠ 0) (lx : -1074 ≤ xe ∧ xe ≤ 972) (ly : -1074 ≤ ye ∧ ye ≤ 972) (D : Nat) (hD : (D : Int) = ye - xe) (hD1 : 1 ≤ D) (hB : D ≤ 60) (hB2 : ym * 2 ^ D < 18446744073709551616) (hB3 : xm < ym * 2 ^ D) (w : World) :
    Calls Try.prog 30 #[.agg #[.bool a, .int .u64 (xm : Int), .int .i64 xe], .agg #[.bool b, .int .u64 (ym : Int), .int .i64 ye]] w fun e w' => e = .returned (.tuple #[.agg #[.bool false, .int .u64 (xm : Int), .int .i64 xe], .bool false]) ∧ Grown w w' := by
  have t1 : ∀ _ : True, decide (xe < ye) = true := fun _ => by simp; omega
  have q7 : ∀ _ : True, wrap64 (ye - xe) = (D : Int) := fun _ => by unfold wrap64; omega
  have q8 : ∀ _ : True, IntKind.i64.wrap (ye - xe) = (D : Int) := fun _ => by rw [IntKind.wrap_i64]; omega
  obtain ⟨p, hp⟩ : ∃ p : Nat, p = ym * 2 ^ D % 18446744073709551616 := ⟨_, rfl⟩
  have t2 : ∀ _ : True, decide ((60 : Int) < (D : Int)) = false := fun _ => by simp; omega
  have r6 : ∀ _ : True, min D 64 = D := fun _ => by omega
  have hpi : (ym : Int) * (2 : Int) ^ D = ((ym * 2 ^ D : Nat) : Int) := by simp
  have r1 : ∀ _ : True, IntKind.u64.wrap ((ym : Int) * (2 : Int) ^ D) = (p : Int) := fun _ => by rw [hpi, wrap64N, hp]
  have h2i : ((2 : Int) ^ D) = ((2 ^ D : Nat) : Int) := by simp
  obtain ⟨p2, hp2⟩ : ∃ p2 : Nat, p2 = p / 2 ^ D := ⟨_, rfl⟩
  have r2 : ∀ _ : True, (p : Int) / (2 : Int) ^ D = (p2 : Int) := fun _ => by rw [h2i, fdivC, hp2]
  have hpos : 0 < (2 : Nat) ^ D := Nat.two_pow_pos _
  have hpe : p = ym * 2 ^ D := by rw [hp, Nat.mod_eq_of_lt hB2]
  have hp3 : p2 = ym := by rw [hp2, hpe, Nat.mul_div_cancel _ hpos]
  rw [hp3] at r2
  have t3 : ∀ _ : True, ((ym : Int) != (ym : Int)) = false := fun _ => by simp
  have t4 : ∀ _ : True, decide (xm < p) = true := fun _ => by rw [hpe]; simpa using hB3
  have t4b : ∀ _ : True, decide ((xm : Int) < (p : Int)) = true := fun _ => by rw [hpe]; simp; exact_mod_cast hB3
  clear hx hy hy0 lx ly hD hD1 hB hB2 hB3 hp hpi h2i hp2 hpos hpe hp3
  go_enter Try.func30, Try.ntmps30
  go_wp2
  go_quiet (fail)
  go_wp2
  refine bodyPost_ret (v := .tuple #[.agg #[.bool false, .int .u64 (xm : Int), .int .i64 xe], .bool false]) ?_ rfl ⟨rfl, ?_⟩
  · rw [results_cell_tmp rfl]
    go_simp
  · exact (((fgrownT ((((Grown.refl w).alloc _ _).alloc _ _).alloc _ _) (fgrownD ⟨_, rfl⟩)).setCell (by show w.heap.size ≤ w.heap.size + 1 + 1; omega) _).setCell (by show w.heap.size ≤ w.heap.size + 1 + 1; omega) _).setCell (by show w.heap.size ≤ w.heap.size + 1 + 1; omega) _

set_option maxHeartbeats 2000000 in
theorem rem_B4 (a b : Bool) (xm ym : Nat) (xe ye : Int) (hx : xm < 9007199254740992) (hy : ym < 9007199254740992) (hy0 : ym ≠ 0) (lx : -1074 ≤ xe ∧ xe ≤ 972) (ly : -1074 ≤ ye ∧ ye ≤ 972) (D : Nat) (hD : (D : Int) = ye - xe) (hD1 : 1 ≤ D) (hB : D ≤ 60) (hB2 : ym * 2 ^ D < 18446744073709551616) (hB3 : ym * 2 ^ D ≤ xm) (w : World) :
    Calls Try.prog 30 #[.agg #[.bool a, .int .u64 (xm : Int), .int .i64 xe], .agg #[.bool b, .int .u64 (ym : Int), .int .i64 ye]] w fun e w' => e = .returned (.tuple #[.agg #[.bool false, .int .u64 ((xm % (ym * 2 ^ D) : Nat) : Int), .int .i64 xe], .bool (decide (xm / (ym * 2 ^ D) % 2 = 1))]) ∧ Grown w w' := by
  have t1 : ∀ _ : True, decide (xe < ye) = true := fun _ => by simp; omega
  have q7 : ∀ _ : True, wrap64 (ye - xe) = (D : Int) := fun _ => by unfold wrap64; omega
  have q8 : ∀ _ : True, IntKind.i64.wrap (ye - xe) = (D : Int) := fun _ => by rw [IntKind.wrap_i64]; omega
  obtain ⟨p, hp⟩ : ∃ p : Nat, p = ym * 2 ^ D % 18446744073709551616 := ⟨_, rfl⟩
  have t2 : ∀ _ : True, decide ((60 : Int) < (D : Int)) = false := fun _ => by simp; omega
  have r6 : ∀ _ : True, min D 64 = D := fun _ => by omega
  have hpi : (ym : Int) * (2 : Int) ^ D = ((ym * 2 ^ D : Nat) : Int) := by simp
  have r1 : ∀ _ : True, IntKind.u64.wrap ((ym : Int) * (2 : Int) ^ D) = (p : Int) := fun _ => by rw [hpi, wrap64N, hp]
  have h2i : ((2 : Int) ^ D) = ((2 ^ D : Nat) : Int) := by simp
  obtain ⟨p2, hp2⟩ : ∃ p2 : Nat, p2 = p / 2 ^ D := ⟨_, rfl⟩
  have r2 : ∀ _ : True, (p : Int) / (2 : Int) ^ D = (p2 : Int) := fun _ => by rw [h2i, fdivC, hp2]
  have hpos : 0 < (2 : Nat) ^ D := Nat.two_pow_pos _
  have hpe : p = ym * 2 ^ D := by rw [hp, Nat.mod_eq_of_lt hB2]
  have hp3 : p2 = ym := by rw [hp2, hpe, Nat.mul_div_cancel _ hpos]
  rw [hp3] at r2
  have t3 : ∀ _ : True, ((ym : Int) != (ym : Int)) = false := fun _ => by simp
  have t4 : ∀ _ : True, decide (xm < p) = false := fun _ => by rw [hpe]; simpa using hB3
  have t4b : ∀ _ : True, decide ((xm : Int) < (p : Int)) = false := fun _ => by rw [hpe]; simp; exact_mod_cast hB3
  rw [← hpe]
  have hp0 : 0 < p := by rw [hpe]; exact Nat.mul_pos (by omega) hpos
  obtain ⟨r0, hr0⟩ : ∃ r0 : Nat, r0 = xm % p := ⟨_, rfl⟩
  obtain ⟨q0, hq0⟩ : ∃ q0 : Nat, q0 = xm / p := ⟨_, rfl⟩
  obtain ⟨o0, ho0⟩ : ∃ o0 : Nat, o0 = q0 % 2 := ⟨_, rfl⟩
  have q1 : ∀ _ : True, (xm : Int) % (p : Int) = (r0 : Int) := fun _ => by rw [hr0]; rfl
  have q2 : ∀ _ : True, (xm : Int) / (p : Int) = (q0 : Int) := fun _ => by rw [hq0]; rfl
  have q9 : ∀ _ : True, (xm : Int).tmod (p : Int) = (r0 : Int) := fun _ => by rw [hr0]; rfl
  have q10 : ∀ _ : True, (xm : Int).tdiv (p : Int) = (q0 : Int) := fun _ => by rw [hq0]; rfl
  have q11 : ∀ _ : True, (q0 : Int).tmod 2 = (o0 : Int) := fun _ => by rw [ho0]; rfl
  have hql : q0 ≤ xm := by rw [hq0]; exact Nat.div_le_self _ _
  have q12 : ∀ _ : True, IntKind.u64.wrap (q0 : Int) = (q0 : Int) := fun _ => by rw [IntKind.wrap_u64]; omega
  obtain ⟨ob, hob⟩ : ∃ ob : Bool, ob = decide (o0 = 1) := ⟨_, rfl⟩
  have q4 : ∀ _ : True, ((o0 : Int) == 1) = ob := fun _ => by rw [hob, Bool.eq_iff_iff]; simp; omega
  rw [← hr0, ← hq0, ← ho0, ← hob]
  have n1 : ((p : Int) == 0) = false := by simp; omega
  have n2 : (1 : Int) ≤ (p : Int) := by omega
  have n3 : (0 : Int) ≤ (xm : Int) := by omega
  have n4 : (0 : Int) ≤ (q0 : Int) := by omega
  have q13 : ∀ _ : True, xe - xe = 0 := fun _ => by omega
  clear hx hy hy0 lx ly hD hD1 hB hB2 hB3 hp hpi h2i hp2 hpos hpe hp3 hp0 hr0 hq0 ho0 hql hob
  go_enter Try.func30, Try.ntmps30
  go_wp2
  go_quiet (fail)
  go_wp2
  obtain ⟨W0, hW⟩ : ∃ W0, W0 = (((w.alloc (.cells #[.bool a, .int .u64 (xm : Int), .int .i64 xe] 30)).alloc (.cells #[.bool b, .int .u64 (ym : Int), .int .i64 ye] 30)).alloc (.cells #[.bool false, .int .u64 0, .int .i64 0] 30)).drewN nq := ⟨_, rfl⟩
  rw [← hW]
  refine wp_region_still_tail 7 (by kernel_rfl) (by kernel_rfl) ?_
  simp only [List.take_succ_cons, List.take_zero, List.drop_succ_cons, List.drop_zero]
  have eW : ({ heap := W0.heap, tape := W0.tape, drawn := W0.drawn + 1, os := W0.os, output := W0.output } : World) = W0.drew := rfl
  rw [eW]
  clear eW
  obtain ⟨W1, hW1⟩ : ∃ W1, W1 = W0.drew := ⟨_, rfl⟩
  rw [← hW1]
  have c1 : W1.cell? ⟨w.heap.size + 1, 1, none⟩ = some (.int .u64 (ym : Int)) := by rw [hW1, hW]; go_keep
  have c2 : W1.cell? ⟨w.heap.size, 2, none⟩ = some (.int .i64 xe) := by rw [hW1, hW]; go_keep
  repeat (refine wpStill_step (fun K hK => ?_); go_simp; refine hK _ ?_; clear hK K)
  refine wpStill_nil ?_
  clear c1 c2
  rw [hW1, hW]
  clear hW1 hW
  go_wp2
  go_quiet (fail)
  go_wp2
  go_loop [7, 8, 70] (fun rv ov iv => rv = .int .u64 (r0 : Int) ∧ ov = .bool ob ∧ iv = .int .i64 0) (fun _ _ _ => 0)
  case atStart => exact ⟨rfl, rfl, rfl⟩
  case round =>
    obtain ⟨rfl, rfl, rfl⟩ := hrel
    go_wp2
    refine bodyPost_ret (v := .tuple #[.agg #[.bool false, .int .u64 (r0 : Int), .int .i64 xe], .bool ob]) ?_ rfl ⟨rfl, ?_⟩
    · rw [results_cell_tmp rfl]
      go_simp
    · exact ((((grown_drewN ((((grown_drewN ((((Grown.refl w).alloc _ _).alloc _ _).alloc _ _)).setCell (by show w.heap.size ≤ w.heap.size + 1; omega) _).setCell (by show w.heap.size ≤ w.heap.size + 1; omega) _).setCell (by show w.heap.size ≤ w.heap.size + 1; omega) _)).setCell (by show w.heap.size ≤ w.heap.size + 1 + 1; omega) _).setCell (by show w.heap.size ≤ w.heap.size + 1 + 1; omega) _).setCell (by show w.heap.size ≤ w.heap.size + 1 + 1; omega) _)

theorem rem_any (a b : Bool) (x y : Nat) (hy0 : mantW y ≠ 0) (w : World) :
    Calls Try.prog 30 #[.agg #[.bool a, .int .u64 (mantW x : Int), .int .i64 (expW x)], .agg #[.bool b, .int .u64 (mantW y : Int), .int .i64 (expW y)]] w fun e w' => e = .returned (.tuple #[.agg #[.bool false, .int .u64 (remM x y : Int), .int .i64 (remE x y)], .bool (remO x y)]) ∧ Grown w w' := by
  have hx := mantW_lt x
  have hy := mantW_lt y
  have lx := expW_lo x
  have ly := expW_lo y
  by_cases h : expW y ≤ expW x
  · have e1 : remE x y = expW y := by unfold remE; omega
    have e2 : (expW y - remE x y).toNat = 0 := by omega
    have e3 : remM x y = mantW x * 2 ^ (expW x - expW y).toNat % mantW y := by unfold remM; rw [e2, e1, Nat.pow_zero, Nat.mul_one]
    have e4 : remO x y = decide (mantW x * 2 ^ (expW x - expW y).toNat / mantW y % 2 = 1) := by unfold remO; rw [e2, e1, Nat.pow_zero, Nat.mul_one]
    rw [e1, e3, e4]
    exact rem_A a b _ _ _ _ hx hy hy0 lx ly h w
  · obtain ⟨D, hD⟩ : ∃ D : Nat, (D : Int) = expW y - expW x := ⟨(expW y - expW x).toNat, by omega⟩
    have hD1 : 1 ≤ D := by omega
    have e1 : remE x y = expW x := by unfold remE; omega
    have e2 : (expW x - remE x y).toNat = 0 := by omega
    have e2b : (expW y - remE x y).toNat = D := by omega
    have e3 : remM x y = mantW x % (mantW y * 2 ^ D) := by unfold remM; rw [e2, e2b, Nat.pow_zero, Nat.mul_one]
    have e4 : remO x y = decide (mantW x / (mantW y * 2 ^ D) % 2 = 1) := by unfold remO; rw [e2, e2b, Nat.pow_zero, Nat.mul_one]
    rw [e1, e3, e4]
    by_cases g : mantW y * 2 ^ D ≤ mantW x
    · have hD2 : D ≤ 60 := by
        rcases Nat.lt_or_ge 60 D with c | c
        · exfalso
          have h1 : (2 : Nat) ^ 61 ≤ 2 ^ D := Nat.pow_le_pow_right (by decide) c
          have h2 : 2 ^ D ≤ mantW y * 2 ^ D := Nat.le_mul_of_pos_left _ (by omega)
          omega
        · exact c
      exact rem_B4 a b _ _ _ _ hx hy hy0 lx ly D hD hD1 hD2 (by omega) g w
    · have hlt : mantW x < mantW y * 2 ^ D := by omega
      have e5 : decide (mantW x / (mantW y * 2 ^ D) % 2 = 1) = false := by rw [Nat.div_eq_of_lt hlt]; rfl
      rw [Nat.mod_eq_of_lt hlt, e5]
      by_cases c : 60 < D
      · exact rem_B1 a b _ _ _ _ hx hy hy0 lx ly D hD hD1 c w
      · by_cases c2 : 18446744073709551616 ≤ mantW y * 2 ^ D
        · exact rem_B2 a b _ _ _ _ hx hy hy0 lx ly D hD hD1 (by omega) c2 w
        · exact rem_B3 a b _ _ _ _ hx hy hy0 lx ly D hD hD1 (by omega) (by omega) hlt w

end Go.Proofs.Ytbpggopjiogimaa
