/- The contract of the reference's Bits, where the number fits (its mantissa is below 2 to 53 and its power is not below -1074): it is the nearest word. -/
import Derived.Test.YtbpggopjiogimaaWalkF5
import Derived.Test.YtbpggopjiogimaaFSpec
set_option linter.unusedVariables false
namespace Go.Proofs.Ytbpggopjiogimaa
open Go.RowKit Go.Proofs.Ytbpggopjiogimaa.Plain

theorem sign_any (n : Bool) (w : World) :
    Calls Try.prog 35 #[.bool n] w fun e w' => e = .returned (.int .u64 (signW n : Int)) ∧ w = w' := by
  cases n
  · exact signSpec_f w
  · exact signSpec_t w

set_option maxHeartbeats 1000000 in
theorem bits_fit (n : Bool) (m : Nat) (e : Int) (hm0 : m ≠ 0) (hm : m < 9007199254740992) (he : -1074 ≤ e) (he2 : e < 10000) (w : World) :
    Calls Try.prog 21 #[.agg #[.bool n, .int .u64 (m : Int), .int .i64 e]] w fun e' w' => e' = .returned (.int .u64 (near n m e : Int)) ∧ Grown w w' := by
  have t1 : ∀ _ : True, ((m : Int) == 0) = false := fun _ => by simp; omega
  obtain ⟨N, hN⟩ : ∃ N, near n m e = N := ⟨_, rfl⟩
  rw [hN]
  have H0 := Lib.hid (And.intro hm0 (And.intro hm (And.intro he (And.intro he2 hN))))
  clear hm0 hm he he2 hN
  go_enter Try.func21, Try.ntmps21
  go_wp2
  go_quiet (fail)
  go_wp2
  go_loop [3, 4] (fun mv ev => ∃ (m' : Nat) (e' : Int), mv = .int .u64 (m' : Int) ∧ ev = .int .i64 e' ∧ m' ≠ 0 ∧ m' < 9007199254740992 ∧ -1074 ≤ e' ∧ e' < 10000 ∧ near n m' e' = N) (fun mv _ => (9007199254740992 - intOf mv).toNat)
  case atStart => exact ⟨m, e, rfl, rfl, H0.out⟩
  case round =>
    obtain ⟨m', e', rfl, rfl, q1, q2, q3, q4, q5⟩ := hrel
    rcases (by omega : (m' < 4503599627370496 ∧ -1074 < e') ∨ (4503599627370496 ≤ m' ∧ e' ≤ 971) ∨ (4503599627370496 ≤ m' ∧ 971 < e') ∨ (m' < 4503599627370496 ∧ e' = -1074)) with c | c | c | c
    · have s1 : ∀ _ : True, decide ((m' : Int) < 4503599627370496) = true := fun _ => by simp; omega
      have s2 : ∀ _ : True, decide (-1074 < e') = true := fun _ => by simp; omega
      have r1 : ∀ _ : True, IntKind.u64.wrap ((m' : Int) * 2) = ((2 * m' : Nat) : Int) := fun _ => by rw [IntKind.wrap_u64]; omega
      have w1 : wrap64 (e' - 1) = e' - 1 := by unfold wrap64; omega
      have HS := Lib.hid (And.intro q1 (And.intro q2 (And.intro q3 (And.intro q4 (And.intro q5 (And.intro c w1))))))
      clear q1 q2 q3 q4 q5 c w1
      go_wp2
      go_round
      case rel => exact ⟨2 * m', e' - 1, rfl, by rw [HS.out.2.2.2.2.2.2], by have := HS.out; omega, by have := HS.out; omega, by have := HS.out; omega, by have := HS.out; omega, by rw [near_double]; exact HS.out.2.2.2.2.1⟩
      case measure => have := HS.out; simp [intOf]; omega
    · skip
      have s1 : ∀ _ : True, decide ((m' : Int) < 4503599627370496) = false := fun _ => by simp; omega
      have s5 : ∀ _ : True, decide (971 < e') = false := fun _ => by simp; omega
      obtain ⟨q, hq⟩ : ∃ q : Nat, q = (e' + 1075).toNat := ⟨_, rfl⟩
      obtain ⟨f, hf⟩ : ∃ f : Nat, f = m' % 4503599627370496 := ⟨_, rfl⟩
      have hq2 : q < 2048 := by omega
      have hf2 : f < 4503599627370496 := by omega
      have x1 : ∀ _ : True, wrap64 (e' + 1075) = (q : Int) := fun _ => by unfold wrap64; omega
      have x1b : ∀ _ : True, IntKind.u64.wrap (wrap64 (e' + 1075)) = (q : Int) := fun _ => by rw [x1 trivial, IntKind.wrap_u64]; omega
      have x1c : ∀ _ : True, IntKind.u64.wrap (e' + 1075) = (q : Int) := fun _ => by rw [IntKind.wrap_u64]; omega
      have x6 : ∀ _ : True, IntKind.u64.wrap (q : Int) = (q : Int) := fun _ => by rw [IntKind.wrap_u64]; omega
      have x2 : ∀ _ : True, IntKind.u64.wrap ((q : Int) * 4503599627370496) = ((q * 4503599627370496 : Nat) : Int) := fun _ => by rw [IntKind.wrap_u64]; omega
      have x3 : ∀ _ : True, _ = _ := fun _ => or_sgn (q * 4503599627370496) n (by omega)
      have x4 : ∀ _ : True, _ = _ := fun _ => (mf_num m').trans (by rw [show mf m' = f from hf.symm])
      have x5 : ∀ _ : True, _ = _ := fun _ => or_field n q f hq2 hf2
      have hN := near_mid n m' e' q3 c.2 q2 c.1
      rw [← hq, ← hf, q5] at hN
      rw [← hN] at x5
      generalize wordD n (q * 4503599627370496) = u at x3 x5
      generalize q * 4503599627370496 = v at x2 x3
      clear hq hf hq2 hf2 hN
      have s2 : ∀ _ : True, decide ((9007199254740992 : Int) ≤ (m' : Int)) = false := fun _ => by simp; omega
      have s3 : ∀ _ : True, decide (e' < -1074) = false := fun _ => by simp; omega
      have HS := Lib.hid (And.intro q1 (And.intro q2 (And.intro q3 (And.intro q4 (And.intro q5 c)))))
      clear q1 q2 q3 q4 q5 c H0
      go_wp2
      go_loop [3, 4] (fun mv ev => mv = .int .u64 (m' : Int) ∧ ev = .int .i64 e') (fun _ _ => 0)
      case atStart => exact ⟨rfl, rfl⟩
      case round =>
        obtain ⟨rfl, rfl⟩ := hrel
        go_wp2_with (go_at_call 35; refine (sign_any n _).mono ?_; rintro e w' ⟨rfl, rfl⟩)
        go_ret
        exact ⟨rfl, fgrownT ((Grown.refl _).alloc _ _) (fgrownD ⟨_, rfl⟩)⟩
    · skip
      have s1 : ∀ _ : True, decide ((m' : Int) < 4503599627370496) = false := fun _ => by simp; omega
      have s5 : ∀ _ : True, decide (971 < e') = true := fun _ => by simp; omega
      have x3 : ∀ _ : True, bits .or .u64 (signW n : Int) 9218868437227405312 = (wordD n 9218868437227405312 : Int) := fun _ => or_sgn 9218868437227405312 n (by omega)
      have hN := near_over n m' e' c.2 q2 c.1
      rw [q5] at hN
      rw [← hN] at x3
      clear hN
      have s2 : ∀ _ : True, decide ((9007199254740992 : Int) ≤ (m' : Int)) = false := fun _ => by simp; omega
      have s3 : ∀ _ : True, decide (e' < -1074) = false := fun _ => by simp; omega
      have HS := Lib.hid (And.intro q1 (And.intro q2 (And.intro q3 (And.intro q4 (And.intro q5 c)))))
      clear q1 q2 q3 q4 q5 c H0
      go_wp2
      go_loop [3, 4] (fun mv ev => mv = .int .u64 (m' : Int) ∧ ev = .int .i64 e') (fun _ _ => 0)
      case atStart => exact ⟨rfl, rfl⟩
      case round =>
        obtain ⟨rfl, rfl⟩ := hrel
        go_wp2_with (go_at_call 35; refine (sign_any n _).mono ?_; rintro e w' ⟨rfl, rfl⟩)
        go_ret
        exact ⟨rfl, fgrownT ((Grown.refl _).alloc _ _) (fgrownD ⟨_, rfl⟩)⟩
    · skip
      have s1 : ∀ _ : True, decide ((m' : Int) < 4503599627370496) = true := fun _ => by simp; omega
      have s4 : ∀ _ : True, decide (-1074 < e') = false := fun _ => by simp; omega
      have s5 : ∀ _ : True, decide (971 < e') = false := fun _ => by simp; omega
      have x3 : ∀ _ : True, _ = _ := fun _ => or_sgn m' n (by omega)
      have hN := near_low n m' c.1
      rw [← c.2, q5] at hN
      rw [← hN] at x3
      clear hN
      have s2 : ∀ _ : True, decide ((9007199254740992 : Int) ≤ (m' : Int)) = false := fun _ => by simp; omega
      have s3 : ∀ _ : True, decide (e' < -1074) = false := fun _ => by simp; omega
      have HS := Lib.hid (And.intro q1 (And.intro q2 (And.intro q3 (And.intro q4 (And.intro q5 c)))))
      clear q1 q2 q3 q4 q5 c H0
      go_wp2
      go_loop [3, 4] (fun mv ev => mv = .int .u64 (m' : Int) ∧ ev = .int .i64 e') (fun _ _ => 0)
      case atStart => exact ⟨rfl, rfl⟩
      case round =>
        obtain ⟨rfl, rfl⟩ := hrel
        go_wp2_with (go_at_call 35; refine (sign_any n _).mono ?_; rintro e w' ⟨rfl, rfl⟩)
        go_ret
        exact ⟨rfl, fgrownT ((Grown.refl _).alloc _ _) (fgrownD ⟨_, rfl⟩)⟩

theorem bits_zero (n : Bool) (e : Int) (w : World) :
    Calls Try.prog 21 #[.agg #[.bool n, .int .u64 0, .int .i64 e]] w fun e' w' => e' = .returned (.int .u64 (wordD n 0 : Int)) ∧ Grown w w' := by
  have hN : signW n = wordD n 0 := by cases n <;> rfl
  rw [← hN]
  clear hN
  go_enter Try.func21, Try.ntmps21
  go_wp2
  go_quiet (fail)
  go_wp2_with (go_at_call 35; refine (sign_any n _).mono ?_; rintro e w' ⟨rfl, rfl⟩)
  go_ret
  exact ⟨rfl, fgrownT ((Grown.refl _).alloc _ _) (fgrownD ⟨_, rfl⟩)⟩
theorem bits_near (n : Bool) (m : Nat) (e : Int) (hm : m < 9007199254740992) (he : -1074 ≤ e) (he2 : e < 10000) (w : World) :
    Calls Try.prog 21 #[.agg #[.bool n, .int .u64 (m : Int), .int .i64 e]] w fun e' w' => e' = .returned (.int .u64 (near n m e : Int)) ∧ Grown w w' := by
  by_cases h : m = 0
  · subst h; rw [near_zero]; exact bits_zero n e w
  · exact bits_fit n m e h hm he he2 w
end Go.Proofs.Ytbpggopjiogimaa
