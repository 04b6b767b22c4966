/- The contract of the reference's Of: by the bits. -/
import Derived.Test.YtbpggopjiogimaaWalkF1
import Derived.Test.YtbpggopjiogimaaFOf
set_option linter.unusedVariables false
namespace Go.Proofs.Ytbpggopjiogimaa
open Go.RowKit Go.Proofs.Ytbpggopjiogimaa.Plain

set_option maxHeartbeats 400000 in
theorem of_sub (b : Nat) (hb : b < 18446744073709551616) (h : ef b = 0) (w : World) :
    Calls Try.prog 19 #[.int .u64 (b : Int)] w fun e w' => e = .returned (.agg #[.bool (negB b), .int .u64 (mantW b : Int), .int .i64 (expW b)]) ∧ Grown w w' := by
  have r1 : ∀ _ : True, _ = _ := fun _ => ef_num b
  have r2 : ∀ _ : True, _ = _ := fun _ => mf_num b
  have r3 : ∀ _ : True, _ = _ := fun _ => neg_top b hb
  have hE := ef_lt b
  have hM := mf_lt b
  rw [mantW_sub b h, expW_sub b h]
  generalize negB b = n at r3 ⊢
  generalize mf b = m at *
  generalize ef b = E at *
  have t1 : ∀ _ : True, decide ((0 : Int) < wrap64 (E : Int)) = false := fun _ => by subst h; unfold wrap64; decide
  have t2 : ∀ _ : True, decide ((0 : Int) < (E : Int)) = false := fun _ => by subst h; decide
  clear h hE hM hb
  go_enter Try.func19, Try.ntmps19
  go_wp2
  refine bodyPost_ret (results_cell_row rfl _ _ _ _ _ _ _ rfl (heap_alloc_new _ _) Try.underlying30 rfl (by kernel_rfl)) rfl ⟨?_, (Grown.refl _).alloc _ _⟩
  first | rfl | exact (by rw [w2 trivial])

set_option maxHeartbeats 400000 in
theorem of_norm (b : Nat) (hb : b < 18446744073709551616) (h : ef b ≠ 0) (w : World) :
    Calls Try.prog 19 #[.int .u64 (b : Int)] w fun e w' => e = .returned (.agg #[.bool (negB b), .int .u64 (mantW b : Int), .int .i64 (expW b)]) ∧ Grown w w' := by
  have r1 : ∀ _ : True, _ = _ := fun _ => ef_num b
  have r2 : ∀ _ : True, _ = _ := fun _ => mf_num b
  have r3 : ∀ _ : True, _ = _ := fun _ => neg_top b hb
  have hE := ef_lt b
  have hM := mf_lt b
  rw [mantW_norm b h, expW_norm b h]
  generalize negB b = n at r3 ⊢
  generalize mf b = m at *
  generalize ef b = E at *
  have w1 : ∀ _ : True, wrap64 (E : Int) = (E : Int) := fun _ => by unfold wrap64; omega
  have w2 : ∀ _ : True, wrap64 ((E : Int) - 1075) = (E : Int) - 1075 := fun _ => by unfold wrap64; omega
  have t1 : ∀ _ : True, decide ((0 : Int) < wrap64 (E : Int)) = true := fun _ => by rw [w1 trivial]; simp; omega
  have t2 : ∀ _ : True, decide ((0 : Int) < (E : Int)) = true := fun _ => by simp; omega
  have t3 : ∀ _ : True, decide (0 < E) = true := fun _ => by simp; omega
  have r4 : ∀ _ : True, _ = _ := fun _ => or_hidden m hM
  generalize 4503599627370496 + m = M at *
  clear h hE hM hb
  go_enter Try.func19, Try.ntmps19
  go_wp2
  refine bodyPost_ret (results_cell_row rfl _ _ _ _ _ _ _ rfl (heap_alloc_new _ _) Try.underlying30 rfl (by kernel_rfl)) rfl ⟨?_, (Grown.refl _).alloc _ _⟩
  first | rfl | exact (by rw [w2 trivial])

theorem of_any (b : Nat) (hb : b < 18446744073709551616) (w : World) :
    Calls Try.prog 19 #[.int .u64 (b : Int)] w fun e w' => e = .returned (.agg #[.bool (negB b), .int .u64 (mantW b : Int), .int .i64 (expW b)]) ∧ Grown w w' := by
  by_cases h : ef b = 0
  · exact of_sub b hb h w
  · exact of_norm b hb h w

end Go.Proofs.Ytbpggopjiogimaa
