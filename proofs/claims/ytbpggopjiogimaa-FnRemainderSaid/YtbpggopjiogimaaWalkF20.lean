/- The contract of the reference's Mod. -/
import Derived.Test.YtbpggopjiogimaaWalkF19
import Derived.Test.YtbpggopjiogimaaWalkF5
import Derived.Deep.RegionHeld
set_option linter.unusedVariables false
namespace Go.Proofs.Ytbpggopjiogimaa
open Go.RowKit Go.Proofs.Ytbpggopjiogimaa.Plain
theorem grown_cells {W w2 : World} (hg : Grown W w2) : ∀ b off, b < W.heap.size → w2.cell? ⟨b, off, none⟩ = W.cell? ⟨b, off, none⟩ := fun b off h => hg.1.cell h (fun h => h)
theorem held_alloc {w W : World} {b : Nat} {v0 v1 v2 : Value} (c : Array Value) (t : TypeId) (h : W.cell? ⟨b, 0, none⟩ = some v0 ∧ W.cell? ⟨b, 1, none⟩ = some v1 ∧ W.cell? ⟨b, 2, none⟩ = some v2 ∧ b < W.heap.size ∧ GrownH w W) :
    (W.alloc (.cells c t)).cell? ⟨b, 0, none⟩ = some v0 ∧ (W.alloc (.cells c t)).cell? ⟨b, 1, none⟩ = some v1 ∧ (W.alloc (.cells c t)).cell? ⟨b, 2, none⟩ = some v2 ∧ b < (W.alloc (.cells c t)).heap.size ∧ GrownH w (W.alloc (.cells c t)) :=
  held_next ((Grown.refl W).alloc c t) h
theorem held_set {w W : World} {b g off : Nat} {v0 v1 v2 v : Value} (hg : b < g) (hw : w.heap.size ≤ b) (h : W.cell? ⟨b, 0, none⟩ = some v0 ∧ W.cell? ⟨b, 1, none⟩ = some v1 ∧ W.cell? ⟨b, 2, none⟩ = some v2 ∧ b < W.heap.size ∧ GrownH w W) :
    (W.setCell ⟨g, off, none⟩ v).cell? ⟨b, 0, none⟩ = some v0 ∧ (W.setCell ⟨g, off, none⟩ v).cell? ⟨b, 1, none⟩ = some v1 ∧ (W.setCell ⟨g, off, none⟩ v).cell? ⟨b, 2, none⟩ = some v2 ∧ b < (W.setCell ⟨g, off, none⟩ v).heap.size ∧ GrownH w (W.setCell ⟨g, off, none⟩ v) := by
  obtain ⟨h0, h1, h2, h3, h4⟩ := h
  have hne : b ≠ g := by omega
  have hsz : (W.setCell ⟨g, off, none⟩ v).heap.size = W.heap.size := by simp [World.setCell]
  have hc : ∀ o, (W.setCell ⟨g, off, none⟩ v).cell? ⟨b, o, none⟩ = W.cell? ⟨b, o, none⟩ := fun o => by
    exact World.cell?_setCell_far W ⟨g, off, none⟩ ⟨b, o, none⟩ v (fun h => hne h.symm)
  exact ⟨(hc 0).trans h0, (hc 1).trans h1, (hc 2).trans h2, by rw [hsz]; exact h3, ⟨h4.out.setCell (by show w.heap.size ≤ g; omega) v⟩⟩

set_option maxHeartbeats 4000000 in
theorem smod_any (x y : Nat) (hx : x < 18446744073709551616) (hy : y < 18446744073709551616) (h0 : rung y ≠ 0) (w : World) :
    Calls Try.prog 15 #[.int .u64 (x : Int), .int .u64 (y : Int)] w fun e w' => e = .returned (.int .u64 (modW x y : Int)) ∧ Grown w w' := by
  have hm0 : mantW y ≠ 0 := fun g => h0 ((mantW_zero y).1 g)
  have cx := fun w => of_any x hx w
  have cy := fun w => of_any y hy w
  have cr := fun w => rem_any (negB x) (negB y) x y hm0 w
  have hrl := remM_lt x y hm0
  have hre := remE_lo x y
  have hN := rem_mod x y (negB x)
  unfold modW
  rw [← hN]
  have cb := fun w => bits_near (negB x) (remM x y) (remE x y) hrl (by omega) (by omega) w
  generalize near (negB x) (remM x y) (remE x y) = N at *
  clear hN h0
  generalize remM x y = rm at *
  generalize remE x y = re at *
  generalize remO x y = ro at *
  generalize mantW x = xm at *
  generalize expW x = xe at *
  generalize negB x = xn at *
  generalize mantW y = ym at *
  generalize expW y = ye at *
  generalize negB y = yn at *
  clear hm0 hrl hre
  go_enter Try.func15, Try.ntmps15
  go_wp2_with fail
  refine (cx _).mono ?_
  rintro e w1 ⟨rfl, hg1⟩
  go_wp2_with fail
  have hw1 := hg1.2.2
  obtain ⟨WA, hWA⟩ : ∃ WA, WA = ((w1.alloc (.cells #[.bool xn, .int .u64 (xm : Int), .int .i64 xe] 30)).alloc (.cells #[.bool false, .int .u64 0, .int .i64 0] 30)).drew := ⟨_, rfl⟩
  have HA : WA.cell? ⟨w1.heap.size, 0, none⟩ = some (.bool xn) ∧ WA.cell? ⟨w1.heap.size, 1, none⟩ = some (.int .u64 (xm : Int)) ∧ WA.cell? ⟨w1.heap.size, 2, none⟩ = some (.int .i64 xe) ∧ w1.heap.size < WA.heap.size ∧ GrownH w WA := by
    refine ⟨?_, ?_, ?_, ?_, ?_⟩
    · rw [hWA]; go_keep
    · rw [hWA]; go_keep
    · rw [hWA]; go_keep
    · rw [hWA]; simp; omega
    · rw [hWA]; exact ⟨((hg1.alloc _ _).alloc _ _).drew⟩
  rw [hWA] at HA
  clear hWA WA
  go_region_held3 (fun w' => w'.cell? ⟨w1.heap.size, 0, none⟩ = some (.bool xn) ∧ w'.cell? ⟨w1.heap.size, 1, none⟩ = some (.int .u64 (xm : Int)) ∧ w'.cell? ⟨w1.heap.size, 2, none⟩ = some (.int .i64 xe) ∧ w1.heap.size < w'.heap.size ∧ GrownH w w')
    (first | (with_reducible assumption) | (with_reducible refine held_next hg3 ?_; with_reducible assumption) | (with_reducible refine held_next hg2 ?_; with_reducible assumption) | (with_reducible refine held_alloc _ _ ?_; with_reducible assumption) | ((with_reducible refine held_set ?_ hw1 (held_set ?_ hw1 (held_set ?_ hw1 ?_))) <;> first | (with_reducible assumption) | (simp; done) | (simp; omega)) | (with_reducible exact held_alloc _ _ S3) | ((with_reducible refine ⟨?_, ?_, ?_, ?_, ⟨(hg1.alloc _ _).drew⟩⟩) <;> go_keep) | ((with_reducible refine ⟨?_, ?_, ?_, ?_, ⟨((hg1.alloc _ _).alloc _ _).drew⟩⟩) <;> go_keep) | exact HA)
    (first | (go_at_call 19; refine (cy (World.drew ((w1.alloc (.cells #[.bool xn, .int .u64 (xm : Int), .int .i64 xe] 30)).alloc (.cells #[.bool false, .int .u64 0, .int .i64 0] 30)))).mono ?_; rintro e w2 ⟨rfl, hg2⟩; have hfz2 := hg2.2.1; have hcl2 := grown_cells hg2; have S2 := held_next hg2 (by assumption); have hs2 := S2.2.2.2.1; have f0 : w2.cell? ⟨w1.heap.size + 1, 0, none⟩ = some (.bool false) := (hcl2 _ 0 (by simp)).trans (by simp); have f1 : w2.cell? ⟨w1.heap.size + 1, 1, none⟩ = some (.int .u64 0) := (hcl2 _ 1 (by simp)).trans (by simp); have f2 : w2.cell? ⟨w1.heap.size + 1, 2, none⟩ = some (.int .i64 0) := (hcl2 _ 2 (by simp)).trans (by simp); have hz2 : w1.heap.size + 1 < w2.heap.size := Nat.lt_of_lt_of_le (by simp) hg2.2.2) | (go_at_call 19; refine (cy _).mono ?_; rintro e w2 ⟨rfl, hg2⟩; have hfz2 := hg2.2.1; have hcl2 := grown_cells hg2; have S2 := held_next hg2 (by assumption); have hs2 := S2.2.2.2.1) | (go_at_call 30; refine (cr _).mono ?_; rintro e w3 ⟨rfl, hg3⟩; have hfz3 := hg3.2.1; have hcl3 := grown_cells hg3; have S3 := held_next hg3 (by assumption); have hs3 := S3.2.2.2.1; have f0b := (hcl3 _ 0 hz2).trans f0; have f1b := (hcl3 _ 1 hz2).trans f1; have f2b := (hcl3 _ 2 hz2).trans f2) | (go_at_call 30; refine (cr (w2.alloc (.cells #[.bool false, .int .u64 0, .int .i64 0] 30))).mono ?_; rintro e w3 ⟨rfl, hg3⟩; have hfz3 := hg3.2.1; have hcl3 := grown_cells hg3; have S3 := held_next hg3 (by assumption); have hs3 := S3.2.2.2.1; have f0b : w3.cell? ⟨w2.heap.size, 0, none⟩ = some (.bool false) := (hcl3 _ 0 (by simp)).trans (by simp); have f1b : w3.cell? ⟨w2.heap.size, 1, none⟩ = some (.int .u64 0) := (hcl3 _ 1 (by simp)).trans (by simp); have f2b : w3.cell? ⟨w2.heap.size, 2, none⟩ = some (.int .i64 0) := (hcl3 _ 2 (by simp)).trans (by simp)) | (go_at_call 30; refine (cr _).mono ?_; rintro e w3 ⟨rfl, hg3⟩; have hfz3 := hg3.2.1; have hcl3 := grown_cells hg3; have S3 := held_next hg3 (by assumption); have hs3 := S3.2.2.2.1))
  all_goals (rename_i hHeld; obtain ⟨k0, k1, k2, k3, k4⟩ := hHeld)
  all_goals go_wp2_with fail
  all_goals (refine (cb _).mono ?_; rintro e w4 ⟨rfl, hg4⟩)
  all_goals go_wp2
  all_goals go_ret
  · exact ⟨rfl, fgrownT (S3.2.2.2.2.out.alloc _ _) hg4⟩
  · exact ⟨rfl, fgrownT (k4.out.setCell (by show w.heap.size ≤ w2.heap.size; omega) _) hg4⟩
  · exact ⟨rfl, fgrownT (k4.out.setCell (by show w.heap.size ≤ w1.heap.size + 1; omega) _) hg4⟩

end Go.Proofs.Ytbpggopjiogimaa
