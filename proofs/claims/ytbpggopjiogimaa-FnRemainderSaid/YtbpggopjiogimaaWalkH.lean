/- What a region that draws its order keeps: the cells of a struct of three fields, in a world that has grown. -/
import Derived.Test.YtbpggopjiogimaaWalkF1
import Derived.Deep.RegionHeld3
set_option linter.unusedVariables false
namespace Go.Proofs.Ytbpggopjiogimaa
open Go.RowKit Go.Proofs.Ytbpggopjiogimaa.Plain

/-- Grown, kept whole -/
structure GrownH (w w' : World) : Prop where
  out : Grown w w'
theorem held_next {w W w2 : World} {b : Nat} {v0 v1 v2 : Value} (hg : Grown W w2) (h : W.cell? ⟨b, 0, none⟩ = some v0 ∧ W.cell? ⟨b, 1, none⟩ = some v1 ∧ W.cell? ⟨b, 2, none⟩ = some v2 ∧ b < W.heap.size ∧ GrownH w W) :
    w2.cell? ⟨b, 0, none⟩ = some v0 ∧ w2.cell? ⟨b, 1, none⟩ = some v1 ∧ w2.cell? ⟨b, 2, none⟩ = some v2 ∧ b < w2.heap.size ∧ GrownH w w2 := by
  obtain ⟨h0, h1, h2, h3, h4⟩ := h
  exact ⟨(hg.1.cell h3 (fun h => h)).trans h0, (hg.1.cell h3 (fun h => h)).trans h1, (hg.1.cell h3 (fun h => h)).trans h2, Nat.lt_of_lt_of_le h3 hg.2.2, ⟨fgrownT h4.out hg⟩⟩
theorem held_out {w W : World} {b : Nat} {v0 v1 v2 : Value} (h : W.cell? ⟨b, 0, none⟩ = some v0 ∧ W.cell? ⟨b, 1, none⟩ = some v1 ∧ W.cell? ⟨b, 2, none⟩ = some v2 ∧ b < W.heap.size ∧ GrownH w W) : Grown w W := h.2.2.2.2.out

end Go.Proofs.Ytbpggopjiogimaa
