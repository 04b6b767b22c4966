/- The contract of the reference's Trailing: the place of the lowest bit that is 1, n of 0. -/
import Derived.Test.YthiodfepkfolpaaRows
import Derived.WalkKit
import Derived.WalkLawsBesides
import Derived.WalkSpells
import Derived.LoopTactic
import Derived.Outline
import Derived.Lib.Hide
import Derived.Deep.QuietTactic
import Derived.BigQuiet
import Derived.Test.YthiodfepkfolpaaBack
import Derived.Test.YthiodfepkfolpaaWalk1
import Derived.Test.YthiodfepkfolpaaWalk2
set_option linter.unusedVariables false
namespace Go.Proofs.Ythiodfepkfolpaa
open Go.RowKit Go.Proofs.Ythiodfepkfolpaa.Plain

theorem grownD5 {w w' : World} (h : ∃ m, w' = w.drewN m) : Grown w w' := by obtain ⟨m, rfl⟩ := h; exact Grown.refl w
theorem qs5 {P : Program} {f : FuncId} {args : Array Value} {w : World} {n : Nat} {v : Value} (h : Calls P f args (w.drewN n) fun e w' => e = .returned v ∧ w.drewN n = w') :
    Calls P f args (w.drewN n) fun e w'' => e = .returned v ∧ ∃ m, w'' = w.drewN m := h.mono fun _ _ ⟨he, hm⟩ => ⟨he, n, hm.symm⟩
end Go.Proofs.Ythiodfepkfolpaa
