/- The contracts of the reference's Place and Next (64 bits) and of the package's Nextafter: by the bits. -/
import Derived.Test.YtmopnnbhpeaiaaaWalkF2
import Derived.Test.YtmopnnbhpeaiaaaFOrd
set_option linter.unusedVariables false
namespace Go.Proofs.Ytmopnnbhpeaiaaa
open Go.RowKit Go.Proofs.Ytmopnnbhpeaiaaa.Plain

set_option maxHeartbeats 400000 in
theorem place_any (b : Nat) (hb : b < 18446744073709551616) (w : World) :
    Calls Try.prog 23 #[.int .u64 (b : Int), .int .i64 64] w fun e w' => e = .returned (.int .i64 (place b)) ∧ w = w' := by
  have e := place_num b hb
  generalize place b = p at e ⊢
  by_cases h : 9223372036854775808 ≤ b
  · rw [if_pos h] at e
    have t1 : ∀ _ : True, decide ((9223372036854775808 : Int) ≤ (b : Int)) = true := fun _ => by simp; omega
    have r1 : ∀ _ : True, IntKind.u64.wrap ((b : Int) - 9223372036854775808) = ((b - 9223372036854775808 : Nat) : Int) := fun _ => sub_topN b hb h
    obtain ⟨q, hq⟩ : ∃ q, q = b - 9223372036854775808 := ⟨_, rfl⟩
    rw [← hq] at r1
    have r2 : ∀ _ : True, wrap64 (q : Int) = (q : Int) := fun _ => by unfold wrap64; omega
    have r3 : ∀ _ : True, wrap64 (-(q : Int)) = p := fun _ => by unfold wrap64; omega
    have r4 : ∀ _ : True, wrap64 (0 - (q : Int)) = p := fun _ => by unfold wrap64; omega
    clear e h hb hq
    go_enter Try.func23, Try.ntmps23
    go_wp2
    go_ret
    exact ⟨ret_int (r3 trivial), rfl⟩
  rw [if_neg h] at e
  have t1 : ∀ _ : True, decide ((9223372036854775808 : Int) ≤ (b : Int)) = false := fun _ => by simp; omega
  have r2 : ∀ _ : True, wrap64 (b : Int) = p := fun _ => by unfold wrap64; omega
  clear e h hb
  go_enter Try.func23, Try.ntmps23
  go_wp2
  go_ret
  exact ⟨ret_int (r2 trivial), rfl⟩

end Go.Proofs.Ytmopnnbhpeaiaaa
