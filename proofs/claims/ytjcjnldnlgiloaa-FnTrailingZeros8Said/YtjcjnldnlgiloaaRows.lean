/-
  No cell of these rows narrows 'for every input' (looked for: loops, veiled, ifaces, maps, wideKeys, modest, calm, conditions, laid).
  DERIVED. THE GIVEN ROWS OF THIS SEAT. 2 by the template 'for every input the law returns true; each argument reads behind the call as it read before'; 0 by the template 'total and deterministic' (their statements: YtjcjnldnlgiloaaTotals.lean).
  GIVEN WITH THE SEED: the statements are not yours to turn. If you find one false, say at which input.
  Laid BY PROGRAM, IN A SANDBOX (cutbox-rows.mjs): the forced cells as the released guide's own fill.sh prints them over the translation 5cb4d40c1a3fd64f… (all of the seat's roots in one cut). By AI agents, Wed Nov 11 2026. No macro, syntax, notation, axiom, sorry.
-/
import Derived.Test.YtjcjnldnlgiloaaChecked
import GoSem.Claim
import GoSem.ClaimJoined
import GoSem.ClaimMapViews
import Derived.JoinedTies
import Derived.KernelRfl
namespace Go.Proofs.Ytjcjnldnlgiloaa
/- THE CELL 'sum', in the pinned program and in every row, IS THE sha256 OF THE DUMP (.gsa) THAT YtjcjnldnlgiloaaProg.lean LOADS. Nothing in Lean hashes anything: it is a label: what it is worth is what the hold of that sum in a sandbox is worth. -/
noncomputable def Try.pinned : Pinned := { name := "ytjcjnldnlgiloaa", sum := "5cb4d40c1a3fd64fae1ed8967847973a5cfa0c15e3f5f90dd52d9356faaf9e71", checked := Try.checked }
namespace Rows
def none {H : Type} : Left H := { results := [], args := [] }

/-- 'laws.FnTrailingZeros8': WHATEVER THE INPUT: true; the input reads as it did. -/
def fnTrailingZeros8Spec : ChangeSpec := { name := "fnTrailingZeros8", fn := fun _ => fun
  | [d] => { results := [.lit (.bool true)], args := [d] }
  | _ => none }
def fnTrailingZeros8Row : OpenClaim := { program := "ytjcjnldnlgiloaa", sum := "5cb4d40c1a3fd64fae1ed8967847973a5cfa0c15e3f5f90dd52d9356faaf9e71", func := "loop.example/pub-g03429/laws.FnTrailingZeros8", spec := "fnTrailingZeros8", apart := false }
def FnTrailingZeros8Said : Prop := fnTrailingZeros8Row.holds Try.pinned (OpenSpec.ofChange fnTrailingZeros8Spec)

/-- ITS FALSE NEIGHBOUR: 'it returns false'. Refute it at one input. -/
def fnTrailingZeros8Wrong : ChangeSpec := { name := "fnTrailingZeros8", fn := fun _ => fun
  | [d] => { results := [.lit (.bool false)], args := [d] }
  | _ => none }
def FnTrailingZeros8WrongFalsely : Prop := fnTrailingZeros8Row.holds Try.pinned (OpenSpec.ofChange fnTrailingZeros8Wrong)

/-- 'laws.FnLenZeros8': WHATEVER THE INPUT: true; the input reads as it did. -/
def fnLenZeros8Spec : ChangeSpec := { name := "fnLenZeros8", fn := fun _ => fun
  | [d] => { results := [.lit (.bool true)], args := [d] }
  | _ => none }
def fnLenZeros8Row : OpenClaim := { program := "ytjcjnldnlgiloaa", sum := "5cb4d40c1a3fd64fae1ed8967847973a5cfa0c15e3f5f90dd52d9356faaf9e71", func := "loop.example/pub-g03429/laws.FnLenZeros8", spec := "fnLenZeros8", apart := false }
def FnLenZeros8Said : Prop := fnLenZeros8Row.holds Try.pinned (OpenSpec.ofChange fnLenZeros8Spec)

/-- ITS FALSE NEIGHBOUR: 'it returns false'. Refute it at one input. -/
def fnLenZeros8Wrong : ChangeSpec := { name := "fnLenZeros8", fn := fun _ => fun
  | [d] => { results := [.lit (.bool false)], args := [d] }
  | _ => none }
def FnLenZeros8WrongFalsely : Prop := fnLenZeros8Row.holds Try.pinned (OpenSpec.ofChange fnLenZeros8Wrong)

/- THE SECOND FORM. 'bulk': how many values and letters a reading holds, each counted each time it is reached (what is shared counts as often as it is met; a slice's spare places count too). A statement '..UptoSaid' is the law's where the arguments, and the package variables that the reading takes, are together of bulk at most 1048576: NARROWER than '..Said'. Prove '..Said' where nothing that the law and all that it calls make is longer than what came in: it says more and counts as full. Else prove '..UptoSaid'. A law counts once. -/
mutual
def uptoBulk {H : Type} : DataW H → Nat
  | .lit (.string bytes) => bytes.length + 1
  | .lit _ => 1
  | .nil => 1
  | .ptr d => uptoBulk d + 1
  | .slice elems spare => uptoBulkAll elems + uptoBulkAll spare + 1
  | .agg parts => uptoBulkAll parts + 1
  | .iface _ d => uptoBulk d + 1
  | .map entries => uptoBulkEntries entries + 1
  | .held _ => 1
def uptoBulkAll {H : Type} : List (DataW H) → Nat
  | [] => 0
  | d :: r => uptoBulk d + uptoBulkAll r
def uptoBulkEntries {H : Type} : List (Lit × DataW H) → Nat
  | [] => 0
  | x :: r => uptoBulkEntry x + uptoBulkEntries r
def uptoBulkEntry {H : Type} : Lit × DataW H → Nat
  | (.string bytes, d) => bytes.length + uptoBulk d + 1
  | (_, d) => uptoBulk d + 1
 end
def uptoSmall : (H : Type) → List (DataW H) → Bool := fun _ ds => decide (uptoBulkAll ds ≤ 1048576)
def OpenSpec.upto (s : _root_.Go.ChangeSpec) : _root_.Go.OpenSpec := { _root_.Go.OpenSpec.ofChange s with cond := some uptoSmall }

/-- 'laws.FnTrailingZeros8', WHERE WHAT IT READS IS OF BULK AT MOST 1048576: true; the input reads as it did. -/
def fnTrailingZeros8UptoRow : OpenClaim := { program := "ytjcjnldnlgiloaa", sum := "5cb4d40c1a3fd64fae1ed8967847973a5cfa0c15e3f5f90dd52d9356faaf9e71", func := "loop.example/pub-g03429/laws.FnTrailingZeros8", spec := "fnTrailingZeros8", apart := false, narrowed := true }
def FnTrailingZeros8UptoSaid : Prop := fnTrailingZeros8UptoRow.holds Try.pinned (OpenSpec.upto fnTrailingZeros8Spec)

/-- 'laws.FnLenZeros8', WHERE WHAT IT READS IS OF BULK AT MOST 1048576: true; the input reads as it did. -/
def fnLenZeros8UptoRow : OpenClaim := { program := "ytjcjnldnlgiloaa", sum := "5cb4d40c1a3fd64fae1ed8967847973a5cfa0c15e3f5f90dd52d9356faaf9e71", func := "loop.example/pub-g03429/laws.FnLenZeros8", spec := "fnLenZeros8", apart := false, narrowed := true }
def FnLenZeros8UptoSaid : Prop := fnLenZeros8UptoRow.holds Try.pinned (OpenSpec.upto fnLenZeros8Spec)

end Rows
end Go.Proofs.Ytjcjnldnlgiloaa
