/-
  No cell of these rows narrows 'for every input' (looked for: loops, veiled, ifaces, maps, wideKeys, modest, calm, conditions, laid).
  DERIVED. THE GIVEN ROWS OF THIS SEAT. 12 by the template 'for every input the law returns true; each argument reads behind the call as it read before'; 0 by the template 'total and deterministic' (their statements: YtbgfaikmcehlaaaTotals.lean).
  GIVEN WITH THE SEED: the statements are not yours to turn. If you find one false, say at which input.
  Laid BY PROGRAM, IN A SANDBOX (cutbox-rows.mjs): the forced cells as the released guide's own fill.sh prints them over the translation 31249ab7bce078b9… (all of the seat's roots in one cut). By AI agents, Wed Nov 11 2026. No macro, syntax, notation, axiom, sorry.
-/
import Derived.Test.YtbgfaikmcehlaaaChecked
import GoSem.Claim
import GoSem.ClaimJoined
import GoSem.ClaimMapViews
import Derived.JoinedTies
import Derived.KernelRfl
namespace Go.Proofs.Ytbgfaikmcehlaaa
/- THE CELL 'sum', in the pinned program and in every row, IS THE sha256 OF THE DUMP (.gsa) THAT YtbgfaikmcehlaaaProg.lean LOADS. Nothing in Lean hashes anything: it is a label: what it is worth is what the hold of that sum in a sandbox is worth. -/
noncomputable def Try.pinned : Pinned := { name := "ytbgfaikmcehlaaa", sum := "31249ab7bce078b9b146766cc59e0bd534c2912e923eaddd6ce5745d2daf18e5", checked := Try.checked }
namespace Rows
def none {H : Type} : Left H := { results := [], args := [] }

/-- 'laws.FnLen8': WHATEVER THE INPUT: true; the input reads as it did. -/
def fnLen8Spec : ChangeSpec := { name := "fnLen8", fn := fun _ => fun
  | [d] => { results := [.lit (.bool true)], args := [d] }
  | _ => none }
def fnLen8Row : OpenClaim := { program := "ytbgfaikmcehlaaa", sum := "31249ab7bce078b9b146766cc59e0bd534c2912e923eaddd6ce5745d2daf18e5", func := "loop.example/pub-g03429/laws.FnLen8", spec := "fnLen8", apart := false }
def FnLen8Said : Prop := fnLen8Row.holds Try.pinned (OpenSpec.ofChange fnLen8Spec)

/-- ITS FALSE NEIGHBOUR: 'it returns false'. Refute it at one input. -/
def fnLen8Wrong : ChangeSpec := { name := "fnLen8", fn := fun _ => fun
  | [d] => { results := [.lit (.bool false)], args := [d] }
  | _ => none }
def FnLen8WrongFalsely : Prop := fnLen8Row.holds Try.pinned (OpenSpec.ofChange fnLen8Wrong)

/-- 'laws.FnLen16': WHATEVER THE INPUT: true; the input reads as it did. -/
def fnLen16Spec : ChangeSpec := { name := "fnLen16", fn := fun _ => fun
  | [d] => { results := [.lit (.bool true)], args := [d] }
  | _ => none }
def fnLen16Row : OpenClaim := { program := "ytbgfaikmcehlaaa", sum := "31249ab7bce078b9b146766cc59e0bd534c2912e923eaddd6ce5745d2daf18e5", func := "loop.example/pub-g03429/laws.FnLen16", spec := "fnLen16", apart := false }
def FnLen16Said : Prop := fnLen16Row.holds Try.pinned (OpenSpec.ofChange fnLen16Spec)

/-- ITS FALSE NEIGHBOUR: 'it returns false'. Refute it at one input. -/
def fnLen16Wrong : ChangeSpec := { name := "fnLen16", fn := fun _ => fun
  | [d] => { results := [.lit (.bool false)], args := [d] }
  | _ => none }
def FnLen16WrongFalsely : Prop := fnLen16Row.holds Try.pinned (OpenSpec.ofChange fnLen16Wrong)

/-- 'laws.FnLen32': WHATEVER THE INPUT: true; the input reads as it did. -/
def fnLen32Spec : ChangeSpec := { name := "fnLen32", fn := fun _ => fun
  | [d] => { results := [.lit (.bool true)], args := [d] }
  | _ => none }
def fnLen32Row : OpenClaim := { program := "ytbgfaikmcehlaaa", sum := "31249ab7bce078b9b146766cc59e0bd534c2912e923eaddd6ce5745d2daf18e5", func := "loop.example/pub-g03429/laws.FnLen32", spec := "fnLen32", apart := false }
def FnLen32Said : Prop := fnLen32Row.holds Try.pinned (OpenSpec.ofChange fnLen32Spec)

/-- ITS FALSE NEIGHBOUR: 'it returns false'. Refute it at one input. -/
def fnLen32Wrong : ChangeSpec := { name := "fnLen32", fn := fun _ => fun
  | [d] => { results := [.lit (.bool false)], args := [d] }
  | _ => none }
def FnLen32WrongFalsely : Prop := fnLen32Row.holds Try.pinned (OpenSpec.ofChange fnLen32Wrong)

/-- 'laws.FnLen64': WHATEVER THE INPUT: true; the input reads as it did. -/
def fnLen64Spec : ChangeSpec := { name := "fnLen64", fn := fun _ => fun
  | [d] => { results := [.lit (.bool true)], args := [d] }
  | _ => none }
def fnLen64Row : OpenClaim := { program := "ytbgfaikmcehlaaa", sum := "31249ab7bce078b9b146766cc59e0bd534c2912e923eaddd6ce5745d2daf18e5", func := "loop.example/pub-g03429/laws.FnLen64", spec := "fnLen64", apart := false }
def FnLen64Said : Prop := fnLen64Row.holds Try.pinned (OpenSpec.ofChange fnLen64Spec)

/-- ITS FALSE NEIGHBOUR: 'it returns false'. Refute it at one input. -/
def fnLen64Wrong : ChangeSpec := { name := "fnLen64", fn := fun _ => fun
  | [d] => { results := [.lit (.bool false)], args := [d] }
  | _ => none }
def FnLen64WrongFalsely : Prop := fnLen64Row.holds Try.pinned (OpenSpec.ofChange fnLen64Wrong)

/-- 'laws.FnLeadingZeros8': WHATEVER THE INPUT: true; the input reads as it did. -/
def fnLeadingZeros8Spec : ChangeSpec := { name := "fnLeadingZeros8", fn := fun _ => fun
  | [d] => { results := [.lit (.bool true)], args := [d] }
  | _ => none }
def fnLeadingZeros8Row : OpenClaim := { program := "ytbgfaikmcehlaaa", sum := "31249ab7bce078b9b146766cc59e0bd534c2912e923eaddd6ce5745d2daf18e5", func := "loop.example/pub-g03429/laws.FnLeadingZeros8", spec := "fnLeadingZeros8", apart := false }
def FnLeadingZeros8Said : Prop := fnLeadingZeros8Row.holds Try.pinned (OpenSpec.ofChange fnLeadingZeros8Spec)

/-- ITS FALSE NEIGHBOUR: 'it returns false'. Refute it at one input. -/
def fnLeadingZeros8Wrong : ChangeSpec := { name := "fnLeadingZeros8", fn := fun _ => fun
  | [d] => { results := [.lit (.bool false)], args := [d] }
  | _ => none }
def FnLeadingZeros8WrongFalsely : Prop := fnLeadingZeros8Row.holds Try.pinned (OpenSpec.ofChange fnLeadingZeros8Wrong)

/-- 'laws.FnLeadingZeros16': WHATEVER THE INPUT: true; the input reads as it did. -/
def fnLeadingZeros16Spec : ChangeSpec := { name := "fnLeadingZeros16", fn := fun _ => fun
  | [d] => { results := [.lit (.bool true)], args := [d] }
  | _ => none }
def fnLeadingZeros16Row : OpenClaim := { program := "ytbgfaikmcehlaaa", sum := "31249ab7bce078b9b146766cc59e0bd534c2912e923eaddd6ce5745d2daf18e5", func := "loop.example/pub-g03429/laws.FnLeadingZeros16", spec := "fnLeadingZeros16", apart := false }
def FnLeadingZeros16Said : Prop := fnLeadingZeros16Row.holds Try.pinned (OpenSpec.ofChange fnLeadingZeros16Spec)

/-- ITS FALSE NEIGHBOUR: 'it returns false'. Refute it at one input. -/
def fnLeadingZeros16Wrong : ChangeSpec := { name := "fnLeadingZeros16", fn := fun _ => fun
  | [d] => { results := [.lit (.bool false)], args := [d] }
  | _ => none }
def FnLeadingZeros16WrongFalsely : Prop := fnLeadingZeros16Row.holds Try.pinned (OpenSpec.ofChange fnLeadingZeros16Wrong)

/-- 'laws.FnLeadingZeros32': WHATEVER THE INPUT: true; the input reads as it did. -/
def fnLeadingZeros32Spec : ChangeSpec := { name := "fnLeadingZeros32", fn := fun _ => fun
  | [d] => { results := [.lit (.bool true)], args := [d] }
  | _ => none }
def fnLeadingZeros32Row : OpenClaim := { program := "ytbgfaikmcehlaaa", sum := "31249ab7bce078b9b146766cc59e0bd534c2912e923eaddd6ce5745d2daf18e5", func := "loop.example/pub-g03429/laws.FnLeadingZeros32", spec := "fnLeadingZeros32", apart := false }
def FnLeadingZeros32Said : Prop := fnLeadingZeros32Row.holds Try.pinned (OpenSpec.ofChange fnLeadingZeros32Spec)

/-- ITS FALSE NEIGHBOUR: 'it returns false'. Refute it at one input. -/
def fnLeadingZeros32Wrong : ChangeSpec := { name := "fnLeadingZeros32", fn := fun _ => fun
  | [d] => { results := [.lit (.bool false)], args := [d] }
  | _ => none }
def FnLeadingZeros32WrongFalsely : Prop := fnLeadingZeros32Row.holds Try.pinned (OpenSpec.ofChange fnLeadingZeros32Wrong)

/-- 'laws.FnLeadingZeros64': WHATEVER THE INPUT: true; the input reads as it did. -/
def fnLeadingZeros64Spec : ChangeSpec := { name := "fnLeadingZeros64", fn := fun _ => fun
  | [d] => { results := [.lit (.bool true)], args := [d] }
  | _ => none }
def fnLeadingZeros64Row : OpenClaim := { program := "ytbgfaikmcehlaaa", sum := "31249ab7bce078b9b146766cc59e0bd534c2912e923eaddd6ce5745d2daf18e5", func := "loop.example/pub-g03429/laws.FnLeadingZeros64", spec := "fnLeadingZeros64", apart := false }
def FnLeadingZeros64Said : Prop := fnLeadingZeros64Row.holds Try.pinned (OpenSpec.ofChange fnLeadingZeros64Spec)

/-- ITS FALSE NEIGHBOUR: 'it returns false'. Refute it at one input. -/
def fnLeadingZeros64Wrong : ChangeSpec := { name := "fnLeadingZeros64", fn := fun _ => fun
  | [d] => { results := [.lit (.bool false)], args := [d] }
  | _ => none }
def FnLeadingZeros64WrongFalsely : Prop := fnLeadingZeros64Row.holds Try.pinned (OpenSpec.ofChange fnLeadingZeros64Wrong)

/-- 'laws.FnOnesCount8': WHATEVER THE INPUT: true; the input reads as it did. -/
def fnOnesCount8Spec : ChangeSpec := { name := "fnOnesCount8", fn := fun _ => fun
  | [d] => { results := [.lit (.bool true)], args := [d] }
  | _ => none }
def fnOnesCount8Row : OpenClaim := { program := "ytbgfaikmcehlaaa", sum := "31249ab7bce078b9b146766cc59e0bd534c2912e923eaddd6ce5745d2daf18e5", func := "loop.example/pub-g03429/laws.FnOnesCount8", spec := "fnOnesCount8", apart := false }
def FnOnesCount8Said : Prop := fnOnesCount8Row.holds Try.pinned (OpenSpec.ofChange fnOnesCount8Spec)

/-- ITS FALSE NEIGHBOUR: 'it returns false'. Refute it at one input. -/
def fnOnesCount8Wrong : ChangeSpec := { name := "fnOnesCount8", fn := fun _ => fun
  | [d] => { results := [.lit (.bool false)], args := [d] }
  | _ => none }
def FnOnesCount8WrongFalsely : Prop := fnOnesCount8Row.holds Try.pinned (OpenSpec.ofChange fnOnesCount8Wrong)

/-- 'laws.FnOnesCount16': WHATEVER THE INPUT: true; the input reads as it did. -/
def fnOnesCount16Spec : ChangeSpec := { name := "fnOnesCount16", fn := fun _ => fun
  | [d] => { results := [.lit (.bool true)], args := [d] }
  | _ => none }
def fnOnesCount16Row : OpenClaim := { program := "ytbgfaikmcehlaaa", sum := "31249ab7bce078b9b146766cc59e0bd534c2912e923eaddd6ce5745d2daf18e5", func := "loop.example/pub-g03429/laws.FnOnesCount16", spec := "fnOnesCount16", apart := false }
def FnOnesCount16Said : Prop := fnOnesCount16Row.holds Try.pinned (OpenSpec.ofChange fnOnesCount16Spec)

/-- ITS FALSE NEIGHBOUR: 'it returns false'. Refute it at one input. -/
def fnOnesCount16Wrong : ChangeSpec := { name := "fnOnesCount16", fn := fun _ => fun
  | [d] => { results := [.lit (.bool false)], args := [d] }
  | _ => none }
def FnOnesCount16WrongFalsely : Prop := fnOnesCount16Row.holds Try.pinned (OpenSpec.ofChange fnOnesCount16Wrong)

/-- 'laws.FnOnesCount32': WHATEVER THE INPUT: true; the input reads as it did. -/
def fnOnesCount32Spec : ChangeSpec := { name := "fnOnesCount32", fn := fun _ => fun
  | [d] => { results := [.lit (.bool true)], args := [d] }
  | _ => none }
def fnOnesCount32Row : OpenClaim := { program := "ytbgfaikmcehlaaa", sum := "31249ab7bce078b9b146766cc59e0bd534c2912e923eaddd6ce5745d2daf18e5", func := "loop.example/pub-g03429/laws.FnOnesCount32", spec := "fnOnesCount32", apart := false }
def FnOnesCount32Said : Prop := fnOnesCount32Row.holds Try.pinned (OpenSpec.ofChange fnOnesCount32Spec)

/-- ITS FALSE NEIGHBOUR: 'it returns false'. Refute it at one input. -/
def fnOnesCount32Wrong : ChangeSpec := { name := "fnOnesCount32", fn := fun _ => fun
  | [d] => { results := [.lit (.bool false)], args := [d] }
  | _ => none }
def FnOnesCount32WrongFalsely : Prop := fnOnesCount32Row.holds Try.pinned (OpenSpec.ofChange fnOnesCount32Wrong)

/-- 'laws.FnOnesCount64': WHATEVER THE INPUT: true; the input reads as it did. -/
def fnOnesCount64Spec : ChangeSpec := { name := "fnOnesCount64", fn := fun _ => fun
  | [d] => { results := [.lit (.bool true)], args := [d] }
  | _ => none }
def fnOnesCount64Row : OpenClaim := { program := "ytbgfaikmcehlaaa", sum := "31249ab7bce078b9b146766cc59e0bd534c2912e923eaddd6ce5745d2daf18e5", func := "loop.example/pub-g03429/laws.FnOnesCount64", spec := "fnOnesCount64", apart := false }
def FnOnesCount64Said : Prop := fnOnesCount64Row.holds Try.pinned (OpenSpec.ofChange fnOnesCount64Spec)

/-- ITS FALSE NEIGHBOUR: 'it returns false'. Refute it at one input. -/
def fnOnesCount64Wrong : ChangeSpec := { name := "fnOnesCount64", fn := fun _ => fun
  | [d] => { results := [.lit (.bool false)], args := [d] }
  | _ => none }
def FnOnesCount64WrongFalsely : Prop := fnOnesCount64Row.holds Try.pinned (OpenSpec.ofChange fnOnesCount64Wrong)

/- THE SECOND FORM. 'bulk': how many values and letters a reading holds, each counted each time it is reached (what is shared counts as often as it is met; a slice's spare places count too). A statement '..UptoSaid' is the law's where the arguments, and the package variables that the reading takes, are together of bulk at most 1048576: NARROWER than '..Said'. Prove '..Said' where nothing that the law and all that it calls make is longer than what came in: it says more and counts as full. Else prove '..UptoSaid'. A law counts once. -/
mutual
def uptoBulk {H : Type} : DataW H → Nat
  | .lit (.string bytes) => bytes.length + 1
  | .lit _ => 1
  | .nil => 1
  | .ptr d => uptoBulk d + 1
  | .slice elems spare => uptoBulkAll elems + uptoBulkAll spare + 1
  | .agg parts => uptoBulkAll parts + 1
  | .iface _ d => uptoBulk d + 1
  | .map entries => uptoBulkEntries entries + 1
  | .held _ => 1
def uptoBulkAll {H : Type} : List (DataW H) → Nat
  | [] => 0
  | d :: r => uptoBulk d + uptoBulkAll r
def uptoBulkEntries {H : Type} : List (Lit × DataW H) → Nat
  | [] => 0
  | x :: r => uptoBulkEntry x + uptoBulkEntries r
def uptoBulkEntry {H : Type} : Lit × DataW H → Nat
  | (.string bytes, d) => bytes.length + uptoBulk d + 1
  | (_, d) => uptoBulk d + 1
 end
def uptoSmall : (H : Type) → List (DataW H) → Bool := fun _ ds => decide (uptoBulkAll ds ≤ 1048576)
def OpenSpec.upto (s : _root_.Go.ChangeSpec) : _root_.Go.OpenSpec := { _root_.Go.OpenSpec.ofChange s with cond := some uptoSmall }

/-- 'laws.FnLen8', WHERE WHAT IT READS IS OF BULK AT MOST 1048576: true; the input reads as it did. -/
def fnLen8UptoRow : OpenClaim := { program := "ytbgfaikmcehlaaa", sum := "31249ab7bce078b9b146766cc59e0bd534c2912e923eaddd6ce5745d2daf18e5", func := "loop.example/pub-g03429/laws.FnLen8", spec := "fnLen8", apart := false, narrowed := true }
def FnLen8UptoSaid : Prop := fnLen8UptoRow.holds Try.pinned (OpenSpec.upto fnLen8Spec)

/-- 'laws.FnLen16', WHERE WHAT IT READS IS OF BULK AT MOST 1048576: true; the input reads as it did. -/
def fnLen16UptoRow : OpenClaim := { program := "ytbgfaikmcehlaaa", sum := "31249ab7bce078b9b146766cc59e0bd534c2912e923eaddd6ce5745d2daf18e5", func := "loop.example/pub-g03429/laws.FnLen16", spec := "fnLen16", apart := false, narrowed := true }
def FnLen16UptoSaid : Prop := fnLen16UptoRow.holds Try.pinned (OpenSpec.upto fnLen16Spec)

/-- 'laws.FnLen32', WHERE WHAT IT READS IS OF BULK AT MOST 1048576: true; the input reads as it did. -/
def fnLen32UptoRow : OpenClaim := { program := "ytbgfaikmcehlaaa", sum := "31249ab7bce078b9b146766cc59e0bd534c2912e923eaddd6ce5745d2daf18e5", func := "loop.example/pub-g03429/laws.FnLen32", spec := "fnLen32", apart := false, narrowed := true }
def FnLen32UptoSaid : Prop := fnLen32UptoRow.holds Try.pinned (OpenSpec.upto fnLen32Spec)

/-- 'laws.FnLen64', WHERE WHAT IT READS IS OF BULK AT MOST 1048576: true; the input reads as it did. -/
def fnLen64UptoRow : OpenClaim := { program := "ytbgfaikmcehlaaa", sum := "31249ab7bce078b9b146766cc59e0bd534c2912e923eaddd6ce5745d2daf18e5", func := "loop.example/pub-g03429/laws.FnLen64", spec := "fnLen64", apart := false, narrowed := true }
def FnLen64UptoSaid : Prop := fnLen64UptoRow.holds Try.pinned (OpenSpec.upto fnLen64Spec)

/-- 'laws.FnLeadingZeros8', WHERE WHAT IT READS IS OF BULK AT MOST 1048576: true; the input reads as it did. -/
def fnLeadingZeros8UptoRow : OpenClaim := { program := "ytbgfaikmcehlaaa", sum := "31249ab7bce078b9b146766cc59e0bd534c2912e923eaddd6ce5745d2daf18e5", func := "loop.example/pub-g03429/laws.FnLeadingZeros8", spec := "fnLeadingZeros8", apart := false, narrowed := true }
def FnLeadingZeros8UptoSaid : Prop := fnLeadingZeros8UptoRow.holds Try.pinned (OpenSpec.upto fnLeadingZeros8Spec)

/-- 'laws.FnLeadingZeros16', WHERE WHAT IT READS IS OF BULK AT MOST 1048576: true; the input reads as it did. -/
def fnLeadingZeros16UptoRow : OpenClaim := { program := "ytbgfaikmcehlaaa", sum := "31249ab7bce078b9b146766cc59e0bd534c2912e923eaddd6ce5745d2daf18e5", func := "loop.example/pub-g03429/laws.FnLeadingZeros16", spec := "fnLeadingZeros16", apart := false, narrowed := true }
def FnLeadingZeros16UptoSaid : Prop := fnLeadingZeros16UptoRow.holds Try.pinned (OpenSpec.upto fnLeadingZeros16Spec)

/-- 'laws.FnLeadingZeros32', WHERE WHAT IT READS IS OF BULK AT MOST 1048576: true; the input reads as it did. -/
def fnLeadingZeros32UptoRow : OpenClaim := { program := "ytbgfaikmcehlaaa", sum := "31249ab7bce078b9b146766cc59e0bd534c2912e923eaddd6ce5745d2daf18e5", func := "loop.example/pub-g03429/laws.FnLeadingZeros32", spec := "fnLeadingZeros32", apart := false, narrowed := true }
def FnLeadingZeros32UptoSaid : Prop := fnLeadingZeros32UptoRow.holds Try.pinned (OpenSpec.upto fnLeadingZeros32Spec)

/-- 'laws.FnLeadingZeros64', WHERE WHAT IT READS IS OF BULK AT MOST 1048576: true; the input reads as it did. -/
def fnLeadingZeros64UptoRow : OpenClaim := { program := "ytbgfaikmcehlaaa", sum := "31249ab7bce078b9b146766cc59e0bd534c2912e923eaddd6ce5745d2daf18e5", func := "loop.example/pub-g03429/laws.FnLeadingZeros64", spec := "fnLeadingZeros64", apart := false, narrowed := true }
def FnLeadingZeros64UptoSaid : Prop := fnLeadingZeros64UptoRow.holds Try.pinned (OpenSpec.upto fnLeadingZeros64Spec)

/-- 'laws.FnOnesCount8', WHERE WHAT IT READS IS OF BULK AT MOST 1048576: true; the input reads as it did. -/
def fnOnesCount8UptoRow : OpenClaim := { program := "ytbgfaikmcehlaaa", sum := "31249ab7bce078b9b146766cc59e0bd534c2912e923eaddd6ce5745d2daf18e5", func := "loop.example/pub-g03429/laws.FnOnesCount8", spec := "fnOnesCount8", apart := false, narrowed := true }
def FnOnesCount8UptoSaid : Prop := fnOnesCount8UptoRow.holds Try.pinned (OpenSpec.upto fnOnesCount8Spec)

/-- 'laws.FnOnesCount16', WHERE WHAT IT READS IS OF BULK AT MOST 1048576: true; the input reads as it did. -/
def fnOnesCount16UptoRow : OpenClaim := { program := "ytbgfaikmcehlaaa", sum := "31249ab7bce078b9b146766cc59e0bd534c2912e923eaddd6ce5745d2daf18e5", func := "loop.example/pub-g03429/laws.FnOnesCount16", spec := "fnOnesCount16", apart := false, narrowed := true }
def FnOnesCount16UptoSaid : Prop := fnOnesCount16UptoRow.holds Try.pinned (OpenSpec.upto fnOnesCount16Spec)

/-- 'laws.FnOnesCount32', WHERE WHAT IT READS IS OF BULK AT MOST 1048576: true; the input reads as it did. -/
def fnOnesCount32UptoRow : OpenClaim := { program := "ytbgfaikmcehlaaa", sum := "31249ab7bce078b9b146766cc59e0bd534c2912e923eaddd6ce5745d2daf18e5", func := "loop.example/pub-g03429/laws.FnOnesCount32", spec := "fnOnesCount32", apart := false, narrowed := true }
def FnOnesCount32UptoSaid : Prop := fnOnesCount32UptoRow.holds Try.pinned (OpenSpec.upto fnOnesCount32Spec)

/-- 'laws.FnOnesCount64', WHERE WHAT IT READS IS OF BULK AT MOST 1048576: true; the input reads as it did. -/
def fnOnesCount64UptoRow : OpenClaim := { program := "ytbgfaikmcehlaaa", sum := "31249ab7bce078b9b146766cc59e0bd534c2912e923eaddd6ce5745d2daf18e5", func := "loop.example/pub-g03429/laws.FnOnesCount64", spec := "fnOnesCount64", apart := false, narrowed := true }
def FnOnesCount64UptoSaid : Prop := fnOnesCount64UptoRow.holds Try.pinned (OpenSpec.upto fnOnesCount64Spec)

end Rows
end Go.Proofs.Ytbgfaikmcehlaaa
