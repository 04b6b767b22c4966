/-
  No cell of these rows narrows 'for every input' (looked for: loops, veiled, ifaces, maps, wideKeys, modest, calm, conditions, laid).
  DERIVED. THE GIVEN ROWS OF THIS SEAT. 12 by the template 'for every input the law returns true; each argument reads behind the call as it read before'; 0 by the template 'total and deterministic' (their statements: YthiodfepkfolpaaTotals.lean).
  GIVEN WITH THE SEED: the statements are not yours to turn. If you find one false, say at which input.
  Laid BY PROGRAM, IN A SANDBOX (cutbox-rows.mjs): the forced cells as the released guide's own fill.sh prints them over the translation 9f2a489f3ca79deb… (all of the seat's roots in one cut). By AI agents, Wed Nov 11 2026. No macro, syntax, notation, axiom, sorry.
-/
import Derived.Test.YthiodfepkfolpaaChecked
import GoSem.Claim
import GoSem.ClaimJoined
import GoSem.ClaimMapViews
import Derived.JoinedTies
import Derived.KernelRfl
namespace Go.Proofs.Ythiodfepkfolpaa
/- THE CELL 'sum', in the pinned program and in every row, IS THE sha256 OF THE DUMP (.gsa) THAT YthiodfepkfolpaaProg.lean LOADS. Nothing in Lean hashes anything: it is a label: what it is worth is what the hold of that sum in a sandbox is worth. -/
noncomputable def Try.pinned : Pinned := { name := "ythiodfepkfolpaa", sum := "9f2a489f3ca79deb2e7a2e5767ef19546e852bd65b193a77904e567bb3c3c919", checked := Try.checked }
namespace Rows
def none {H : Type} : Left H := { results := [], args := [] }

/-- 'laws.FnReverse8': WHATEVER THE INPUT: true; the input reads as it did. -/
def fnReverse8Spec : ChangeSpec := { name := "fnReverse8", fn := fun _ => fun
  | [d] => { results := [.lit (.bool true)], args := [d] }
  | _ => none }
def fnReverse8Row : OpenClaim := { program := "ythiodfepkfolpaa", sum := "9f2a489f3ca79deb2e7a2e5767ef19546e852bd65b193a77904e567bb3c3c919", func := "loop.example/pub-g03429/laws.FnReverse8", spec := "fnReverse8", unfollowed := true, recurses := true, apart := false }
def FnReverse8Said : Prop := fnReverse8Row.holds Try.pinned (OpenSpec.ofChange fnReverse8Spec)

/-- ITS FALSE NEIGHBOUR: 'it returns false'. Refute it at one input. -/
def fnReverse8Wrong : ChangeSpec := { name := "fnReverse8", fn := fun _ => fun
  | [d] => { results := [.lit (.bool false)], args := [d] }
  | _ => none }
def FnReverse8WrongFalsely : Prop := fnReverse8Row.holds Try.pinned (OpenSpec.ofChange fnReverse8Wrong)

/-- 'laws.FnReverse16': WHATEVER THE INPUT: true; the input reads as it did. -/
def fnReverse16Spec : ChangeSpec := { name := "fnReverse16", fn := fun _ => fun
  | [d] => { results := [.lit (.bool true)], args := [d] }
  | _ => none }
def fnReverse16Row : OpenClaim := { program := "ythiodfepkfolpaa", sum := "9f2a489f3ca79deb2e7a2e5767ef19546e852bd65b193a77904e567bb3c3c919", func := "loop.example/pub-g03429/laws.FnReverse16", spec := "fnReverse16", unfollowed := true, recurses := true, apart := false }
def FnReverse16Said : Prop := fnReverse16Row.holds Try.pinned (OpenSpec.ofChange fnReverse16Spec)

/-- ITS FALSE NEIGHBOUR: 'it returns false'. Refute it at one input. -/
def fnReverse16Wrong : ChangeSpec := { name := "fnReverse16", fn := fun _ => fun
  | [d] => { results := [.lit (.bool false)], args := [d] }
  | _ => none }
def FnReverse16WrongFalsely : Prop := fnReverse16Row.holds Try.pinned (OpenSpec.ofChange fnReverse16Wrong)

/-- 'laws.FnReverse32': WHATEVER THE INPUT: true; the input reads as it did. -/
def fnReverse32Spec : ChangeSpec := { name := "fnReverse32", fn := fun _ => fun
  | [d] => { results := [.lit (.bool true)], args := [d] }
  | _ => none }
def fnReverse32Row : OpenClaim := { program := "ythiodfepkfolpaa", sum := "9f2a489f3ca79deb2e7a2e5767ef19546e852bd65b193a77904e567bb3c3c919", func := "loop.example/pub-g03429/laws.FnReverse32", spec := "fnReverse32", unfollowed := true, recurses := true, apart := false }
def FnReverse32Said : Prop := fnReverse32Row.holds Try.pinned (OpenSpec.ofChange fnReverse32Spec)

/-- ITS FALSE NEIGHBOUR: 'it returns false'. Refute it at one input. -/
def fnReverse32Wrong : ChangeSpec := { name := "fnReverse32", fn := fun _ => fun
  | [d] => { results := [.lit (.bool false)], args := [d] }
  | _ => none }
def FnReverse32WrongFalsely : Prop := fnReverse32Row.holds Try.pinned (OpenSpec.ofChange fnReverse32Wrong)

/-- 'laws.FnReverse64': WHATEVER THE INPUT: true; the input reads as it did. -/
def fnReverse64Spec : ChangeSpec := { name := "fnReverse64", fn := fun _ => fun
  | [d] => { results := [.lit (.bool true)], args := [d] }
  | _ => none }
def fnReverse64Row : OpenClaim := { program := "ythiodfepkfolpaa", sum := "9f2a489f3ca79deb2e7a2e5767ef19546e852bd65b193a77904e567bb3c3c919", func := "loop.example/pub-g03429/laws.FnReverse64", spec := "fnReverse64", unfollowed := true, recurses := true, apart := false }
def FnReverse64Said : Prop := fnReverse64Row.holds Try.pinned (OpenSpec.ofChange fnReverse64Spec)

/-- ITS FALSE NEIGHBOUR: 'it returns false'. Refute it at one input. -/
def fnReverse64Wrong : ChangeSpec := { name := "fnReverse64", fn := fun _ => fun
  | [d] => { results := [.lit (.bool false)], args := [d] }
  | _ => none }
def FnReverse64WrongFalsely : Prop := fnReverse64Row.holds Try.pinned (OpenSpec.ofChange fnReverse64Wrong)

/-- 'laws.FnReverseBytes16': WHATEVER THE INPUT: true; the input reads as it did. -/
def fnReverseBytes16Spec : ChangeSpec := { name := "fnReverseBytes16", fn := fun _ => fun
  | [d] => { results := [.lit (.bool true)], args := [d] }
  | _ => none }
def fnReverseBytes16Row : OpenClaim := { program := "ythiodfepkfolpaa", sum := "9f2a489f3ca79deb2e7a2e5767ef19546e852bd65b193a77904e567bb3c3c919", func := "loop.example/pub-g03429/laws.FnReverseBytes16", spec := "fnReverseBytes16", unfollowed := true, recurses := true, apart := false }
def FnReverseBytes16Said : Prop := fnReverseBytes16Row.holds Try.pinned (OpenSpec.ofChange fnReverseBytes16Spec)

/-- ITS FALSE NEIGHBOUR: 'it returns false'. Refute it at one input. -/
def fnReverseBytes16Wrong : ChangeSpec := { name := "fnReverseBytes16", fn := fun _ => fun
  | [d] => { results := [.lit (.bool false)], args := [d] }
  | _ => none }
def FnReverseBytes16WrongFalsely : Prop := fnReverseBytes16Row.holds Try.pinned (OpenSpec.ofChange fnReverseBytes16Wrong)

/-- 'laws.FnReverseBytes32': WHATEVER THE INPUT: true; the input reads as it did. -/
def fnReverseBytes32Spec : ChangeSpec := { name := "fnReverseBytes32", fn := fun _ => fun
  | [d] => { results := [.lit (.bool true)], args := [d] }
  | _ => none }
def fnReverseBytes32Row : OpenClaim := { program := "ythiodfepkfolpaa", sum := "9f2a489f3ca79deb2e7a2e5767ef19546e852bd65b193a77904e567bb3c3c919", func := "loop.example/pub-g03429/laws.FnReverseBytes32", spec := "fnReverseBytes32", unfollowed := true, recurses := true, apart := false }
def FnReverseBytes32Said : Prop := fnReverseBytes32Row.holds Try.pinned (OpenSpec.ofChange fnReverseBytes32Spec)

/-- ITS FALSE NEIGHBOUR: 'it returns false'. Refute it at one input. -/
def fnReverseBytes32Wrong : ChangeSpec := { name := "fnReverseBytes32", fn := fun _ => fun
  | [d] => { results := [.lit (.bool false)], args := [d] }
  | _ => none }
def FnReverseBytes32WrongFalsely : Prop := fnReverseBytes32Row.holds Try.pinned (OpenSpec.ofChange fnReverseBytes32Wrong)

/-- 'laws.FnReverseBytes64': WHATEVER THE INPUT: true; the input reads as it did. -/
def fnReverseBytes64Spec : ChangeSpec := { name := "fnReverseBytes64", fn := fun _ => fun
  | [d] => { results := [.lit (.bool true)], args := [d] }
  | _ => none }
def fnReverseBytes64Row : OpenClaim := { program := "ythiodfepkfolpaa", sum := "9f2a489f3ca79deb2e7a2e5767ef19546e852bd65b193a77904e567bb3c3c919", func := "loop.example/pub-g03429/laws.FnReverseBytes64", spec := "fnReverseBytes64", unfollowed := true, recurses := true, apart := false }
def FnReverseBytes64Said : Prop := fnReverseBytes64Row.holds Try.pinned (OpenSpec.ofChange fnReverseBytes64Spec)

/-- ITS FALSE NEIGHBOUR: 'it returns false'. Refute it at one input. -/
def fnReverseBytes64Wrong : ChangeSpec := { name := "fnReverseBytes64", fn := fun _ => fun
  | [d] => { results := [.lit (.bool false)], args := [d] }
  | _ => none }
def FnReverseBytes64WrongFalsely : Prop := fnReverseBytes64Row.holds Try.pinned (OpenSpec.ofChange fnReverseBytes64Wrong)

/-- 'laws.FnRotateLeft8': WHATEVER THE INPUT: true; the input reads as it did. -/
def fnRotateLeft8Spec : ChangeSpec := { name := "fnRotateLeft8", fn := fun _ => fun
  | [d1, d2] => { results := [.lit (.bool true)], args := [d1, d2] }
  | _ => none }
def fnRotateLeft8Row : OpenClaim := { program := "ythiodfepkfolpaa", sum := "9f2a489f3ca79deb2e7a2e5767ef19546e852bd65b193a77904e567bb3c3c919", func := "loop.example/pub-g03429/laws.FnRotateLeft8", spec := "fnRotateLeft8", unfollowed := true, recurses := true, apart := false }
def FnRotateLeft8Said : Prop := fnRotateLeft8Row.holds Try.pinned (OpenSpec.ofChange fnRotateLeft8Spec)

/-- ITS FALSE NEIGHBOUR: 'it returns false'. Refute it at one input. -/
def fnRotateLeft8Wrong : ChangeSpec := { name := "fnRotateLeft8", fn := fun _ => fun
  | [d1, d2] => { results := [.lit (.bool false)], args := [d1, d2] }
  | _ => none }
def FnRotateLeft8WrongFalsely : Prop := fnRotateLeft8Row.holds Try.pinned (OpenSpec.ofChange fnRotateLeft8Wrong)

/-- 'laws.FnRotateLeft16': WHATEVER THE INPUT: true; the input reads as it did. -/
def fnRotateLeft16Spec : ChangeSpec := { name := "fnRotateLeft16", fn := fun _ => fun
  | [d1, d2] => { results := [.lit (.bool true)], args := [d1, d2] }
  | _ => none }
def fnRotateLeft16Row : OpenClaim := { program := "ythiodfepkfolpaa", sum := "9f2a489f3ca79deb2e7a2e5767ef19546e852bd65b193a77904e567bb3c3c919", func := "loop.example/pub-g03429/laws.FnRotateLeft16", spec := "fnRotateLeft16", unfollowed := true, recurses := true, apart := false }
def FnRotateLeft16Said : Prop := fnRotateLeft16Row.holds Try.pinned (OpenSpec.ofChange fnRotateLeft16Spec)

/-- ITS FALSE NEIGHBOUR: 'it returns false'. Refute it at one input. -/
def fnRotateLeft16Wrong : ChangeSpec := { name := "fnRotateLeft16", fn := fun _ => fun
  | [d1, d2] => { results := [.lit (.bool false)], args := [d1, d2] }
  | _ => none }
def FnRotateLeft16WrongFalsely : Prop := fnRotateLeft16Row.holds Try.pinned (OpenSpec.ofChange fnRotateLeft16Wrong)

/-- 'laws.FnRotateLeft32': WHATEVER THE INPUT: true; the input reads as it did. -/
def fnRotateLeft32Spec : ChangeSpec := { name := "fnRotateLeft32", fn := fun _ => fun
  | [d1, d2] => { results := [.lit (.bool true)], args := [d1, d2] }
  | _ => none }
def fnRotateLeft32Row : OpenClaim := { program := "ythiodfepkfolpaa", sum := "9f2a489f3ca79deb2e7a2e5767ef19546e852bd65b193a77904e567bb3c3c919", func := "loop.example/pub-g03429/laws.FnRotateLeft32", spec := "fnRotateLeft32", unfollowed := true, recurses := true, apart := false }
def FnRotateLeft32Said : Prop := fnRotateLeft32Row.holds Try.pinned (OpenSpec.ofChange fnRotateLeft32Spec)

/-- ITS FALSE NEIGHBOUR: 'it returns false'. Refute it at one input. -/
def fnRotateLeft32Wrong : ChangeSpec := { name := "fnRotateLeft32", fn := fun _ => fun
  | [d1, d2] => { results := [.lit (.bool false)], args := [d1, d2] }
  | _ => none }
def FnRotateLeft32WrongFalsely : Prop := fnRotateLeft32Row.holds Try.pinned (OpenSpec.ofChange fnRotateLeft32Wrong)

/-- 'laws.FnRotateLeft64': WHATEVER THE INPUT: true; the input reads as it did. -/
def fnRotateLeft64Spec : ChangeSpec := { name := "fnRotateLeft64", fn := fun _ => fun
  | [d1, d2] => { results := [.lit (.bool true)], args := [d1, d2] }
  | _ => none }
def fnRotateLeft64Row : OpenClaim := { program := "ythiodfepkfolpaa", sum := "9f2a489f3ca79deb2e7a2e5767ef19546e852bd65b193a77904e567bb3c3c919", func := "loop.example/pub-g03429/laws.FnRotateLeft64", spec := "fnRotateLeft64", unfollowed := true, recurses := true, apart := false }
def FnRotateLeft64Said : Prop := fnRotateLeft64Row.holds Try.pinned (OpenSpec.ofChange fnRotateLeft64Spec)

/-- ITS FALSE NEIGHBOUR: 'it returns false'. Refute it at one input. -/
def fnRotateLeft64Wrong : ChangeSpec := { name := "fnRotateLeft64", fn := fun _ => fun
  | [d1, d2] => { results := [.lit (.bool false)], args := [d1, d2] }
  | _ => none }
def FnRotateLeft64WrongFalsely : Prop := fnRotateLeft64Row.holds Try.pinned (OpenSpec.ofChange fnRotateLeft64Wrong)

/-- 'laws.FnReverseBack8': WHATEVER THE INPUT: true; the input reads as it did. -/
def fnReverseBack8Spec : ChangeSpec := { name := "fnReverseBack8", fn := fun _ => fun
  | [d] => { results := [.lit (.bool true)], args := [d] }
  | _ => none }
def fnReverseBack8Row : OpenClaim := { program := "ythiodfepkfolpaa", sum := "9f2a489f3ca79deb2e7a2e5767ef19546e852bd65b193a77904e567bb3c3c919", func := "loop.example/pub-g03429/laws.FnReverseBack8", spec := "fnReverseBack8", apart := false }
def FnReverseBack8Said : Prop := fnReverseBack8Row.holds Try.pinned (OpenSpec.ofChange fnReverseBack8Spec)

/-- ITS FALSE NEIGHBOUR: 'it returns false'. Refute it at one input. -/
def fnReverseBack8Wrong : ChangeSpec := { name := "fnReverseBack8", fn := fun _ => fun
  | [d] => { results := [.lit (.bool false)], args := [d] }
  | _ => none }
def FnReverseBack8WrongFalsely : Prop := fnReverseBack8Row.holds Try.pinned (OpenSpec.ofChange fnReverseBack8Wrong)

/- THE SECOND FORM. 'bulk': how many values and letters a reading holds, each counted each time it is reached (what is shared counts as often as it is met; a slice's spare places count too). A statement '..UptoSaid' is the law's where the arguments, and the package variables that the reading takes, are together of bulk at most 1048576: NARROWER than '..Said'. Prove '..Said' where nothing that the law and all that it calls make is longer than what came in: it says more and counts as full. Else prove '..UptoSaid'. A law counts once. -/
mutual
def uptoBulk {H : Type} : DataW H → Nat
  | .lit (.string bytes) => bytes.length + 1
  | .lit _ => 1
  | .nil => 1
  | .ptr d => uptoBulk d + 1
  | .slice elems spare => uptoBulkAll elems + uptoBulkAll spare + 1
  | .agg parts => uptoBulkAll parts + 1
  | .iface _ d => uptoBulk d + 1
  | .map entries => uptoBulkEntries entries + 1
  | .held _ => 1
def uptoBulkAll {H : Type} : List (DataW H) → Nat
  | [] => 0
  | d :: r => uptoBulk d + uptoBulkAll r
def uptoBulkEntries {H : Type} : List (Lit × DataW H) → Nat
  | [] => 0
  | x :: r => uptoBulkEntry x + uptoBulkEntries r
def uptoBulkEntry {H : Type} : Lit × DataW H → Nat
  | (.string bytes, d) => bytes.length + uptoBulk d + 1
  | (_, d) => uptoBulk d + 1
 end
def uptoSmall : (H : Type) → List (DataW H) → Bool := fun _ ds => decide (uptoBulkAll ds ≤ 1048576)
def OpenSpec.upto (s : _root_.Go.ChangeSpec) : _root_.Go.OpenSpec := { _root_.Go.OpenSpec.ofChange s with cond := some uptoSmall }

/-- 'laws.FnReverse8', WHERE WHAT IT READS IS OF BULK AT MOST 1048576: true; the input reads as it did. -/
def fnReverse8UptoRow : OpenClaim := { program := "ythiodfepkfolpaa", sum := "9f2a489f3ca79deb2e7a2e5767ef19546e852bd65b193a77904e567bb3c3c919", func := "loop.example/pub-g03429/laws.FnReverse8", spec := "fnReverse8", unfollowed := true, recurses := true, apart := false, narrowed := true }
def FnReverse8UptoSaid : Prop := fnReverse8UptoRow.holds Try.pinned (OpenSpec.upto fnReverse8Spec)

/-- 'laws.FnReverse16', WHERE WHAT IT READS IS OF BULK AT MOST 1048576: true; the input reads as it did. -/
def fnReverse16UptoRow : OpenClaim := { program := "ythiodfepkfolpaa", sum := "9f2a489f3ca79deb2e7a2e5767ef19546e852bd65b193a77904e567bb3c3c919", func := "loop.example/pub-g03429/laws.FnReverse16", spec := "fnReverse16", unfollowed := true, recurses := true, apart := false, narrowed := true }
def FnReverse16UptoSaid : Prop := fnReverse16UptoRow.holds Try.pinned (OpenSpec.upto fnReverse16Spec)

/-- 'laws.FnReverse32', WHERE WHAT IT READS IS OF BULK AT MOST 1048576: true; the input reads as it did. -/
def fnReverse32UptoRow : OpenClaim := { program := "ythiodfepkfolpaa", sum := "9f2a489f3ca79deb2e7a2e5767ef19546e852bd65b193a77904e567bb3c3c919", func := "loop.example/pub-g03429/laws.FnReverse32", spec := "fnReverse32", unfollowed := true, recurses := true, apart := false, narrowed := true }
def FnReverse32UptoSaid : Prop := fnReverse32UptoRow.holds Try.pinned (OpenSpec.upto fnReverse32Spec)

/-- 'laws.FnReverse64', WHERE WHAT IT READS IS OF BULK AT MOST 1048576: true; the input reads as it did. -/
def fnReverse64UptoRow : OpenClaim := { program := "ythiodfepkfolpaa", sum := "9f2a489f3ca79deb2e7a2e5767ef19546e852bd65b193a77904e567bb3c3c919", func := "loop.example/pub-g03429/laws.FnReverse64", spec := "fnReverse64", unfollowed := true, recurses := true, apart := false, narrowed := true }
def FnReverse64UptoSaid : Prop := fnReverse64UptoRow.holds Try.pinned (OpenSpec.upto fnReverse64Spec)

/-- 'laws.FnReverseBytes16', WHERE WHAT IT READS IS OF BULK AT MOST 1048576: true; the input reads as it did. -/
def fnReverseBytes16UptoRow : OpenClaim := { program := "ythiodfepkfolpaa", sum := "9f2a489f3ca79deb2e7a2e5767ef19546e852bd65b193a77904e567bb3c3c919", func := "loop.example/pub-g03429/laws.FnReverseBytes16", spec := "fnReverseBytes16", unfollowed := true, recurses := true, apart := false, narrowed := true }
def FnReverseBytes16UptoSaid : Prop := fnReverseBytes16UptoRow.holds Try.pinned (OpenSpec.upto fnReverseBytes16Spec)

/-- 'laws.FnReverseBytes32', WHERE WHAT IT READS IS OF BULK AT MOST 1048576: true; the input reads as it did. -/
def fnReverseBytes32UptoRow : OpenClaim := { program := "ythiodfepkfolpaa", sum := "9f2a489f3ca79deb2e7a2e5767ef19546e852bd65b193a77904e567bb3c3c919", func := "loop.example/pub-g03429/laws.FnReverseBytes32", spec := "fnReverseBytes32", unfollowed := true, recurses := true, apart := false, narrowed := true }
def FnReverseBytes32UptoSaid : Prop := fnReverseBytes32UptoRow.holds Try.pinned (OpenSpec.upto fnReverseBytes32Spec)

/-- 'laws.FnReverseBytes64', WHERE WHAT IT READS IS OF BULK AT MOST 1048576: true; the input reads as it did. -/
def fnReverseBytes64UptoRow : OpenClaim := { program := "ythiodfepkfolpaa", sum := "9f2a489f3ca79deb2e7a2e5767ef19546e852bd65b193a77904e567bb3c3c919", func := "loop.example/pub-g03429/laws.FnReverseBytes64", spec := "fnReverseBytes64", unfollowed := true, recurses := true, apart := false, narrowed := true }
def FnReverseBytes64UptoSaid : Prop := fnReverseBytes64UptoRow.holds Try.pinned (OpenSpec.upto fnReverseBytes64Spec)

/-- 'laws.FnRotateLeft8', WHERE WHAT IT READS IS OF BULK AT MOST 1048576: true; the input reads as it did. -/
def fnRotateLeft8UptoRow : OpenClaim := { program := "ythiodfepkfolpaa", sum := "9f2a489f3ca79deb2e7a2e5767ef19546e852bd65b193a77904e567bb3c3c919", func := "loop.example/pub-g03429/laws.FnRotateLeft8", spec := "fnRotateLeft8", unfollowed := true, recurses := true, apart := false, narrowed := true }
def FnRotateLeft8UptoSaid : Prop := fnRotateLeft8UptoRow.holds Try.pinned (OpenSpec.upto fnRotateLeft8Spec)

/-- 'laws.FnRotateLeft16', WHERE WHAT IT READS IS OF BULK AT MOST 1048576: true; the input reads as it did. -/
def fnRotateLeft16UptoRow : OpenClaim := { program := "ythiodfepkfolpaa", sum := "9f2a489f3ca79deb2e7a2e5767ef19546e852bd65b193a77904e567bb3c3c919", func := "loop.example/pub-g03429/laws.FnRotateLeft16", spec := "fnRotateLeft16", unfollowed := true, recurses := true, apart := false, narrowed := true }
def FnRotateLeft16UptoSaid : Prop := fnRotateLeft16UptoRow.holds Try.pinned (OpenSpec.upto fnRotateLeft16Spec)

/-- 'laws.FnRotateLeft32', WHERE WHAT IT READS IS OF BULK AT MOST 1048576: true; the input reads as it did. -/
def fnRotateLeft32UptoRow : OpenClaim := { program := "ythiodfepkfolpaa", sum := "9f2a489f3ca79deb2e7a2e5767ef19546e852bd65b193a77904e567bb3c3c919", func := "loop.example/pub-g03429/laws.FnRotateLeft32", spec := "fnRotateLeft32", unfollowed := true, recurses := true, apart := false, narrowed := true }
def FnRotateLeft32UptoSaid : Prop := fnRotateLeft32UptoRow.holds Try.pinned (OpenSpec.upto fnRotateLeft32Spec)

/-- 'laws.FnRotateLeft64', WHERE WHAT IT READS IS OF BULK AT MOST 1048576: true; the input reads as it did. -/
def fnRotateLeft64UptoRow : OpenClaim := { program := "ythiodfepkfolpaa", sum := "9f2a489f3ca79deb2e7a2e5767ef19546e852bd65b193a77904e567bb3c3c919", func := "loop.example/pub-g03429/laws.FnRotateLeft64", spec := "fnRotateLeft64", unfollowed := true, recurses := true, apart := false, narrowed := true }
def FnRotateLeft64UptoSaid : Prop := fnRotateLeft64UptoRow.holds Try.pinned (OpenSpec.upto fnRotateLeft64Spec)

/-- 'laws.FnReverseBack8', WHERE WHAT IT READS IS OF BULK AT MOST 1048576: true; the input reads as it did. -/
def fnReverseBack8UptoRow : OpenClaim := { program := "ythiodfepkfolpaa", sum := "9f2a489f3ca79deb2e7a2e5767ef19546e852bd65b193a77904e567bb3c3c919", func := "loop.example/pub-g03429/laws.FnReverseBack8", spec := "fnReverseBack8", apart := false, narrowed := true }
def FnReverseBack8UptoSaid : Prop := fnReverseBack8UptoRow.holds Try.pinned (OpenSpec.upto fnReverseBack8Spec)

end Rows
end Go.Proofs.Ythiodfepkfolpaa
