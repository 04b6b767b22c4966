/-
  No cell of these rows narrows 'for every input' (looked for: loops, veiled, ifaces, maps, wideKeys, modest, calm, conditions, laid).
  DERIVED. THE GIVEN ROWS OF THIS SEAT. 12 by the template 'for every input the law returns true; each argument reads behind the call as it read before'; 0 by the template 'total and deterministic' (their statements: YtnlcmcpbkjikeaaTotals.lean).
  GIVEN WITH THE SEED: the statements are not yours to turn. If you find one false, say at which input.
  Laid BY PROGRAM, IN A SANDBOX (cutbox-rows.mjs): the forced cells as the released guide's own fill.sh prints them over the translation 84bbc79f4bdfc116… (all of the seat's roots in one cut). By AI agents, Wed Nov 11 2026. No macro, syntax, notation, axiom, sorry.
-/
import Derived.Test.YtnlcmcpbkjikeaaChecked
import GoSem.Claim
import GoSem.ClaimJoined
import GoSem.ClaimMapViews
import Derived.JoinedTies
import Derived.KernelRfl
namespace Go.Proofs.Ytnlcmcpbkjikeaa
/- THE CELL 'sum', in the pinned program and in every row, IS THE sha256 OF THE DUMP (.gsa) THAT YtnlcmcpbkjikeaaProg.lean LOADS. Nothing in Lean hashes anything: it is a label: what it is worth is what the hold of that sum in a sandbox is worth. -/
noncomputable def Try.pinned : Pinned := { name := "ytnlcmcpbkjikeaa", sum := "84bbc79f4bdfc11610f70a773e14ce7223057bd1fe79d67dfd9635cca41df427", checked := Try.checked }
namespace Rows
def none {H : Type} : Left H := { results := [], args := [] }

/-- 'laws.FnRotateBack8': WHATEVER THE INPUT: true; the input reads as it did. -/
def fnRotateBack8Spec : ChangeSpec := { name := "fnRotateBack8", fn := fun _ => fun
  | [d1, d2] => { results := [.lit (.bool true)], args := [d1, d2] }
  | _ => none }
def fnRotateBack8Row : OpenClaim := { program := "ytnlcmcpbkjikeaa", sum := "84bbc79f4bdfc11610f70a773e14ce7223057bd1fe79d67dfd9635cca41df427", func := "loop.example/pub-g03429/laws.FnRotateBack8", spec := "fnRotateBack8", apart := false }
def FnRotateBack8Said : Prop := fnRotateBack8Row.holds Try.pinned (OpenSpec.ofChange fnRotateBack8Spec)

/-- ITS FALSE NEIGHBOUR: 'it returns false'. Refute it at one input. -/
def fnRotateBack8Wrong : ChangeSpec := { name := "fnRotateBack8", fn := fun _ => fun
  | [d1, d2] => { results := [.lit (.bool false)], args := [d1, d2] }
  | _ => none }
def FnRotateBack8WrongFalsely : Prop := fnRotateBack8Row.holds Try.pinned (OpenSpec.ofChange fnRotateBack8Wrong)

/-- 'laws.FnRotateBack16': WHATEVER THE INPUT: true; the input reads as it did. -/
def fnRotateBack16Spec : ChangeSpec := { name := "fnRotateBack16", fn := fun _ => fun
  | [d1, d2] => { results := [.lit (.bool true)], args := [d1, d2] }
  | _ => none }
def fnRotateBack16Row : OpenClaim := { program := "ytnlcmcpbkjikeaa", sum := "84bbc79f4bdfc11610f70a773e14ce7223057bd1fe79d67dfd9635cca41df427", func := "loop.example/pub-g03429/laws.FnRotateBack16", spec := "fnRotateBack16", apart := false }
def FnRotateBack16Said : Prop := fnRotateBack16Row.holds Try.pinned (OpenSpec.ofChange fnRotateBack16Spec)

/-- ITS FALSE NEIGHBOUR: 'it returns false'. Refute it at one input. -/
def fnRotateBack16Wrong : ChangeSpec := { name := "fnRotateBack16", fn := fun _ => fun
  | [d1, d2] => { results := [.lit (.bool false)], args := [d1, d2] }
  | _ => none }
def FnRotateBack16WrongFalsely : Prop := fnRotateBack16Row.holds Try.pinned (OpenSpec.ofChange fnRotateBack16Wrong)

/-- 'laws.FnRotateBack32': WHATEVER THE INPUT: true; the input reads as it did. -/
def fnRotateBack32Spec : ChangeSpec := { name := "fnRotateBack32", fn := fun _ => fun
  | [d1, d2] => { results := [.lit (.bool true)], args := [d1, d2] }
  | _ => none }
def fnRotateBack32Row : OpenClaim := { program := "ytnlcmcpbkjikeaa", sum := "84bbc79f4bdfc11610f70a773e14ce7223057bd1fe79d67dfd9635cca41df427", func := "loop.example/pub-g03429/laws.FnRotateBack32", spec := "fnRotateBack32", apart := false }
def FnRotateBack32Said : Prop := fnRotateBack32Row.holds Try.pinned (OpenSpec.ofChange fnRotateBack32Spec)

/-- ITS FALSE NEIGHBOUR: 'it returns false'. Refute it at one input. -/
def fnRotateBack32Wrong : ChangeSpec := { name := "fnRotateBack32", fn := fun _ => fun
  | [d1, d2] => { results := [.lit (.bool false)], args := [d1, d2] }
  | _ => none }
def FnRotateBack32WrongFalsely : Prop := fnRotateBack32Row.holds Try.pinned (OpenSpec.ofChange fnRotateBack32Wrong)

/-- 'laws.FnRotateBack64': WHATEVER THE INPUT: true; the input reads as it did. -/
def fnRotateBack64Spec : ChangeSpec := { name := "fnRotateBack64", fn := fun _ => fun
  | [d1, d2] => { results := [.lit (.bool true)], args := [d1, d2] }
  | _ => none }
def fnRotateBack64Row : OpenClaim := { program := "ytnlcmcpbkjikeaa", sum := "84bbc79f4bdfc11610f70a773e14ce7223057bd1fe79d67dfd9635cca41df427", func := "loop.example/pub-g03429/laws.FnRotateBack64", spec := "fnRotateBack64", apart := false }
def FnRotateBack64Said : Prop := fnRotateBack64Row.holds Try.pinned (OpenSpec.ofChange fnRotateBack64Spec)

/-- ITS FALSE NEIGHBOUR: 'it returns false'. Refute it at one input. -/
def fnRotateBack64Wrong : ChangeSpec := { name := "fnRotateBack64", fn := fun _ => fun
  | [d1, d2] => { results := [.lit (.bool false)], args := [d1, d2] }
  | _ => none }
def FnRotateBack64WrongFalsely : Prop := fnRotateBack64Row.holds Try.pinned (OpenSpec.ofChange fnRotateBack64Wrong)

/-- 'laws.FnRem32': WHATEVER THE INPUT: true; the input reads as it did. -/
def fnRem32Spec : ChangeSpec := { name := "fnRem32", fn := fun _ => fun
  | [d1, d2, d3] => { results := [.lit (.bool true)], args := [d1, d2, d3] }
  | _ => none }
def fnRem32Row : OpenClaim := { program := "ytnlcmcpbkjikeaa", sum := "84bbc79f4bdfc11610f70a773e14ce7223057bd1fe79d67dfd9635cca41df427", func := "loop.example/pub-g03429/laws.FnRem32", spec := "fnRem32", apart := false }
def FnRem32Said : Prop := fnRem32Row.holds Try.pinned (OpenSpec.ofChange fnRem32Spec)

/-- ITS FALSE NEIGHBOUR: 'it returns false'. Refute it at one input. -/
def fnRem32Wrong : ChangeSpec := { name := "fnRem32", fn := fun _ => fun
  | [d1, d2, d3] => { results := [.lit (.bool false)], args := [d1, d2, d3] }
  | _ => none }
def FnRem32WrongFalsely : Prop := fnRem32Row.holds Try.pinned (OpenSpec.ofChange fnRem32Wrong)

/-- 'laws.FnMul32': WHATEVER THE INPUT: true; the input reads as it did. -/
def fnMul32Spec : ChangeSpec := { name := "fnMul32", fn := fun _ => fun
  | [d1, d2] => { results := [.lit (.bool true)], args := [d1, d2] }
  | _ => none }
def fnMul32Row : OpenClaim := { program := "ytnlcmcpbkjikeaa", sum := "84bbc79f4bdfc11610f70a773e14ce7223057bd1fe79d67dfd9635cca41df427", func := "loop.example/pub-g03429/laws.FnMul32", spec := "fnMul32", apart := false }
def FnMul32Said : Prop := fnMul32Row.holds Try.pinned (OpenSpec.ofChange fnMul32Spec)

/-- ITS FALSE NEIGHBOUR: 'it returns false'. Refute it at one input. -/
def fnMul32Wrong : ChangeSpec := { name := "fnMul32", fn := fun _ => fun
  | [d1, d2] => { results := [.lit (.bool false)], args := [d1, d2] }
  | _ => none }
def FnMul32WrongFalsely : Prop := fnMul32Row.holds Try.pinned (OpenSpec.ofChange fnMul32Wrong)

/-- 'laws.FnMulTurned32': WHATEVER THE INPUT: true; the input reads as it did. -/
def fnMulTurned32Spec : ChangeSpec := { name := "fnMulTurned32", fn := fun _ => fun
  | [d1, d2] => { results := [.lit (.bool true)], args := [d1, d2] }
  | _ => none }
def fnMulTurned32Row : OpenClaim := { program := "ytnlcmcpbkjikeaa", sum := "84bbc79f4bdfc11610f70a773e14ce7223057bd1fe79d67dfd9635cca41df427", func := "loop.example/pub-g03429/laws.FnMulTurned32", spec := "fnMulTurned32", apart := false }
def FnMulTurned32Said : Prop := fnMulTurned32Row.holds Try.pinned (OpenSpec.ofChange fnMulTurned32Spec)

/-- ITS FALSE NEIGHBOUR: 'it returns false'. Refute it at one input. -/
def fnMulTurned32Wrong : ChangeSpec := { name := "fnMulTurned32", fn := fun _ => fun
  | [d1, d2] => { results := [.lit (.bool false)], args := [d1, d2] }
  | _ => none }
def FnMulTurned32WrongFalsely : Prop := fnMulTurned32Row.holds Try.pinned (OpenSpec.ofChange fnMulTurned32Wrong)

/-- 'laws.FnDiv32': WHATEVER THE INPUT: true; the input reads as it did. -/
def fnDiv32Spec : ChangeSpec := { name := "fnDiv32", fn := fun _ => fun
  | [d1, d2, d3] => { results := [.lit (.bool true)], args := [d1, d2, d3] }
  | _ => none }
def fnDiv32Row : OpenClaim := { program := "ytnlcmcpbkjikeaa", sum := "84bbc79f4bdfc11610f70a773e14ce7223057bd1fe79d67dfd9635cca41df427", func := "loop.example/pub-g03429/laws.FnDiv32", spec := "fnDiv32", apart := false }
def FnDiv32Said : Prop := fnDiv32Row.holds Try.pinned (OpenSpec.ofChange fnDiv32Spec)

/-- ITS FALSE NEIGHBOUR: 'it returns false'. Refute it at one input. -/
def fnDiv32Wrong : ChangeSpec := { name := "fnDiv32", fn := fun _ => fun
  | [d1, d2, d3] => { results := [.lit (.bool false)], args := [d1, d2, d3] }
  | _ => none }
def FnDiv32WrongFalsely : Prop := fnDiv32Row.holds Try.pinned (OpenSpec.ofChange fnDiv32Wrong)

/-- 'laws.FnRemDiv32': WHATEVER THE INPUT: true; the input reads as it did. -/
def fnRemDiv32Spec : ChangeSpec := { name := "fnRemDiv32", fn := fun _ => fun
  | [d1, d2, d3] => { results := [.lit (.bool true)], args := [d1, d2, d3] }
  | _ => none }
def fnRemDiv32Row : OpenClaim := { program := "ytnlcmcpbkjikeaa", sum := "84bbc79f4bdfc11610f70a773e14ce7223057bd1fe79d67dfd9635cca41df427", func := "loop.example/pub-g03429/laws.FnRemDiv32", spec := "fnRemDiv32", apart := false }
def FnRemDiv32Said : Prop := fnRemDiv32Row.holds Try.pinned (OpenSpec.ofChange fnRemDiv32Spec)

/-- ITS FALSE NEIGHBOUR: 'it returns false'. Refute it at one input. -/
def fnRemDiv32Wrong : ChangeSpec := { name := "fnRemDiv32", fn := fun _ => fun
  | [d1, d2, d3] => { results := [.lit (.bool false)], args := [d1, d2, d3] }
  | _ => none }
def FnRemDiv32WrongFalsely : Prop := fnRemDiv32Row.holds Try.pinned (OpenSpec.ofChange fnRemDiv32Wrong)

/-- 'laws.FnDivMul32': WHATEVER THE INPUT: true; the input reads as it did. -/
def fnDivMul32Spec : ChangeSpec := { name := "fnDivMul32", fn := fun _ => fun
  | [d1, d2, d3] => { results := [.lit (.bool true)], args := [d1, d2, d3] }
  | _ => none }
def fnDivMul32Row : OpenClaim := { program := "ytnlcmcpbkjikeaa", sum := "84bbc79f4bdfc11610f70a773e14ce7223057bd1fe79d67dfd9635cca41df427", func := "loop.example/pub-g03429/laws.FnDivMul32", spec := "fnDivMul32", apart := false }
def FnDivMul32Said : Prop := fnDivMul32Row.holds Try.pinned (OpenSpec.ofChange fnDivMul32Spec)

/-- ITS FALSE NEIGHBOUR: 'it returns false'. Refute it at one input. -/
def fnDivMul32Wrong : ChangeSpec := { name := "fnDivMul32", fn := fun _ => fun
  | [d1, d2, d3] => { results := [.lit (.bool false)], args := [d1, d2, d3] }
  | _ => none }
def FnDivMul32WrongFalsely : Prop := fnDivMul32Row.holds Try.pinned (OpenSpec.ofChange fnDivMul32Wrong)

/-- 'laws.FnAdd32': WHATEVER THE INPUT: true; the input reads as it did. -/
def fnAdd32Spec : ChangeSpec := { name := "fnAdd32", fn := fun _ => fun
  | [d1, d2, d3] => { results := [.lit (.bool true)], args := [d1, d2, d3] }
  | _ => none }
def fnAdd32Row : OpenClaim := { program := "ytnlcmcpbkjikeaa", sum := "84bbc79f4bdfc11610f70a773e14ce7223057bd1fe79d67dfd9635cca41df427", func := "loop.example/pub-g03429/laws.FnAdd32", spec := "fnAdd32", apart := false }
def FnAdd32Said : Prop := fnAdd32Row.holds Try.pinned (OpenSpec.ofChange fnAdd32Spec)

/-- ITS FALSE NEIGHBOUR: 'it returns false'. Refute it at one input. -/
def fnAdd32Wrong : ChangeSpec := { name := "fnAdd32", fn := fun _ => fun
  | [d1, d2, d3] => { results := [.lit (.bool false)], args := [d1, d2, d3] }
  | _ => none }
def FnAdd32WrongFalsely : Prop := fnAdd32Row.holds Try.pinned (OpenSpec.ofChange fnAdd32Wrong)

/-- 'laws.FnSub32': WHATEVER THE INPUT: true; the input reads as it did. -/
def fnSub32Spec : ChangeSpec := { name := "fnSub32", fn := fun _ => fun
  | [d1, d2, d3] => { results := [.lit (.bool true)], args := [d1, d2, d3] }
  | _ => none }
def fnSub32Row : OpenClaim := { program := "ytnlcmcpbkjikeaa", sum := "84bbc79f4bdfc11610f70a773e14ce7223057bd1fe79d67dfd9635cca41df427", func := "loop.example/pub-g03429/laws.FnSub32", spec := "fnSub32", apart := false }
def FnSub32Said : Prop := fnSub32Row.holds Try.pinned (OpenSpec.ofChange fnSub32Spec)

/-- ITS FALSE NEIGHBOUR: 'it returns false'. Refute it at one input. -/
def fnSub32Wrong : ChangeSpec := { name := "fnSub32", fn := fun _ => fun
  | [d1, d2, d3] => { results := [.lit (.bool false)], args := [d1, d2, d3] }
  | _ => none }
def FnSub32WrongFalsely : Prop := fnSub32Row.holds Try.pinned (OpenSpec.ofChange fnSub32Wrong)

/- THE SECOND FORM. 'bulk': how many values and letters a reading holds, each counted each time it is reached (what is shared counts as often as it is met; a slice's spare places count too). A statement '..UptoSaid' is the law's where the arguments, and the package variables that the reading takes, are together of bulk at most 1048576: NARROWER than '..Said'. Prove '..Said' where nothing that the law and all that it calls make is longer than what came in: it says more and counts as full. Else prove '..UptoSaid'. A law counts once. -/
mutual
def uptoBulk {H : Type} : DataW H → Nat
  | .lit (.string bytes) => bytes.length + 1
  | .lit _ => 1
  | .nil => 1
  | .ptr d => uptoBulk d + 1
  | .slice elems spare => uptoBulkAll elems + uptoBulkAll spare + 1
  | .agg parts => uptoBulkAll parts + 1
  | .iface _ d => uptoBulk d + 1
  | .map entries => uptoBulkEntries entries + 1
  | .held _ => 1
def uptoBulkAll {H : Type} : List (DataW H) → Nat
  | [] => 0
  | d :: r => uptoBulk d + uptoBulkAll r
def uptoBulkEntries {H : Type} : List (Lit × DataW H) → Nat
  | [] => 0
  | x :: r => uptoBulkEntry x + uptoBulkEntries r
def uptoBulkEntry {H : Type} : Lit × DataW H → Nat
  | (.string bytes, d) => bytes.length + uptoBulk d + 1
  | (_, d) => uptoBulk d + 1
 end
def uptoSmall : (H : Type) → List (DataW H) → Bool := fun _ ds => decide (uptoBulkAll ds ≤ 1048576)
def OpenSpec.upto (s : _root_.Go.ChangeSpec) : _root_.Go.OpenSpec := { _root_.Go.OpenSpec.ofChange s with cond := some uptoSmall }

/-- 'laws.FnRotateBack8', WHERE WHAT IT READS IS OF BULK AT MOST 1048576: true; the input reads as it did. -/
def fnRotateBack8UptoRow : OpenClaim := { program := "ytnlcmcpbkjikeaa", sum := "84bbc79f4bdfc11610f70a773e14ce7223057bd1fe79d67dfd9635cca41df427", func := "loop.example/pub-g03429/laws.FnRotateBack8", spec := "fnRotateBack8", apart := false, narrowed := true }
def FnRotateBack8UptoSaid : Prop := fnRotateBack8UptoRow.holds Try.pinned (OpenSpec.upto fnRotateBack8Spec)

/-- 'laws.FnRotateBack16', WHERE WHAT IT READS IS OF BULK AT MOST 1048576: true; the input reads as it did. -/
def fnRotateBack16UptoRow : OpenClaim := { program := "ytnlcmcpbkjikeaa", sum := "84bbc79f4bdfc11610f70a773e14ce7223057bd1fe79d67dfd9635cca41df427", func := "loop.example/pub-g03429/laws.FnRotateBack16", spec := "fnRotateBack16", apart := false, narrowed := true }
def FnRotateBack16UptoSaid : Prop := fnRotateBack16UptoRow.holds Try.pinned (OpenSpec.upto fnRotateBack16Spec)

/-- 'laws.FnRotateBack32', WHERE WHAT IT READS IS OF BULK AT MOST 1048576: true; the input reads as it did. -/
def fnRotateBack32UptoRow : OpenClaim := { program := "ytnlcmcpbkjikeaa", sum := "84bbc79f4bdfc11610f70a773e14ce7223057bd1fe79d67dfd9635cca41df427", func := "loop.example/pub-g03429/laws.FnRotateBack32", spec := "fnRotateBack32", apart := false, narrowed := true }
def FnRotateBack32UptoSaid : Prop := fnRotateBack32UptoRow.holds Try.pinned (OpenSpec.upto fnRotateBack32Spec)

/-- 'laws.FnRotateBack64', WHERE WHAT IT READS IS OF BULK AT MOST 1048576: true; the input reads as it did. -/
def fnRotateBack64UptoRow : OpenClaim := { program := "ytnlcmcpbkjikeaa", sum := "84bbc79f4bdfc11610f70a773e14ce7223057bd1fe79d67dfd9635cca41df427", func := "loop.example/pub-g03429/laws.FnRotateBack64", spec := "fnRotateBack64", apart := false, narrowed := true }
def FnRotateBack64UptoSaid : Prop := fnRotateBack64UptoRow.holds Try.pinned (OpenSpec.upto fnRotateBack64Spec)

/-- 'laws.FnRem32', WHERE WHAT IT READS IS OF BULK AT MOST 1048576: true; the input reads as it did. -/
def fnRem32UptoRow : OpenClaim := { program := "ytnlcmcpbkjikeaa", sum := "84bbc79f4bdfc11610f70a773e14ce7223057bd1fe79d67dfd9635cca41df427", func := "loop.example/pub-g03429/laws.FnRem32", spec := "fnRem32", apart := false, narrowed := true }
def FnRem32UptoSaid : Prop := fnRem32UptoRow.holds Try.pinned (OpenSpec.upto fnRem32Spec)

/-- 'laws.FnMul32', WHERE WHAT IT READS IS OF BULK AT MOST 1048576: true; the input reads as it did. -/
def fnMul32UptoRow : OpenClaim := { program := "ytnlcmcpbkjikeaa", sum := "84bbc79f4bdfc11610f70a773e14ce7223057bd1fe79d67dfd9635cca41df427", func := "loop.example/pub-g03429/laws.FnMul32", spec := "fnMul32", apart := false, narrowed := true }
def FnMul32UptoSaid : Prop := fnMul32UptoRow.holds Try.pinned (OpenSpec.upto fnMul32Spec)

/-- 'laws.FnMulTurned32', WHERE WHAT IT READS IS OF BULK AT MOST 1048576: true; the input reads as it did. -/
def fnMulTurned32UptoRow : OpenClaim := { program := "ytnlcmcpbkjikeaa", sum := "84bbc79f4bdfc11610f70a773e14ce7223057bd1fe79d67dfd9635cca41df427", func := "loop.example/pub-g03429/laws.FnMulTurned32", spec := "fnMulTurned32", apart := false, narrowed := true }
def FnMulTurned32UptoSaid : Prop := fnMulTurned32UptoRow.holds Try.pinned (OpenSpec.upto fnMulTurned32Spec)

/-- 'laws.FnDiv32', WHERE WHAT IT READS IS OF BULK AT MOST 1048576: true; the input reads as it did. -/
def fnDiv32UptoRow : OpenClaim := { program := "ytnlcmcpbkjikeaa", sum := "84bbc79f4bdfc11610f70a773e14ce7223057bd1fe79d67dfd9635cca41df427", func := "loop.example/pub-g03429/laws.FnDiv32", spec := "fnDiv32", apart := false, narrowed := true }
def FnDiv32UptoSaid : Prop := fnDiv32UptoRow.holds Try.pinned (OpenSpec.upto fnDiv32Spec)

/-- 'laws.FnRemDiv32', WHERE WHAT IT READS IS OF BULK AT MOST 1048576: true; the input reads as it did. -/
def fnRemDiv32UptoRow : OpenClaim := { program := "ytnlcmcpbkjikeaa", sum := "84bbc79f4bdfc11610f70a773e14ce7223057bd1fe79d67dfd9635cca41df427", func := "loop.example/pub-g03429/laws.FnRemDiv32", spec := "fnRemDiv32", apart := false, narrowed := true }
def FnRemDiv32UptoSaid : Prop := fnRemDiv32UptoRow.holds Try.pinned (OpenSpec.upto fnRemDiv32Spec)

/-- 'laws.FnDivMul32', WHERE WHAT IT READS IS OF BULK AT MOST 1048576: true; the input reads as it did. -/
def fnDivMul32UptoRow : OpenClaim := { program := "ytnlcmcpbkjikeaa", sum := "84bbc79f4bdfc11610f70a773e14ce7223057bd1fe79d67dfd9635cca41df427", func := "loop.example/pub-g03429/laws.FnDivMul32", spec := "fnDivMul32", apart := false, narrowed := true }
def FnDivMul32UptoSaid : Prop := fnDivMul32UptoRow.holds Try.pinned (OpenSpec.upto fnDivMul32Spec)

/-- 'laws.FnAdd32', WHERE WHAT IT READS IS OF BULK AT MOST 1048576: true; the input reads as it did. -/
def fnAdd32UptoRow : OpenClaim := { program := "ytnlcmcpbkjikeaa", sum := "84bbc79f4bdfc11610f70a773e14ce7223057bd1fe79d67dfd9635cca41df427", func := "loop.example/pub-g03429/laws.FnAdd32", spec := "fnAdd32", apart := false, narrowed := true }
def FnAdd32UptoSaid : Prop := fnAdd32UptoRow.holds Try.pinned (OpenSpec.upto fnAdd32Spec)

/-- 'laws.FnSub32', WHERE WHAT IT READS IS OF BULK AT MOST 1048576: true; the input reads as it did. -/
def fnSub32UptoRow : OpenClaim := { program := "ytnlcmcpbkjikeaa", sum := "84bbc79f4bdfc11610f70a773e14ce7223057bd1fe79d67dfd9635cca41df427", func := "loop.example/pub-g03429/laws.FnSub32", spec := "fnSub32", apart := false, narrowed := true }
def FnSub32UptoSaid : Prop := fnSub32UptoRow.holds Try.pinned (OpenSpec.upto fnSub32Spec)

end Rows
end Go.Proofs.Ytnlcmcpbkjikeaa
