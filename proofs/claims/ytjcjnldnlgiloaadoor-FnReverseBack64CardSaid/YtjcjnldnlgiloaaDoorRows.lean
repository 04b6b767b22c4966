/-
  NARROWER THAN 'FOR EVERY INPUT', by the rows' own cells (each row's printed sentence says how): FnTrailingZeros16: laid · FnTrailingZeros32: laid · FnTrailingZeros64: laid · FnLenZeros16: laid · FnLenZeros32: laid · FnLenZeros64: laid · FnReverseBack16: laid · FnReverseBack32: laid · FnReverseBack64: laid.
  DERIVED. THE GIVEN ROWS OF THIS SEAT. 9 by the template 'for every input the law returns true; each argument reads behind the call as it read before'; 0 by the template 'total and deterministic' (their statements: YtjcjnldnlgiloaaDoorTotals.lean).
  GIVEN WITH THE SEED: the statements are not yours to turn. If you find one false, say at which input.
  Laid BY PROGRAM, IN A SANDBOX (cutbox-rows.mjs): the forced cells as the released guide's own fill.sh prints them over the translation 24d9c8cce45e2a0d… (all of the seat's roots in one cut). By AI agents, Wed Nov 11 2026. No macro, syntax, notation, axiom, sorry.
-/
import Derived.Test.YtjcjnldnlgiloaaDoorChecked
import GoSem.Claim
import GoSem.ClaimJoined
import GoSem.ClaimMapViews
import Derived.JoinedTies
import Derived.KernelRfl
namespace Go.Proofs.YtjcjnldnlgiloaaDoor
/- THE CELL 'sum', in the pinned program and in every row, IS THE sha256 OF THE DUMP (.gsa) THAT YtjcjnldnlgiloaaDoorProg.lean LOADS. Nothing in Lean hashes anything: it is a label: what it is worth is what the hold of that sum in a sandbox is worth. -/
noncomputable def Tryd.pinned : Pinned := { name := "ytjcjnldnlgiloaadoor", sum := "24d9c8cce45e2a0d9bfe267214e162b79c9cbd5a810a3873768084629b229eb8", checked := Tryd.checked }
namespace Rows
def none {H : Type} : Left H := { results := [], args := [] }

/- WHAT THE LISTED PACKAGE-LEVEL VARIABLES READ AS WHEN THE CALL BEGINS. Each datum BY PROGRAM (the guide's laid-datum.mjs) off the statement by which the dump's own 'gosem.cut.vars' lays the variable. In a bare row this is a premise. The card (YtjcjnldnlgiloaaDoorCards.lean) ties it to the program's text. -/
def laid_loop_example_pub_g03429_pub_mathbits_deBruijn32tab {H : Type} : DataW H := .agg [.lit (.int .u8 0), .lit (.int .u8 1), .lit (.int .u8 28), .lit (.int .u8 2), .lit (.int .u8 29), .lit (.int .u8 14), .lit (.int .u8 24), .lit (.int .u8 3), .lit (.int .u8 30), .lit (.int .u8 22), .lit (.int .u8 20), .lit (.int .u8 15), .lit (.int .u8 25), .lit (.int .u8 17), .lit (.int .u8 4), .lit (.int .u8 8), .lit (.int .u8 31), .lit (.int .u8 27), .lit (.int .u8 13), .lit (.int .u8 23), .lit (.int .u8 21), .lit (.int .u8 19), .lit (.int .u8 16), .lit (.int .u8 7), .lit (.int .u8 26), .lit (.int .u8 12), .lit (.int .u8 18), .lit (.int .u8 6), .lit (.int .u8 11), .lit (.int .u8 5), .lit (.int .u8 10), .lit (.int .u8 9)]
def laid_loop_example_pub_g03429_pub_mathbits_deBruijn64tab {H : Type} : DataW H := .agg [.lit (.int .u8 0), .lit (.int .u8 1), .lit (.int .u8 56), .lit (.int .u8 2), .lit (.int .u8 57), .lit (.int .u8 49), .lit (.int .u8 28), .lit (.int .u8 3), .lit (.int .u8 61), .lit (.int .u8 58), .lit (.int .u8 42), .lit (.int .u8 50), .lit (.int .u8 38), .lit (.int .u8 29), .lit (.int .u8 17), .lit (.int .u8 4), .lit (.int .u8 62), .lit (.int .u8 47), .lit (.int .u8 59), .lit (.int .u8 36), .lit (.int .u8 45), .lit (.int .u8 43), .lit (.int .u8 51), .lit (.int .u8 22), .lit (.int .u8 53), .lit (.int .u8 39), .lit (.int .u8 33), .lit (.int .u8 30), .lit (.int .u8 24), .lit (.int .u8 18), .lit (.int .u8 12), .lit (.int .u8 5), .lit (.int .u8 63), .lit (.int .u8 55), .lit (.int .u8 48), .lit (.int .u8 27), .lit (.int .u8 60), .lit (.int .u8 41), .lit (.int .u8 37), .lit (.int .u8 16), .lit (.int .u8 46), .lit (.int .u8 35), .lit (.int .u8 44), .lit (.int .u8 21), .lit (.int .u8 52), .lit (.int .u8 32), .lit (.int .u8 23), .lit (.int .u8 11), .lit (.int .u8 54), .lit (.int .u8 26), .lit (.int .u8 40), .lit (.int .u8 15), .lit (.int .u8 34), .lit (.int .u8 20), .lit (.int .u8 31), .lit (.int .u8 10), .lit (.int .u8 25), .lit (.int .u8 14), .lit (.int .u8 19), .lit (.int .u8 9), .lit (.int .u8 13), .lit (.int .u8 8), .lit (.int .u8 7), .lit (.int .u8 6)]

/-- 'laws.FnTrailingZeros16': WHATEVER THE INPUT: true; the input reads as it did. -/
def fnTrailingZeros16Spec : ChangeSpec := { name := "fnTrailingZeros16", vars := ["loop.example/pub-g03429/pub/mathbits.deBruijn32tab"], fn := fun _ => fun
  | [d, g1] => { results := [.lit (.bool true)], args := [d], vars := [g1] }
  | _ => none }
def fnTrailingZeros16Row : OpenClaim := { program := "ytjcjnldnlgiloaadoor", sum := "24d9c8cce45e2a0d9bfe267214e162b79c9cbd5a810a3873768084629b229eb8", func := "loop.example/pub-g03429/laws.FnTrailingZeros16", spec := "fnTrailingZeros16", named := ["loop.example/pub-g03429/pub/mathbits.deBruijn32tab"], apart := false, laid := [("loop.example/pub-g03429/pub/mathbits.deBruijn32tab", laid_loop_example_pub_g03429_pub_mathbits_deBruijn32tab)] }
def FnTrailingZeros16Said : Prop := fnTrailingZeros16Row.holds Tryd.pinned (OpenSpec.ofChange fnTrailingZeros16Spec)

/-- ITS FALSE NEIGHBOUR: 'it returns false'. Refute it at one input. -/
def fnTrailingZeros16Wrong : ChangeSpec := { name := "fnTrailingZeros16", vars := ["loop.example/pub-g03429/pub/mathbits.deBruijn32tab"], fn := fun _ => fun
  | [d, g1] => { results := [.lit (.bool false)], args := [d], vars := [g1] }
  | _ => none }
def FnTrailingZeros16WrongFalsely : Prop := fnTrailingZeros16Row.holds Tryd.pinned (OpenSpec.ofChange fnTrailingZeros16Wrong)

/-- 'laws.FnTrailingZeros32': WHATEVER THE INPUT: true; the input reads as it did. -/
def fnTrailingZeros32Spec : ChangeSpec := { name := "fnTrailingZeros32", vars := ["loop.example/pub-g03429/pub/mathbits.deBruijn32tab"], fn := fun _ => fun
  | [d, g1] => { results := [.lit (.bool true)], args := [d], vars := [g1] }
  | _ => none }
def fnTrailingZeros32Row : OpenClaim := { program := "ytjcjnldnlgiloaadoor", sum := "24d9c8cce45e2a0d9bfe267214e162b79c9cbd5a810a3873768084629b229eb8", func := "loop.example/pub-g03429/laws.FnTrailingZeros32", spec := "fnTrailingZeros32", named := ["loop.example/pub-g03429/pub/mathbits.deBruijn32tab"], apart := false, laid := [("loop.example/pub-g03429/pub/mathbits.deBruijn32tab", laid_loop_example_pub_g03429_pub_mathbits_deBruijn32tab)] }
def FnTrailingZeros32Said : Prop := fnTrailingZeros32Row.holds Tryd.pinned (OpenSpec.ofChange fnTrailingZeros32Spec)

/-- ITS FALSE NEIGHBOUR: 'it returns false'. Refute it at one input. -/
def fnTrailingZeros32Wrong : ChangeSpec := { name := "fnTrailingZeros32", vars := ["loop.example/pub-g03429/pub/mathbits.deBruijn32tab"], fn := fun _ => fun
  | [d, g1] => { results := [.lit (.bool false)], args := [d], vars := [g1] }
  | _ => none }
def FnTrailingZeros32WrongFalsely : Prop := fnTrailingZeros32Row.holds Tryd.pinned (OpenSpec.ofChange fnTrailingZeros32Wrong)

/-- 'laws.FnTrailingZeros64': WHATEVER THE INPUT: true; the input reads as it did. -/
def fnTrailingZeros64Spec : ChangeSpec := { name := "fnTrailingZeros64", vars := ["loop.example/pub-g03429/pub/mathbits.deBruijn64tab"], fn := fun _ => fun
  | [d, g1] => { results := [.lit (.bool true)], args := [d], vars := [g1] }
  | _ => none }
def fnTrailingZeros64Row : OpenClaim := { program := "ytjcjnldnlgiloaadoor", sum := "24d9c8cce45e2a0d9bfe267214e162b79c9cbd5a810a3873768084629b229eb8", func := "loop.example/pub-g03429/laws.FnTrailingZeros64", spec := "fnTrailingZeros64", named := ["loop.example/pub-g03429/pub/mathbits.deBruijn64tab"], apart := false, laid := [("loop.example/pub-g03429/pub/mathbits.deBruijn64tab", laid_loop_example_pub_g03429_pub_mathbits_deBruijn64tab)] }
def FnTrailingZeros64Said : Prop := fnTrailingZeros64Row.holds Tryd.pinned (OpenSpec.ofChange fnTrailingZeros64Spec)

/-- ITS FALSE NEIGHBOUR: 'it returns false'. Refute it at one input. -/
def fnTrailingZeros64Wrong : ChangeSpec := { name := "fnTrailingZeros64", vars := ["loop.example/pub-g03429/pub/mathbits.deBruijn64tab"], fn := fun _ => fun
  | [d, g1] => { results := [.lit (.bool false)], args := [d], vars := [g1] }
  | _ => none }
def FnTrailingZeros64WrongFalsely : Prop := fnTrailingZeros64Row.holds Tryd.pinned (OpenSpec.ofChange fnTrailingZeros64Wrong)

/-- 'laws.FnLenZeros16': WHATEVER THE INPUT: true; the input reads as it did. -/
def fnLenZeros16Spec : ChangeSpec := { name := "fnLenZeros16", vars := ["loop.example/pub-g03429/pub/mathbits.deBruijn32tab"], fn := fun _ => fun
  | [d, g1] => { results := [.lit (.bool true)], args := [d], vars := [g1] }
  | _ => none }
def fnLenZeros16Row : OpenClaim := { program := "ytjcjnldnlgiloaadoor", sum := "24d9c8cce45e2a0d9bfe267214e162b79c9cbd5a810a3873768084629b229eb8", func := "loop.example/pub-g03429/laws.FnLenZeros16", spec := "fnLenZeros16", named := ["loop.example/pub-g03429/pub/mathbits.deBruijn32tab"], apart := false, laid := [("loop.example/pub-g03429/pub/mathbits.deBruijn32tab", laid_loop_example_pub_g03429_pub_mathbits_deBruijn32tab)] }
def FnLenZeros16Said : Prop := fnLenZeros16Row.holds Tryd.pinned (OpenSpec.ofChange fnLenZeros16Spec)

/-- ITS FALSE NEIGHBOUR: 'it returns false'. Refute it at one input. -/
def fnLenZeros16Wrong : ChangeSpec := { name := "fnLenZeros16", vars := ["loop.example/pub-g03429/pub/mathbits.deBruijn32tab"], fn := fun _ => fun
  | [d, g1] => { results := [.lit (.bool false)], args := [d], vars := [g1] }
  | _ => none }
def FnLenZeros16WrongFalsely : Prop := fnLenZeros16Row.holds Tryd.pinned (OpenSpec.ofChange fnLenZeros16Wrong)

/-- 'laws.FnLenZeros32': WHATEVER THE INPUT: true; the input reads as it did. -/
def fnLenZeros32Spec : ChangeSpec := { name := "fnLenZeros32", vars := ["loop.example/pub-g03429/pub/mathbits.deBruijn32tab"], fn := fun _ => fun
  | [d, g1] => { results := [.lit (.bool true)], args := [d], vars := [g1] }
  | _ => none }
def fnLenZeros32Row : OpenClaim := { program := "ytjcjnldnlgiloaadoor", sum := "24d9c8cce45e2a0d9bfe267214e162b79c9cbd5a810a3873768084629b229eb8", func := "loop.example/pub-g03429/laws.FnLenZeros32", spec := "fnLenZeros32", named := ["loop.example/pub-g03429/pub/mathbits.deBruijn32tab"], apart := false, laid := [("loop.example/pub-g03429/pub/mathbits.deBruijn32tab", laid_loop_example_pub_g03429_pub_mathbits_deBruijn32tab)] }
def FnLenZeros32Said : Prop := fnLenZeros32Row.holds Tryd.pinned (OpenSpec.ofChange fnLenZeros32Spec)

/-- ITS FALSE NEIGHBOUR: 'it returns false'. Refute it at one input. -/
def fnLenZeros32Wrong : ChangeSpec := { name := "fnLenZeros32", vars := ["loop.example/pub-g03429/pub/mathbits.deBruijn32tab"], fn := fun _ => fun
  | [d, g1] => { results := [.lit (.bool false)], args := [d], vars := [g1] }
  | _ => none }
def FnLenZeros32WrongFalsely : Prop := fnLenZeros32Row.holds Tryd.pinned (OpenSpec.ofChange fnLenZeros32Wrong)

/-- 'laws.FnLenZeros64': WHATEVER THE INPUT: true; the input reads as it did. -/
def fnLenZeros64Spec : ChangeSpec := { name := "fnLenZeros64", vars := ["loop.example/pub-g03429/pub/mathbits.deBruijn64tab"], fn := fun _ => fun
  | [d, g1] => { results := [.lit (.bool true)], args := [d], vars := [g1] }
  | _ => none }
def fnLenZeros64Row : OpenClaim := { program := "ytjcjnldnlgiloaadoor", sum := "24d9c8cce45e2a0d9bfe267214e162b79c9cbd5a810a3873768084629b229eb8", func := "loop.example/pub-g03429/laws.FnLenZeros64", spec := "fnLenZeros64", named := ["loop.example/pub-g03429/pub/mathbits.deBruijn64tab"], apart := false, laid := [("loop.example/pub-g03429/pub/mathbits.deBruijn64tab", laid_loop_example_pub_g03429_pub_mathbits_deBruijn64tab)] }
def FnLenZeros64Said : Prop := fnLenZeros64Row.holds Tryd.pinned (OpenSpec.ofChange fnLenZeros64Spec)

/-- ITS FALSE NEIGHBOUR: 'it returns false'. Refute it at one input. -/
def fnLenZeros64Wrong : ChangeSpec := { name := "fnLenZeros64", vars := ["loop.example/pub-g03429/pub/mathbits.deBruijn64tab"], fn := fun _ => fun
  | [d, g1] => { results := [.lit (.bool false)], args := [d], vars := [g1] }
  | _ => none }
def FnLenZeros64WrongFalsely : Prop := fnLenZeros64Row.holds Tryd.pinned (OpenSpec.ofChange fnLenZeros64Wrong)

/-- 'laws.FnReverseBack16': WHATEVER THE INPUT: true; the input reads as it did. -/
def fnReverseBack16Spec : ChangeSpec := { name := "fnReverseBack16", vars := ["loop.example/pub-g03429/pub/mathbits.deBruijn32tab"], fn := fun _ => fun
  | [d, g1] => { results := [.lit (.bool true)], args := [d], vars := [g1] }
  | _ => none }
def fnReverseBack16Row : OpenClaim := { program := "ytjcjnldnlgiloaadoor", sum := "24d9c8cce45e2a0d9bfe267214e162b79c9cbd5a810a3873768084629b229eb8", func := "loop.example/pub-g03429/laws.FnReverseBack16", spec := "fnReverseBack16", named := ["loop.example/pub-g03429/pub/mathbits.deBruijn32tab"], apart := false, laid := [("loop.example/pub-g03429/pub/mathbits.deBruijn32tab", laid_loop_example_pub_g03429_pub_mathbits_deBruijn32tab)] }
def FnReverseBack16Said : Prop := fnReverseBack16Row.holds Tryd.pinned (OpenSpec.ofChange fnReverseBack16Spec)

/-- ITS FALSE NEIGHBOUR: 'it returns false'. Refute it at one input. -/
def fnReverseBack16Wrong : ChangeSpec := { name := "fnReverseBack16", vars := ["loop.example/pub-g03429/pub/mathbits.deBruijn32tab"], fn := fun _ => fun
  | [d, g1] => { results := [.lit (.bool false)], args := [d], vars := [g1] }
  | _ => none }
def FnReverseBack16WrongFalsely : Prop := fnReverseBack16Row.holds Tryd.pinned (OpenSpec.ofChange fnReverseBack16Wrong)

/-- 'laws.FnReverseBack32': WHATEVER THE INPUT: true; the input reads as it did. -/
def fnReverseBack32Spec : ChangeSpec := { name := "fnReverseBack32", vars := ["loop.example/pub-g03429/pub/mathbits.deBruijn32tab"], fn := fun _ => fun
  | [d, g1] => { results := [.lit (.bool true)], args := [d], vars := [g1] }
  | _ => none }
def fnReverseBack32Row : OpenClaim := { program := "ytjcjnldnlgiloaadoor", sum := "24d9c8cce45e2a0d9bfe267214e162b79c9cbd5a810a3873768084629b229eb8", func := "loop.example/pub-g03429/laws.FnReverseBack32", spec := "fnReverseBack32", named := ["loop.example/pub-g03429/pub/mathbits.deBruijn32tab"], apart := false, laid := [("loop.example/pub-g03429/pub/mathbits.deBruijn32tab", laid_loop_example_pub_g03429_pub_mathbits_deBruijn32tab)] }
def FnReverseBack32Said : Prop := fnReverseBack32Row.holds Tryd.pinned (OpenSpec.ofChange fnReverseBack32Spec)

/-- ITS FALSE NEIGHBOUR: 'it returns false'. Refute it at one input. -/
def fnReverseBack32Wrong : ChangeSpec := { name := "fnReverseBack32", vars := ["loop.example/pub-g03429/pub/mathbits.deBruijn32tab"], fn := fun _ => fun
  | [d, g1] => { results := [.lit (.bool false)], args := [d], vars := [g1] }
  | _ => none }
def FnReverseBack32WrongFalsely : Prop := fnReverseBack32Row.holds Tryd.pinned (OpenSpec.ofChange fnReverseBack32Wrong)

/-- 'laws.FnReverseBack64': WHATEVER THE INPUT: true; the input reads as it did. -/
def fnReverseBack64Spec : ChangeSpec := { name := "fnReverseBack64", vars := ["loop.example/pub-g03429/pub/mathbits.deBruijn64tab"], fn := fun _ => fun
  | [d, g1] => { results := [.lit (.bool true)], args := [d], vars := [g1] }
  | _ => none }
def fnReverseBack64Row : OpenClaim := { program := "ytjcjnldnlgiloaadoor", sum := "24d9c8cce45e2a0d9bfe267214e162b79c9cbd5a810a3873768084629b229eb8", func := "loop.example/pub-g03429/laws.FnReverseBack64", spec := "fnReverseBack64", named := ["loop.example/pub-g03429/pub/mathbits.deBruijn64tab"], apart := false, laid := [("loop.example/pub-g03429/pub/mathbits.deBruijn64tab", laid_loop_example_pub_g03429_pub_mathbits_deBruijn64tab)] }
def FnReverseBack64Said : Prop := fnReverseBack64Row.holds Tryd.pinned (OpenSpec.ofChange fnReverseBack64Spec)

/-- ITS FALSE NEIGHBOUR: 'it returns false'. Refute it at one input. -/
def fnReverseBack64Wrong : ChangeSpec := { name := "fnReverseBack64", vars := ["loop.example/pub-g03429/pub/mathbits.deBruijn64tab"], fn := fun _ => fun
  | [d, g1] => { results := [.lit (.bool false)], args := [d], vars := [g1] }
  | _ => none }
def FnReverseBack64WrongFalsely : Prop := fnReverseBack64Row.holds Tryd.pinned (OpenSpec.ofChange fnReverseBack64Wrong)

/- THE SECOND FORM. 'bulk': how many values and letters a reading holds, each counted each time it is reached (what is shared counts as often as it is met; a slice's spare places count too). A statement '..UptoSaid' is the law's where the arguments, and the package variables that the reading takes, are together of bulk at most 1048576: NARROWER than '..Said'. Prove '..Said' where nothing that the law and all that it calls make is longer than what came in: it says more and counts as full. Else prove '..UptoSaid'. A law counts once. -/
mutual
def uptoBulk {H : Type} : DataW H → Nat
  | .lit (.string bytes) => bytes.length + 1
  | .lit _ => 1
  | .nil => 1
  | .ptr d => uptoBulk d + 1
  | .slice elems spare => uptoBulkAll elems + uptoBulkAll spare + 1
  | .agg parts => uptoBulkAll parts + 1
  | .iface _ d => uptoBulk d + 1
  | .map entries => uptoBulkEntries entries + 1
  | .held _ => 1
def uptoBulkAll {H : Type} : List (DataW H) → Nat
  | [] => 0
  | d :: r => uptoBulk d + uptoBulkAll r
def uptoBulkEntries {H : Type} : List (Lit × DataW H) → Nat
  | [] => 0
  | x :: r => uptoBulkEntry x + uptoBulkEntries r
def uptoBulkEntry {H : Type} : Lit × DataW H → Nat
  | (.string bytes, d) => bytes.length + uptoBulk d + 1
  | (_, d) => uptoBulk d + 1
 end
def uptoSmall : (H : Type) → List (DataW H) → Bool := fun _ ds => decide (uptoBulkAll ds ≤ 1048576)
def OpenSpec.upto (s : _root_.Go.ChangeSpec) : _root_.Go.OpenSpec := { _root_.Go.OpenSpec.ofChange s with cond := some uptoSmall }

/-- 'laws.FnTrailingZeros16', WHERE WHAT IT READS IS OF BULK AT MOST 1048576: true; the input reads as it did. -/
def fnTrailingZeros16UptoRow : OpenClaim := { program := "ytjcjnldnlgiloaadoor", sum := "24d9c8cce45e2a0d9bfe267214e162b79c9cbd5a810a3873768084629b229eb8", func := "loop.example/pub-g03429/laws.FnTrailingZeros16", spec := "fnTrailingZeros16", named := ["loop.example/pub-g03429/pub/mathbits.deBruijn32tab"], apart := false, laid := [("loop.example/pub-g03429/pub/mathbits.deBruijn32tab", laid_loop_example_pub_g03429_pub_mathbits_deBruijn32tab)], narrowed := true }
def FnTrailingZeros16UptoSaid : Prop := fnTrailingZeros16UptoRow.holds Tryd.pinned (OpenSpec.upto fnTrailingZeros16Spec)

/-- 'laws.FnTrailingZeros32', WHERE WHAT IT READS IS OF BULK AT MOST 1048576: true; the input reads as it did. -/
def fnTrailingZeros32UptoRow : OpenClaim := { program := "ytjcjnldnlgiloaadoor", sum := "24d9c8cce45e2a0d9bfe267214e162b79c9cbd5a810a3873768084629b229eb8", func := "loop.example/pub-g03429/laws.FnTrailingZeros32", spec := "fnTrailingZeros32", named := ["loop.example/pub-g03429/pub/mathbits.deBruijn32tab"], apart := false, laid := [("loop.example/pub-g03429/pub/mathbits.deBruijn32tab", laid_loop_example_pub_g03429_pub_mathbits_deBruijn32tab)], narrowed := true }
def FnTrailingZeros32UptoSaid : Prop := fnTrailingZeros32UptoRow.holds Tryd.pinned (OpenSpec.upto fnTrailingZeros32Spec)

/-- 'laws.FnTrailingZeros64', WHERE WHAT IT READS IS OF BULK AT MOST 1048576: true; the input reads as it did. -/
def fnTrailingZeros64UptoRow : OpenClaim := { program := "ytjcjnldnlgiloaadoor", sum := "24d9c8cce45e2a0d9bfe267214e162b79c9cbd5a810a3873768084629b229eb8", func := "loop.example/pub-g03429/laws.FnTrailingZeros64", spec := "fnTrailingZeros64", named := ["loop.example/pub-g03429/pub/mathbits.deBruijn64tab"], apart := false, laid := [("loop.example/pub-g03429/pub/mathbits.deBruijn64tab", laid_loop_example_pub_g03429_pub_mathbits_deBruijn64tab)], narrowed := true }
def FnTrailingZeros64UptoSaid : Prop := fnTrailingZeros64UptoRow.holds Tryd.pinned (OpenSpec.upto fnTrailingZeros64Spec)

/-- 'laws.FnLenZeros16', WHERE WHAT IT READS IS OF BULK AT MOST 1048576: true; the input reads as it did. -/
def fnLenZeros16UptoRow : OpenClaim := { program := "ytjcjnldnlgiloaadoor", sum := "24d9c8cce45e2a0d9bfe267214e162b79c9cbd5a810a3873768084629b229eb8", func := "loop.example/pub-g03429/laws.FnLenZeros16", spec := "fnLenZeros16", named := ["loop.example/pub-g03429/pub/mathbits.deBruijn32tab"], apart := false, laid := [("loop.example/pub-g03429/pub/mathbits.deBruijn32tab", laid_loop_example_pub_g03429_pub_mathbits_deBruijn32tab)], narrowed := true }
def FnLenZeros16UptoSaid : Prop := fnLenZeros16UptoRow.holds Tryd.pinned (OpenSpec.upto fnLenZeros16Spec)

/-- 'laws.FnLenZeros32', WHERE WHAT IT READS IS OF BULK AT MOST 1048576: true; the input reads as it did. -/
def fnLenZeros32UptoRow : OpenClaim := { program := "ytjcjnldnlgiloaadoor", sum := "24d9c8cce45e2a0d9bfe267214e162b79c9cbd5a810a3873768084629b229eb8", func := "loop.example/pub-g03429/laws.FnLenZeros32", spec := "fnLenZeros32", named := ["loop.example/pub-g03429/pub/mathbits.deBruijn32tab"], apart := false, laid := [("loop.example/pub-g03429/pub/mathbits.deBruijn32tab", laid_loop_example_pub_g03429_pub_mathbits_deBruijn32tab)], narrowed := true }
def FnLenZeros32UptoSaid : Prop := fnLenZeros32UptoRow.holds Tryd.pinned (OpenSpec.upto fnLenZeros32Spec)

/-- 'laws.FnLenZeros64', WHERE WHAT IT READS IS OF BULK AT MOST 1048576: true; the input reads as it did. -/
def fnLenZeros64UptoRow : OpenClaim := { program := "ytjcjnldnlgiloaadoor", sum := "24d9c8cce45e2a0d9bfe267214e162b79c9cbd5a810a3873768084629b229eb8", func := "loop.example/pub-g03429/laws.FnLenZeros64", spec := "fnLenZeros64", named := ["loop.example/pub-g03429/pub/mathbits.deBruijn64tab"], apart := false, laid := [("loop.example/pub-g03429/pub/mathbits.deBruijn64tab", laid_loop_example_pub_g03429_pub_mathbits_deBruijn64tab)], narrowed := true }
def FnLenZeros64UptoSaid : Prop := fnLenZeros64UptoRow.holds Tryd.pinned (OpenSpec.upto fnLenZeros64Spec)

/-- 'laws.FnReverseBack16', WHERE WHAT IT READS IS OF BULK AT MOST 1048576: true; the input reads as it did. -/
def fnReverseBack16UptoRow : OpenClaim := { program := "ytjcjnldnlgiloaadoor", sum := "24d9c8cce45e2a0d9bfe267214e162b79c9cbd5a810a3873768084629b229eb8", func := "loop.example/pub-g03429/laws.FnReverseBack16", spec := "fnReverseBack16", named := ["loop.example/pub-g03429/pub/mathbits.deBruijn32tab"], apart := false, laid := [("loop.example/pub-g03429/pub/mathbits.deBruijn32tab", laid_loop_example_pub_g03429_pub_mathbits_deBruijn32tab)], narrowed := true }
def FnReverseBack16UptoSaid : Prop := fnReverseBack16UptoRow.holds Tryd.pinned (OpenSpec.upto fnReverseBack16Spec)

/-- 'laws.FnReverseBack32', WHERE WHAT IT READS IS OF BULK AT MOST 1048576: true; the input reads as it did. -/
def fnReverseBack32UptoRow : OpenClaim := { program := "ytjcjnldnlgiloaadoor", sum := "24d9c8cce45e2a0d9bfe267214e162b79c9cbd5a810a3873768084629b229eb8", func := "loop.example/pub-g03429/laws.FnReverseBack32", spec := "fnReverseBack32", named := ["loop.example/pub-g03429/pub/mathbits.deBruijn32tab"], apart := false, laid := [("loop.example/pub-g03429/pub/mathbits.deBruijn32tab", laid_loop_example_pub_g03429_pub_mathbits_deBruijn32tab)], narrowed := true }
def FnReverseBack32UptoSaid : Prop := fnReverseBack32UptoRow.holds Tryd.pinned (OpenSpec.upto fnReverseBack32Spec)

/-- 'laws.FnReverseBack64', WHERE WHAT IT READS IS OF BULK AT MOST 1048576: true; the input reads as it did. -/
def fnReverseBack64UptoRow : OpenClaim := { program := "ytjcjnldnlgiloaadoor", sum := "24d9c8cce45e2a0d9bfe267214e162b79c9cbd5a810a3873768084629b229eb8", func := "loop.example/pub-g03429/laws.FnReverseBack64", spec := "fnReverseBack64", named := ["loop.example/pub-g03429/pub/mathbits.deBruijn64tab"], apart := false, laid := [("loop.example/pub-g03429/pub/mathbits.deBruijn64tab", laid_loop_example_pub_g03429_pub_mathbits_deBruijn64tab)], narrowed := true }
def FnReverseBack64UptoSaid : Prop := fnReverseBack64UptoRow.holds Tryd.pinned (OpenSpec.upto fnReverseBack64Spec)

end Rows
end Go.Proofs.YtjcjnldnlgiloaaDoor
