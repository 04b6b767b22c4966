/-
  No cell of these rows narrows 'for every input' (looked for: loops, veiled, ifaces, maps, wideKeys, modest, calm, conditions, laid).
  DERIVED. THE GIVEN ROWS OF THIS SEAT. 11 by the template 'for every input the law returns true; each argument reads behind the call as it read before'; 0 by the template 'total and deterministic' (their statements: YtpoadogiganibaaTotals.lean).
  GIVEN WITH THE SEED: the statements are not yours to turn. If you find one false, say at which input.
  Laid BY PROGRAM, IN A SANDBOX (cutbox-rows.mjs): the forced cells as the released guide's own fill.sh prints them over the translation e425e15488d58a3d… (all of the seat's roots in one cut). By AI agents, Wed Nov 11 2026. No macro, syntax, notation, axiom, sorry.
-/
import Derived.Test.YtpoadogiganibaaChecked
import GoSem.Claim
import GoSem.ClaimJoined
import GoSem.ClaimMapViews
import Derived.JoinedTies
import Derived.KernelRfl
namespace Go.Proofs.Ytpoadogiganibaa
/- THE CELL 'sum', in the pinned program and in every row, IS THE sha256 OF THE DUMP (.gsa) THAT YtpoadogiganibaaProg.lean LOADS. Nothing in Lean hashes anything: it is a label: what it is worth is what the hold of that sum in a sandbox is worth. -/
noncomputable def Try.pinned : Pinned := { name := "ytpoadogiganibaa", sum := "e425e15488d58a3dcc52b7fd82e75b85024df6c6394919bba82c4c213b918fea", checked := Try.checked }
namespace Rows
def none {H : Type} : Left H := { results := [], args := [] }

/-- 'laws.FnAddSub32': WHATEVER THE INPUT: true; the input reads as it did. -/
def fnAddSub32Spec : ChangeSpec := { name := "fnAddSub32", fn := fun _ => fun
  | [d1, d2, d3] => { results := [.lit (.bool true)], args := [d1, d2, d3] }
  | _ => none }
def fnAddSub32Row : OpenClaim := { program := "ytpoadogiganibaa", sum := "e425e15488d58a3dcc52b7fd82e75b85024df6c6394919bba82c4c213b918fea", func := "loop.example/pub-g03429/laws.FnAddSub32", spec := "fnAddSub32", apart := false }
def FnAddSub32Said : Prop := fnAddSub32Row.holds Try.pinned (OpenSpec.ofChange fnAddSub32Spec)

/-- ITS FALSE NEIGHBOUR: 'it returns false'. Refute it at one input. -/
def fnAddSub32Wrong : ChangeSpec := { name := "fnAddSub32", fn := fun _ => fun
  | [d1, d2, d3] => { results := [.lit (.bool false)], args := [d1, d2, d3] }
  | _ => none }
def FnAddSub32WrongFalsely : Prop := fnAddSub32Row.holds Try.pinned (OpenSpec.ofChange fnAddSub32Wrong)

/-- 'laws.FnAdd64': WHATEVER THE INPUT: true; the input reads as it did. -/
def fnAdd64Spec : ChangeSpec := { name := "fnAdd64", fn := fun _ => fun
  | [d1, d2, d3] => { results := [.lit (.bool true)], args := [d1, d2, d3] }
  | _ => none }
def fnAdd64Row : OpenClaim := { program := "ytpoadogiganibaa", sum := "e425e15488d58a3dcc52b7fd82e75b85024df6c6394919bba82c4c213b918fea", func := "loop.example/pub-g03429/laws.FnAdd64", spec := "fnAdd64", apart := false }
def FnAdd64Said : Prop := fnAdd64Row.holds Try.pinned (OpenSpec.ofChange fnAdd64Spec)

/-- ITS FALSE NEIGHBOUR: 'it returns false'. Refute it at one input. -/
def fnAdd64Wrong : ChangeSpec := { name := "fnAdd64", fn := fun _ => fun
  | [d1, d2, d3] => { results := [.lit (.bool false)], args := [d1, d2, d3] }
  | _ => none }
def FnAdd64WrongFalsely : Prop := fnAdd64Row.holds Try.pinned (OpenSpec.ofChange fnAdd64Wrong)

/-- 'laws.FnSub64': WHATEVER THE INPUT: true; the input reads as it did. -/
def fnSub64Spec : ChangeSpec := { name := "fnSub64", fn := fun _ => fun
  | [d1, d2, d3] => { results := [.lit (.bool true)], args := [d1, d2, d3] }
  | _ => none }
def fnSub64Row : OpenClaim := { program := "ytpoadogiganibaa", sum := "e425e15488d58a3dcc52b7fd82e75b85024df6c6394919bba82c4c213b918fea", func := "loop.example/pub-g03429/laws.FnSub64", spec := "fnSub64", apart := false }
def FnSub64Said : Prop := fnSub64Row.holds Try.pinned (OpenSpec.ofChange fnSub64Spec)

/-- ITS FALSE NEIGHBOUR: 'it returns false'. Refute it at one input. -/
def fnSub64Wrong : ChangeSpec := { name := "fnSub64", fn := fun _ => fun
  | [d1, d2, d3] => { results := [.lit (.bool false)], args := [d1, d2, d3] }
  | _ => none }
def FnSub64WrongFalsely : Prop := fnSub64Row.holds Try.pinned (OpenSpec.ofChange fnSub64Wrong)

/-- 'laws.FnAddSub64': WHATEVER THE INPUT: true; the input reads as it did. -/
def fnAddSub64Spec : ChangeSpec := { name := "fnAddSub64", fn := fun _ => fun
  | [d1, d2, d3] => { results := [.lit (.bool true)], args := [d1, d2, d3] }
  | _ => none }
def fnAddSub64Row : OpenClaim := { program := "ytpoadogiganibaa", sum := "e425e15488d58a3dcc52b7fd82e75b85024df6c6394919bba82c4c213b918fea", func := "loop.example/pub-g03429/laws.FnAddSub64", spec := "fnAddSub64", apart := false }
def FnAddSub64Said : Prop := fnAddSub64Row.holds Try.pinned (OpenSpec.ofChange fnAddSub64Spec)

/-- ITS FALSE NEIGHBOUR: 'it returns false'. Refute it at one input. -/
def fnAddSub64Wrong : ChangeSpec := { name := "fnAddSub64", fn := fun _ => fun
  | [d1, d2, d3] => { results := [.lit (.bool false)], args := [d1, d2, d3] }
  | _ => none }
def FnAddSub64WrongFalsely : Prop := fnAddSub64Row.holds Try.pinned (OpenSpec.ofChange fnAddSub64Wrong)

/-- 'laws.FnMul64': WHATEVER THE INPUT: true; the input reads as it did. -/
def fnMul64Spec : ChangeSpec := { name := "fnMul64", fn := fun _ => fun
  | [d1, d2] => { results := [.lit (.bool true)], args := [d1, d2] }
  | _ => none }
def fnMul64Row : OpenClaim := { program := "ytpoadogiganibaa", sum := "e425e15488d58a3dcc52b7fd82e75b85024df6c6394919bba82c4c213b918fea", func := "loop.example/pub-g03429/laws.FnMul64", spec := "fnMul64", apart := false }
def FnMul64Said : Prop := fnMul64Row.holds Try.pinned (OpenSpec.ofChange fnMul64Spec)

/-- ITS FALSE NEIGHBOUR: 'it returns false'. Refute it at one input. -/
def fnMul64Wrong : ChangeSpec := { name := "fnMul64", fn := fun _ => fun
  | [d1, d2] => { results := [.lit (.bool false)], args := [d1, d2] }
  | _ => none }
def FnMul64WrongFalsely : Prop := fnMul64Row.holds Try.pinned (OpenSpec.ofChange fnMul64Wrong)

/-- 'laws.FnMulTurned64': WHATEVER THE INPUT: true; the input reads as it did. -/
def fnMulTurned64Spec : ChangeSpec := { name := "fnMulTurned64", fn := fun _ => fun
  | [d1, d2] => { results := [.lit (.bool true)], args := [d1, d2] }
  | _ => none }
def fnMulTurned64Row : OpenClaim := { program := "ytpoadogiganibaa", sum := "e425e15488d58a3dcc52b7fd82e75b85024df6c6394919bba82c4c213b918fea", func := "loop.example/pub-g03429/laws.FnMulTurned64", spec := "fnMulTurned64", apart := false }
def FnMulTurned64Said : Prop := fnMulTurned64Row.holds Try.pinned (OpenSpec.ofChange fnMulTurned64Spec)

/-- ITS FALSE NEIGHBOUR: 'it returns false'. Refute it at one input. -/
def fnMulTurned64Wrong : ChangeSpec := { name := "fnMulTurned64", fn := fun _ => fun
  | [d1, d2] => { results := [.lit (.bool false)], args := [d1, d2] }
  | _ => none }
def FnMulTurned64WrongFalsely : Prop := fnMulTurned64Row.holds Try.pinned (OpenSpec.ofChange fnMulTurned64Wrong)

/-- 'laws.FnDiv64': WHATEVER THE INPUT: true; the input reads as it did. -/
def fnDiv64Spec : ChangeSpec := { name := "fnDiv64", fn := fun _ => fun
  | [d1, d2, d3] => { results := [.lit (.bool true)], args := [d1, d2, d3] }
  | _ => none }
def fnDiv64Row : OpenClaim := { program := "ytpoadogiganibaa", sum := "e425e15488d58a3dcc52b7fd82e75b85024df6c6394919bba82c4c213b918fea", func := "loop.example/pub-g03429/laws.FnDiv64", spec := "fnDiv64", apart := false }
def FnDiv64Said : Prop := fnDiv64Row.holds Try.pinned (OpenSpec.ofChange fnDiv64Spec)

/-- ITS FALSE NEIGHBOUR: 'it returns false'. Refute it at one input. -/
def fnDiv64Wrong : ChangeSpec := { name := "fnDiv64", fn := fun _ => fun
  | [d1, d2, d3] => { results := [.lit (.bool false)], args := [d1, d2, d3] }
  | _ => none }
def FnDiv64WrongFalsely : Prop := fnDiv64Row.holds Try.pinned (OpenSpec.ofChange fnDiv64Wrong)

/-- 'laws.FnRem64': WHATEVER THE INPUT: true; the input reads as it did. -/
def fnRem64Spec : ChangeSpec := { name := "fnRem64", fn := fun _ => fun
  | [d1, d2, d3] => { results := [.lit (.bool true)], args := [d1, d2, d3] }
  | _ => none }
def fnRem64Row : OpenClaim := { program := "ytpoadogiganibaa", sum := "e425e15488d58a3dcc52b7fd82e75b85024df6c6394919bba82c4c213b918fea", func := "loop.example/pub-g03429/laws.FnRem64", spec := "fnRem64", apart := false }
def FnRem64Said : Prop := fnRem64Row.holds Try.pinned (OpenSpec.ofChange fnRem64Spec)

/-- ITS FALSE NEIGHBOUR: 'it returns false'. Refute it at one input. -/
def fnRem64Wrong : ChangeSpec := { name := "fnRem64", fn := fun _ => fun
  | [d1, d2, d3] => { results := [.lit (.bool false)], args := [d1, d2, d3] }
  | _ => none }
def FnRem64WrongFalsely : Prop := fnRem64Row.holds Try.pinned (OpenSpec.ofChange fnRem64Wrong)

/-- 'laws.FnRemDiv64': WHATEVER THE INPUT: true; the input reads as it did. -/
def fnRemDiv64Spec : ChangeSpec := { name := "fnRemDiv64", fn := fun _ => fun
  | [d1, d2, d3] => { results := [.lit (.bool true)], args := [d1, d2, d3] }
  | _ => none }
def fnRemDiv64Row : OpenClaim := { program := "ytpoadogiganibaa", sum := "e425e15488d58a3dcc52b7fd82e75b85024df6c6394919bba82c4c213b918fea", func := "loop.example/pub-g03429/laws.FnRemDiv64", spec := "fnRemDiv64", apart := false }
def FnRemDiv64Said : Prop := fnRemDiv64Row.holds Try.pinned (OpenSpec.ofChange fnRemDiv64Spec)

/-- ITS FALSE NEIGHBOUR: 'it returns false'. Refute it at one input. -/
def fnRemDiv64Wrong : ChangeSpec := { name := "fnRemDiv64", fn := fun _ => fun
  | [d1, d2, d3] => { results := [.lit (.bool false)], args := [d1, d2, d3] }
  | _ => none }
def FnRemDiv64WrongFalsely : Prop := fnRemDiv64Row.holds Try.pinned (OpenSpec.ofChange fnRemDiv64Wrong)

/-- 'laws.FnDivMul64': WHATEVER THE INPUT: true; the input reads as it did. -/
def fnDivMul64Spec : ChangeSpec := { name := "fnDivMul64", fn := fun _ => fun
  | [d1, d2, d3] => { results := [.lit (.bool true)], args := [d1, d2, d3] }
  | _ => none }
def fnDivMul64Row : OpenClaim := { program := "ytpoadogiganibaa", sum := "e425e15488d58a3dcc52b7fd82e75b85024df6c6394919bba82c4c213b918fea", func := "loop.example/pub-g03429/laws.FnDivMul64", spec := "fnDivMul64", apart := false }
def FnDivMul64Said : Prop := fnDivMul64Row.holds Try.pinned (OpenSpec.ofChange fnDivMul64Spec)

/-- ITS FALSE NEIGHBOUR: 'it returns false'. Refute it at one input. -/
def fnDivMul64Wrong : ChangeSpec := { name := "fnDivMul64", fn := fun _ => fun
  | [d1, d2, d3] => { results := [.lit (.bool false)], args := [d1, d2, d3] }
  | _ => none }
def FnDivMul64WrongFalsely : Prop := fnDivMul64Row.holds Try.pinned (OpenSpec.ofChange fnDivMul64Wrong)

/-- 'laws.FnPanics': WHATEVER THE INPUT: true; the input reads as it did. -/
def fnPanicsSpec : ChangeSpec := { name := "fnPanics", fn := fun _ => fun
  | [d1, d2, d3, d4] => { results := [.lit (.bool true)], args := [d1, d2, d3, d4] }
  | _ => none }
def fnPanicsRow : OpenClaim := { program := "ytpoadogiganibaa", sum := "e425e15488d58a3dcc52b7fd82e75b85024df6c6394919bba82c4c213b918fea", func := "loop.example/pub-g03429/laws.FnPanics", spec := "fnPanics", unfollowed := true, recurses := true, apart := false }
def FnPanicsSaid : Prop := fnPanicsRow.holds Try.pinned (OpenSpec.ofChange fnPanicsSpec)

/-- ITS FALSE NEIGHBOUR: 'it returns false'. Refute it at one input. -/
def fnPanicsWrong : ChangeSpec := { name := "fnPanics", fn := fun _ => fun
  | [d1, d2, d3, d4] => { results := [.lit (.bool false)], args := [d1, d2, d3, d4] }
  | _ => none }
def FnPanicsWrongFalsely : Prop := fnPanicsRow.holds Try.pinned (OpenSpec.ofChange fnPanicsWrong)

/- THE SECOND FORM. 'bulk': how many values and letters a reading holds, each counted each time it is reached (what is shared counts as often as it is met; a slice's spare places count too). A statement '..UptoSaid' is the law's where the arguments, and the package variables that the reading takes, are together of bulk at most 1048576: NARROWER than '..Said'. Prove '..Said' where nothing that the law and all that it calls make is longer than what came in: it says more and counts as full. Else prove '..UptoSaid'. A law counts once. -/
mutual
def uptoBulk {H : Type} : DataW H → Nat
  | .lit (.string bytes) => bytes.length + 1
  | .lit _ => 1
  | .nil => 1
  | .ptr d => uptoBulk d + 1
  | .slice elems spare => uptoBulkAll elems + uptoBulkAll spare + 1
  | .agg parts => uptoBulkAll parts + 1
  | .iface _ d => uptoBulk d + 1
  | .map entries => uptoBulkEntries entries + 1
  | .held _ => 1
def uptoBulkAll {H : Type} : List (DataW H) → Nat
  | [] => 0
  | d :: r => uptoBulk d + uptoBulkAll r
def uptoBulkEntries {H : Type} : List (Lit × DataW H) → Nat
  | [] => 0
  | x :: r => uptoBulkEntry x + uptoBulkEntries r
def uptoBulkEntry {H : Type} : Lit × DataW H → Nat
  | (.string bytes, d) => bytes.length + uptoBulk d + 1
  | (_, d) => uptoBulk d + 1
 end
def uptoSmall : (H : Type) → List (DataW H) → Bool := fun _ ds => decide (uptoBulkAll ds ≤ 1048576)
def OpenSpec.upto (s : _root_.Go.ChangeSpec) : _root_.Go.OpenSpec := { _root_.Go.OpenSpec.ofChange s with cond := some uptoSmall }

/-- 'laws.FnAddSub32', WHERE WHAT IT READS IS OF BULK AT MOST 1048576: true; the input reads as it did. -/
def fnAddSub32UptoRow : OpenClaim := { program := "ytpoadogiganibaa", sum := "e425e15488d58a3dcc52b7fd82e75b85024df6c6394919bba82c4c213b918fea", func := "loop.example/pub-g03429/laws.FnAddSub32", spec := "fnAddSub32", apart := false, narrowed := true }
def FnAddSub32UptoSaid : Prop := fnAddSub32UptoRow.holds Try.pinned (OpenSpec.upto fnAddSub32Spec)

/-- 'laws.FnAdd64', WHERE WHAT IT READS IS OF BULK AT MOST 1048576: true; the input reads as it did. -/
def fnAdd64UptoRow : OpenClaim := { program := "ytpoadogiganibaa", sum := "e425e15488d58a3dcc52b7fd82e75b85024df6c6394919bba82c4c213b918fea", func := "loop.example/pub-g03429/laws.FnAdd64", spec := "fnAdd64", apart := false, narrowed := true }
def FnAdd64UptoSaid : Prop := fnAdd64UptoRow.holds Try.pinned (OpenSpec.upto fnAdd64Spec)

/-- 'laws.FnSub64', WHERE WHAT IT READS IS OF BULK AT MOST 1048576: true; the input reads as it did. -/
def fnSub64UptoRow : OpenClaim := { program := "ytpoadogiganibaa", sum := "e425e15488d58a3dcc52b7fd82e75b85024df6c6394919bba82c4c213b918fea", func := "loop.example/pub-g03429/laws.FnSub64", spec := "fnSub64", apart := false, narrowed := true }
def FnSub64UptoSaid : Prop := fnSub64UptoRow.holds Try.pinned (OpenSpec.upto fnSub64Spec)

/-- 'laws.FnAddSub64', WHERE WHAT IT READS IS OF BULK AT MOST 1048576: true; the input reads as it did. -/
def fnAddSub64UptoRow : OpenClaim := { program := "ytpoadogiganibaa", sum := "e425e15488d58a3dcc52b7fd82e75b85024df6c6394919bba82c4c213b918fea", func := "loop.example/pub-g03429/laws.FnAddSub64", spec := "fnAddSub64", apart := false, narrowed := true }
def FnAddSub64UptoSaid : Prop := fnAddSub64UptoRow.holds Try.pinned (OpenSpec.upto fnAddSub64Spec)

/-- 'laws.FnMul64', WHERE WHAT IT READS IS OF BULK AT MOST 1048576: true; the input reads as it did. -/
def fnMul64UptoRow : OpenClaim := { program := "ytpoadogiganibaa", sum := "e425e15488d58a3dcc52b7fd82e75b85024df6c6394919bba82c4c213b918fea", func := "loop.example/pub-g03429/laws.FnMul64", spec := "fnMul64", apart := false, narrowed := true }
def FnMul64UptoSaid : Prop := fnMul64UptoRow.holds Try.pinned (OpenSpec.upto fnMul64Spec)

/-- 'laws.FnMulTurned64', WHERE WHAT IT READS IS OF BULK AT MOST 1048576: true; the input reads as it did. -/
def fnMulTurned64UptoRow : OpenClaim := { program := "ytpoadogiganibaa", sum := "e425e15488d58a3dcc52b7fd82e75b85024df6c6394919bba82c4c213b918fea", func := "loop.example/pub-g03429/laws.FnMulTurned64", spec := "fnMulTurned64", apart := false, narrowed := true }
def FnMulTurned64UptoSaid : Prop := fnMulTurned64UptoRow.holds Try.pinned (OpenSpec.upto fnMulTurned64Spec)

/-- 'laws.FnDiv64', WHERE WHAT IT READS IS OF BULK AT MOST 1048576: true; the input reads as it did. -/
def fnDiv64UptoRow : OpenClaim := { program := "ytpoadogiganibaa", sum := "e425e15488d58a3dcc52b7fd82e75b85024df6c6394919bba82c4c213b918fea", func := "loop.example/pub-g03429/laws.FnDiv64", spec := "fnDiv64", apart := false, narrowed := true }
def FnDiv64UptoSaid : Prop := fnDiv64UptoRow.holds Try.pinned (OpenSpec.upto fnDiv64Spec)

/-- 'laws.FnRem64', WHERE WHAT IT READS IS OF BULK AT MOST 1048576: true; the input reads as it did. -/
def fnRem64UptoRow : OpenClaim := { program := "ytpoadogiganibaa", sum := "e425e15488d58a3dcc52b7fd82e75b85024df6c6394919bba82c4c213b918fea", func := "loop.example/pub-g03429/laws.FnRem64", spec := "fnRem64", apart := false, narrowed := true }
def FnRem64UptoSaid : Prop := fnRem64UptoRow.holds Try.pinned (OpenSpec.upto fnRem64Spec)

/-- 'laws.FnRemDiv64', WHERE WHAT IT READS IS OF BULK AT MOST 1048576: true; the input reads as it did. -/
def fnRemDiv64UptoRow : OpenClaim := { program := "ytpoadogiganibaa", sum := "e425e15488d58a3dcc52b7fd82e75b85024df6c6394919bba82c4c213b918fea", func := "loop.example/pub-g03429/laws.FnRemDiv64", spec := "fnRemDiv64", apart := false, narrowed := true }
def FnRemDiv64UptoSaid : Prop := fnRemDiv64UptoRow.holds Try.pinned (OpenSpec.upto fnRemDiv64Spec)

/-- 'laws.FnDivMul64', WHERE WHAT IT READS IS OF BULK AT MOST 1048576: true; the input reads as it did. -/
def fnDivMul64UptoRow : OpenClaim := { program := "ytpoadogiganibaa", sum := "e425e15488d58a3dcc52b7fd82e75b85024df6c6394919bba82c4c213b918fea", func := "loop.example/pub-g03429/laws.FnDivMul64", spec := "fnDivMul64", apart := false, narrowed := true }
def FnDivMul64UptoSaid : Prop := fnDivMul64UptoRow.holds Try.pinned (OpenSpec.upto fnDivMul64Spec)

/-- 'laws.FnPanics', WHERE WHAT IT READS IS OF BULK AT MOST 1048576: true; the input reads as it did. -/
def fnPanicsUptoRow : OpenClaim := { program := "ytpoadogiganibaa", sum := "e425e15488d58a3dcc52b7fd82e75b85024df6c6394919bba82c4c213b918fea", func := "loop.example/pub-g03429/laws.FnPanics", spec := "fnPanics", unfollowed := true, recurses := true, apart := false, narrowed := true }
def FnPanicsUptoSaid : Prop := fnPanicsUptoRow.holds Try.pinned (OpenSpec.upto fnPanicsSpec)

end Rows
end Go.Proofs.Ytpoadogiganibaa
