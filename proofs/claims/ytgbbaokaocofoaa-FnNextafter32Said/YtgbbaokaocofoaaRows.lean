/-
  No cell of these rows narrows 'for every input' (looked for: loops, veiled, ifaces, maps, wideKeys, modest, calm, conditions, laid).
  DERIVED. THE GIVEN ROWS OF THIS SEAT. 8 by the template 'for every input the law returns true; each argument reads behind the call as it read before'; 0 by the template 'total and deterministic' (their statements: YtgbbaokaocofoaaTotals.lean).
  GIVEN WITH THE SEED: the statements are not yours to turn. If you find one false, say at which input.
  Laid BY PROGRAM, IN A SANDBOX (cutbox-rows.mjs): the forced cells as the released guide's own fill.sh prints them over the translation 653dd652807c5caf… (all of the seat's roots in one cut). By AI agents, Wed Nov 11 2026. No macro, syntax, notation, axiom, sorry.
-/
import Derived.Test.YtgbbaokaocofoaaChecked
import GoSem.Claim
import GoSem.ClaimJoined
import GoSem.ClaimMapViews
import Derived.JoinedTies
import Derived.KernelRfl
namespace Go.Proofs.Ytgbbaokaocofoaa
/- THE CELL 'sum', in the pinned program and in every row, IS THE sha256 OF THE DUMP (.gsa) THAT YtgbbaokaocofoaaProg.lean LOADS. Nothing in Lean hashes anything: it is a label: what it is worth is what the hold of that sum in a sandbox is worth. -/
noncomputable def Try.pinned : Pinned := { name := "ytgbbaokaocofoaa", sum := "653dd652807c5caf95c1e7bef3e517a6c7f145bc1eb4379494b938e9173c51a5", checked := Try.checked }
namespace Rows
def none {H : Type} : Left H := { results := [], args := [] }

/-- 'laws.FnNextafter32': WHATEVER THE INPUT: true; the input reads as it did. -/
def fnNextafter32Spec : ChangeSpec := { name := "fnNextafter32", fn := fun _ => fun
  | [d1, d2] => { results := [.lit (.bool true)], args := [d1, d2] }
  | _ => none }
def fnNextafter32Row : OpenClaim := { program := "ytgbbaokaocofoaa", sum := "653dd652807c5caf95c1e7bef3e517a6c7f145bc1eb4379494b938e9173c51a5", func := "loop.example/pub-g03429/laws.FnNextafter32", spec := "fnNextafter32", inPlace := ["math.Float32frombits", "math.Float64frombits", "math.Float64bits", "math.Float32bits"], apart := false }
def FnNextafter32Said : Prop := fnNextafter32Row.holds Try.pinned (OpenSpec.ofChange fnNextafter32Spec)

/-- ITS FALSE NEIGHBOUR: 'it returns false'. Refute it at one input. -/
def fnNextafter32Wrong : ChangeSpec := { name := "fnNextafter32", fn := fun _ => fun
  | [d1, d2] => { results := [.lit (.bool false)], args := [d1, d2] }
  | _ => none }
def FnNextafter32WrongFalsely : Prop := fnNextafter32Row.holds Try.pinned (OpenSpec.ofChange fnNextafter32Wrong)

/-- 'laws.FnNextBetween': WHATEVER THE INPUT: true; the input reads as it did. -/
def fnNextBetweenSpec : ChangeSpec := { name := "fnNextBetween", fn := fun _ => fun
  | [d1, d2] => { results := [.lit (.bool true)], args := [d1, d2] }
  | _ => none }
def fnNextBetweenRow : OpenClaim := { program := "ytgbbaokaocofoaa", sum := "653dd652807c5caf95c1e7bef3e517a6c7f145bc1eb4379494b938e9173c51a5", func := "loop.example/pub-g03429/laws.FnNextBetween", spec := "fnNextBetween", inPlace := ["math.Float64frombits", "math.Float64bits"], apart := false }
def FnNextBetweenSaid : Prop := fnNextBetweenRow.holds Try.pinned (OpenSpec.ofChange fnNextBetweenSpec)

/-- ITS FALSE NEIGHBOUR: 'it returns false'. Refute it at one input. -/
def fnNextBetweenWrong : ChangeSpec := { name := "fnNextBetween", fn := fun _ => fun
  | [d1, d2] => { results := [.lit (.bool false)], args := [d1, d2] }
  | _ => none }
def FnNextBetweenWrongFalsely : Prop := fnNextBetweenRow.holds Try.pinned (OpenSpec.ofChange fnNextBetweenWrong)

/-- 'laws.FnNextafter': WHATEVER THE INPUT: true; the input reads as it did. -/
def fnNextafterSpec : ChangeSpec := { name := "fnNextafter", fn := fun _ => fun
  | [d1, d2] => { results := [.lit (.bool true)], args := [d1, d2] }
  | _ => none }
def fnNextafterRow : OpenClaim := { program := "ytgbbaokaocofoaa", sum := "653dd652807c5caf95c1e7bef3e517a6c7f145bc1eb4379494b938e9173c51a5", func := "loop.example/pub-g03429/laws.FnNextafter", spec := "fnNextafter", inPlace := ["math.Float64frombits", "math.Float64bits"], apart := false }
def FnNextafterSaid : Prop := fnNextafterRow.holds Try.pinned (OpenSpec.ofChange fnNextafterSpec)

/-- ITS FALSE NEIGHBOUR: 'it returns false'. Refute it at one input. -/
def fnNextafterWrong : ChangeSpec := { name := "fnNextafter", fn := fun _ => fun
  | [d1, d2] => { results := [.lit (.bool false)], args := [d1, d2] }
  | _ => none }
def FnNextafterWrongFalsely : Prop := fnNextafterRow.holds Try.pinned (OpenSpec.ofChange fnNextafterWrong)

/-- 'laws.FnMax': WHATEVER THE INPUT: true; the input reads as it did. -/
def fnMaxSpec : ChangeSpec := { name := "fnMax", fn := fun _ => fun
  | [d1, d2] => { results := [.lit (.bool true)], args := [d1, d2] }
  | _ => none }
def fnMaxRow : OpenClaim := { program := "ytgbbaokaocofoaa", sum := "653dd652807c5caf95c1e7bef3e517a6c7f145bc1eb4379494b938e9173c51a5", func := "loop.example/pub-g03429/laws.FnMax", spec := "fnMax", inPlace := ["math.Float64frombits", "math.Float64bits"], apart := false }
def FnMaxSaid : Prop := fnMaxRow.holds Try.pinned (OpenSpec.ofChange fnMaxSpec)

/-- ITS FALSE NEIGHBOUR: 'it returns false'. Refute it at one input. -/
def fnMaxWrong : ChangeSpec := { name := "fnMax", fn := fun _ => fun
  | [d1, d2] => { results := [.lit (.bool false)], args := [d1, d2] }
  | _ => none }
def FnMaxWrongFalsely : Prop := fnMaxRow.holds Try.pinned (OpenSpec.ofChange fnMaxWrong)

/-- 'laws.FnMin': WHATEVER THE INPUT: true; the input reads as it did. -/
def fnMinSpec : ChangeSpec := { name := "fnMin", fn := fun _ => fun
  | [d1, d2] => { results := [.lit (.bool true)], args := [d1, d2] }
  | _ => none }
def fnMinRow : OpenClaim := { program := "ytgbbaokaocofoaa", sum := "653dd652807c5caf95c1e7bef3e517a6c7f145bc1eb4379494b938e9173c51a5", func := "loop.example/pub-g03429/laws.FnMin", spec := "fnMin", inPlace := ["math.Float64frombits", "math.Float64bits"], apart := false }
def FnMinSaid : Prop := fnMinRow.holds Try.pinned (OpenSpec.ofChange fnMinSpec)

/-- ITS FALSE NEIGHBOUR: 'it returns false'. Refute it at one input. -/
def fnMinWrong : ChangeSpec := { name := "fnMin", fn := fun _ => fun
  | [d1, d2] => { results := [.lit (.bool false)], args := [d1, d2] }
  | _ => none }
def FnMinWrongFalsely : Prop := fnMinRow.holds Try.pinned (OpenSpec.ofChange fnMinWrong)

/-- 'laws.FnInf': WHATEVER THE INPUT: true; the input reads as it did. -/
def fnInfSpec : ChangeSpec := { name := "fnInf", fn := fun _ => fun
  | [d] => { results := [.lit (.bool true)], args := [d] }
  | _ => none }
def fnInfRow : OpenClaim := { program := "ytgbbaokaocofoaa", sum := "653dd652807c5caf95c1e7bef3e517a6c7f145bc1eb4379494b938e9173c51a5", func := "loop.example/pub-g03429/laws.FnInf", spec := "fnInf", inPlace := ["math.Float64frombits", "math.Float64bits"], apart := false }
def FnInfSaid : Prop := fnInfRow.holds Try.pinned (OpenSpec.ofChange fnInfSpec)

/-- ITS FALSE NEIGHBOUR: 'it returns false'. Refute it at one input. -/
def fnInfWrong : ChangeSpec := { name := "fnInf", fn := fun _ => fun
  | [d] => { results := [.lit (.bool false)], args := [d] }
  | _ => none }
def FnInfWrongFalsely : Prop := fnInfRow.holds Try.pinned (OpenSpec.ofChange fnInfWrong)

/-- 'laws.FnIsInf': WHATEVER THE INPUT: true; the input reads as it did. -/
def fnIsInfSpec : ChangeSpec := { name := "fnIsInf", fn := fun _ => fun
  | [d1, d2] => { results := [.lit (.bool true)], args := [d1, d2] }
  | _ => none }
def fnIsInfRow : OpenClaim := { program := "ytgbbaokaocofoaa", sum := "653dd652807c5caf95c1e7bef3e517a6c7f145bc1eb4379494b938e9173c51a5", func := "loop.example/pub-g03429/laws.FnIsInf", spec := "fnIsInf", inPlace := ["math.Float64frombits", "math.Float64bits"], apart := false }
def FnIsInfSaid : Prop := fnIsInfRow.holds Try.pinned (OpenSpec.ofChange fnIsInfSpec)

/-- ITS FALSE NEIGHBOUR: 'it returns false'. Refute it at one input. -/
def fnIsInfWrong : ChangeSpec := { name := "fnIsInf", fn := fun _ => fun
  | [d1, d2] => { results := [.lit (.bool false)], args := [d1, d2] }
  | _ => none }
def FnIsInfWrongFalsely : Prop := fnIsInfRow.holds Try.pinned (OpenSpec.ofChange fnIsInfWrong)

/-- 'laws.FnIsNaN': WHATEVER THE INPUT: true; the input reads as it did. -/
def fnIsNaNSpec : ChangeSpec := { name := "fnIsNaN", fn := fun _ => fun
  | [d] => { results := [.lit (.bool true)], args := [d] }
  | _ => none }
def fnIsNaNRow : OpenClaim := { program := "ytgbbaokaocofoaa", sum := "653dd652807c5caf95c1e7bef3e517a6c7f145bc1eb4379494b938e9173c51a5", func := "loop.example/pub-g03429/laws.FnIsNaN", spec := "fnIsNaN", inPlace := ["math.Float64frombits"], apart := false }
def FnIsNaNSaid : Prop := fnIsNaNRow.holds Try.pinned (OpenSpec.ofChange fnIsNaNSpec)

/-- ITS FALSE NEIGHBOUR: 'it returns false'. Refute it at one input. -/
def fnIsNaNWrong : ChangeSpec := { name := "fnIsNaN", fn := fun _ => fun
  | [d] => { results := [.lit (.bool false)], args := [d] }
  | _ => none }
def FnIsNaNWrongFalsely : Prop := fnIsNaNRow.holds Try.pinned (OpenSpec.ofChange fnIsNaNWrong)

/- THE SECOND FORM. 'bulk': how many values and letters a reading holds, each counted each time it is reached (what is shared counts as often as it is met; a slice's spare places count too). A statement '..UptoSaid' is the law's where the arguments, and the package variables that the reading takes, are together of bulk at most 1048576: NARROWER than '..Said'. Prove '..Said' where nothing that the law and all that it calls make is longer than what came in: it says more and counts as full. Else prove '..UptoSaid'. A law counts once. -/
mutual
def uptoBulk {H : Type} : DataW H → Nat
  | .lit (.string bytes) => bytes.length + 1
  | .lit _ => 1
  | .nil => 1
  | .ptr d => uptoBulk d + 1
  | .slice elems spare => uptoBulkAll elems + uptoBulkAll spare + 1
  | .agg parts => uptoBulkAll parts + 1
  | .iface _ d => uptoBulk d + 1
  | .map entries => uptoBulkEntries entries + 1
  | .held _ => 1
def uptoBulkAll {H : Type} : List (DataW H) → Nat
  | [] => 0
  | d :: r => uptoBulk d + uptoBulkAll r
def uptoBulkEntries {H : Type} : List (Lit × DataW H) → Nat
  | [] => 0
  | x :: r => uptoBulkEntry x + uptoBulkEntries r
def uptoBulkEntry {H : Type} : Lit × DataW H → Nat
  | (.string bytes, d) => bytes.length + uptoBulk d + 1
  | (_, d) => uptoBulk d + 1
 end
def uptoSmall : (H : Type) → List (DataW H) → Bool := fun _ ds => decide (uptoBulkAll ds ≤ 1048576)
def OpenSpec.upto (s : _root_.Go.ChangeSpec) : _root_.Go.OpenSpec := { _root_.Go.OpenSpec.ofChange s with cond := some uptoSmall }

/-- 'laws.FnNextafter32', WHERE WHAT IT READS IS OF BULK AT MOST 1048576: true; the input reads as it did. -/
def fnNextafter32UptoRow : OpenClaim := { program := "ytgbbaokaocofoaa", sum := "653dd652807c5caf95c1e7bef3e517a6c7f145bc1eb4379494b938e9173c51a5", func := "loop.example/pub-g03429/laws.FnNextafter32", spec := "fnNextafter32", inPlace := ["math.Float32frombits", "math.Float64frombits", "math.Float64bits", "math.Float32bits"], apart := false, narrowed := true }
def FnNextafter32UptoSaid : Prop := fnNextafter32UptoRow.holds Try.pinned (OpenSpec.upto fnNextafter32Spec)

/-- 'laws.FnNextBetween', WHERE WHAT IT READS IS OF BULK AT MOST 1048576: true; the input reads as it did. -/
def fnNextBetweenUptoRow : OpenClaim := { program := "ytgbbaokaocofoaa", sum := "653dd652807c5caf95c1e7bef3e517a6c7f145bc1eb4379494b938e9173c51a5", func := "loop.example/pub-g03429/laws.FnNextBetween", spec := "fnNextBetween", inPlace := ["math.Float64frombits", "math.Float64bits"], apart := false, narrowed := true }
def FnNextBetweenUptoSaid : Prop := fnNextBetweenUptoRow.holds Try.pinned (OpenSpec.upto fnNextBetweenSpec)

/-- 'laws.FnNextafter', WHERE WHAT IT READS IS OF BULK AT MOST 1048576: true; the input reads as it did. -/
def fnNextafterUptoRow : OpenClaim := { program := "ytgbbaokaocofoaa", sum := "653dd652807c5caf95c1e7bef3e517a6c7f145bc1eb4379494b938e9173c51a5", func := "loop.example/pub-g03429/laws.FnNextafter", spec := "fnNextafter", inPlace := ["math.Float64frombits", "math.Float64bits"], apart := false, narrowed := true }
def FnNextafterUptoSaid : Prop := fnNextafterUptoRow.holds Try.pinned (OpenSpec.upto fnNextafterSpec)

/-- 'laws.FnMax', WHERE WHAT IT READS IS OF BULK AT MOST 1048576: true; the input reads as it did. -/
def fnMaxUptoRow : OpenClaim := { program := "ytgbbaokaocofoaa", sum := "653dd652807c5caf95c1e7bef3e517a6c7f145bc1eb4379494b938e9173c51a5", func := "loop.example/pub-g03429/laws.FnMax", spec := "fnMax", inPlace := ["math.Float64frombits", "math.Float64bits"], apart := false, narrowed := true }
def FnMaxUptoSaid : Prop := fnMaxUptoRow.holds Try.pinned (OpenSpec.upto fnMaxSpec)

/-- 'laws.FnMin', WHERE WHAT IT READS IS OF BULK AT MOST 1048576: true; the input reads as it did. -/
def fnMinUptoRow : OpenClaim := { program := "ytgbbaokaocofoaa", sum := "653dd652807c5caf95c1e7bef3e517a6c7f145bc1eb4379494b938e9173c51a5", func := "loop.example/pub-g03429/laws.FnMin", spec := "fnMin", inPlace := ["math.Float64frombits", "math.Float64bits"], apart := false, narrowed := true }
def FnMinUptoSaid : Prop := fnMinUptoRow.holds Try.pinned (OpenSpec.upto fnMinSpec)

/-- 'laws.FnInf', WHERE WHAT IT READS IS OF BULK AT MOST 1048576: true; the input reads as it did. -/
def fnInfUptoRow : OpenClaim := { program := "ytgbbaokaocofoaa", sum := "653dd652807c5caf95c1e7bef3e517a6c7f145bc1eb4379494b938e9173c51a5", func := "loop.example/pub-g03429/laws.FnInf", spec := "fnInf", inPlace := ["math.Float64frombits", "math.Float64bits"], apart := false, narrowed := true }
def FnInfUptoSaid : Prop := fnInfUptoRow.holds Try.pinned (OpenSpec.upto fnInfSpec)

/-- 'laws.FnIsInf', WHERE WHAT IT READS IS OF BULK AT MOST 1048576: true; the input reads as it did. -/
def fnIsInfUptoRow : OpenClaim := { program := "ytgbbaokaocofoaa", sum := "653dd652807c5caf95c1e7bef3e517a6c7f145bc1eb4379494b938e9173c51a5", func := "loop.example/pub-g03429/laws.FnIsInf", spec := "fnIsInf", inPlace := ["math.Float64frombits", "math.Float64bits"], apart := false, narrowed := true }
def FnIsInfUptoSaid : Prop := fnIsInfUptoRow.holds Try.pinned (OpenSpec.upto fnIsInfSpec)

/-- 'laws.FnIsNaN', WHERE WHAT IT READS IS OF BULK AT MOST 1048576: true; the input reads as it did. -/
def fnIsNaNUptoRow : OpenClaim := { program := "ytgbbaokaocofoaa", sum := "653dd652807c5caf95c1e7bef3e517a6c7f145bc1eb4379494b938e9173c51a5", func := "loop.example/pub-g03429/laws.FnIsNaN", spec := "fnIsNaN", inPlace := ["math.Float64frombits"], apart := false, narrowed := true }
def FnIsNaNUptoSaid : Prop := fnIsNaNUptoRow.holds Try.pinned (OpenSpec.upto fnIsNaNSpec)

end Rows
end Go.Proofs.Ytgbbaokaocofoaa
