/-
  No cell of these rows narrows 'for every input' (looked for: loops, veiled, ifaces, maps, wideKeys, modest, calm, conditions, laid).
  DERIVED. THE GIVEN ROWS OF THIS SEAT. 9 by the template 'for every input the law returns true; each argument reads behind the call as it read before'; 0 by the template 'total and deterministic' (their statements: YtbpggopjiogimaaTotals.lean).
  GIVEN WITH THE SEED: the statements are not yours to turn. If you find one false, say at which input.
  Laid BY PROGRAM, IN A SANDBOX (cutbox-rows.mjs): the forced cells as the released guide's own fill.sh prints them over the translation 7d2db5185089b4fb… (all of the seat's roots in one cut). By AI agents, Wed Nov 11 2026. No macro, syntax, notation, axiom, sorry.
-/
import Derived.Test.YtbpggopjiogimaaChecked
import GoSem.Claim
import GoSem.ClaimJoined
import GoSem.ClaimMapViews
import Derived.JoinedTies
import Derived.KernelRfl
namespace Go.Proofs.Ytbpggopjiogimaa
/- THE CELL 'sum', in the pinned program and in every row, IS THE sha256 OF THE DUMP (.gsa) THAT YtbpggopjiogimaaProg.lean LOADS. Nothing in Lean hashes anything: it is a label: what it is worth is what the hold of that sum in a sandbox is worth. -/
noncomputable def Try.pinned : Pinned := { name := "ytbpggopjiogimaa", sum := "7d2db5185089b4fb4b6d0d26b32a29fa80620c292ff77b13c8c53383f2133f31", checked := Try.checked }
namespace Rows
def none {H : Type} : Left H := { results := [], args := [] }

/-- 'laws.FnModLess': WHATEVER THE INPUT: true; the input reads as it did. -/
def fnModLessSpec : ChangeSpec := { name := "fnModLess", fn := fun _ => fun
  | [d1, d2] => { results := [.lit (.bool true)], args := [d1, d2] }
  | _ => none }
def fnModLessRow : OpenClaim := { program := "ytbpggopjiogimaa", sum := "7d2db5185089b4fb4b6d0d26b32a29fa80620c292ff77b13c8c53383f2133f31", func := "loop.example/pub-g03429/laws.FnModLess", spec := "fnModLess", inPlace := ["math.Float64frombits", "math.Float64bits"], apart := false }
def FnModLessSaid : Prop := fnModLessRow.holds Try.pinned (OpenSpec.ofChange fnModLessSpec)

/-- ITS FALSE NEIGHBOUR: 'it returns false'. Refute it at one input. -/
def fnModLessWrong : ChangeSpec := { name := "fnModLess", fn := fun _ => fun
  | [d1, d2] => { results := [.lit (.bool false)], args := [d1, d2] }
  | _ => none }
def FnModLessWrongFalsely : Prop := fnModLessRow.holds Try.pinned (OpenSpec.ofChange fnModLessWrong)

/-- 'laws.FnMod': WHATEVER THE INPUT: true; the input reads as it did. -/
def fnModSpec : ChangeSpec := { name := "fnMod", fn := fun _ => fun
  | [d1, d2] => { results := [.lit (.bool true)], args := [d1, d2] }
  | _ => none }
def fnModRow : OpenClaim := { program := "ytbpggopjiogimaa", sum := "7d2db5185089b4fb4b6d0d26b32a29fa80620c292ff77b13c8c53383f2133f31", func := "loop.example/pub-g03429/laws.FnMod", spec := "fnMod", inPlace := ["math.Float64frombits", "math.Float64bits"], apart := false }
def FnModSaid : Prop := fnModRow.holds Try.pinned (OpenSpec.ofChange fnModSpec)

/-- ITS FALSE NEIGHBOUR: 'it returns false'. Refute it at one input. -/
def fnModWrong : ChangeSpec := { name := "fnMod", fn := fun _ => fun
  | [d1, d2] => { results := [.lit (.bool false)], args := [d1, d2] }
  | _ => none }
def FnModWrongFalsely : Prop := fnModRow.holds Try.pinned (OpenSpec.ofChange fnModWrong)

/-- 'laws.FnRemainder': WHATEVER THE INPUT: true; the input reads as it did. -/
def fnRemainderSpec : ChangeSpec := { name := "fnRemainder", fn := fun _ => fun
  | [d1, d2] => { results := [.lit (.bool true)], args := [d1, d2] }
  | _ => none }
def fnRemainderRow : OpenClaim := { program := "ytbpggopjiogimaa", sum := "7d2db5185089b4fb4b6d0d26b32a29fa80620c292ff77b13c8c53383f2133f31", func := "loop.example/pub-g03429/laws.FnRemainder", spec := "fnRemainder", inPlace := ["math.Float64frombits", "math.Float64bits"], apart := false }
def FnRemainderSaid : Prop := fnRemainderRow.holds Try.pinned (OpenSpec.ofChange fnRemainderSpec)

/-- ITS FALSE NEIGHBOUR: 'it returns false'. Refute it at one input. -/
def fnRemainderWrong : ChangeSpec := { name := "fnRemainder", fn := fun _ => fun
  | [d1, d2] => { results := [.lit (.bool false)], args := [d1, d2] }
  | _ => none }
def FnRemainderWrongFalsely : Prop := fnRemainderRow.holds Try.pinned (OpenSpec.ofChange fnRemainderWrong)

/-- 'laws.FnFrexp': WHATEVER THE INPUT: true; the input reads as it did. -/
def fnFrexpSpec : ChangeSpec := { name := "fnFrexp", fn := fun _ => fun
  | [d] => { results := [.lit (.bool true)], args := [d] }
  | _ => none }
def fnFrexpRow : OpenClaim := { program := "ytbpggopjiogimaa", sum := "7d2db5185089b4fb4b6d0d26b32a29fa80620c292ff77b13c8c53383f2133f31", func := "loop.example/pub-g03429/laws.FnFrexp", spec := "fnFrexp", inPlace := ["math.Float64frombits", "math.Float64bits"], apart := false }
def FnFrexpSaid : Prop := fnFrexpRow.holds Try.pinned (OpenSpec.ofChange fnFrexpSpec)

/-- ITS FALSE NEIGHBOUR: 'it returns false'. Refute it at one input. -/
def fnFrexpWrong : ChangeSpec := { name := "fnFrexp", fn := fun _ => fun
  | [d] => { results := [.lit (.bool false)], args := [d] }
  | _ => none }
def FnFrexpWrongFalsely : Prop := fnFrexpRow.holds Try.pinned (OpenSpec.ofChange fnFrexpWrong)

/-- 'laws.FnLdexp': WHATEVER THE INPUT: true; the input reads as it did. -/
def fnLdexpSpec : ChangeSpec := { name := "fnLdexp", fn := fun _ => fun
  | [d1, d2] => { results := [.lit (.bool true)], args := [d1, d2] }
  | _ => none }
def fnLdexpRow : OpenClaim := { program := "ytbpggopjiogimaa", sum := "7d2db5185089b4fb4b6d0d26b32a29fa80620c292ff77b13c8c53383f2133f31", func := "loop.example/pub-g03429/laws.FnLdexp", spec := "fnLdexp", inPlace := ["math.Float64frombits", "math.Float64bits"], apart := false }
def FnLdexpSaid : Prop := fnLdexpRow.holds Try.pinned (OpenSpec.ofChange fnLdexpSpec)

/-- ITS FALSE NEIGHBOUR: 'it returns false'. Refute it at one input. -/
def fnLdexpWrong : ChangeSpec := { name := "fnLdexp", fn := fun _ => fun
  | [d1, d2] => { results := [.lit (.bool false)], args := [d1, d2] }
  | _ => none }
def FnLdexpWrongFalsely : Prop := fnLdexpRow.holds Try.pinned (OpenSpec.ofChange fnLdexpWrong)

/-- 'laws.FnFrexpBack': WHATEVER THE INPUT: true; the input reads as it did. -/
def fnFrexpBackSpec : ChangeSpec := { name := "fnFrexpBack", fn := fun _ => fun
  | [d] => { results := [.lit (.bool true)], args := [d] }
  | _ => none }
def fnFrexpBackRow : OpenClaim := { program := "ytbpggopjiogimaa", sum := "7d2db5185089b4fb4b6d0d26b32a29fa80620c292ff77b13c8c53383f2133f31", func := "loop.example/pub-g03429/laws.FnFrexpBack", spec := "fnFrexpBack", inPlace := ["math.Float64frombits", "math.Float64bits"], apart := false }
def FnFrexpBackSaid : Prop := fnFrexpBackRow.holds Try.pinned (OpenSpec.ofChange fnFrexpBackSpec)

/-- ITS FALSE NEIGHBOUR: 'it returns false'. Refute it at one input. -/
def fnFrexpBackWrong : ChangeSpec := { name := "fnFrexpBack", fn := fun _ => fun
  | [d] => { results := [.lit (.bool false)], args := [d] }
  | _ => none }
def FnFrexpBackWrongFalsely : Prop := fnFrexpBackRow.holds Try.pinned (OpenSpec.ofChange fnFrexpBackWrong)

/-- 'laws.FnNormalize': WHATEVER THE INPUT: true; the input reads as it did. -/
def fnNormalizeSpec : ChangeSpec := { name := "fnNormalize", fn := fun _ => fun
  | [d] => { results := [.lit (.bool true)], args := [d] }
  | _ => none }
def fnNormalizeRow : OpenClaim := { program := "ytbpggopjiogimaa", sum := "7d2db5185089b4fb4b6d0d26b32a29fa80620c292ff77b13c8c53383f2133f31", func := "loop.example/pub-g03429/laws.FnNormalize", spec := "fnNormalize", inPlace := ["math.Float64frombits", "math.Float64bits"], apart := false }
def FnNormalizeSaid : Prop := fnNormalizeRow.holds Try.pinned (OpenSpec.ofChange fnNormalizeSpec)

/-- ITS FALSE NEIGHBOUR: 'it returns false'. Refute it at one input. -/
def fnNormalizeWrong : ChangeSpec := { name := "fnNormalize", fn := fun _ => fun
  | [d] => { results := [.lit (.bool false)], args := [d] }
  | _ => none }
def FnNormalizeWrongFalsely : Prop := fnNormalizeRow.holds Try.pinned (OpenSpec.ofChange fnNormalizeWrong)

/-- 'laws.FnIlogb': WHATEVER THE INPUT: true; the input reads as it did. -/
def fnIlogbSpec : ChangeSpec := { name := "fnIlogb", fn := fun _ => fun
  | [d] => { results := [.lit (.bool true)], args := [d] }
  | _ => none }
def fnIlogbRow : OpenClaim := { program := "ytbpggopjiogimaa", sum := "7d2db5185089b4fb4b6d0d26b32a29fa80620c292ff77b13c8c53383f2133f31", func := "loop.example/pub-g03429/laws.FnIlogb", spec := "fnIlogb", inPlace := ["math.Float64frombits", "math.Float64bits"], apart := false }
def FnIlogbSaid : Prop := fnIlogbRow.holds Try.pinned (OpenSpec.ofChange fnIlogbSpec)

/-- ITS FALSE NEIGHBOUR: 'it returns false'. Refute it at one input. -/
def fnIlogbWrong : ChangeSpec := { name := "fnIlogb", fn := fun _ => fun
  | [d] => { results := [.lit (.bool false)], args := [d] }
  | _ => none }
def FnIlogbWrongFalsely : Prop := fnIlogbRow.holds Try.pinned (OpenSpec.ofChange fnIlogbWrong)

/-- 'laws.FnLogb': WHATEVER THE INPUT: true; the input reads as it did. -/
def fnLogbSpec : ChangeSpec := { name := "fnLogb", fn := fun _ => fun
  | [d] => { results := [.lit (.bool true)], args := [d] }
  | _ => none }
def fnLogbRow : OpenClaim := { program := "ytbpggopjiogimaa", sum := "7d2db5185089b4fb4b6d0d26b32a29fa80620c292ff77b13c8c53383f2133f31", func := "loop.example/pub-g03429/laws.FnLogb", spec := "fnLogb", inPlace := ["math.Float64frombits", "math.Float64bits"], apart := false }
def FnLogbSaid : Prop := fnLogbRow.holds Try.pinned (OpenSpec.ofChange fnLogbSpec)

/-- ITS FALSE NEIGHBOUR: 'it returns false'. Refute it at one input. -/
def fnLogbWrong : ChangeSpec := { name := "fnLogb", fn := fun _ => fun
  | [d] => { results := [.lit (.bool false)], args := [d] }
  | _ => none }
def FnLogbWrongFalsely : Prop := fnLogbRow.holds Try.pinned (OpenSpec.ofChange fnLogbWrong)

/- THE SECOND FORM. 'bulk': how many values and letters a reading holds, each counted each time it is reached (what is shared counts as often as it is met; a slice's spare places count too). A statement '..UptoSaid' is the law's where the arguments, and the package variables that the reading takes, are together of bulk at most 1048576: NARROWER than '..Said'. Prove '..Said' where nothing that the law and all that it calls make is longer than what came in: it says more and counts as full. Else prove '..UptoSaid'. A law counts once. -/
mutual
def uptoBulk {H : Type} : DataW H → Nat
  | .lit (.string bytes) => bytes.length + 1
  | .lit _ => 1
  | .nil => 1
  | .ptr d => uptoBulk d + 1
  | .slice elems spare => uptoBulkAll elems + uptoBulkAll spare + 1
  | .agg parts => uptoBulkAll parts + 1
  | .iface _ d => uptoBulk d + 1
  | .map entries => uptoBulkEntries entries + 1
  | .held _ => 1
def uptoBulkAll {H : Type} : List (DataW H) → Nat
  | [] => 0
  | d :: r => uptoBulk d + uptoBulkAll r
def uptoBulkEntries {H : Type} : List (Lit × DataW H) → Nat
  | [] => 0
  | x :: r => uptoBulkEntry x + uptoBulkEntries r
def uptoBulkEntry {H : Type} : Lit × DataW H → Nat
  | (.string bytes, d) => bytes.length + uptoBulk d + 1
  | (_, d) => uptoBulk d + 1
 end
def uptoSmall : (H : Type) → List (DataW H) → Bool := fun _ ds => decide (uptoBulkAll ds ≤ 1048576)
def OpenSpec.upto (s : _root_.Go.ChangeSpec) : _root_.Go.OpenSpec := { _root_.Go.OpenSpec.ofChange s with cond := some uptoSmall }

/-- 'laws.FnModLess', WHERE WHAT IT READS IS OF BULK AT MOST 1048576: true; the input reads as it did. -/
def fnModLessUptoRow : OpenClaim := { program := "ytbpggopjiogimaa", sum := "7d2db5185089b4fb4b6d0d26b32a29fa80620c292ff77b13c8c53383f2133f31", func := "loop.example/pub-g03429/laws.FnModLess", spec := "fnModLess", inPlace := ["math.Float64frombits", "math.Float64bits"], apart := false, narrowed := true }
def FnModLessUptoSaid : Prop := fnModLessUptoRow.holds Try.pinned (OpenSpec.upto fnModLessSpec)

/-- 'laws.FnMod', WHERE WHAT IT READS IS OF BULK AT MOST 1048576: true; the input reads as it did. -/
def fnModUptoRow : OpenClaim := { program := "ytbpggopjiogimaa", sum := "7d2db5185089b4fb4b6d0d26b32a29fa80620c292ff77b13c8c53383f2133f31", func := "loop.example/pub-g03429/laws.FnMod", spec := "fnMod", inPlace := ["math.Float64frombits", "math.Float64bits"], apart := false, narrowed := true }
def FnModUptoSaid : Prop := fnModUptoRow.holds Try.pinned (OpenSpec.upto fnModSpec)

/-- 'laws.FnRemainder', WHERE WHAT IT READS IS OF BULK AT MOST 1048576: true; the input reads as it did. -/
def fnRemainderUptoRow : OpenClaim := { program := "ytbpggopjiogimaa", sum := "7d2db5185089b4fb4b6d0d26b32a29fa80620c292ff77b13c8c53383f2133f31", func := "loop.example/pub-g03429/laws.FnRemainder", spec := "fnRemainder", inPlace := ["math.Float64frombits", "math.Float64bits"], apart := false, narrowed := true }
def FnRemainderUptoSaid : Prop := fnRemainderUptoRow.holds Try.pinned (OpenSpec.upto fnRemainderSpec)

/-- 'laws.FnFrexp', WHERE WHAT IT READS IS OF BULK AT MOST 1048576: true; the input reads as it did. -/
def fnFrexpUptoRow : OpenClaim := { program := "ytbpggopjiogimaa", sum := "7d2db5185089b4fb4b6d0d26b32a29fa80620c292ff77b13c8c53383f2133f31", func := "loop.example/pub-g03429/laws.FnFrexp", spec := "fnFrexp", inPlace := ["math.Float64frombits", "math.Float64bits"], apart := false, narrowed := true }
def FnFrexpUptoSaid : Prop := fnFrexpUptoRow.holds Try.pinned (OpenSpec.upto fnFrexpSpec)

/-- 'laws.FnLdexp', WHERE WHAT IT READS IS OF BULK AT MOST 1048576: true; the input reads as it did. -/
def fnLdexpUptoRow : OpenClaim := { program := "ytbpggopjiogimaa", sum := "7d2db5185089b4fb4b6d0d26b32a29fa80620c292ff77b13c8c53383f2133f31", func := "loop.example/pub-g03429/laws.FnLdexp", spec := "fnLdexp", inPlace := ["math.Float64frombits", "math.Float64bits"], apart := false, narrowed := true }
def FnLdexpUptoSaid : Prop := fnLdexpUptoRow.holds Try.pinned (OpenSpec.upto fnLdexpSpec)

/-- 'laws.FnFrexpBack', WHERE WHAT IT READS IS OF BULK AT MOST 1048576: true; the input reads as it did. -/
def fnFrexpBackUptoRow : OpenClaim := { program := "ytbpggopjiogimaa", sum := "7d2db5185089b4fb4b6d0d26b32a29fa80620c292ff77b13c8c53383f2133f31", func := "loop.example/pub-g03429/laws.FnFrexpBack", spec := "fnFrexpBack", inPlace := ["math.Float64frombits", "math.Float64bits"], apart := false, narrowed := true }
def FnFrexpBackUptoSaid : Prop := fnFrexpBackUptoRow.holds Try.pinned (OpenSpec.upto fnFrexpBackSpec)

/-- 'laws.FnNormalize', WHERE WHAT IT READS IS OF BULK AT MOST 1048576: true; the input reads as it did. -/
def fnNormalizeUptoRow : OpenClaim := { program := "ytbpggopjiogimaa", sum := "7d2db5185089b4fb4b6d0d26b32a29fa80620c292ff77b13c8c53383f2133f31", func := "loop.example/pub-g03429/laws.FnNormalize", spec := "fnNormalize", inPlace := ["math.Float64frombits", "math.Float64bits"], apart := false, narrowed := true }
def FnNormalizeUptoSaid : Prop := fnNormalizeUptoRow.holds Try.pinned (OpenSpec.upto fnNormalizeSpec)

/-- 'laws.FnIlogb', WHERE WHAT IT READS IS OF BULK AT MOST 1048576: true; the input reads as it did. -/
def fnIlogbUptoRow : OpenClaim := { program := "ytbpggopjiogimaa", sum := "7d2db5185089b4fb4b6d0d26b32a29fa80620c292ff77b13c8c53383f2133f31", func := "loop.example/pub-g03429/laws.FnIlogb", spec := "fnIlogb", inPlace := ["math.Float64frombits", "math.Float64bits"], apart := false, narrowed := true }
def FnIlogbUptoSaid : Prop := fnIlogbUptoRow.holds Try.pinned (OpenSpec.upto fnIlogbSpec)

/-- 'laws.FnLogb', WHERE WHAT IT READS IS OF BULK AT MOST 1048576: true; the input reads as it did. -/
def fnLogbUptoRow : OpenClaim := { program := "ytbpggopjiogimaa", sum := "7d2db5185089b4fb4b6d0d26b32a29fa80620c292ff77b13c8c53383f2133f31", func := "loop.example/pub-g03429/laws.FnLogb", spec := "fnLogb", inPlace := ["math.Float64frombits", "math.Float64bits"], apart := false, narrowed := true }
def FnLogbUptoSaid : Prop := fnLogbUptoRow.holds Try.pinned (OpenSpec.upto fnLogbSpec)

end Rows
end Go.Proofs.Ytbpggopjiogimaa
