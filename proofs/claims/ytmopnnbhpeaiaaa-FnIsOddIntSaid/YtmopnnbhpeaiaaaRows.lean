/-
  No cell of these rows narrows 'for every input' (looked for: loops, veiled, ifaces, maps, wideKeys, modest, calm, conditions, laid).
  DERIVED. THE GIVEN ROWS OF THIS SEAT. 12 by the template 'for every input the law returns true; each argument reads behind the call as it read before'; 0 by the template 'total and deterministic' (their statements: YtmopnnbhpeaiaaaTotals.lean).
  GIVEN WITH THE SEED: the statements are not yours to turn. If you find one false, say at which input.
  Laid BY PROGRAM, IN A SANDBOX (cutbox-rows.mjs): the forced cells as the released guide's own fill.sh prints them over the translation 61c4f54d7e45e035… (all of the seat's roots in one cut). By AI agents, Wed Nov 11 2026. No macro, syntax, notation, axiom, sorry.
-/
import Derived.Test.YtmopnnbhpeaiaaaChecked
import GoSem.Claim
import GoSem.ClaimJoined
import GoSem.ClaimMapViews
import Derived.JoinedTies
import Derived.KernelRfl
namespace Go.Proofs.Ytmopnnbhpeaiaaa
/- THE CELL 'sum', in the pinned program and in every row, IS THE sha256 OF THE DUMP (.gsa) THAT YtmopnnbhpeaiaaaProg.lean LOADS. Nothing in Lean hashes anything: it is a label: what it is worth is what the hold of that sum in a sandbox is worth. -/
noncomputable def Try.pinned : Pinned := { name := "ytmopnnbhpeaiaaa", sum := "61c4f54d7e45e0354afdce26ec550e8dd032406dd3ec9d6814e7a5f293902f56", checked := Try.checked }
namespace Rows
def none {H : Type} : Left H := { results := [], args := [] }

/-- 'laws.FnTrunc': WHATEVER THE INPUT: true; the input reads as it did. -/
def fnTruncSpec : ChangeSpec := { name := "fnTrunc", fn := fun _ => fun
  | [d] => { results := [.lit (.bool true)], args := [d] }
  | _ => none }
def fnTruncRow : OpenClaim := { program := "ytmopnnbhpeaiaaa", sum := "61c4f54d7e45e0354afdce26ec550e8dd032406dd3ec9d6814e7a5f293902f56", func := "loop.example/pub-g03429/laws.FnTrunc", spec := "fnTrunc", inPlace := ["math.Float64frombits", "math.Float64bits"], apart := false }
def FnTruncSaid : Prop := fnTruncRow.holds Try.pinned (OpenSpec.ofChange fnTruncSpec)

/-- ITS FALSE NEIGHBOUR: 'it returns false'. Refute it at one input. -/
def fnTruncWrong : ChangeSpec := { name := "fnTrunc", fn := fun _ => fun
  | [d] => { results := [.lit (.bool false)], args := [d] }
  | _ => none }
def FnTruncWrongFalsely : Prop := fnTruncRow.holds Try.pinned (OpenSpec.ofChange fnTruncWrong)

/-- 'laws.FnFloor': WHATEVER THE INPUT: true; the input reads as it did. -/
def fnFloorSpec : ChangeSpec := { name := "fnFloor", fn := fun _ => fun
  | [d] => { results := [.lit (.bool true)], args := [d] }
  | _ => none }
def fnFloorRow : OpenClaim := { program := "ytmopnnbhpeaiaaa", sum := "61c4f54d7e45e0354afdce26ec550e8dd032406dd3ec9d6814e7a5f293902f56", func := "loop.example/pub-g03429/laws.FnFloor", spec := "fnFloor", inPlace := ["math.Float64frombits", "math.Float64bits"], apart := false }
def FnFloorSaid : Prop := fnFloorRow.holds Try.pinned (OpenSpec.ofChange fnFloorSpec)

/-- ITS FALSE NEIGHBOUR: 'it returns false'. Refute it at one input. -/
def fnFloorWrong : ChangeSpec := { name := "fnFloor", fn := fun _ => fun
  | [d] => { results := [.lit (.bool false)], args := [d] }
  | _ => none }
def FnFloorWrongFalsely : Prop := fnFloorRow.holds Try.pinned (OpenSpec.ofChange fnFloorWrong)

/-- 'laws.FnCeil': WHATEVER THE INPUT: true; the input reads as it did. -/
def fnCeilSpec : ChangeSpec := { name := "fnCeil", fn := fun _ => fun
  | [d] => { results := [.lit (.bool true)], args := [d] }
  | _ => none }
def fnCeilRow : OpenClaim := { program := "ytmopnnbhpeaiaaa", sum := "61c4f54d7e45e0354afdce26ec550e8dd032406dd3ec9d6814e7a5f293902f56", func := "loop.example/pub-g03429/laws.FnCeil", spec := "fnCeil", inPlace := ["math.Float64frombits", "math.Float64bits"], apart := false }
def FnCeilSaid : Prop := fnCeilRow.holds Try.pinned (OpenSpec.ofChange fnCeilSpec)

/-- ITS FALSE NEIGHBOUR: 'it returns false'. Refute it at one input. -/
def fnCeilWrong : ChangeSpec := { name := "fnCeil", fn := fun _ => fun
  | [d] => { results := [.lit (.bool false)], args := [d] }
  | _ => none }
def FnCeilWrongFalsely : Prop := fnCeilRow.holds Try.pinned (OpenSpec.ofChange fnCeilWrong)

/-- 'laws.FnRound': WHATEVER THE INPUT: true; the input reads as it did. -/
def fnRoundSpec : ChangeSpec := { name := "fnRound", fn := fun _ => fun
  | [d] => { results := [.lit (.bool true)], args := [d] }
  | _ => none }
def fnRoundRow : OpenClaim := { program := "ytmopnnbhpeaiaaa", sum := "61c4f54d7e45e0354afdce26ec550e8dd032406dd3ec9d6814e7a5f293902f56", func := "loop.example/pub-g03429/laws.FnRound", spec := "fnRound", inPlace := ["math.Float64frombits", "math.Float64bits"], apart := false }
def FnRoundSaid : Prop := fnRoundRow.holds Try.pinned (OpenSpec.ofChange fnRoundSpec)

/-- ITS FALSE NEIGHBOUR: 'it returns false'. Refute it at one input. -/
def fnRoundWrong : ChangeSpec := { name := "fnRound", fn := fun _ => fun
  | [d] => { results := [.lit (.bool false)], args := [d] }
  | _ => none }
def FnRoundWrongFalsely : Prop := fnRoundRow.holds Try.pinned (OpenSpec.ofChange fnRoundWrong)

/-- 'laws.FnRoundToEven': WHATEVER THE INPUT: true; the input reads as it did. -/
def fnRoundToEvenSpec : ChangeSpec := { name := "fnRoundToEven", fn := fun _ => fun
  | [d] => { results := [.lit (.bool true)], args := [d] }
  | _ => none }
def fnRoundToEvenRow : OpenClaim := { program := "ytmopnnbhpeaiaaa", sum := "61c4f54d7e45e0354afdce26ec550e8dd032406dd3ec9d6814e7a5f293902f56", func := "loop.example/pub-g03429/laws.FnRoundToEven", spec := "fnRoundToEven", inPlace := ["math.Float64frombits", "math.Float64bits"], apart := false }
def FnRoundToEvenSaid : Prop := fnRoundToEvenRow.holds Try.pinned (OpenSpec.ofChange fnRoundToEvenSpec)

/-- ITS FALSE NEIGHBOUR: 'it returns false'. Refute it at one input. -/
def fnRoundToEvenWrong : ChangeSpec := { name := "fnRoundToEven", fn := fun _ => fun
  | [d] => { results := [.lit (.bool false)], args := [d] }
  | _ => none }
def FnRoundToEvenWrongFalsely : Prop := fnRoundToEvenRow.holds Try.pinned (OpenSpec.ofChange fnRoundToEvenWrong)

/-- 'laws.FnFloorCeil': WHATEVER THE INPUT: true; the input reads as it did. -/
def fnFloorCeilSpec : ChangeSpec := { name := "fnFloorCeil", fn := fun _ => fun
  | [d] => { results := [.lit (.bool true)], args := [d] }
  | _ => none }
def fnFloorCeilRow : OpenClaim := { program := "ytmopnnbhpeaiaaa", sum := "61c4f54d7e45e0354afdce26ec550e8dd032406dd3ec9d6814e7a5f293902f56", func := "loop.example/pub-g03429/laws.FnFloorCeil", spec := "fnFloorCeil", inPlace := ["math.Float64frombits", "math.Float64bits"], apart := false }
def FnFloorCeilSaid : Prop := fnFloorCeilRow.holds Try.pinned (OpenSpec.ofChange fnFloorCeilSpec)

/-- ITS FALSE NEIGHBOUR: 'it returns false'. Refute it at one input. -/
def fnFloorCeilWrong : ChangeSpec := { name := "fnFloorCeil", fn := fun _ => fun
  | [d] => { results := [.lit (.bool false)], args := [d] }
  | _ => none }
def FnFloorCeilWrongFalsely : Prop := fnFloorCeilRow.holds Try.pinned (OpenSpec.ofChange fnFloorCeilWrong)

/-- 'laws.FnRoundBetween': WHATEVER THE INPUT: true; the input reads as it did. -/
def fnRoundBetweenSpec : ChangeSpec := { name := "fnRoundBetween", fn := fun _ => fun
  | [d] => { results := [.lit (.bool true)], args := [d] }
  | _ => none }
def fnRoundBetweenRow : OpenClaim := { program := "ytmopnnbhpeaiaaa", sum := "61c4f54d7e45e0354afdce26ec550e8dd032406dd3ec9d6814e7a5f293902f56", func := "loop.example/pub-g03429/laws.FnRoundBetween", spec := "fnRoundBetween", inPlace := ["math.Float64frombits", "math.Float64bits"], apart := false }
def FnRoundBetweenSaid : Prop := fnRoundBetweenRow.holds Try.pinned (OpenSpec.ofChange fnRoundBetweenSpec)

/-- ITS FALSE NEIGHBOUR: 'it returns false'. Refute it at one input. -/
def fnRoundBetweenWrong : ChangeSpec := { name := "fnRoundBetween", fn := fun _ => fun
  | [d] => { results := [.lit (.bool false)], args := [d] }
  | _ => none }
def FnRoundBetweenWrongFalsely : Prop := fnRoundBetweenRow.holds Try.pinned (OpenSpec.ofChange fnRoundBetweenWrong)

/-- 'laws.FnModf': WHATEVER THE INPUT: true; the input reads as it did. -/
def fnModfSpec : ChangeSpec := { name := "fnModf", fn := fun _ => fun
  | [d] => { results := [.lit (.bool true)], args := [d] }
  | _ => none }
def fnModfRow : OpenClaim := { program := "ytmopnnbhpeaiaaa", sum := "61c4f54d7e45e0354afdce26ec550e8dd032406dd3ec9d6814e7a5f293902f56", func := "loop.example/pub-g03429/laws.FnModf", spec := "fnModf", inPlace := ["math.Float64frombits", "math.Float64bits"], apart := false }
def FnModfSaid : Prop := fnModfRow.holds Try.pinned (OpenSpec.ofChange fnModfSpec)

/-- ITS FALSE NEIGHBOUR: 'it returns false'. Refute it at one input. -/
def fnModfWrong : ChangeSpec := { name := "fnModf", fn := fun _ => fun
  | [d] => { results := [.lit (.bool false)], args := [d] }
  | _ => none }
def FnModfWrongFalsely : Prop := fnModfRow.holds Try.pinned (OpenSpec.ofChange fnModfWrong)

/-- 'laws.FnIsOddInt': WHATEVER THE INPUT: true; the input reads as it did. -/
def fnIsOddIntSpec : ChangeSpec := { name := "fnIsOddInt", fn := fun _ => fun
  | [d] => { results := [.lit (.bool true)], args := [d] }
  | _ => none }
def fnIsOddIntRow : OpenClaim := { program := "ytmopnnbhpeaiaaa", sum := "61c4f54d7e45e0354afdce26ec550e8dd032406dd3ec9d6814e7a5f293902f56", func := "loop.example/pub-g03429/laws.FnIsOddInt", spec := "fnIsOddInt", inPlace := ["math.Float64frombits", "math.Float64bits"], apart := false }
def FnIsOddIntSaid : Prop := fnIsOddIntRow.holds Try.pinned (OpenSpec.ofChange fnIsOddIntSpec)

/-- ITS FALSE NEIGHBOUR: 'it returns false'. Refute it at one input. -/
def fnIsOddIntWrong : ChangeSpec := { name := "fnIsOddInt", fn := fun _ => fun
  | [d] => { results := [.lit (.bool false)], args := [d] }
  | _ => none }
def FnIsOddIntWrongFalsely : Prop := fnIsOddIntRow.holds Try.pinned (OpenSpec.ofChange fnIsOddIntWrong)

/-- 'laws.FnAbs': WHATEVER THE INPUT: true; the input reads as it did. -/
def fnAbsSpec : ChangeSpec := { name := "fnAbs", fn := fun _ => fun
  | [d] => { results := [.lit (.bool true)], args := [d] }
  | _ => none }
def fnAbsRow : OpenClaim := { program := "ytmopnnbhpeaiaaa", sum := "61c4f54d7e45e0354afdce26ec550e8dd032406dd3ec9d6814e7a5f293902f56", func := "loop.example/pub-g03429/laws.FnAbs", spec := "fnAbs", inPlace := ["math.Float64frombits", "math.Float64bits"], apart := false }
def FnAbsSaid : Prop := fnAbsRow.holds Try.pinned (OpenSpec.ofChange fnAbsSpec)

/-- ITS FALSE NEIGHBOUR: 'it returns false'. Refute it at one input. -/
def fnAbsWrong : ChangeSpec := { name := "fnAbs", fn := fun _ => fun
  | [d] => { results := [.lit (.bool false)], args := [d] }
  | _ => none }
def FnAbsWrongFalsely : Prop := fnAbsRow.holds Try.pinned (OpenSpec.ofChange fnAbsWrong)

/-- 'laws.FnCopysign': WHATEVER THE INPUT: true; the input reads as it did. -/
def fnCopysignSpec : ChangeSpec := { name := "fnCopysign", fn := fun _ => fun
  | [d1, d2] => { results := [.lit (.bool true)], args := [d1, d2] }
  | _ => none }
def fnCopysignRow : OpenClaim := { program := "ytmopnnbhpeaiaaa", sum := "61c4f54d7e45e0354afdce26ec550e8dd032406dd3ec9d6814e7a5f293902f56", func := "loop.example/pub-g03429/laws.FnCopysign", spec := "fnCopysign", inPlace := ["math.Float64frombits", "math.Float64bits"], apart := false }
def FnCopysignSaid : Prop := fnCopysignRow.holds Try.pinned (OpenSpec.ofChange fnCopysignSpec)

/-- ITS FALSE NEIGHBOUR: 'it returns false'. Refute it at one input. -/
def fnCopysignWrong : ChangeSpec := { name := "fnCopysign", fn := fun _ => fun
  | [d1, d2] => { results := [.lit (.bool false)], args := [d1, d2] }
  | _ => none }
def FnCopysignWrongFalsely : Prop := fnCopysignRow.holds Try.pinned (OpenSpec.ofChange fnCopysignWrong)

/-- 'laws.FnSignbit': WHATEVER THE INPUT: true; the input reads as it did. -/
def fnSignbitSpec : ChangeSpec := { name := "fnSignbit", fn := fun _ => fun
  | [d] => { results := [.lit (.bool true)], args := [d] }
  | _ => none }
def fnSignbitRow : OpenClaim := { program := "ytmopnnbhpeaiaaa", sum := "61c4f54d7e45e0354afdce26ec550e8dd032406dd3ec9d6814e7a5f293902f56", func := "loop.example/pub-g03429/laws.FnSignbit", spec := "fnSignbit", inPlace := ["math.Float64frombits", "math.Float64bits"], apart := false }
def FnSignbitSaid : Prop := fnSignbitRow.holds Try.pinned (OpenSpec.ofChange fnSignbitSpec)

/-- ITS FALSE NEIGHBOUR: 'it returns false'. Refute it at one input. -/
def fnSignbitWrong : ChangeSpec := { name := "fnSignbit", fn := fun _ => fun
  | [d] => { results := [.lit (.bool false)], args := [d] }
  | _ => none }
def FnSignbitWrongFalsely : Prop := fnSignbitRow.holds Try.pinned (OpenSpec.ofChange fnSignbitWrong)

/- THE SECOND FORM. 'bulk': how many values and letters a reading holds, each counted each time it is reached (what is shared counts as often as it is met; a slice's spare places count too). A statement '..UptoSaid' is the law's where the arguments, and the package variables that the reading takes, are together of bulk at most 1048576: NARROWER than '..Said'. Prove '..Said' where nothing that the law and all that it calls make is longer than what came in: it says more and counts as full. Else prove '..UptoSaid'. A law counts once. -/
mutual
def uptoBulk {H : Type} : DataW H → Nat
  | .lit (.string bytes) => bytes.length + 1
  | .lit _ => 1
  | .nil => 1
  | .ptr d => uptoBulk d + 1
  | .slice elems spare => uptoBulkAll elems + uptoBulkAll spare + 1
  | .agg parts => uptoBulkAll parts + 1
  | .iface _ d => uptoBulk d + 1
  | .map entries => uptoBulkEntries entries + 1
  | .held _ => 1
def uptoBulkAll {H : Type} : List (DataW H) → Nat
  | [] => 0
  | d :: r => uptoBulk d + uptoBulkAll r
def uptoBulkEntries {H : Type} : List (Lit × DataW H) → Nat
  | [] => 0
  | x :: r => uptoBulkEntry x + uptoBulkEntries r
def uptoBulkEntry {H : Type} : Lit × DataW H → Nat
  | (.string bytes, d) => bytes.length + uptoBulk d + 1
  | (_, d) => uptoBulk d + 1
 end
def uptoSmall : (H : Type) → List (DataW H) → Bool := fun _ ds => decide (uptoBulkAll ds ≤ 1048576)
def OpenSpec.upto (s : _root_.Go.ChangeSpec) : _root_.Go.OpenSpec := { _root_.Go.OpenSpec.ofChange s with cond := some uptoSmall }

/-- 'laws.FnTrunc', WHERE WHAT IT READS IS OF BULK AT MOST 1048576: true; the input reads as it did. -/
def fnTruncUptoRow : OpenClaim := { program := "ytmopnnbhpeaiaaa", sum := "61c4f54d7e45e0354afdce26ec550e8dd032406dd3ec9d6814e7a5f293902f56", func := "loop.example/pub-g03429/laws.FnTrunc", spec := "fnTrunc", inPlace := ["math.Float64frombits", "math.Float64bits"], apart := false, narrowed := true }
def FnTruncUptoSaid : Prop := fnTruncUptoRow.holds Try.pinned (OpenSpec.upto fnTruncSpec)

/-- 'laws.FnFloor', WHERE WHAT IT READS IS OF BULK AT MOST 1048576: true; the input reads as it did. -/
def fnFloorUptoRow : OpenClaim := { program := "ytmopnnbhpeaiaaa", sum := "61c4f54d7e45e0354afdce26ec550e8dd032406dd3ec9d6814e7a5f293902f56", func := "loop.example/pub-g03429/laws.FnFloor", spec := "fnFloor", inPlace := ["math.Float64frombits", "math.Float64bits"], apart := false, narrowed := true }
def FnFloorUptoSaid : Prop := fnFloorUptoRow.holds Try.pinned (OpenSpec.upto fnFloorSpec)

/-- 'laws.FnCeil', WHERE WHAT IT READS IS OF BULK AT MOST 1048576: true; the input reads as it did. -/
def fnCeilUptoRow : OpenClaim := { program := "ytmopnnbhpeaiaaa", sum := "61c4f54d7e45e0354afdce26ec550e8dd032406dd3ec9d6814e7a5f293902f56", func := "loop.example/pub-g03429/laws.FnCeil", spec := "fnCeil", inPlace := ["math.Float64frombits", "math.Float64bits"], apart := false, narrowed := true }
def FnCeilUptoSaid : Prop := fnCeilUptoRow.holds Try.pinned (OpenSpec.upto fnCeilSpec)

/-- 'laws.FnRound', WHERE WHAT IT READS IS OF BULK AT MOST 1048576: true; the input reads as it did. -/
def fnRoundUptoRow : OpenClaim := { program := "ytmopnnbhpeaiaaa", sum := "61c4f54d7e45e0354afdce26ec550e8dd032406dd3ec9d6814e7a5f293902f56", func := "loop.example/pub-g03429/laws.FnRound", spec := "fnRound", inPlace := ["math.Float64frombits", "math.Float64bits"], apart := false, narrowed := true }
def FnRoundUptoSaid : Prop := fnRoundUptoRow.holds Try.pinned (OpenSpec.upto fnRoundSpec)

/-- 'laws.FnRoundToEven', WHERE WHAT IT READS IS OF BULK AT MOST 1048576: true; the input reads as it did. -/
def fnRoundToEvenUptoRow : OpenClaim := { program := "ytmopnnbhpeaiaaa", sum := "61c4f54d7e45e0354afdce26ec550e8dd032406dd3ec9d6814e7a5f293902f56", func := "loop.example/pub-g03429/laws.FnRoundToEven", spec := "fnRoundToEven", inPlace := ["math.Float64frombits", "math.Float64bits"], apart := false, narrowed := true }
def FnRoundToEvenUptoSaid : Prop := fnRoundToEvenUptoRow.holds Try.pinned (OpenSpec.upto fnRoundToEvenSpec)

/-- 'laws.FnFloorCeil', WHERE WHAT IT READS IS OF BULK AT MOST 1048576: true; the input reads as it did. -/
def fnFloorCeilUptoRow : OpenClaim := { program := "ytmopnnbhpeaiaaa", sum := "61c4f54d7e45e0354afdce26ec550e8dd032406dd3ec9d6814e7a5f293902f56", func := "loop.example/pub-g03429/laws.FnFloorCeil", spec := "fnFloorCeil", inPlace := ["math.Float64frombits", "math.Float64bits"], apart := false, narrowed := true }
def FnFloorCeilUptoSaid : Prop := fnFloorCeilUptoRow.holds Try.pinned (OpenSpec.upto fnFloorCeilSpec)

/-- 'laws.FnRoundBetween', WHERE WHAT IT READS IS OF BULK AT MOST 1048576: true; the input reads as it did. -/
def fnRoundBetweenUptoRow : OpenClaim := { program := "ytmopnnbhpeaiaaa", sum := "61c4f54d7e45e0354afdce26ec550e8dd032406dd3ec9d6814e7a5f293902f56", func := "loop.example/pub-g03429/laws.FnRoundBetween", spec := "fnRoundBetween", inPlace := ["math.Float64frombits", "math.Float64bits"], apart := false, narrowed := true }
def FnRoundBetweenUptoSaid : Prop := fnRoundBetweenUptoRow.holds Try.pinned (OpenSpec.upto fnRoundBetweenSpec)

/-- 'laws.FnModf', WHERE WHAT IT READS IS OF BULK AT MOST 1048576: true; the input reads as it did. -/
def fnModfUptoRow : OpenClaim := { program := "ytmopnnbhpeaiaaa", sum := "61c4f54d7e45e0354afdce26ec550e8dd032406dd3ec9d6814e7a5f293902f56", func := "loop.example/pub-g03429/laws.FnModf", spec := "fnModf", inPlace := ["math.Float64frombits", "math.Float64bits"], apart := false, narrowed := true }
def FnModfUptoSaid : Prop := fnModfUptoRow.holds Try.pinned (OpenSpec.upto fnModfSpec)

/-- 'laws.FnIsOddInt', WHERE WHAT IT READS IS OF BULK AT MOST 1048576: true; the input reads as it did. -/
def fnIsOddIntUptoRow : OpenClaim := { program := "ytmopnnbhpeaiaaa", sum := "61c4f54d7e45e0354afdce26ec550e8dd032406dd3ec9d6814e7a5f293902f56", func := "loop.example/pub-g03429/laws.FnIsOddInt", spec := "fnIsOddInt", inPlace := ["math.Float64frombits", "math.Float64bits"], apart := false, narrowed := true }
def FnIsOddIntUptoSaid : Prop := fnIsOddIntUptoRow.holds Try.pinned (OpenSpec.upto fnIsOddIntSpec)

/-- 'laws.FnAbs', WHERE WHAT IT READS IS OF BULK AT MOST 1048576: true; the input reads as it did. -/
def fnAbsUptoRow : OpenClaim := { program := "ytmopnnbhpeaiaaa", sum := "61c4f54d7e45e0354afdce26ec550e8dd032406dd3ec9d6814e7a5f293902f56", func := "loop.example/pub-g03429/laws.FnAbs", spec := "fnAbs", inPlace := ["math.Float64frombits", "math.Float64bits"], apart := false, narrowed := true }
def FnAbsUptoSaid : Prop := fnAbsUptoRow.holds Try.pinned (OpenSpec.upto fnAbsSpec)

/-- 'laws.FnCopysign', WHERE WHAT IT READS IS OF BULK AT MOST 1048576: true; the input reads as it did. -/
def fnCopysignUptoRow : OpenClaim := { program := "ytmopnnbhpeaiaaa", sum := "61c4f54d7e45e0354afdce26ec550e8dd032406dd3ec9d6814e7a5f293902f56", func := "loop.example/pub-g03429/laws.FnCopysign", spec := "fnCopysign", inPlace := ["math.Float64frombits", "math.Float64bits"], apart := false, narrowed := true }
def FnCopysignUptoSaid : Prop := fnCopysignUptoRow.holds Try.pinned (OpenSpec.upto fnCopysignSpec)

/-- 'laws.FnSignbit', WHERE WHAT IT READS IS OF BULK AT MOST 1048576: true; the input reads as it did. -/
def fnSignbitUptoRow : OpenClaim := { program := "ytmopnnbhpeaiaaa", sum := "61c4f54d7e45e0354afdce26ec550e8dd032406dd3ec9d6814e7a5f293902f56", func := "loop.example/pub-g03429/laws.FnSignbit", spec := "fnSignbit", inPlace := ["math.Float64frombits", "math.Float64bits"], apart := false, narrowed := true }
def FnSignbitUptoSaid : Prop := fnSignbitUptoRow.holds Try.pinned (OpenSpec.upto fnSignbitSpec)

end Rows
end Go.Proofs.Ytmopnnbhpeaiaaa
