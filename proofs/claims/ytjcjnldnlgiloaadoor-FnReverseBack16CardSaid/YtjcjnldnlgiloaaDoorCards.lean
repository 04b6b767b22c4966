/-
  DERIVED. GIVEN WITH THE SEED: THE CARDS: each row of YtjcjnldnlgiloaaDoorRows.lean that lists a variable, with what it lists TIED to the program's text (the seventh form; the later family's looks); each row that meets fmt, with fmt's text TOLD by the authors' own Lean function (tested against real Go, not proved from fmt's source: count such statements apart). THE CARD IS WHAT COUNTS. Prove the row's statement (the work); the ties are given (YtjcjnldnlgiloaaDoorTie.lean); close each card by the builder's one call (the guide's Derived/Test/ToyasCard.lean, 'card_holds'). Laid BY PROGRAM, IN A SANDBOX (cutbox-door.mjs). By AI agents, Wed Nov 11 2026. No macro, syntax, notation, axiom, sorry.
-/
import Derived.Test.YtjcjnldnlgiloaaDoorRows
import GoSem.ClaimSeven
namespace Go.Proofs.YtjcjnldnlgiloaaDoor
namespace Rows

/-- THE TIED CARD OF 'laws.FnTrailingZeros16'. -/
def fnTrailingZeros16Card : Claim7 := { stood := { row := fnTrailingZeros16Row, standIns := [], harness := (true, "721620d3dc4f733cb2279ec99629bcf3a16a752bfcab8117a2cc32dec77b862c"), looks := false }, kinds := [], alts := [], laidByText := true, laidKinds := [.data], laidTests := true, laidLooks := .later }
def FnTrailingZeros16CardSaid : Prop := Claim7.holds Tryd.pinned (.plain (OpenSpec.ofChange fnTrailingZeros16Spec)) fnTrailingZeros16Card

/-- THE TIED CARD OF 'laws.FnTrailingZeros32'. -/
def fnTrailingZeros32Card : Claim7 := { stood := { row := fnTrailingZeros32Row, standIns := [], harness := (true, "721620d3dc4f733cb2279ec99629bcf3a16a752bfcab8117a2cc32dec77b862c"), looks := false }, kinds := [], alts := [], laidByText := true, laidKinds := [.data], laidTests := true, laidLooks := .later }
def FnTrailingZeros32CardSaid : Prop := Claim7.holds Tryd.pinned (.plain (OpenSpec.ofChange fnTrailingZeros32Spec)) fnTrailingZeros32Card

/-- THE TIED CARD OF 'laws.FnTrailingZeros64'. -/
def fnTrailingZeros64Card : Claim7 := { stood := { row := fnTrailingZeros64Row, standIns := [], harness := (true, "721620d3dc4f733cb2279ec99629bcf3a16a752bfcab8117a2cc32dec77b862c"), looks := false }, kinds := [], alts := [], laidByText := true, laidKinds := [.data], laidTests := true, laidLooks := .later }
def FnTrailingZeros64CardSaid : Prop := Claim7.holds Tryd.pinned (.plain (OpenSpec.ofChange fnTrailingZeros64Spec)) fnTrailingZeros64Card

/-- THE TIED CARD OF 'laws.FnLenZeros16'. -/
def fnLenZeros16Card : Claim7 := { stood := { row := fnLenZeros16Row, standIns := [], harness := (true, "721620d3dc4f733cb2279ec99629bcf3a16a752bfcab8117a2cc32dec77b862c"), looks := false }, kinds := [], alts := [], laidByText := true, laidKinds := [.data], laidTests := true, laidLooks := .later }
def FnLenZeros16CardSaid : Prop := Claim7.holds Tryd.pinned (.plain (OpenSpec.ofChange fnLenZeros16Spec)) fnLenZeros16Card

/-- THE TIED CARD OF 'laws.FnLenZeros32'. -/
def fnLenZeros32Card : Claim7 := { stood := { row := fnLenZeros32Row, standIns := [], harness := (true, "721620d3dc4f733cb2279ec99629bcf3a16a752bfcab8117a2cc32dec77b862c"), looks := false }, kinds := [], alts := [], laidByText := true, laidKinds := [.data], laidTests := true, laidLooks := .later }
def FnLenZeros32CardSaid : Prop := Claim7.holds Tryd.pinned (.plain (OpenSpec.ofChange fnLenZeros32Spec)) fnLenZeros32Card

/-- THE TIED CARD OF 'laws.FnLenZeros64'. -/
def fnLenZeros64Card : Claim7 := { stood := { row := fnLenZeros64Row, standIns := [], harness := (true, "721620d3dc4f733cb2279ec99629bcf3a16a752bfcab8117a2cc32dec77b862c"), looks := false }, kinds := [], alts := [], laidByText := true, laidKinds := [.data], laidTests := true, laidLooks := .later }
def FnLenZeros64CardSaid : Prop := Claim7.holds Tryd.pinned (.plain (OpenSpec.ofChange fnLenZeros64Spec)) fnLenZeros64Card

/-- THE TIED CARD OF 'laws.FnReverseBack16'. -/
def fnReverseBack16Card : Claim7 := { stood := { row := fnReverseBack16Row, standIns := [], harness := (true, "721620d3dc4f733cb2279ec99629bcf3a16a752bfcab8117a2cc32dec77b862c"), looks := false }, kinds := [], alts := [], laidByText := true, laidKinds := [.data], laidTests := true, laidLooks := .later }
def FnReverseBack16CardSaid : Prop := Claim7.holds Tryd.pinned (.plain (OpenSpec.ofChange fnReverseBack16Spec)) fnReverseBack16Card

/-- THE TIED CARD OF 'laws.FnReverseBack32'. -/
def fnReverseBack32Card : Claim7 := { stood := { row := fnReverseBack32Row, standIns := [], harness := (true, "721620d3dc4f733cb2279ec99629bcf3a16a752bfcab8117a2cc32dec77b862c"), looks := false }, kinds := [], alts := [], laidByText := true, laidKinds := [.data], laidTests := true, laidLooks := .later }
def FnReverseBack32CardSaid : Prop := Claim7.holds Tryd.pinned (.plain (OpenSpec.ofChange fnReverseBack32Spec)) fnReverseBack32Card

/-- THE TIED CARD OF 'laws.FnReverseBack64'. -/
def fnReverseBack64Card : Claim7 := { stood := { row := fnReverseBack64Row, standIns := [], harness := (true, "721620d3dc4f733cb2279ec99629bcf3a16a752bfcab8117a2cc32dec77b862c"), looks := false }, kinds := [], alts := [], laidByText := true, laidKinds := [.data], laidTests := true, laidLooks := .later }
def FnReverseBack64CardSaid : Prop := Claim7.holds Tryd.pinned (.plain (OpenSpec.ofChange fnReverseBack64Spec)) fnReverseBack64Card

/-- THE SECOND FORM's CARD OF 'laws.FnTrailingZeros16'. -/
def fnTrailingZeros16UptoCard : Claim7 := { stood := { row := fnTrailingZeros16UptoRow, standIns := [], harness := (true, "721620d3dc4f733cb2279ec99629bcf3a16a752bfcab8117a2cc32dec77b862c"), looks := false }, kinds := [], alts := [], laidByText := true, laidKinds := [.data], laidTests := true, laidLooks := .later }
def FnTrailingZeros16UptoCardSaid : Prop := Claim7.holds Tryd.pinned (.plain (OpenSpec.upto fnTrailingZeros16Spec)) fnTrailingZeros16UptoCard

/-- THE SECOND FORM's CARD OF 'laws.FnTrailingZeros32'. -/
def fnTrailingZeros32UptoCard : Claim7 := { stood := { row := fnTrailingZeros32UptoRow, standIns := [], harness := (true, "721620d3dc4f733cb2279ec99629bcf3a16a752bfcab8117a2cc32dec77b862c"), looks := false }, kinds := [], alts := [], laidByText := true, laidKinds := [.data], laidTests := true, laidLooks := .later }
def FnTrailingZeros32UptoCardSaid : Prop := Claim7.holds Tryd.pinned (.plain (OpenSpec.upto fnTrailingZeros32Spec)) fnTrailingZeros32UptoCard

/-- THE SECOND FORM's CARD OF 'laws.FnTrailingZeros64'. -/
def fnTrailingZeros64UptoCard : Claim7 := { stood := { row := fnTrailingZeros64UptoRow, standIns := [], harness := (true, "721620d3dc4f733cb2279ec99629bcf3a16a752bfcab8117a2cc32dec77b862c"), looks := false }, kinds := [], alts := [], laidByText := true, laidKinds := [.data], laidTests := true, laidLooks := .later }
def FnTrailingZeros64UptoCardSaid : Prop := Claim7.holds Tryd.pinned (.plain (OpenSpec.upto fnTrailingZeros64Spec)) fnTrailingZeros64UptoCard

/-- THE SECOND FORM's CARD OF 'laws.FnLenZeros16'. -/
def fnLenZeros16UptoCard : Claim7 := { stood := { row := fnLenZeros16UptoRow, standIns := [], harness := (true, "721620d3dc4f733cb2279ec99629bcf3a16a752bfcab8117a2cc32dec77b862c"), looks := false }, kinds := [], alts := [], laidByText := true, laidKinds := [.data], laidTests := true, laidLooks := .later }
def FnLenZeros16UptoCardSaid : Prop := Claim7.holds Tryd.pinned (.plain (OpenSpec.upto fnLenZeros16Spec)) fnLenZeros16UptoCard

/-- THE SECOND FORM's CARD OF 'laws.FnLenZeros32'. -/
def fnLenZeros32UptoCard : Claim7 := { stood := { row := fnLenZeros32UptoRow, standIns := [], harness := (true, "721620d3dc4f733cb2279ec99629bcf3a16a752bfcab8117a2cc32dec77b862c"), looks := false }, kinds := [], alts := [], laidByText := true, laidKinds := [.data], laidTests := true, laidLooks := .later }
def FnLenZeros32UptoCardSaid : Prop := Claim7.holds Tryd.pinned (.plain (OpenSpec.upto fnLenZeros32Spec)) fnLenZeros32UptoCard

/-- THE SECOND FORM's CARD OF 'laws.FnLenZeros64'. -/
def fnLenZeros64UptoCard : Claim7 := { stood := { row := fnLenZeros64UptoRow, standIns := [], harness := (true, "721620d3dc4f733cb2279ec99629bcf3a16a752bfcab8117a2cc32dec77b862c"), looks := false }, kinds := [], alts := [], laidByText := true, laidKinds := [.data], laidTests := true, laidLooks := .later }
def FnLenZeros64UptoCardSaid : Prop := Claim7.holds Tryd.pinned (.plain (OpenSpec.upto fnLenZeros64Spec)) fnLenZeros64UptoCard

/-- THE SECOND FORM's CARD OF 'laws.FnReverseBack16'. -/
def fnReverseBack16UptoCard : Claim7 := { stood := { row := fnReverseBack16UptoRow, standIns := [], harness := (true, "721620d3dc4f733cb2279ec99629bcf3a16a752bfcab8117a2cc32dec77b862c"), looks := false }, kinds := [], alts := [], laidByText := true, laidKinds := [.data], laidTests := true, laidLooks := .later }
def FnReverseBack16UptoCardSaid : Prop := Claim7.holds Tryd.pinned (.plain (OpenSpec.upto fnReverseBack16Spec)) fnReverseBack16UptoCard

/-- THE SECOND FORM's CARD OF 'laws.FnReverseBack32'. -/
def fnReverseBack32UptoCard : Claim7 := { stood := { row := fnReverseBack32UptoRow, standIns := [], harness := (true, "721620d3dc4f733cb2279ec99629bcf3a16a752bfcab8117a2cc32dec77b862c"), looks := false }, kinds := [], alts := [], laidByText := true, laidKinds := [.data], laidTests := true, laidLooks := .later }
def FnReverseBack32UptoCardSaid : Prop := Claim7.holds Tryd.pinned (.plain (OpenSpec.upto fnReverseBack32Spec)) fnReverseBack32UptoCard

/-- THE SECOND FORM's CARD OF 'laws.FnReverseBack64'. -/
def fnReverseBack64UptoCard : Claim7 := { stood := { row := fnReverseBack64UptoRow, standIns := [], harness := (true, "721620d3dc4f733cb2279ec99629bcf3a16a752bfcab8117a2cc32dec77b862c"), looks := false }, kinds := [], alts := [], laidByText := true, laidKinds := [.data], laidTests := true, laidLooks := .later }
def FnReverseBack64UptoCardSaid : Prop := Claim7.holds Tryd.pinned (.plain (OpenSpec.upto fnReverseBack64Spec)) fnReverseBack64UptoCard
end Rows
end Go.Proofs.YtjcjnldnlgiloaaDoor
