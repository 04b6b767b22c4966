/-
  DERIVED. GIVEN WITH THE SEED: THE PROGRAM's TIES (one call each: nine closed facts by the kernel) AND EACH ROW's TIE, after the 31st guide's Derived/Test/Toyas{Tie, Card}.lean. No idea stands in it: it is a product of the set-up. Laid BY PROGRAM, IN A SANDBOX (cutbox-door.mjs). By AI agents, Wed Nov 11 2026. No macro, syntax, notation, axiom, sorry.
-/
import Derived.Test.YtjcjnldnlgiloaaDoorRows
import Derived.LaidByTextLater
import Derived.SevenTiedAt
import Derived.LaidSub
import Derived.LaidOnce
namespace Go.Proofs.YtjcjnldnlgiloaaDoor
open Go
set_option maxRecDepth 100000
theorem seatTie1 : Tryd.prog.laidByTextLater [("loop.example/pub-g03429/pub/mathbits.deBruijn32tab", Rows.laid_loop_example_pub_g03429_pub_mathbits_deBruijn32tab), ("loop.example/pub-g03429/pub/mathbits.deBruijn64tab", Rows.laid_loop_example_pub_g03429_pub_mathbits_deBruijn64tab)] [.data, .data] true :=
  Program.laidByTextLater_by_one 19 8 65 (by kernel_rfl) (by kernel_rfl) (by kernel_rfl) (by kernel_rfl) (by kernel_rfl) (by kernel_rfl) (fun _ _ => by kernel_rfl)
theorem noOwnUnsafe : Tryd.pinned.checked.prog.headLifts.contains "ownunsafe" = false := by kernel_rfl
theorem tie : Tryd.prog.laidByTextLater [("loop.example/pub-g03429/pub/mathbits.deBruijn32tab", Rows.laid_loop_example_pub_g03429_pub_mathbits_deBruijn32tab)] [.data] true :=
  Program.laidByTextLater.sub seatTie1 ["loop.example/pub-g03429/pub/mathbits.deBruijn32tab"] (by kernel_rfl) (by kernel_rfl)
theorem fnTrailingZeros16_row_tie : Rows.fnTrailingZeros16Row.laidByTextAt .later Tryd.pinned [.data] true :=
  OpenClaim.laidByTextAt_later rfl rfl tie noOwnUnsafe
theorem fnTrailingZeros32_row_tie : Rows.fnTrailingZeros32Row.laidByTextAt .later Tryd.pinned [.data] true :=
  OpenClaim.laidByTextAt_later rfl rfl tie noOwnUnsafe
theorem fnLenZeros16_row_tie : Rows.fnLenZeros16Row.laidByTextAt .later Tryd.pinned [.data] true :=
  OpenClaim.laidByTextAt_later rfl rfl tie noOwnUnsafe
theorem fnLenZeros32_row_tie : Rows.fnLenZeros32Row.laidByTextAt .later Tryd.pinned [.data] true :=
  OpenClaim.laidByTextAt_later rfl rfl tie noOwnUnsafe
theorem fnReverseBack16_row_tie : Rows.fnReverseBack16Row.laidByTextAt .later Tryd.pinned [.data] true :=
  OpenClaim.laidByTextAt_later rfl rfl tie noOwnUnsafe
theorem fnReverseBack32_row_tie : Rows.fnReverseBack32Row.laidByTextAt .later Tryd.pinned [.data] true :=
  OpenClaim.laidByTextAt_later rfl rfl tie noOwnUnsafe
theorem tie2 : Tryd.prog.laidByTextLater [("loop.example/pub-g03429/pub/mathbits.deBruijn64tab", Rows.laid_loop_example_pub_g03429_pub_mathbits_deBruijn64tab)] [.data] true :=
  Program.laidByTextLater.sub seatTie1 ["loop.example/pub-g03429/pub/mathbits.deBruijn64tab"] (by kernel_rfl) (by kernel_rfl)
theorem fnTrailingZeros64_row_tie : Rows.fnTrailingZeros64Row.laidByTextAt .later Tryd.pinned [.data] true :=
  OpenClaim.laidByTextAt_later rfl rfl tie2 noOwnUnsafe
theorem fnLenZeros64_row_tie : Rows.fnLenZeros64Row.laidByTextAt .later Tryd.pinned [.data] true :=
  OpenClaim.laidByTextAt_later rfl rfl tie2 noOwnUnsafe
theorem fnReverseBack64_row_tie : Rows.fnReverseBack64Row.laidByTextAt .later Tryd.pinned [.data] true :=
  OpenClaim.laidByTextAt_later rfl rfl tie2 noOwnUnsafe
theorem fnTrailingZeros16Upto_row_tie : Rows.fnTrailingZeros16UptoRow.laidByTextAt .later Tryd.pinned [.data] true :=
  OpenClaim.laidByTextAt_later rfl rfl tie noOwnUnsafe
theorem fnTrailingZeros32Upto_row_tie : Rows.fnTrailingZeros32UptoRow.laidByTextAt .later Tryd.pinned [.data] true :=
  OpenClaim.laidByTextAt_later rfl rfl tie noOwnUnsafe
theorem fnTrailingZeros64Upto_row_tie : Rows.fnTrailingZeros64UptoRow.laidByTextAt .later Tryd.pinned [.data] true :=
  OpenClaim.laidByTextAt_later rfl rfl tie2 noOwnUnsafe
theorem fnLenZeros16Upto_row_tie : Rows.fnLenZeros16UptoRow.laidByTextAt .later Tryd.pinned [.data] true :=
  OpenClaim.laidByTextAt_later rfl rfl tie noOwnUnsafe
theorem fnLenZeros32Upto_row_tie : Rows.fnLenZeros32UptoRow.laidByTextAt .later Tryd.pinned [.data] true :=
  OpenClaim.laidByTextAt_later rfl rfl tie noOwnUnsafe
theorem fnLenZeros64Upto_row_tie : Rows.fnLenZeros64UptoRow.laidByTextAt .later Tryd.pinned [.data] true :=
  OpenClaim.laidByTextAt_later rfl rfl tie2 noOwnUnsafe
theorem fnReverseBack16Upto_row_tie : Rows.fnReverseBack16UptoRow.laidByTextAt .later Tryd.pinned [.data] true :=
  OpenClaim.laidByTextAt_later rfl rfl tie noOwnUnsafe
theorem fnReverseBack32Upto_row_tie : Rows.fnReverseBack32UptoRow.laidByTextAt .later Tryd.pinned [.data] true :=
  OpenClaim.laidByTextAt_later rfl rfl tie noOwnUnsafe
theorem fnReverseBack64Upto_row_tie : Rows.fnReverseBack64UptoRow.laidByTextAt .later Tryd.pinned [.data] true :=
  OpenClaim.laidByTextAt_later rfl rfl tie2 noOwnUnsafe
end Go.Proofs.YtjcjnldnlgiloaaDoor
