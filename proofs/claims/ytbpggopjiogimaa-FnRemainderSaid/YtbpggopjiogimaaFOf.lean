import Derived.Test.YtbpggopjiogimaaFBits
set_option linter.unusedVariables false
namespace Go.Proofs.Ytbpggopjiogimaa.Plain
open Go Go.RowKit
/-- the parts of a word as the reference names them -/
def mantW (b : Nat) : Nat := mant (rung b)
def expW (b : Nat) : Int := -1074 + (expo (rung b) : Int)
theorem mantW_sub (b : Nat) (h : ef b = 0) : mantW b = mf b := by
  have h1 := rung_fields b; have h2 := mf_lt b
  unfold mantW mant; rw [if_pos (by omega)]; omega
theorem mantW_norm (b : Nat) (h : ef b ≠ 0) : mantW b = 4503599627370496 + mf b := by
  have h1 := rung_fields b; have h2 := mf_lt b
  unfold mantW mant; rw [if_neg (by omega)]; omega
theorem expW_sub (b : Nat) (h : ef b = 0) : expW b = -1074 := by
  have h1 := rung_fields b; have h2 := mf_lt b
  unfold expW expo; rw [if_pos (by omega)]; omega
theorem expW_norm (b : Nat) (h : ef b ≠ 0) : expW b = (ef b : Int) - 1075 := by
  have h1 := rung_fields b; have h2 := mf_lt b
  unfold expW expo; rw [if_neg (by omega)]; omega
theorem or_hidden (m : Nat) (h : m < 4503599627370496) : bits .or .u64 (m : Int) 4503599627370496 = ((4503599627370496 + m : Nat) : Int) := by
  rw [show (4503599627370496 : Int) = ((4503599627370496 : Nat) : Int) from rfl, or64N]
  have := Nat.two_pow_add_eq_or_of_lt (show m < 2 ^ 52 by simpa using h) 1
  rw [show (2 ^ 52 * 1 : Nat) = 4503599627370496 by decide] at this
  rw [Nat.or_comm, ← this]; omega
theorem neg_top (b : Nat) (hb : b < 18446744073709551616) : (((b : Int) / 9223372036854775808) == 1) = negB b := by
  unfold negB; rw [show (9223372036854775808 : Int) = ((9223372036854775808 : Nat) : Int) from rfl, fdivC, Bool.eq_iff_iff]; simp; omega
theorem mantW_lt (b : Nat) : mantW b < 9007199254740992 := mant_lt _
end Go.Proofs.Ytbpggopjiogimaa.Plain
