import Derived.Test.YtbpggopjiogimaaFOf
set_option linter.unusedVariables false
namespace Go.Proofs.Ytbpggopjiogimaa.Plain
open Go Go.RowKit
theorem or_fieldN (a f : Nat) (h : f < 4503599627370496) : a * 4503599627370496 ||| f = a * 4503599627370496 + f := by
  have := Nat.two_pow_add_eq_or_of_lt (show f < 2 ^ 52 by simpa using h) a
  rw [show (2 ^ 52 : Nat) = 4503599627370496 by decide, Nat.mul_comm] at this
  exact this.symm
theorem or_field (n : Bool) (q f : Nat) (hq : q < 2048) (h : f < 4503599627370496) : bits .or .u64 (wordD n (q * 4503599627370496) : Int) (f : Int) = (wordD n (q * 4503599627370496 + f) : Int) := by
  rw [or64N]
  have e : wordD n (q * 4503599627370496) = (if n then 2048 + q else q) * 4503599627370496 := by unfold wordD; cases n <;> simp <;> omega
  have e2 : wordD n (q * 4503599627370496 + f) = (if n then 2048 + q else q) * 4503599627370496 + f := by unfold wordD; cases n <;> simp <;> omega
  rw [e, e2, or_fieldN _ _ h]
  have : (if n then 2048 + q else q) < 4096 := by cases n <;> simp <;> omega
  congr 1; omega
theorem near_over (n : Bool) (m : Nat) (e : Int) (he : 971 < e) (hm : m < 9007199254740992) (h : 4503599627370496 ≤ m) : near n m e = wordD n 9218868437227405312 := by
  rw [near_fit n m e (by omega) hm (Or.inl h)]; congr 1; omega
theorem near_low (n : Bool) (m : Nat) (h : m < 4503599627370496) : near n m (-1074) = wordD n m := by
  rw [near_fit n m (-1074) (by omega) (by omega) (Or.inr rfl)]; congr 1; omega
theorem near_mid (n : Bool) (m : Nat) (e : Int) (he : -1074 ≤ e) (he2 : e ≤ 971) (hm : m < 9007199254740992) (h : 4503599627370496 ≤ m) : near n m e = wordD n ((e + 1075).toNat * 4503599627370496 + m % 4503599627370496) := by
  rw [near_fit n m e (by omega) hm (Or.inl h)]; congr 1; omega
end Go.Proofs.Ytbpggopjiogimaa.Plain
