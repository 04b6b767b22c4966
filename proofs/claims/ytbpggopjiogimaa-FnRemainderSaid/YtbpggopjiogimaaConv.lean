import Derived.Laws.BitsAllLaws
import Derived.RowKit
set_option linter.unusedVariables false
namespace Go.Proofs.Ytbpggopjiogimaa.Plain
open Go

theorem wrap_uns (k : IntKind) (hk : k.signed = false) (n : Nat) : k.wrap (n : Int) = ((n % 2 ^ k.bits : Nat) : Int) := by
  unfold IntKind.wrap
  simp [hk]

theorem and_uns (k : IntKind) (hk : k.signed = false) (a b : Nat) : bits .and k (a : Int) (b : Int) = (((a &&& b) % 2 ^ k.bits : Nat) : Int) := by
  simp only [bits, BitVec.ofInt_natCast]
  rw [wrap_uns k hk]
  congr 1
  simp [BitVec.toNat_and, BitVec.toNat_ofNat, Nat.and_mod_two_pow]

theorem or_uns (k : IntKind) (hk : k.signed = false) (a b : Nat) : bits .or k (a : Int) (b : Int) = (((a ||| b) % 2 ^ k.bits : Nat) : Int) := by
  simp only [bits, BitVec.ofInt_natCast]
  rw [wrap_uns k hk]
  congr 1
  simp [BitVec.toNat_or, BitVec.toNat_ofNat, Nat.or_mod_two_pow]

theorem xor_uns (k : IntKind) (hk : k.signed = false) (a b : Nat) : bits .xor k (a : Int) (b : Int) = (((a ^^^ b) % 2 ^ k.bits : Nat) : Int) := by
  simp only [bits, BitVec.ofInt_natCast]
  rw [wrap_uns k hk]
  congr 1
  simp [BitVec.toNat_xor, BitVec.toNat_ofNat, Nat.xor_mod_two_pow]

theorem andNot_uns (k : IntKind) (hk : k.signed = false) (a b : Nat) : bits .andNot k (a : Int) (b : Int) = ((a % 2 ^ k.bits &&& (2 ^ k.bits - 1 - b % 2 ^ k.bits) : Nat) : Int) := by
  simp only [bits, BitVec.ofInt_natCast]
  rw [wrap_uns k hk]
  congr 1
  simp only [BitVec.toNat_and, BitVec.toNat_ofNat, BitVec.toNat_not]
  exact Nat.mod_eq_of_lt (Nat.lt_of_le_of_lt Nat.and_le_left (Nat.mod_lt _ (Nat.two_pow_pos _)))

theorem sub_uns (k : IntKind) (hk : k.signed = false) (a b : Nat) : k.wrap ((a : Int) - (b : Int)) = (((a + (2 ^ k.bits - b % 2 ^ k.bits)) % 2 ^ k.bits : Nat) : Int) := by
  unfold IntKind.wrap
  simp only [hk, Bool.false_and]
  have hp : 0 < 2 ^ k.bits := Nat.two_pow_pos _
  have hlt : b % 2 ^ k.bits < 2 ^ k.bits := Nat.mod_lt _ hp
  have e : ((2 : Int) ^ k.bits) = ((2 ^ k.bits : Nat) : Int) := by simp
  simp only [e]
  generalize 2 ^ k.bits = M at *
  have hb : (b : Int) = (b / M : Nat) * (M : Int) + (b % M : Nat) := by
    have := Nat.div_add_mod b M
    have h2 : ((M * (b / M) + b % M : Nat) : Int) = (b : Int) := by rw [this]
    rw [← h2, Int.natCast_add, Int.natCast_mul, Int.mul_comm]
  have h3 : (a : Int) - (b : Int) = ((a + (M - b % M) : Nat) : Int) + (M : Int) * (-1 - (b / M : Nat)) := by
    rw [Int.natCast_add, Int.natCast_sub (by omega), hb]
    generalize (b / M : Nat) = q
    generalize b % M = r
    rw [Int.mul_sub, Int.mul_comm (q : Int) (M : Int)]
    omega
  simp only [if_neg Bool.false_ne_true]
  rw [h3, Int.add_mul_emod_self_left, Int.natCast_emod]

theorem wrap8N (n : Nat) : IntKind.u8.wrap (n : Int) = ((n % 256 : Nat) : Int) := wrap_uns .u8 rfl n
theorem wrap16N (n : Nat) : IntKind.u16.wrap (n : Int) = ((n % 65536 : Nat) : Int) := wrap_uns .u16 rfl n
theorem wrap32N (n : Nat) : IntKind.u32.wrap (n : Int) = ((n % 4294967296 : Nat) : Int) := wrap_uns .u32 rfl n
theorem wrap64N (n : Nat) : IntKind.u64.wrap (n : Int) = ((n % 18446744073709551616 : Nat) : Int) := wrap_uns .u64 rfl n
theorem and8N (a b : Nat) : bits .and .u8 (a : Int) (b : Int) = (((a &&& b) % 256 : Nat) : Int) := and_uns .u8 rfl a b
theorem and16N (a b : Nat) : bits .and .u16 (a : Int) (b : Int) = (((a &&& b) % 65536 : Nat) : Int) := and_uns .u16 rfl a b
theorem and32N (a b : Nat) : bits .and .u32 (a : Int) (b : Int) = (((a &&& b) % 4294967296 : Nat) : Int) := and_uns .u32 rfl a b
theorem and64N (a b : Nat) : bits .and .u64 (a : Int) (b : Int) = (((a &&& b) % 18446744073709551616 : Nat) : Int) := and_uns .u64 rfl a b
theorem or8N (a b : Nat) : bits .or .u8 (a : Int) (b : Int) = (((a ||| b) % 256 : Nat) : Int) := or_uns .u8 rfl a b
theorem or16N (a b : Nat) : bits .or .u16 (a : Int) (b : Int) = (((a ||| b) % 65536 : Nat) : Int) := or_uns .u16 rfl a b
theorem or32N (a b : Nat) : bits .or .u32 (a : Int) (b : Int) = (((a ||| b) % 4294967296 : Nat) : Int) := or_uns .u32 rfl a b
theorem or64N (a b : Nat) : bits .or .u64 (a : Int) (b : Int) = (((a ||| b) % 18446744073709551616 : Nat) : Int) := or_uns .u64 rfl a b
theorem xor32N (a b : Nat) : bits .xor .u32 (a : Int) (b : Int) = (((a ^^^ b) % 4294967296 : Nat) : Int) := xor_uns .u32 rfl a b
theorem xor64N (a b : Nat) : bits .xor .u64 (a : Int) (b : Int) = (((a ^^^ b) % 18446744073709551616 : Nat) : Int) := xor_uns .u64 rfl a b
theorem andNot32N (a b : Nat) : bits .andNot .u32 (a : Int) (b : Int) = ((a % 4294967296 &&& (4294967295 - b % 4294967296) : Nat) : Int) := andNot_uns .u32 rfl a b
theorem andNot64N (a b : Nat) : bits .andNot .u64 (a : Int) (b : Int) = ((a % 18446744073709551616 &&& (18446744073709551615 - b % 18446744073709551616) : Nat) : Int) := andNot_uns .u64 rfl a b
theorem sub8N (a b : Nat) : IntKind.u8.wrap ((a : Int) - (b : Int)) = (((a + (256 - b % 256)) % 256 : Nat) : Int) := sub_uns .u8 rfl a b
theorem sub16N (a b : Nat) : IntKind.u16.wrap ((a : Int) - (b : Int)) = (((a + (65536 - b % 65536)) % 65536 : Nat) : Int) := sub_uns .u16 rfl a b
theorem sub32N (a b : Nat) : IntKind.u32.wrap ((a : Int) - (b : Int)) = (((a + (4294967296 - b % 4294967296)) % 4294967296 : Nat) : Int) := sub_uns .u32 rfl a b
theorem sub64N (a b : Nat) : IntKind.u64.wrap ((a : Int) - (b : Int)) = (((a + (18446744073709551616 - b % 18446744073709551616)) % 18446744073709551616 : Nat) : Int) := sub_uns .u64 rfl a b


theorem ret_int {k : IntKind} {a b : Int} (h : a = b) : Ending.returned (.int k a) = .returned (.int k b) := by rw [h]
theorem ret_bool {a b : Bool} (h : a = b) : Ending.returned (.bool a) = .returned (.bool b) := by rw [h]
theorem ret_two {k l : IntKind} {a b c d : Int} (h : a = b) (g : c = d) : Ending.returned (.tuple #[.int k a, .int l c]) = .returned (.tuple #[.int k b, .int l d]) := by rw [h, g]

theorem tab_at (t : ByteArray) (f : Nat → Nat) (hall : (List.range 256).all (fun j => (t.data.getD j 0).toNat == f j) = true) (x : Nat) (hx : x < 256) (h : x < t.size) : (t[x]'h).toNat = f x := by
  have h1 := List.all_eq_true.1 hall x (by simpa using hx)
  simp only [beq_iff_eq] at h1
  rw [← h1]
  congr 1
  cases t with
  | mk d =>
    have h' : x < d.size := h
    show d[x] = d.getD x 0
    simp [Array.getD, h']

theorem cast_tab (t : ByteArray) (x : Nat) (h : x < t.size) (f : Nat → Nat) (hall : (List.range 256).all (fun j => (t.data.getD j 0).toNat == f j) = true) (hx : x < 256) : (((t[x]'h).toNat : Nat) : Int) = ((f x : Nat) : Int) := by
  rw [tab_at t f hall x hx h]

theorem wf_u8 {a : Int} (h : (Lit.int .u8 a).wf = true) : ∃ n : Nat, a = (n : Int) ∧ n < 256 := by
  simp only [Lit.wf, IntKind.min, IntKind.max, IntKind.signed, IntKind.bits, Bool.and_eq_true] at h
  exact ⟨a.toNat, by simp at h; omega, by simp at h; omega⟩
theorem wf_u16 {a : Int} (h : (Lit.int .u16 a).wf = true) : ∃ n : Nat, a = (n : Int) ∧ n < 65536 := by
  simp only [Lit.wf, IntKind.min, IntKind.max, IntKind.signed, IntKind.bits, Bool.and_eq_true] at h
  exact ⟨a.toNat, by simp at h; omega, by simp at h; omega⟩
theorem wf_u32 {a : Int} (h : (Lit.int .u32 a).wf = true) : ∃ n : Nat, a = (n : Int) ∧ n < 4294967296 := by
  simp only [Lit.wf, IntKind.min, IntKind.max, IntKind.signed, IntKind.bits, Bool.and_eq_true] at h
  exact ⟨a.toNat, by simp at h; omega, by simp at h; omega⟩
theorem wf_u64 {a : Int} (h : (Lit.int .u64 a).wf = true) : ∃ n : Nat, a = (n : Int) ∧ n < 18446744073709551616 := by
  simp only [Lit.wf, IntKind.min, IntKind.max, IntKind.signed, IntKind.bits, Bool.and_eq_true] at h
  exact ⟨a.toNat, by simp at h; omega, by simp at h; omega⟩
theorem wf_i64 {a : Int} (h : (Lit.int .i64 a).wf = true) : -9223372036854775808 ≤ a ∧ a ≤ 9223372036854775807 := by
  simp only [Lit.wf, IntKind.min, IntKind.max, IntKind.signed, IntKind.bits, Bool.and_eq_true, decide_eq_true_eq] at h
  simp at h; omega
theorem wf_i32 {a : Int} (h : (Lit.int .i32 a).wf = true) : -2147483648 ≤ a ∧ a ≤ 2147483647 := by
  simp only [Lit.wf, IntKind.min, IntKind.max, IntKind.signed, IntKind.bits, Bool.and_eq_true, decide_eq_true_eq] at h
  simp at h; omega

end Go.Proofs.Ytbpggopjiogimaa.Plain
