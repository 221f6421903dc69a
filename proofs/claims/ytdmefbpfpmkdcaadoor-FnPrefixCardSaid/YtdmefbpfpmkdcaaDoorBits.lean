/- Bits of 64-bit and 32-bit integers as arithmetic: masks, one bit, an 'or' that joins. -/
import Derived.Test.YtdmefbpfpmkdcaaDoorCommon
import Derived.Laws.BitsAllLaws
namespace Go.Proofs.YtdmefbpfpmkdcaaDoor
open Go.RowKit

theorem ofInt_i64 (a : Nat) (ha : a < 18446744073709551616) : (BitVec.ofInt 64 (a : Int)).toNat = a := by
  rw [BitVec.ofInt_natCast, BitVec.toNat_ofNat]; exact Nat.mod_eq_of_lt (by omega)
theorem i64_and_nat (a b : Nat) (ha : a < 9223372036854775808) (hb : b < 9223372036854775808) : bits .and .i64 (a : Int) (b : Int) = ((a &&& b : Nat) : Int) := by
  have hab : a &&& b < 9223372036854775808 := Nat.lt_of_le_of_lt Nat.and_le_left ha
  show IntKind.i64.wrap ((BitVec.ofInt 64 (a : Int) &&& BitVec.ofInt 64 (b : Int)).toNat : Int) = _
  rw [BitVec.toNat_and, ofInt_i64 a (by omega), ofInt_i64 b (by omega), IntKind.wrap_i64]
  omega
theorem i64_or_nat (a b : Nat) (ha : a < 9223372036854775808) (hb : b < 9223372036854775808) : bits .or .i64 (a : Int) (b : Int) = ((a ||| b : Nat) : Int) := by
  have hab : a ||| b < 2 ^ 63 := Nat.or_lt_two_pow (by omega) (by omega)
  show IntKind.i64.wrap ((BitVec.ofInt 64 (a : Int) ||| BitVec.ofInt 64 (b : Int)).toNat : Int) = _
  rw [BitVec.toNat_or, ofInt_i64 a (by omega), ofInt_i64 b (by omega), IntKind.wrap_i64]
  omega
/-- A mask of k bits, of whatever number. -/
theorem i64_mask (n : Int) (k : Nat) (hk : k ≤ 62) : bits .and .i64 n ((2 ^ k - 1 : Nat) : Int) = n % ((2 ^ k : Nat) : Int) := by
  have h2 : 2 ^ k ≤ 2 ^ 62 := Nat.pow_le_pow_right (by omega) hk
  have h1 : 0 < 2 ^ k := Nat.pow_pos (by omega)
  have key : (BitVec.ofInt 64 n &&& BitVec.ofInt 64 ((2 ^ k - 1 : Nat) : Int)).toNat = (n % ((2 ^ 64 : Nat) : Int)).toNat % 2 ^ k := by
    rw [BitVec.toNat_and, BitVec.toNat_ofInt, ofInt_i64 _ (by omega), Nat.and_two_pow_sub_one_eq_mod]
  show IntKind.i64.wrap ((BitVec.ofInt 64 n &&& BitVec.ofInt 64 ((2 ^ k - 1 : Nat) : Int)).toNat : Int) = _
  have e : (((n % ((2 ^ 64 : Nat) : Int)).toNat % 2 ^ k : Nat) : Int) = n % ((2 ^ k : Nat) : Int) := by
    rw [Int.natCast_emod, Int.toNat_of_nonneg (Int.emod_nonneg _ (by decide)), Int.emod_emod_of_dvd]
    exact Int.natCast_dvd_natCast.2 (Nat.pow_dvd_pow 2 (by omega))
  rw [key, e, IntKind.wrap_i64]
  have h3 : 0 ≤ n % ((2 ^ k : Nat) : Int) := Int.emod_nonneg _ (by omega)
  have h4 : n % ((2 ^ k : Nat) : Int) < ((2 ^ k : Nat) : Int) := Int.emod_lt_of_pos _ (by omega)
  have h5 : ((2 ^ k : Nat) : Int) ≤ ((2 ^ 62 : Nat) : Int) := Int.ofNat_le.2 h2
  have h6 : ((2 ^ 62 : Nat) : Int) = 4611686018427387904 := by decide
  omega
theorem mask14 (n : Int) : bits .and .i64 n 16383 = n % 16384 := i64_mask n 14 (by decide)
theorem mask20 (n : Int) : bits .and .i64 n 1048575 = n % 1048576 := i64_mask n 20 (by decide)
theorem mask24 (n : Int) : bits .and .i64 n 16777215 = n % 16777216 := i64_mask n 24 (by decide)
theorem mask32 (n : Int) : bits .and .i64 n 4294967295 = n % 4294967296 := i64_mask n 32 (by decide)
theorem mask2 (n : Int) : bits .and .i64 n 3 = n % 4 := i64_mask n 2 (by decide)
theorem mask1 (n : Int) : bits .and .i64 n 1 = n % 2 := i64_mask n 1 (by decide)
theorem mask8 (n : Int) : bits .and .i64 n 255 = n % 256 := i64_mask n 8 (by decide)
/-- Bit 31 of a number that has none. -/
theorem bit31_none (n : Int) (h0 : 0 ≤ n) (h1 : n < 2147483648) : bits .and .i64 n 2147483648 = 0 := by
  obtain ⟨a, rfl⟩ := Int.eq_ofNat_of_zero_le h0
  have e : bits .and .i64 (a : Int) ((2147483648 : Nat) : Int) = ((a &&& 2147483648 : Nat) : Int) := i64_and_nat a 2147483648 (by omega) (by omega)
  have e2 : a &&& 2147483648 = 0 := by
    have := nat_bit 31 a
    rw [show (2 : Nat) ^ 31 = 2147483648 from rfl] at this
    rw [this, Nat.div_eq_of_lt (by omega)]
  rw [e2] at e
  exact e
end Go.Proofs.YtdmefbpfpmkdcaaDoor
