/-
  Seat b6627724a. The bits of a slot's word, as arithmetic.
-/
import Derived.Laws.BitsAllLaws
namespace Go.Proofs.Qxb6627724a

theorem and_mask (c : Int) (h0 : 0 ≤ c) (h1 : c < 18446744073709551616) : bits .and .u64 c 4294967295 = c % 4294967296 := by
  rw [u64_and c 4294967295 h0 h1 (by decide) (by decide)]
  have : (4294967295 : Int).toNat = 2 ^ 32 - 1 := by decide
  rw [this, Nat.and_two_pow_sub_one_eq_mod]
  have e : ((2 ^ 32 : Nat) : Int) = 4294967296 := by decide
  rw [Int.natCast_emod, e]
  omega

theorem and_seal (c : Int) (h0 : 0 ≤ c) (h1 : c < 18446744073709551616) : bits .and .u64 c 9223372036854775808 = if c < 9223372036854775808 then 0 else 9223372036854775808 := by
  rw [u64_and c 9223372036854775808 h0 h1 (by decide) (by decide)]
  have : (9223372036854775808 : Int).toNat = 2 ^ 63 := by decide
  rw [this, nat_bit]
  have e : (2 ^ 63 : Nat) = 9223372036854775808 := by decide
  rw [e]
  split <;> omega

theorem and_seal_low (c : Int) (h0 : 0 ≤ c) (h1 : c < 9223372036854775808) : bits .and .u64 c 9223372036854775808 = 0 := by
  rw [and_seal c h0 (by omega), if_pos h1]
theorem and_seal_high (c : Int) (h0 : 9223372036854775808 ≤ c) (h1 : c < 18446744073709551616) : bits .and .u64 c 9223372036854775808 = 9223372036854775808 := by
  rw [and_seal c (by omega) h1, if_neg (by omega)]

theorem or_seal (c : Int) (h0 : 0 ≤ c) (h1 : c < 9223372036854775808) : bits .or .u64 c 9223372036854775808 = c + 9223372036854775808 := by
  rw [u64_or c 9223372036854775808 h0 (by omega) (by decide) (by decide)]
  have e : (9223372036854775808 : Int).toNat = 9223372036854775808 := by decide
  have e2 : (2 ^ 63 : Nat) = 9223372036854775808 := by decide
  rw [e, Nat.or_comm, nat_join 63 9223372036854775808 c.toNat (by decide) (by rw [e2]; omega)]
  omega

theorem andNot_seal (c : Int) (h0 : 0 ≤ c) (h1 : c < 18446744073709551616) : bits .andNot .u64 c 9223372036854775808 = c % 9223372036854775808 := by
  rw [u64_andNot c 9223372036854775808 h0 h1 (by decide) (by decide)]
  have : 18446744073709551615 - (9223372036854775808 : Int).toNat = 2 ^ 63 - 1 := by decide
  rw [this, Nat.and_two_pow_sub_one_eq_mod]
  have e : ((2 ^ 63 : Nat) : Int) = 9223372036854775808 := by decide
  rw [Int.natCast_emod, e]
  omega

end Go.Proofs.Qxb6627724a
