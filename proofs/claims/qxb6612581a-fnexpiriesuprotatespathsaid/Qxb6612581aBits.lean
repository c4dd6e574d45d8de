import Derived.WalkKit
namespace Go.Proofs.Qxb6612581a
open Go

theorem and_mask (x : Int) (h0 : 0 ≤ x) (h1 : x < 1073741824) : bits .and .u64 x 1073741823 = x := by
  rw [u64_and x 1073741823 h0 (by omega) (by omega) (by omega)]
  have : x.toNat &&& (1073741823 : Int).toNat = x.toNat % 2 ^ 30 := Nat.and_two_pow_sub_one_eq_mod x.toNat 30
  rw [this, Nat.mod_eq_of_lt (by omega)]; omega

theorem nat_and_hi (a : Nat) (h : a < 1073741824) : a &&& 9223372036854775808 = 0 := by
  have : a &&& 2 ^ 63 = a / 2 ^ 63 % 2 * 2 ^ 63 := nat_bit 63 a
  have e : a / 2 ^ 63 = 0 := Nat.div_eq_of_lt (by omega)
  rw [e] at this
  simpa using this

theorem and_hi (x : Int) (h0 : 0 ≤ x) (h1 : x < 1073741824) : bits .and .u64 x 9223372036854775808 = 0 := by
  rw [u64_and x 9223372036854775808 h0 (by omega) (by omega) (by omega)]
  have : x.toNat &&& (9223372036854775808 : Int).toNat = 0 := nat_and_hi x.toNat (by omega)
  rw [this]; rfl

theorem and_and_hi (x y : Int) (h0 : 0 ≤ x) (h1 : x < 1073741824) (g0 : 0 ≤ y) (g1 : y < 1073741824) : bits .and .u64 (bits .and .u64 x y) 9223372036854775808 = 0 := by
  rw [u64_and x y h0 (by omega) g0 (by omega)]
  have : x.toNat &&& y.toNat ≤ x.toNat := Nat.and_le_left
  exact and_hi _ (by omega) (by omega)

theorem andNot_zero : bits .andNot .u64 0 1073741823 = 0 := by
  rw [u64_andNot 0 1073741823 (by omega) (by omega) (by omega) (by omega)]; simp
theorem or_zero (x : Int) (h0 : 0 ≤ x) (h1 : x < 1073741824) : bits .or .u64 0 x = x := by
  rw [u64_or 0 x (by omega) (by omega) h0 (by omega)]; simp; omega
end Go.Proofs.Qxb6612581a
