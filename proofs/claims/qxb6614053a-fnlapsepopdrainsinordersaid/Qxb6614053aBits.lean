import Derived.WalkKit
import Derived.Laws.BitsAllLaws
namespace Go.Proofs.Qxb6614053a
open Go

theorem and_mask (x : Int) (h0 : 0 ≤ x) (h1 : x < 1000000000) : bits .and .u64 x 1073741823 = x := by
  have h := u64_and_nat x.toNat 1073741823 (by omega) (by omega)
  rw [Int.toNat_of_nonneg h0] at h
  have e : x.toNat &&& 1073741823 = x.toNat := by
    have := Nat.and_two_pow_sub_one_eq_mod x.toNat 30
    rw [show (2 ^ 30 - 1 : Nat) = 1073741823 from rfl] at this
    rw [this]
    exact Nat.mod_eq_of_lt (by omega)
  rw [e, Int.toNat_of_nonneg h0] at h
  exact h
theorem nat_and_mono (x : Nat) (h1 : x < 1073741824) : x &&& 9223372036854775808 = 0 := by
  have := nat_bit 63 x
  rw [show (2 ^ 63 : Nat) = 9223372036854775808 from rfl] at this
  rw [this, Nat.div_eq_of_lt (by omega)]
theorem and_mono (x : Int) (h0 : 0 ≤ x) (h1 : x < 1000000000) : bits .and .u64 x 9223372036854775808 = 0 := by
  have h := u64_and_nat x.toNat 9223372036854775808 (by omega) (by omega)
  rw [Int.toNat_of_nonneg h0, nat_and_mono x.toNat (by omega)] at h
  exact h
theorem and_both (x y : Int) (h0 : 0 ≤ x) (h1 : x < 1000000000) (h2 : 0 ≤ y) (h3 : y < 1000000000) : bits .and .u64 (bits .and .u64 x y) 9223372036854775808 = 0 := by
  have h := u64_and_nat x.toNat y.toNat (by omega) (by omega)
  rw [Int.toNat_of_nonneg h0, Int.toNat_of_nonneg h2] at h
  have hb : x.toNat &&& y.toNat < 1000000000 := Nat.lt_of_le_of_lt Nat.and_le_left (by omega)
  rw [h]
  exact and_mono _ (by omega) (by omega)
theorem andNot_zero : bits .andNot .u64 0 1073741823 = 0 := by decide
theorem or_zero (x : Int) (h0 : 0 ≤ x) (h1 : x < 1000000000) : bits .or .u64 0 x = x := by
  have h := u64_or_nat 0 x.toNat (by omega) (by omega)
  rw [Int.toNat_of_nonneg h0] at h
  rw [Nat.zero_or, Int.toNat_of_nonneg h0] at h
  exact h
end Go.Proofs.Qxb6614053a
