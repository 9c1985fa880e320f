/-
  Plain facts on the bit operations that package time makes on a Time's first word, where no monotonic reading is kept.
-/
import Derived.WalkKit
namespace Go.Proofs.Qxb6613076a
open Go.RowKit

theorem and_hi (n : Int) (h0 : 0 ≤ n) (h1 : n < 9223372036854775808) : bits .and .u64 n 9223372036854775808 = 0 := by
  rw [u64_and n 9223372036854775808 h0 (by omega) (by omega) (by omega)]
  have e : (9223372036854775808 : Int).toNat = 9223372036854775808 := rfl
  rw [e, nat_hi64_63]
  omega
theorem and_lo (n : Int) (h0 : 0 ≤ n) (h1 : n < 1073741824) : bits .and .u64 n 1073741823 = n := by
  rw [u64_and n 1073741823 h0 (by omega) (by omega) (by omega)]
  have e : (1073741823 : Int).toNat = 1073741823 := rfl
  rw [e, nat_mask30]
  omega
theorem andNot_lo (n : Int) (h0 : 0 ≤ n) (h1 : n < 1073741824) : bits .andNot .u64 n 1073741823 = 0 := by
  rw [u64_andNot n 1073741823 h0 (by omega) (by omega) (by omega)]
  have e : (18446744073709551615 - (1073741823 : Int).toNat) = 18446744072635809792 := rfl
  rw [e, nat_hi64_30]
  omega
theorem or_zero (n : Int) (h0 : 0 ≤ n) (h1 : n < 18446744073709551616) : bits .or .u64 0 n = n := by
  rw [u64_or 0 n (by omega) (by omega) h0 h1]
  simp
  omega
theorem and_two (a b : Int) (h0 : 0 ≤ a) (h1 : a < 1073741824) (h2 : 0 ≤ b) (h3 : b < 1073741824) : 0 ≤ bits .and .u64 a b ∧ bits .and .u64 a b < 1073741824 := by
  rw [u64_and a b h0 (by omega) h2 (by omega)]
  have := Nat.and_le_left (n := a.toNat) (m := b.toNat)
  omega
theorem and_two_hi (a b : Int) (h0 : 0 ≤ a) (h1 : a < 1073741824) (h2 : 0 ≤ b) (h3 : b < 1073741824) : bits .and .u64 (bits .and .u64 a b) 9223372036854775808 = 0 := by
  obtain ⟨k0, k1⟩ := and_two a b h0 h1 h2 h3
  exact and_hi _ k0 (by omega)
/-- The same, as the walk tests it. -/
theorem no_mono (n : Int) (h0 : 0 ≤ n) (h1 : n < 1000000000) : (bits .and .u64 n 9223372036854775808 != 0) = false := by
  rw [and_hi n h0 (by omega)]; rfl
theorem no_mono2 (a b : Int) (h0 : 0 ≤ a) (h1 : a < 1000000000) (h2 : 0 ≤ b) (h3 : b < 1000000000) : (bits .and .u64 (bits .and .u64 a b) 9223372036854775808 != 0) = false := by
  rw [and_two_hi a b h0 (by omega) h2 (by omega)]; rfl
end Go.Proofs.Qxb6613076a
