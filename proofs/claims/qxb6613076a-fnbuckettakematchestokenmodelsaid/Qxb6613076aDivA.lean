/-
  Plain arithmetic: one digit of a long division in base 2^32 (Knuth's D), as math/bits.Div64 reckons it. No Go in sight.
-/
import Derived.WalkKit
namespace Go.Proofs.Qxb6613076a.Div

/-- q * (y1 * 2^32 + y0), taken apart. -/
theorem mul_y (q y1 y0 : Int) : q * (y1 * 4294967296 + y0) = q * y1 * 4294967296 + q * y0 := by
  rw [Int.mul_add, ← Int.mul_assoc]

/-- The digit that is sought. -/
def dig (y1 y0 U u : Int) : Int := (U * 4294967296 + u) / (y1 * 4294967296 + y0)

theorem dig_le (y1 y0 U u q : Int) (hy : 0 < y1 * 4294967296 + y0) (h : q * (y1 * 4294967296 + y0) ≤ U * 4294967296 + u) : q ≤ dig y1 y0 U u :=
  Int.le_ediv_of_mul_le hy h
theorem dig_lt (y1 y0 U u q : Int) (hy : 0 < y1 * 4294967296 + y0) (h : U * 4294967296 + u < q * (y1 * 4294967296 + y0)) : dig y1 y0 U u < q :=
  Int.ediv_lt_of_lt_mul hy h

/-- The guess is not too small. -/
theorem start_ge (y1 y0 U u : Int) (h1 : 0 < y1) (h0 : 0 ≤ y0) (hU : 0 ≤ U) (hu : 0 ≤ u) (hu' : u < 4294967296) : dig y1 y0 U u ≤ U / y1 := by
  have hy : 0 < y1 * 4294967296 + y0 := by omega
  have hd : dig y1 y0 U u * (y1 * 4294967296 + y0) ≤ U * 4294967296 + u := Int.ediv_mul_le _ (by omega)
  have hq : 0 ≤ dig y1 y0 U u := Int.ediv_nonneg (by omega) (by omega)
  rw [mul_y] at hd
  have hp : 0 ≤ dig y1 y0 U u * y0 := Int.mul_nonneg hq h0
  refine Int.le_ediv_of_mul_le h1 ?_
  generalize dig y1 y0 U u * y1 = A at *
  omega
/-- .. and at most two too large. -/
theorem start_le (y1 y0 U : Int) (h1 : 2147483648 ≤ y1) (h0 : y0 < 4294967296) (hU : U < y1 * 4294967296 + y0) : U / y1 ≤ 4294967297 := by
  have : U / y1 < 4294967298 := Int.ediv_lt_of_lt_mul (by omega) (by omega)
  omega
theorem start_eq (y1 U : Int) : U = U / y1 * y1 + (U - U / y1 * y1) := by omega
theorem start_r (y1 U : Int) (h1 : 0 < y1) : 0 ≤ U - U / y1 * y1 ∧ U - U / y1 * y1 < y1 := by
  have e : U - U / y1 * y1 = U % y1 := by
    have := Int.emod_def U y1
    rw [this, Int.mul_comm y1]
  rw [e]
  exact ⟨Int.emod_nonneg _ (by omega), Int.emod_lt_of_pos _ h1⟩

/-- The test says yes: the guess is too large. -/
theorem step_lt (y1 y0 U u q r : Int) (hy : 0 < y1 * 4294967296 + y0) (hU : U < y1 * 4294967296 + y0) (hu' : u < 4294967296) (e : U = q * y1 + r)
    (h : 4294967296 ≤ q ∨ r * 4294967296 + u < q * y0) : dig y1 y0 U u < q := by
  rcases h with h | h
  · have : dig y1 y0 U u < 4294967296 := by
      refine dig_lt y1 y0 U u _ hy ?_
      omega
    omega
  · refine dig_lt y1 y0 U u q hy ?_
    rw [mul_y]
    generalize q * y1 = A at *
    generalize q * y0 = B at *
    omega
/-- The test says no: the guess is right. -/
theorem done_eq (y1 y0 U u q r : Int) (hy : 0 < y1 * 4294967296 + y0) (e : U = q * y1 + r) (hq : dig y1 y0 U u ≤ q) (h : q * y0 ≤ r * 4294967296 + u) : q = dig y1 y0 U u := by
  have : q ≤ dig y1 y0 U u := by
    refine dig_le y1 y0 U u q hy ?_
    rw [mul_y]
    generalize q * y1 = A at *
    generalize q * y0 = B at *
    omega
  omega
/-- The loop is left by 'break': the guess is right. -/
theorem break_eq (y1 y0 U u q r : Int) (hy : 0 < y1 * 4294967296 + y0) (h0 : 0 ≤ y0) (h0' : y0 < 4294967296) (hu : 0 ≤ u) (e : U = q * y1 + r) (hq : dig y1 y0 U u ≤ q) (hq' : q ≤ 4294967296) (hr : 4294967296 ≤ r) : q = dig y1 y0 U u := by
  refine done_eq y1 y0 U u q r hy e hq ?_
  have : q * y0 ≤ 4294967296 * y0 := Int.mul_le_mul_of_nonneg_right hq' h0
  omega
theorem dig_nonneg (y1 y0 U u : Int) (hy : 0 < y1 * 4294967296 + y0) (hU : 0 ≤ U) (hu : 0 ≤ u) : 0 ≤ dig y1 y0 U u := Int.ediv_nonneg (by omega) (by omega)
theorem dig_small (y1 y0 U u : Int) (hy : 0 < y1 * 4294967296 + y0) (hU : U < y1 * 4294967296 + y0) (hu' : u < 4294967296) : dig y1 y0 U u < 4294967296 := by
  refine dig_lt y1 y0 U u _ hy ?_
  omega
/-- What is left behind the digit. -/
theorem rest (y1 y0 U u : Int) (hy : 0 < y1 * 4294967296 + y0) :
    0 ≤ U * 4294967296 + u - dig y1 y0 U u * (y1 * 4294967296 + y0) ∧ U * 4294967296 + u - dig y1 y0 U u * (y1 * 4294967296 + y0) < y1 * 4294967296 + y0 := by
  unfold dig
  have e : U * 4294967296 + u - (U * 4294967296 + u) / (y1 * 4294967296 + y0) * (y1 * 4294967296 + y0) = (U * 4294967296 + u) % (y1 * 4294967296 + y0) := by
    have := Int.emod_def (U * 4294967296 + u) (y1 * 4294967296 + y0)
    rw [this, Int.mul_comm (y1 * 4294967296 + y0)]
  rw [e]
  exact ⟨Int.emod_nonneg _ (by omega), Int.emod_lt_of_pos _ hy⟩
end Go.Proofs.Qxb6613076a.Div
