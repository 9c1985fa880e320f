/-
  uint128.divCeil (65), tokensLacked (52), durationCeil (53): a division rounded up.
-/
import Derived.Test.Qxb6613076aU128B
import Derived.Test.Qxb6613076aDiv64
namespace Go.Proofs.Qxb6613076a
open Go.RowKit
set_option linter.unusedVariables false
/-- X / d rounded up. -/
def cdiv (X d : Int) : Int := (X + d - 1) / d
theorem cdiv_zero (X d : Int) (hd : 0 < d) (h : X % d = 0) : cdiv X d = X / d := by
  unfold cdiv
  have e := Int.emod_def X d
  have e2 : X + d - 1 = (d - 1) + d * (X / d) := by omega
  rw [e2, Int.add_mul_ediv_left _ _ (by omega), Int.ediv_eq_zero_of_lt (by omega) (by omega)]
  omega
theorem cdiv_pos (X d : Int) (hd : 0 < d) (h : ¬ X % d = 0) : cdiv X d = X / d + 1 := by
  unfold cdiv
  have e := Int.emod_def X d
  have b0 := Int.emod_nonneg X (show d ≠ 0 by omega)
  have b1 := Int.emod_lt_of_pos X hd
  have e2 : X + d - 1 = (X % d - 1) + d * (X / d + 1) := by rw [Int.mul_add]; omega
  rw [e2, Int.add_mul_ediv_left _ _ (by omega), Int.ediv_eq_zero_of_lt (by omega) (by omega)]
  omega
/-- What the rounding up says. -/
theorem cdiv_le_iff (X d n : Int) (hd : 0 < d) : cdiv X d ≤ n ↔ X ≤ n * d := by
  unfold cdiv
  constructor
  · intro h
    have : X + d - 1 < (n + 1) * d := Int.lt_mul_of_ediv_lt hd (by omega)
    rw [Int.add_mul] at this
    omega
  · intro h
    have : (X + d - 1) / d < n + 1 := Int.ediv_lt_of_lt_mul hd (by rw [Int.add_mul]; omega)
    omega
theorem cdiv_nonneg (X d : Int) (hd : 0 < d) (h : 0 ≤ X) : 0 ≤ cdiv X d := Int.ediv_nonneg (by omega) (by omega)
theorem uH_lt (X d : Int) (h : X < 18446744073709551616 * d) : uH X < d := by unfold uH; omega
set_option maxHeartbeats 800000 in
theorem divCeil_big (X d : Int) (w : World) (h : d ≤ uH X) :
    Calls Try.prog 65 #[.agg #[.int .u64 (uH X), .int .u64 (uL X)], .int .u64 d] w fun e w' => e = .returned (.tuple #[.int .u64 0, .bool false]) ∧ Below w.heap.size w w' := by
  generalize uH X = hx at h ⊢
  generalize uL X = lx
  go_enter Try.func65, Try.ntmps65
  go_wp2_with fail
  go_ret2
  exact ⟨rfl, by go_grown⟩
set_option maxHeartbeats 800000 in
theorem divCeil_even (X d : Int) (w : World) (hX : W128 X) (hd' : d < 18446744073709551616) (h : uH X < d) (hr : X % d = 0) :
    Calls Try.prog 65 #[.agg #[.int .u64 (uH X), .int .u64 (uL X)], .int .u64 d] w fun e w' => e = .returned (.tuple #[.int .u64 (X / d), .bool true]) ∧ Below w.heap.size w w' := by
  have HD : Hid (∀ w, Calls Try.prog 67 #[.int .u64 (uH X), .int .u64 (uL X), .int .u64 d] w fun e w' => e = .returned (.tuple #[.int .u64 (X / d), .int .u64 (X % d)]) ∧ Below w.heap.size w w') := by
    intro w
    have := div64_any (uH X) (uL X) d w (uL_lo X) (uL_hi X) (uH_lo hX) h hd'
    rwa [← u_eq] at this
  have t1 : decide (d ≤ uH X) = false := by simp; omega
  have q0 : 0 ≤ X / d := Int.ediv_nonneg hX.1 (by have := uH_lo hX; omega)
  generalize uH X = hx at h t1 HD ⊢
  generalize uL X = lx at HD ⊢
  generalize X / d = q at *
  go_enter Try.func65, Try.ntmps65
  go_wp2_with fail
  refine (HD.out _).mono ?_
  rintro e w1 ⟨rfl, x1⟩
  have HB : Hid (Below w.heap.size w w1) := Below.trans (by go_grown) (x1.mono (by simp))
  clear x1
  go_wp2_with fail
  go_ret2
  exact ⟨rfl, HB.out⟩
set_option maxHeartbeats 800000 in
theorem divCeil_odd (X d : Int) (w : World) (hX : W128 X) (hd' : d < 18446744073709551616) (h : uH X < d) (hr : ¬ X % d = 0) (hq : X / d + 1 < 18446744073709551616) :
    Calls Try.prog 65 #[.agg #[.int .u64 (uH X), .int .u64 (uL X)], .int .u64 d] w fun e w' => e = .returned (.tuple #[.int .u64 (X / d + 1), .bool true]) ∧ Below w.heap.size w w' := by
  have HD : Hid (∀ w, Calls Try.prog 67 #[.int .u64 (uH X), .int .u64 (uL X), .int .u64 d] w fun e w' => e = .returned (.tuple #[.int .u64 (X / d), .int .u64 (X % d)]) ∧ Below w.heap.size w w') := by
    intro w
    have := div64_any (uH X) (uL X) d w (uL_lo X) (uL_hi X) (uH_lo hX) h hd'
    rwa [← u_eq] at this
  have t1 : decide (d ≤ uH X) = false := by simp; omega
  have q0 : 0 ≤ X / d := Int.ediv_nonneg hX.1 (by have := uH_lo hX; omega)
  have r0 : (X % d == 0) = false := by simpa using hr
  have r1 : (X / d + 1 != 0) = true := by simp; omega
  generalize X % d = r at *
  generalize uH X = hx at h t1 HD ⊢
  generalize uL X = lx at HD ⊢
  generalize X / d = q at *
  go_enter Try.func65, Try.ntmps65
  go_wp2_with fail
  refine (HD.out _).mono ?_
  rintro e w1 ⟨rfl, x1⟩
  have HB : Hid (Below w.heap.size w w1) := Below.trans (by go_grown) (x1.mono (by simp))
  clear x1
  go_wp2_with fail
  go_ret2
  exact ⟨rfl, HB.out⟩
set_option maxHeartbeats 800000 in
theorem divCeil_full (X d : Int) (w : World) (hX : W128 X) (hd' : d < 18446744073709551616) (h : uH X < d) (hr : ¬ X % d = 0) (hq : X / d + 1 = 18446744073709551616) :
    Calls Try.prog 65 #[.agg #[.int .u64 (uH X), .int .u64 (uL X)], .int .u64 d] w fun e w' => e = .returned (.tuple #[.int .u64 0, .bool false]) ∧ Below w.heap.size w w' := by
  have HD : Hid (∀ w, Calls Try.prog 67 #[.int .u64 (uH X), .int .u64 (uL X), .int .u64 d] w fun e w' => e = .returned (.tuple #[.int .u64 (X / d), .int .u64 (X % d)]) ∧ Below w.heap.size w w') := by
    intro w
    have := div64_any (uH X) (uL X) d w (uL_lo X) (uL_hi X) (uH_lo hX) h hd'
    rwa [← u_eq] at this
  have t1 : decide (d ≤ uH X) = false := by simp; omega
  have q0 : 0 ≤ X / d := Int.ediv_nonneg hX.1 (by have := uH_lo hX; omega)
  have r0 : (X % d == 0) = false := by simpa using hr
  generalize X % d = r at *
  generalize uH X = hx at h t1 HD ⊢
  generalize uL X = lx at HD ⊢
  generalize X / d = q at *
  go_enter Try.func65, Try.ntmps65
  go_wp2_with fail
  refine (HD.out _).mono ?_
  rintro e w1 ⟨rfl, x1⟩
  have HB : Hid (Below w.heap.size w w1) := Below.trans (by go_grown) (x1.mono (by simp))
  clear x1
  go_wp2_with fail
  go_ret2
  exact ⟨rfl, HB.out⟩
theorem lt_of_cdiv (X d : Int) (hd : 0 < d) (h : cdiv X d ≤ 18446744073709551615) : uH X < d := by
  have := (cdiv_le_iff X d 18446744073709551615 hd).mp h
  exact uH_lt X d (by omega)
theorem divCeil_fit (X d : Int) (w : World) (hX : W128 X) (hd : 0 < d) (hd' : d < 18446744073709551616) (h : cdiv X d < 18446744073709551616) :
    Calls Try.prog 65 #[.agg #[.int .u64 (uH X), .int .u64 (uL X)], .int .u64 d] w fun e w' => e = .returned (.tuple #[.int .u64 (cdiv X d), .bool true]) ∧ Below w.heap.size w w' := by
  have l := lt_of_cdiv X d hd (by omega)
  by_cases hr : X % d = 0
  · rw [cdiv_zero X d hd hr]; exact divCeil_even X d w hX hd' l hr
  · rw [cdiv_pos X d hd hr] at h ⊢; exact divCeil_odd X d w hX hd' l hr h
theorem divCeil_over (X d : Int) (w : World) (hX : W128 X) (hd : 0 < d) (hd' : d < 18446744073709551616) (h : 18446744073709551616 ≤ cdiv X d) :
    Calls Try.prog 65 #[.agg #[.int .u64 (uH X), .int .u64 (uL X)], .int .u64 d] w fun e w' => e = .returned (.tuple #[.int .u64 0, .bool false]) ∧ Below w.heap.size w w' := by
  by_cases l : d ≤ uH X
  · exact divCeil_big X d w l
  · have l1 : X < 18446744073709551616 * d := by
      have : X / 18446744073709551616 < d := by have : ¬ d ≤ X / 18446744073709551616 := l; omega
      omega
    have l2 : X / d < 18446744073709551616 := Int.ediv_lt_of_lt_mul hd l1
    by_cases hr : X % d = 0
    · rw [cdiv_zero X d hd hr] at h; omega
    · rw [cdiv_pos X d hd hr] at h; exact divCeil_full X d w hX hd' (by omega) hr (by omega)
set_option maxHeartbeats 800000 in
/-- tokensLacked. -/
theorem lacked_u (X d : Int) (w : World) (hX : W128 X) (hd : 0 < d) (hd' : d < 18446744073709551616) (h : cdiv X d ≤ 9223372036854775807) :
    Calls Try.prog 52 #[.agg #[.int .u64 (uH X), .int .u64 (uL X)], .int .u64 d] w fun e w' => e = .returned (.int .i64 (cdiv X d)) ∧ Below w.heap.size w w' := by
  have HD : Hid (∀ w, Calls Try.prog 65 #[.agg #[.int .u64 (uH X), .int .u64 (uL X)], .int .u64 d] w fun e w' => e = .returned (.tuple #[.int .u64 (cdiv X d), .bool true]) ∧ Below w.heap.size w w') := fun w => divCeil_fit X d w hX hd hd' (by omega)
  have n0 := cdiv_nonneg X d hd hX.1
  generalize uH X = hx at HD ⊢
  generalize uL X = lx at HD ⊢
  generalize cdiv X d = n at *
  go_enter Try.func52, Try.ntmps52
  go_wp2_with fail
  refine (HD.out _).mono ?_
  rintro e w1 ⟨rfl, x1⟩
  have HB : Hid (Below w.heap.size w w1) := Below.trans (by go_grown) (x1.mono (by simp))
  clear x1
  go_wp2_with fail
  go_ret
  exact ⟨rfl, HB.out⟩
/-- The longest wait is MaxInt64. -/
def capD (n : Int) : Int := if n ≤ 9223372036854775807 then n else 9223372036854775807
set_option maxHeartbeats 800000 in
/-- durationCeil. -/
theorem duration_u (X d : Int) (w : World) (hX : W128 X) (hd : 0 < d) (hd' : d < 18446744073709551616) :
    Calls Try.prog 53 #[.agg #[.int .u64 (uH X), .int .u64 (uL X)], .int .u64 d] w fun e w' => e = .returned (.int .i64 (capD (cdiv X d))) ∧ Below w.heap.size w w' := by
  have n0 := cdiv_nonneg X d hd hX.1
  by_cases c : cdiv X d < 18446744073709551616
  · have HD : Hid (∀ w, Calls Try.prog 65 #[.agg #[.int .u64 (uH X), .int .u64 (uL X)], .int .u64 d] w fun e w' => e = .returned (.tuple #[.int .u64 (cdiv X d), .bool true]) ∧ Below w.heap.size w w') := fun w => divCeil_fit X d w hX hd hd' c
    generalize uH X = hx at HD ⊢
    generalize uL X = lx at HD ⊢
    generalize cdiv X d = n at *
    by_cases c2 : n ≤ 9223372036854775807
    · have HE : Hid (capD n = n) := by unfold capD; exact if_pos c2
      have t1 : decide (9223372036854775807 < n) = false := by simp; omega
      go_enter Try.func53, Try.ntmps53
      go_wp2_with fail
      refine (HD.out _).mono ?_
      rintro e w1 ⟨rfl, x1⟩
      have HB : Hid (Below w.heap.size w w1) := Below.trans (by go_grown) (x1.mono (by simp))
      clear x1
      go_wp2_with fail
      go_ret
      exact ⟨by rw [HE.out]; rfl, HB.out⟩
    · have HE : Hid (capD n = 9223372036854775807) := by unfold capD; exact if_neg c2
      have t1 : decide (9223372036854775807 < n) = true := by simp; omega
      go_enter Try.func53, Try.ntmps53
      go_wp2_with fail
      refine (HD.out _).mono ?_
      rintro e w1 ⟨rfl, x1⟩
      have HB : Hid (Below w.heap.size w w1) := Below.trans (by go_grown) (x1.mono (by simp))
      clear x1
      go_wp2_with fail
      go_ret
      exact ⟨by rw [HE.out]; rfl, HB.out⟩
  · have HD : Hid (∀ w, Calls Try.prog 65 #[.agg #[.int .u64 (uH X), .int .u64 (uL X)], .int .u64 d] w fun e w' => e = .returned (.tuple #[.int .u64 0, .bool false]) ∧ Below w.heap.size w w') := fun w => divCeil_over X d w hX hd hd' (by omega)
    generalize uH X = hx at HD ⊢
    generalize uL X = lx at HD ⊢
    generalize cdiv X d = n at *
    have HE : Hid (capD n = 9223372036854775807) := by unfold capD; exact if_neg (by omega)
    go_enter Try.func53, Try.ntmps53
    go_wp2_with fail
    refine (HD.out _).mono ?_
    rintro e w1 ⟨rfl, x1⟩
    have HB : Hid (Below w.heap.size w w1) := Below.trans (by go_grown) (x1.mono (by simp))
    clear x1
    go_wp2_with fail
    go_ret
    exact ⟨by rw [HE.out]; rfl, HB.out⟩
end Go.Proofs.Qxb6613076a
