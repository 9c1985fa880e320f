/-
  128-bit numbers, on: the law's own sum and difference; isZero.
-/
import Derived.Test.Qxb6613076aU128
namespace Go.Proofs.Qxb6613076a
open Go.RowKit Go.Shelf
set_option linter.unusedVariables false
/-! ### The law's own sum and difference. -/
set_option maxHeartbeats 800000 in
theorem zzAdd_u (X Y : Int) (w : World) (hX : W128 X) (hY : W128 Y) (hS : W128 (X + Y)) :
    Calls Try.prog 24 #[.agg #[.int .u64 (uH X), .int .u64 (uL X)], .agg #[.int .u64 (uH Y), .int .u64 (uL Y)]] w fun e w' => e = .returned (.agg #[.int .u64 (uH (X + Y)), .int .u64 (uL (X + Y))]) ∧ Below w.heap.size w w' := by
  have a1 := uH_lo hX; have a2 := uH_hi hX; have a3 := uL_lo X; have a4 := uL_hi X
  have b1 := uH_lo hY; have b2 := uH_hi hY; have b3 := uL_lo Y; have b4 := uL_hi Y
  by_cases c : uL X + uL Y < 18446744073709551616
  · have q : uH (X + Y) = uH X + uH Y ∧ uL (X + Y) = uL X + uL Y := by unfold uH uL at *; omega
    have s : uH X + uH Y < 18446744073709551616 := by rw [← q.1]; exact uH_hi hS
    rw [q.1, q.2]
    clear q hX hY hS
    generalize uH X = hx at *
    generalize uL X = lx at *
    generalize uH Y = hy at *
    generalize uL Y = ly at *
    have t1 : decide (lx + ly < lx) = false := by simp; omega
    go_enter Try.func24, Try.ntmps24
    go_wp2
    exact bodyPost_ret (v := .agg #[.int .u64 (hx + hy), .int .u64 (lx + ly)]) (by simp [results, Try.results24, go_sem]) rfl ⟨rfl, by go_grown⟩
  · have q : uH (X + Y) = uH X + uH Y + 1 ∧ uL (X + Y) = uL X + uL Y - 18446744073709551616 := by unfold uH uL at *; omega
    have s : uH X + uH Y + 1 < 18446744073709551616 := by rw [← q.1]; exact uH_hi hS
    rw [q.1, q.2]
    clear q hX hY hS
    generalize uH X = hx at *
    generalize uL X = lx at *
    generalize uH Y = hy at *
    generalize uL Y = ly at *
    have e1 : IntKind.u64.wrap (lx + ly) = lx + ly - 18446744073709551616 := by rw [IntKind.wrap_u64]; omega
    have t1 : lx + ly - 18446744073709551616 < lx := by omega
    go_enter Try.func24, Try.ntmps24
    go_wp2
    exact bodyPost_ret (v := .agg #[.int .u64 (hx + hy + 1), .int .u64 (lx + ly - 18446744073709551616)]) (by simp [results, Try.results24, go_sem]) rfl ⟨rfl, by go_grown⟩
set_option maxHeartbeats 800000 in
theorem zzSub_u (X Y : Int) (w : World) (hX : W128 X) (hY : W128 Y) :
    Calls Try.prog 23 #[.agg #[.int .u64 (uH X), .int .u64 (uL X)], .agg #[.int .u64 (uH Y), .int .u64 (uL Y)]] w fun e w' => e = .returned (.agg #[.int .u64 (uH (clip (X - Y))), .int .u64 (uL (clip (X - Y)))]) ∧ Below w.heap.size w w' := by
  have a1 := uH_lo hX; have a2 := uH_hi hX; have a3 := uL_lo X; have a4 := uL_hi X
  have b1 := uH_lo hY; have b2 := uH_hi hY; have b3 := uL_lo Y; have b4 := uL_hi Y
  by_cases c : X < Y
  · have e : clip (X - Y) = 0 := by unfold clip; rw [if_pos (by omega)]
    rw [e, zero_words.1, zero_words.2]
    have t1 : decide (X < Y) = true := by simpa using c
    clear e c
    go_enter Try.func23, Try.ntmps23
    go_wp2_with fail
    refine (zzLess_u X Y _).mono ?_
    rintro e w1 ⟨rfl, x1⟩
    rw [t1]
    obtain ⟨hc, hf⟩ := bcell x1
    have HB : Hid (Below w.heap.size w w1) := below3 x1
    clear x1 t1
    go_wp2_with fail
    have hb' := HB.out
    exact bodyPost_ret (v := .agg #[.int .u64 0, .int .u64 0]) (by simp [results, Try.results23, go_sem, hc]) rfl ⟨rfl, by go_grown⟩
  · have e : clip (X - Y) = X - Y := by unfold clip; rw [if_neg (by omega)]
    have t1 : decide (X < Y) = false := by simpa using c
    by_cases d : uL X < uL Y
    · have q : uH (X - Y) = uH X - uH Y - 1 ∧ uL (X - Y) = uL X - uL Y + 18446744073709551616 ∧ uH Y + 1 ≤ uH X := by unfold uH uL at *; omega
      have s := q.2.2
      rw [e, q.1, q.2.1]
      have e1 : IntKind.u64.wrap (uL X - uL Y) = uL X - uL Y + 18446744073709551616 := by rw [IntKind.wrap_u64]; omega
      have ZL : Hid (∀ w, Calls Try.prog 25 #[.agg #[.int .u64 (uH X), .int .u64 (uL X)], .agg #[.int .u64 (uH Y), .int .u64 (uL Y)]] w fun e w' => e = .returned (.bool false) ∧ Below w.heap.size w w') := fun w => by
        have := zzLess_u X Y w; rw [t1] at this; exact this
      clear q c e t1 hX hY
      generalize uH X = hx at *
      generalize uL X = lx at *
      generalize uH Y = hy at *
      generalize uL Y = ly at *
      go_enter Try.func23, Try.ntmps23
      go_wp2_with fail
      refine (ZL.out _).mono ?_
      rintro e w1 ⟨rfl, x1⟩
      obtain ⟨hc, hf⟩ := bcell x1
      have HB : Hid (Below w.heap.size w w1) := below3 x1
      clear x1 ZL
      go_wp2_with fail
      have hb' := HB.out
      exact bodyPost_ret (v := .agg #[.int .u64 (hx - hy - 1), .int .u64 (lx - ly + 18446744073709551616)]) (by simp [results, Try.results23, go_sem, hc]) rfl ⟨rfl, by go_grown⟩
    · have q : uH (X - Y) = uH X - uH Y ∧ uL (X - Y) = uL X - uL Y ∧ uH Y ≤ uH X := by unfold uH uL at *; omega
      have s := q.2.2
      rw [e, q.1, q.2.1]
      have d' : decide (uL X < uL Y) = false := by simpa using d
      have ZL : Hid (∀ w, Calls Try.prog 25 #[.agg #[.int .u64 (uH X), .int .u64 (uL X)], .agg #[.int .u64 (uH Y), .int .u64 (uL Y)]] w fun e w' => e = .returned (.bool false) ∧ Below w.heap.size w w') := fun w => by
        have := zzLess_u X Y w; rw [t1] at this; exact this
      clear q c e t1 hX hY
      generalize uH X = hx at *
      generalize uL X = lx at *
      generalize uH Y = hy at *
      generalize uL Y = ly at *
      go_enter Try.func23, Try.ntmps23
      go_wp2_with fail
      refine (ZL.out _).mono ?_
      rintro e w1 ⟨rfl, x1⟩
      obtain ⟨hc, hf⟩ := bcell x1
      have HB : Hid (Below w.heap.size w w1) := below3 x1
      clear x1 ZL
      go_wp2_with fail
      have hb' := HB.out
      exact bodyPost_ret (v := .agg #[.int .u64 (hx - hy), .int .u64 (lx - ly)]) (by simp [results, Try.results23, go_sem, hc]) rfl ⟨rfl, by go_grown⟩
theorem isZero_words (X : Int) (hX : W128 X) : (uH X == 0 && uL X == 0) = decide (X = 0) := by
  have := u_eq X
  have a1 := uH_lo hX; have a3 := uL_lo X
  rw [Bool.eq_iff_iff]; simp; omega
set_option maxHeartbeats 800000 in
theorem isZero_u (X : Int) (w : World) (hX : W128 X) :
    Calls Try.prog 47 #[.agg #[.int .u64 (uH X), .int .u64 (uL X)]] w fun e w' => e = .returned (.bool (decide (X = 0))) ∧ Below w.heap.size w w' := by
  rw [← isZero_words X hX]
  generalize uH X = hx
  generalize uL X = lx
  by_cases c : hx = 0
  · subst c
    go_enter Try.func47, Try.ntmps47
    go_wp2
    go_ret
    exact ⟨by simp, by go_grown⟩
  · have c' : (hx == 0) = false := by simpa using c
    go_enter Try.func47, Try.ntmps47
    go_wp2
    go_ret
    exact ⟨by simp [c'], by go_grown⟩
end Go.Proofs.Qxb6613076a
