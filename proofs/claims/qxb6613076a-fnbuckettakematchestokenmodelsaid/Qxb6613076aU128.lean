/-
  128-bit numbers: math/bits.Add64 and Sub64 (the model's own entries), then tidegate's uint128 and the law's own zzU128, word by word.
-/
import Derived.Test.Qxb6613076aTime3
import Derived.Shelf.Spec.BitsCarry
namespace Go.Proofs.Qxb6613076a
open Go.RowKit Go.Shelf
set_option linter.unusedVariables false
theorem add64 (x y c : Int) (hx : 0 ≤ x) (hx' : x < 18446744073709551616) (hy : 0 ≤ y) (hy' : y < 18446744073709551616) (hc0 : 0 ≤ c) (hc : c ≤ 1) (w : World) : (callFunc 64 #[.int .u64 x, .int .u64 y, .int .u64 c]).run Try.prog w =
    .ok (.value (.tuple #[.int .u64 ((x + y + c) % 18446744073709551616), .int .u64 ((x + y + c) / 18446744073709551616)])) w := by
  obtain ⟨x, rfl⟩ := Int.eq_ofNat_of_zero_le hx
  obtain ⟨y, rfl⟩ := Int.eq_ofNat_of_zero_le hy
  obtain ⟨c, rfl⟩ := Int.eq_ofNat_of_zero_le hc0
  rw [run_callFunc_extern Try.func64 (by kernel_rfl) (by kernel_rfl) (by kernel_rfl) (e := add64Entry) (by kernel_rfl), run_add64 x y c (by omega) (by omega) (by omega) (by omega)]
  simp only [Result.andThen]
theorem sub64 (x y b : Int) (hx : 0 ≤ x) (hy : 0 ≤ y) (hy' : y < 18446744073709551616) (hb0 : 0 ≤ b) (hb : b ≤ 1) (w : World) : (callFunc 66 #[.int .u64 x, .int .u64 y, .int .u64 b]).run Try.prog w =
    .ok (.value (.tuple #[.int .u64 ((x - y - b) % 18446744073709551616), .int .u64 (if x < y + b then 1 else 0)])) w := by
  obtain ⟨x, rfl⟩ := Int.eq_ofNat_of_zero_le hx
  obtain ⟨y, rfl⟩ := Int.eq_ofNat_of_zero_le hy
  obtain ⟨b, rfl⟩ := Int.eq_ofNat_of_zero_le hb0
  have e1 : (((x + 18446744073709551616 - y - b) % 18446744073709551616 : Nat) : Int) = ((x : Int) - y - b) % 18446744073709551616 := by omega
  have e2 : ((if x < y + b then 1 else 0 : Nat) : Int) = if (x : Int) < y + b then 1 else 0 := by split <;> split <;> omega
  rw [← e1, ← e2]
  rw [run_callFunc_extern Try.func66 (by kernel_rfl) (by kernel_rfl) (by kernel_rfl) (e := sub64Entry) (by kernel_rfl), run_sub64 x y b (by omega)]
  rfl
theorem add64_0 (x y : Int) (hx : 0 ≤ x) (hx' : x < 18446744073709551616) (hy : 0 ≤ y) (hy' : y < 18446744073709551616) (w : World) : (callFunc 64 #[.int .u64 x, .int .u64 y, .int .u64 0]).run Try.prog w =
    .ok (.value (.tuple #[.int .u64 ((x + y) % 18446744073709551616), .int .u64 ((x + y) / 18446744073709551616)])) w := by
  simpa using add64 x y 0 hx hx' hy hy' (Int.le_refl 0) (by decide) w
theorem sub64_0 (x y : Int) (hx : 0 ≤ x) (hy : 0 ≤ y) (hy' : y < 18446744073709551616) (w : World) : (callFunc 66 #[.int .u64 x, .int .u64 y, .int .u64 0]).run Try.prog w =
    .ok (.value (.tuple #[.int .u64 ((x - y) % 18446744073709551616), .int .u64 (if x < y then 1 else 0)])) w := by
  simpa using sub64 x y 0 hx hy hy' (Int.le_refl 0) (by decide) w
/-- The high and the low word of a number. -/
def uH (X : Int) : Int := X / 18446744073709551616
def uL (X : Int) : Int := X % 18446744073709551616
/-- A number of two words. -/
def W128 (X : Int) : Prop := 0 ≤ X ∧ X < 340282366920938463463374607431768211456
theorem uH_lo {X : Int} (h : W128 X) : 0 ≤ uH X := by obtain ⟨a, b⟩ := h; unfold uH; omega
theorem uH_hi {X : Int} (h : W128 X) : uH X < 18446744073709551616 := by obtain ⟨a, b⟩ := h; unfold uH; omega
theorem uL_lo (X : Int) : 0 ≤ uL X := by unfold uL; omega
theorem uL_hi (X : Int) : uL X < 18446744073709551616 := by unfold uL; omega
theorem u_eq (X : Int) : X = uH X * 18446744073709551616 + uL X := by unfold uH uL; omega
theorem u_of (h l : Int) (h0 : 0 ≤ l) (h1 : l < 18446744073709551616) : h = uH (h * 18446744073709551616 + l) ∧ l = uL (h * 18446744073709551616 + l) := by unfold uH uL; omega

set_option maxHeartbeats 800000 in
theorem less_words (hx lx hy ly : Int) (w : World) (k0 : 0 ≤ lx) (k1 : lx < 18446744073709551616) (k2 : 0 ≤ ly) (k3 : ly < 18446744073709551616) :
    Calls Try.prog 51 #[.agg #[.int .u64 hx, .int .u64 lx], .agg #[.int .u64 hy, .int .u64 ly]] w fun e w' => e = .returned (.bool (decide (hx * 18446744073709551616 + lx < hy * 18446744073709551616 + ly))) ∧ Below w.heap.size w w' := by
  by_cases c : hx < hy
  · have H : Hid (decide (hx * 18446744073709551616 + lx < hy * 18446744073709551616 + ly) = true) := by unfold Hid; simp; omega
    have n1 : (hx == hy) = false := by simp; omega
    have n2 : (hx != hy) = true := by simp; omega
    clear k0 k1 k2 k3
    go_enter Try.func51, Try.ntmps51
    go_wp2
    go_ret
    exact ⟨by rw [H.out]; rfl, by go_grown⟩
  · by_cases d : hx = hy
    · subst d
      have n2 : (hx != hx) = false := by simp
      clear k0 k1 k2 k3
      go_enter Try.func51, Try.ntmps51
      go_wp2
      go_ret
      exact ⟨rfl, by go_grown⟩
    · have H : Hid (decide (hx * 18446744073709551616 + lx < hy * 18446744073709551616 + ly) = false) := by unfold Hid; simp; omega
      have d' : (hx == hy) = false := by simpa using d
      have d2 : (hx != hy) = true := by simpa using d
      have c' : decide (hx < hy) = false := by simpa using c
      clear k0 k1 k2 k3
      go_enter Try.func51, Try.ntmps51
      go_wp2
      go_ret
      exact ⟨by rw [H.out]; rfl, by go_grown⟩

set_option maxHeartbeats 800000 in
theorem zzLess_words (hx lx hy ly : Int) (w : World) (k0 : 0 ≤ lx) (k1 : lx < 18446744073709551616) (k2 : 0 ≤ ly) (k3 : ly < 18446744073709551616) :
    Calls Try.prog 25 #[.agg #[.int .u64 hx, .int .u64 lx], .agg #[.int .u64 hy, .int .u64 ly]] w fun e w' => e = .returned (.bool (decide (hx * 18446744073709551616 + lx < hy * 18446744073709551616 + ly))) ∧ Below w.heap.size w w' := by
  by_cases c : hx < hy
  · have H : Hid (decide (hx * 18446744073709551616 + lx < hy * 18446744073709551616 + ly) = true) := by unfold Hid; simp; omega
    have n1 : (hx == hy) = false := by simp; omega
    have n2 : (hx != hy) = true := by simp; omega
    clear k0 k1 k2 k3
    go_enter Try.func25, Try.ntmps25
    go_wp2
    go_ret
    exact ⟨by rw [H.out]; rfl, by go_grown⟩
  · by_cases d : hx = hy
    · subst d
      have n2 : (hx != hx) = false := by simp
      clear k0 k1 k2 k3
      go_enter Try.func25, Try.ntmps25
      go_wp2
      go_ret
      exact ⟨rfl, by go_grown⟩
    · have H : Hid (decide (hx * 18446744073709551616 + lx < hy * 18446744073709551616 + ly) = false) := by unfold Hid; simp; omega
      have d' : (hx == hy) = false := by simpa using d
      have d2 : (hx != hy) = true := by simpa using d
      have c' : decide (hx < hy) = false := by simpa using c
      clear k0 k1 k2 k3
      go_enter Try.func25, Try.ntmps25
      go_wp2
      go_ret
      exact ⟨by rw [H.out]; rfl, by go_grown⟩

theorem less_u (X Y : Int) (w : World) :
    Calls Try.prog 51 #[.agg #[.int .u64 (uH X), .int .u64 (uL X)], .agg #[.int .u64 (uH Y), .int .u64 (uL Y)]] w fun e w' => e = .returned (.bool (decide (X < Y))) ∧ Below w.heap.size w w' := by
  have := less_words (uH X) (uL X) (uH Y) (uL Y) w (uL_lo X) (uL_hi X) (uL_lo Y) (uL_hi Y)
  rw [← u_eq, ← u_eq] at this
  exact this
theorem zzLess_u (X Y : Int) (w : World) :
    Calls Try.prog 25 #[.agg #[.int .u64 (uH X), .int .u64 (uL X)], .agg #[.int .u64 (uH Y), .int .u64 (uL Y)]] w fun e w' => e = .returned (.bool (decide (X < Y))) ∧ Below w.heap.size w w' := by
  have := zzLess_words (uH X) (uL X) (uH Y) (uL Y) w (uL_lo X) (uL_hi X) (uL_lo Y) (uL_hi Y)
  rw [← u_eq, ← u_eq] at this
  exact this
theorem sum_words (hx lx hy ly : Int) (k0 : 0 ≤ lx) (k1 : lx < 18446744073709551616) (k2 : 0 ≤ ly) (k3 : ly < 18446744073709551616) (h : W128 (hx * 18446744073709551616 + lx + (hy * 18446744073709551616 + ly))) :
    (hx + hy + (lx + ly) / 18446744073709551616) % 18446744073709551616 = uH (hx * 18446744073709551616 + lx + (hy * 18446744073709551616 + ly)) ∧ (lx + ly) % 18446744073709551616 = uL (hx * 18446744073709551616 + lx + (hy * 18446744073709551616 + ly)) := by
  obtain ⟨a, b⟩ := h
  unfold uH uL
  omega
set_option maxHeartbeats 800000 in
theorem add_words (hx lx hy ly : Int) (w : World) (k0 : 0 ≤ lx) (k1 : lx < 18446744073709551616) (k2 : 0 ≤ ly) (k3 : ly < 18446744073709551616) (k4 : 0 ≤ hx) (k5 : hx < 18446744073709551616) (k6 : 0 ≤ hy) (k7 : hy < 18446744073709551616) :
    Calls Try.prog 50 #[.agg #[.int .u64 hx, .int .u64 lx], .agg #[.int .u64 hy, .int .u64 ly]] w fun e w' => e = .returned (.agg #[.int .u64 ((hx + hy + (lx + ly) / 18446744073709551616) % 18446744073709551616), .int .u64 ((lx + ly) % 18446744073709551616)]) ∧ Below w.heap.size w w' := by
  have c0 : 0 ≤ (lx + ly) / 18446744073709551616 := by omega
  have c1 : (lx + ly) / 18446744073709551616 ≤ 1 := by omega
  go_enter Try.func50, Try.ntmps50
  go_wp2_with (first | simp only [add64_0 lx ly k0 k1 k2 k3] | simp only [add64 hx hy _ k4 k5 k6 k7 c0 c1])
  exact bodyPost_ret (v := .agg #[.int .u64 ((hx + hy + (lx + ly) / 18446744073709551616) % 18446744073709551616), .int .u64 ((lx + ly) % 18446744073709551616)]) (by simp [results, Try.results50, go_sem]) rfl ⟨rfl, by go_grown⟩
theorem add_u (X Y : Int) (w : World) (hX : W128 X) (hY : W128 Y) (hS : W128 (X + Y)) :
    Calls Try.prog 50 #[.agg #[.int .u64 (uH X), .int .u64 (uL X)], .agg #[.int .u64 (uH Y), .int .u64 (uL Y)]] w fun e w' => e = .returned (.agg #[.int .u64 (uH (X + Y)), .int .u64 (uL (X + Y))]) ∧ Below w.heap.size w w' := by
  have := add_words (uH X) (uL X) (uH Y) (uL Y) w (uL_lo X) (uL_hi X) (uL_lo Y) (uL_hi Y) (uH_lo hX) (uH_hi hX) (uH_lo hY) (uH_hi hY)
  obtain ⟨e1, e2⟩ := sum_words (uH X) (uL X) (uH Y) (uL Y) (uL_lo X) (uL_hi X) (uL_lo Y) (uL_hi Y) (by rw [← u_eq, ← u_eq]; exact hS)
  rw [e1, e2, ← u_eq, ← u_eq] at this
  exact this
theorem and_mask32 (n : Int) (h0 : 0 ≤ n) (h1 : n < 18446744073709551616) : bits .and .u64 n 4294967295 = n % 4294967296 := by
  rw [u64_and n 4294967295 h0 (by omega) (by omega) (by omega)]
  have e : (4294967295 : Int).toNat = 4294967295 := rfl
  rw [e, nat_mask32]
  omega
/-- A product of two half words. -/
theorem half_mul (a b : Int) (h0 : 0 ≤ a) (h1 : a < 4294967296) (h2 : 0 ≤ b) (h3 : b < 4294967296) : 0 ≤ a * b ∧ a * b ≤ 18446744065119617025 := by
  refine ⟨Int.mul_nonneg h0 h2, ?_⟩
  have e1 : a * b ≤ 4294967295 * b := Int.mul_le_mul_of_nonneg_right (by omega) h2
  omega
/-- The four partial products. -/
theorem mul_split (x y : Int) : x * y = x / 4294967296 * (y / 4294967296) * 18446744073709551616 + (x / 4294967296 * (y % 4294967296) + x % 4294967296 * (y / 4294967296)) * 4294967296 + x % 4294967296 * (y % 4294967296) := by
  have ex : x = x / 4294967296 * 4294967296 + x % 4294967296 := by omega
  have ey : y = y / 4294967296 * 4294967296 + y % 4294967296 := by omega
  generalize x / 4294967296 = a at *
  generalize x % 4294967296 = b at *
  generalize y / 4294967296 = c at *
  generalize y % 4294967296 = d at *
  subst ex ey
  rw [Int.add_mul, Int.mul_add, Int.mul_add]
  have e1 : a * 4294967296 * (c * 4294967296) = a * c * 18446744073709551616 := by
    rw [Int.mul_assoc, Int.mul_left_comm 4294967296 c, ← Int.mul_assoc a c]; rfl
  have e2 : a * 4294967296 * d = a * d * 4294967296 := by rw [Int.mul_assoc, Int.mul_comm 4294967296 d, ← Int.mul_assoc]
  have e3 : b * (c * 4294967296) = b * c * 4294967296 := by rw [← Int.mul_assoc]
  rw [e1, e2, e3]
  omega
theorem ret_two {k k' : IntKind} {a b c d : Int} (h : a = b) (h' : c = d) : Ending.returned (.tuple #[.int k a, .int k' c]) = .returned (.tuple #[.int k b, .int k' d]) := by rw [h, h']
set_option maxHeartbeats 800000 in
theorem mul64_any (x y : Int) (w : World) (h0 : 0 ≤ x) (h0' : x < 18446744073709551616) (h1 : 0 ≤ y) (h1' : y < 18446744073709551616) :
    Calls Try.prog 63 #[.int .u64 x, .int .u64 y] w fun e w' => e = .returned (.tuple #[.int .u64 (x * y / 18446744073709551616), .int .u64 (x * y % 18446744073709551616)]) ∧ w' = w := by
  have e1 := and_mask32 x h0 h0'
  have e2 := and_mask32 y h1 h1'
  obtain ⟨p1, p1'⟩ := half_mul (x % 4294967296) (y % 4294967296) (by omega) (by omega) (by omega) (by omega)
  obtain ⟨p2, p2'⟩ := half_mul (x / 4294967296) (y % 4294967296) (by omega) (by omega) (by omega) (by omega)
  obtain ⟨p3, p3'⟩ := half_mul (x % 4294967296) (y / 4294967296) (by omega) (by omega) (by omega) (by omega)
  obtain ⟨p4, p4'⟩ := half_mul (x / 4294967296) (y / 4294967296) (by omega) (by omega) (by omega) (by omega)
  have e3 := and_mask32 (x / 4294967296 * (y % 4294967296) + x % 4294967296 * (y % 4294967296) / 4294967296) (by omega) (by omega)
  go_enter Try.func63, Try.ntmps63
  go_wp2
  go_ret2
  refine ⟨ret_two ?_ ?_, rfl⟩
  · have := mul_split x y
    generalize x * y = P at *
    generalize x % 4294967296 * (y % 4294967296) = a at *
    generalize x / 4294967296 * (y % 4294967296) = b at *
    generalize x % 4294967296 * (y / 4294967296) = c at *
    generalize x / 4294967296 * (y / 4294967296) = d at *
    show d + (b + a / 4294967296) / 4294967296 + ((b + a / 4294967296) % 4294967296 + c) / 4294967296 = _
    omega
  · show IntKind.u64.wrap (x * y) = _
    rw [IntKind.wrap_u64]
/-- The law's own product: the low word is put together by '|'. -/
theorem or_join (a m : Int) (h0 : 0 ≤ a) (h1 : a < 4294967296) (h2 : 0 ≤ m) : bits .or .u64 a (IntKind.u64.wrap (m * 4294967296)) = a + m % 4294967296 * 4294967296 := by
  rw [IntKind.wrap_u64]
  have e : m * 4294967296 % 18446744073709551616 = m % 4294967296 * 4294967296 := by omega
  rw [e, u64_or a _ h0 (by omega) (by omega) (by omega)]
  have e2 : a.toNat ||| (m % 4294967296 * 4294967296).toNat = (m % 4294967296 * 4294967296).toNat + a.toNat := by
    rw [Nat.or_comm]
    exact nat_join 32 _ _ (by have : (2 : Nat) ^ 32 = 4294967296 := rfl; rw [this]; omega) (by have : (2 : Nat) ^ 32 = 4294967296 := rfl; rw [this]; omega)
  rw [e2]
  omega
set_option maxHeartbeats 800000 in
theorem zzMul_words (x y : Int) (w : World) (h0 : 0 ≤ x) (h0' : x < 18446744073709551616) (h1 : 0 ≤ y) (h1' : y < 18446744073709551616) :
    Calls Try.prog 22 #[.int .u64 x, .int .u64 y] w fun e w' => e = .returned (.agg #[.int .u64 (x * y / 18446744073709551616), .int .u64 (x * y % 18446744073709551616)]) ∧ Below w.heap.size w w' := by
  have e1 := and_mask32 x h0 h0'
  have e2 := and_mask32 y h1 h1'
  obtain ⟨p1, p1'⟩ := half_mul (x % 4294967296) (y % 4294967296) (by omega) (by omega) (by omega) (by omega)
  obtain ⟨p2, p2'⟩ := half_mul (x / 4294967296) (y % 4294967296) (by omega) (by omega) (by omega) (by omega)
  obtain ⟨p3, p3'⟩ := half_mul (x % 4294967296) (y / 4294967296) (by omega) (by omega) (by omega) (by omega)
  obtain ⟨p4, p4'⟩ := half_mul (x / 4294967296) (y / 4294967296) (by omega) (by omega) (by omega) (by omega)
  have e3 := and_mask32 (x % 4294967296 * (y / 4294967296)) (by omega) (by omega)
  have e4 := and_mask32 (x / 4294967296 * (y % 4294967296)) (by omega) (by omega)
  have e5 := and_mask32 (x % 4294967296 * (y % 4294967296)) (by omega) (by omega)
  have H : Hid ((x / 4294967296 * (y / 4294967296) + x % 4294967296 * (y / 4294967296) / 4294967296 + x / 4294967296 * (y % 4294967296) / 4294967296 + (x % 4294967296 * (y % 4294967296) / 4294967296 + x % 4294967296 * (y / 4294967296) % 4294967296 + x / 4294967296 * (y % 4294967296) % 4294967296) / 4294967296) = x * y / 18446744073709551616 ∧ (bits .or .u64 (x % 4294967296 * (y % 4294967296) % 4294967296) (IntKind.u64.wrap ((x % 4294967296 * (y % 4294967296) / 4294967296 + x % 4294967296 * (y / 4294967296) % 4294967296 + x / 4294967296 * (y % 4294967296) % 4294967296) * 4294967296))) = x * y % 18446744073709551616) := by
    unfold Hid
    rw [or_join _ _ (by omega) (by omega) (by omega)]
    have := mul_split x y
    generalize x * y = P at *
    generalize x % 4294967296 * (y % 4294967296) = a at *
    generalize x / 4294967296 * (y % 4294967296) = b at *
    generalize x % 4294967296 * (y / 4294967296) = c at *
    generalize x / 4294967296 * (y / 4294967296) = d at *
    clear e1 e2 e3 e4 e5
    omega
  go_enter Try.func22, Try.ntmps22
  go_wp2
  rw [← H.out.1, ← H.out.2]
  exact bodyPost_ret (v := .agg #[.int .u64 (x / 4294967296 * (y / 4294967296) + x % 4294967296 * (y / 4294967296) / 4294967296 + x / 4294967296 * (y % 4294967296) / 4294967296 + (x % 4294967296 * (y % 4294967296) / 4294967296 + x % 4294967296 * (y / 4294967296) % 4294967296 + x / 4294967296 * (y % 4294967296) % 4294967296) / 4294967296), .int .u64 (bits .or .u64 (x % 4294967296 * (y % 4294967296) % 4294967296) (IntKind.u64.wrap ((x % 4294967296 * (y % 4294967296) / 4294967296 + x % 4294967296 * (y / 4294967296) % 4294967296 + x / 4294967296 * (y % 4294967296) % 4294967296) * 4294967296)))]) (by simp [results, Try.results22, go_sem]) rfl ⟨rfl, by go_grown⟩
theorem below3 {w w1 : World} {o p q : Obj} (hb : Below (((w.alloc o).alloc p).alloc q).heap.size (((w.alloc o).alloc p).alloc q) w1) : Below w.heap.size w w1 :=
  ((((Below.refl _ _).alloc (Nat.le_refl _) _).alloc (by simp) _).alloc (by simp; omega) _).trans (hb.mono (by simp; omega))
/-- Sub64 with its borrow out left out of sight. -/
def bor2 (x y b : Int) : Int := if x < y + b then 1 else 0
theorem sub64b (x y b : Int) (hx : 0 ≤ x) (hy : 0 ≤ y) (hy' : y < 18446744073709551616) (hb0 : 0 ≤ b) (hb : b ≤ 1) (w : World) : (callFunc 66 #[.int .u64 x, .int .u64 y, .int .u64 b]).run Try.prog w =
    .ok (.value (.tuple #[.int .u64 ((x - y - b) % 18446744073709551616), .int .u64 (bor2 x y b)])) w := sub64 x y b hx hy hy' hb0 hb w
theorem zzMul_u (x y : Int) (w : World) (h0 : 0 ≤ x) (h0' : x < 18446744073709551616) (h1 : 0 ≤ y) (h1' : y < 18446744073709551616) :
    Calls Try.prog 22 #[.int .u64 x, .int .u64 y] w fun e w' => e = .returned (.agg #[.int .u64 (uH (x * y)), .int .u64 (uL (x * y))]) ∧ Below w.heap.size w w' := zzMul_words x y w h0 h0' h1 h1'
set_option maxHeartbeats 800000 in
theorem mul_u (x y : Int) (w : World) (h0 : 0 ≤ x) (h0' : x < 18446744073709551616) (h1 : 0 ≤ y) (h1' : y < 18446744073709551616) :
    Calls Try.prog 49 #[.int .u64 x, .int .u64 y] w fun e w' => e = .returned (.agg #[.int .u64 (uH (x * y)), .int .u64 (uL (x * y))]) ∧ Below w.heap.size w w' := by
  have HM : Hid (∀ w, Calls Try.prog 63 #[.int .u64 x, .int .u64 y] w fun e w' => e = .returned (.tuple #[.int .u64 (uH (x * y)), .int .u64 (uL (x * y))]) ∧ w' = w) := fun w => mul64_any x y w h0 h0' h1 h1'
  go_enter Try.func49, Try.ntmps49
  go_wp2_with fail
  refine (HM.out _).mono ?_
  rintro e w1 ⟨rfl, rfl⟩
  clear HM
  go_wp2_with fail
  exact bodyPost_ret (v := .agg #[.int .u64 (uH (x * y)), .int .u64 (uL (x * y))]) (by simp [results, Try.results49, go_sem]) rfl ⟨rfl, by go_grown⟩
/-- 'x minus y, or 0 where y is larger'. -/
def clip (X : Int) : Int := if X < 0 then 0 else X
theorem clip_nonneg (X : Int) : 0 ≤ clip X := by unfold clip; split <;> omega
theorem diff_words (hx lx hy ly : Int) (k0 : 0 ≤ lx) (k1 : lx < 18446744073709551616) (k2 : 0 ≤ ly) (k3 : ly < 18446744073709551616) (k4 : 0 ≤ hx) (k5 : hx < 18446744073709551616) (k6 : 0 ≤ hy) (k7 : hy < 18446744073709551616) (h : ¬ hx * 18446744073709551616 + lx < hy * 18446744073709551616 + ly) :
    (hx - hy - (if lx < ly then 1 else 0)) % 18446744073709551616 = uH (hx * 18446744073709551616 + lx - (hy * 18446744073709551616 + ly)) ∧ (lx - ly) % 18446744073709551616 = uL (hx * 18446744073709551616 + lx - (hy * 18446744073709551616 + ly)) := by
  unfold uH uL
  split <;> omega
theorem zero_words : uH 0 = 0 ∧ uL 0 = 0 := by unfold uH uL; omega
set_option maxHeartbeats 800000 in
theorem sub_u (X Y : Int) (w : World) (hX : W128 X) (hY : W128 Y) :
    Calls Try.prog 54 #[.agg #[.int .u64 (uH X), .int .u64 (uL X)], .agg #[.int .u64 (uH Y), .int .u64 (uL Y)]] w fun e w' => e = .returned (.agg #[.int .u64 (uH (clip (X - Y))), .int .u64 (uL (clip (X - Y)))]) ∧ Below w.heap.size w w' := by
  have a1 := uH_lo hX; have a2 := uH_hi hX; have a3 := uL_lo X; have a4 := uL_hi X
  have b1 := uH_lo hY; have b2 := uH_hi hY; have b3 := uL_lo Y; have b4 := uL_hi Y
  by_cases c : X < Y
  · have e : clip (X - Y) = 0 := by unfold clip; rw [if_pos (by omega)]
    rw [e, zero_words.1, zero_words.2]
    have t1 : decide (X < Y) = true := by simpa using c
    clear e c
    go_enter Try.func54, Try.ntmps54
    go_wp2_with fail
    refine (less_u X Y _).mono ?_
    rintro e w1 ⟨rfl, x1⟩
    rw [t1]
    obtain ⟨hc, hf⟩ := bcell x1
    have HB : Hid (Below w.heap.size w w1) := below3 x1
    clear x1 t1
    go_wp2_with fail
    have hb' := HB.out
    exact bodyPost_ret (v := .agg #[.int .u64 0, .int .u64 0]) (by simp [results, Try.results54, go_sem, hc]) rfl ⟨rfl, by go_grown⟩
  · have e : clip (X - Y) = X - Y := by unfold clip; rw [if_neg (by omega)]
    obtain ⟨q1, q2⟩ := diff_words (uH X) (uL X) (uH Y) (uL Y) a3 a4 b3 b4 a1 a2 b1 b2 (by rw [← u_eq, ← u_eq]; exact c)
    rw [← u_eq, ← u_eq] at q1 q2
    rw [e, ← q1, ← q2]
    have t1 : decide (X < Y) = false := by simpa using c
    clear e c q1 q2
    generalize hbo : (if uL X < uL Y then (1 : Int) else 0) = bo
    have o0 : 0 ≤ bo := by rw [← hbo]; split <;> omega
    have o1 : bo ≤ 1 := by rw [← hbo]; split <;> omega
    have S0 : Hid (∀ w, (callFunc 66 #[.int .u64 (uL X), .int .u64 (uL Y), .int .u64 0]).run Try.prog w = .ok (.value (.tuple #[.int .u64 ((uL X - uL Y) % 18446744073709551616), .int .u64 bo])) w) := fun w => by rw [sub64_0 _ _ a3 b3 b4, hbo]
    clear hbo
    go_enter Try.func54, Try.ntmps54
    go_wp2_with fail
    refine (less_u X Y _).mono ?_
    rintro e w1 ⟨rfl, x1⟩
    rw [t1]
    obtain ⟨hc, hf⟩ := bcell x1
    have HB : Hid (Below w.heap.size w w1) := below3 x1
    clear x1 t1
    go_wp2_with (first | simp only [S0.out] | simp only [sub64b (uH X) (uH Y) bo a1 b1 b2 o0 o1])
    have hb' := HB.out
    exact bodyPost_ret (v := .agg #[.int .u64 ((uH X - uH Y - bo) % 18446744073709551616), .int .u64 ((uL X - uL Y) % 18446744073709551616)]) (by simp [results, Try.results54, go_sem, hc]) rfl ⟨rfl, by go_grown⟩
end Go.Proofs.Qxb6613076a
