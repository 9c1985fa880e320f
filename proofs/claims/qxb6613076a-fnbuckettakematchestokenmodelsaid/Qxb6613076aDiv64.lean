/-
  bits.Div64 (67) divides: the walk, by the digits of DivA.
-/
import Derived.Test.Qxb6613076aU128
import Derived.Test.Qxb6613076aLz64
import Derived.Test.Qxb6613076aDivA
import Derived.Lib.ItoaNum
import Derived.Deep.CutBlock
import Derived.Deep.DeepCutAuto
import Derived.Deep.LoopGhost
namespace Go.Proofs.Qxb6613076a
open Go.RowKit
set_option linter.unusedVariables false
theorem two_pow_split (L : Nat) (h1 : 1 ≤ L) (h2 : L ≤ 64) : (2 : Nat) ^ (L - 1) * 2 ^ (64 - L) = 9223372036854775808 ∧ (2 : Nat) ^ L * 2 ^ (64 - L) = 18446744073709551616 := by
  rw [← Nat.pow_add, ← Nat.pow_add]
  have e1 : L - 1 + (64 - L) = 63 := by omega
  have e2 : L + (64 - L) = 64 := by omega
  rw [e1, e2]
  exact ⟨rfl, rfl⟩
/-- Normalised: the highest bit of y shifted by its leading zeros is set. -/
theorem norm (y : Nat) (h0 : 0 < y) (h1 : y < 18446744073709551616) :
    64 - Lib.bitLen y ≤ 63 ∧ 9223372036854775808 ≤ y * 2 ^ (64 - Lib.bitLen y) ∧ y * 2 ^ (64 - Lib.bitLen y) < 18446744073709551616 := by
  obtain ⟨b1, b2, b3⟩ := Lib.bitLenAux_bounds 64 y h1 (by omega)
  have b4 : Lib.bitLen y ≤ 64 := Lib.bitLen_le y 64 (by omega) h1
  have b1' : 1 ≤ Lib.bitLen y := b1
  have b2' : 2 ^ (Lib.bitLen y - 1) ≤ y := b2
  have b3' : y < 2 ^ Lib.bitLen y := b3
  obtain ⟨s1, s2⟩ := two_pow_split (Lib.bitLen y) b1' b4
  have hp : 0 < 2 ^ (64 - Lib.bitLen y) := Nat.pow_pos (by omega)
  refine ⟨by omega, ?_, ?_⟩
  · rw [← s1]; exact Nat.mul_le_mul_right _ b2'
  · rw [← s2]; exact Nat.mul_lt_mul_of_pos_right b3' hp
/-- All that the walk of Div64 is told of its numbers. -/
structure Nums (hi lo y : Int) (s : Nat) (Y y1 y0 U V u1 u0 : Int) : Prop where
  rY : IntKind.u64.wrap (y * 2 ^ s) = Y
  rU : bits .or .u64 (IntKind.u64.wrap (hi * 2 ^ s)) (lo / 2 ^ (64 - s)) = U
  rV : IntKind.u64.wrap (lo * 2 ^ s) = V
  rYa : bits .and .u64 Y 4294967295 = y0
  rYd : Y / 4294967296 = y1
  rVa : bits .and .u64 V 4294967295 = u0
  rVd : V / 4294967296 = u1
  eY : Y = y1 * 4294967296 + y0
  eV : V = u1 * 4294967296 + u0
  y1l : 2147483648 ≤ y1
  y1h : y1 < 4294967296
  y0l : 0 ≤ y0
  y0h : y0 < 4294967296
  u1l : 0 ≤ u1
  u1h : u1 < 4294967296
  u0l : 0 ≤ u0
  u0h : u0 < 4294967296
  Ul : 0 ≤ U
  Uh : U < Y
  eYs : Y = y * 2 ^ s
  eN : U * 18446744073709551616 + V = (hi * 18446744073709551616 + lo) * 2 ^ s
/-- Two digits make the quotient, and what is left makes the rest. -/
theorem joinDigits (N y s2 Y U u1 u0 A R B T : Int) (hs : 0 < s2) (hy : 0 < y) (eY : Y = y * s2) (eN : U * 18446744073709551616 + (u1 * 4294967296 + u0) = N * s2)
    (hR : U * 4294967296 + u1 - A * Y = R) (hT : R * 4294967296 + u0 - B * Y = T) (T0 : 0 ≤ T) (T1 : T < Y) : A * 4294967296 + B = N / y ∧ T / s2 = N % y := by
  have e1 : N * s2 = (A * 4294967296 + B) * y * s2 + T := by
    rw [Int.mul_assoc, ← eY, Int.add_mul]
    have : A * 4294967296 * Y = A * Y * 4294967296 := Int.mul_right_comm _ _ _
    rw [this]
    generalize A * Y = a at *
    generalize B * Y = b at *
    omega
  have e2 : T = (N - (A * 4294967296 + B) * y) * s2 := by rw [Int.sub_mul]; omega
  have e3 : T / s2 = N - (A * 4294967296 + B) * y := by rw [e2]; exact Int.mul_ediv_cancel _ (by omega)
  have b0 : 0 ≤ N - (A * 4294967296 + B) * y := by rw [← e3]; exact Int.ediv_nonneg T0 (by omega)
  have b1 : N - (A * 4294967296 + B) * y < y := by rw [← e3]; exact Int.ediv_lt_of_lt_mul hs (by omega)
  generalize A * 4294967296 + B = Q at *
  have q1 : Q = N / y := by
    have l1 : Q ≤ N / y := Int.le_ediv_of_mul_le hy (by omega)
    have l2 : N / y < Q + 1 := Int.ediv_lt_of_lt_mul hy (by rw [Int.add_mul]; omega)
    omega
  refine ⟨q1, ?_⟩
  rw [e3, Int.emod_def, ← q1, Int.mul_comm y]
/-- The numbers of a normalised division. -/
theorem nums (hi lo y s : Nat) (hlo : lo < 18446744073709551616) (hy : hi < y) (hs : s ≤ 63) (hn : 9223372036854775808 ≤ y * 2 ^ s) (hn' : y * 2 ^ s < 18446744073709551616) :
    ∃ Y y1 y0 U V u1 u0 : Int, Nums hi lo y s Y y1 y0 U V u1 u0 := by
  have hp : 0 < 2 ^ s := Nat.pow_pos (by omega)
  have hp2 : 0 < 2 ^ (64 - s) := Nat.pow_pos (by omega)
  have hpp : 2 ^ (64 - s) * 2 ^ s = 18446744073709551616 := by rw [← Nat.pow_add, Nat.sub_add_cancel (by omega)]
  have hh : hi * 2 ^ s < y * 2 ^ s := Nat.mul_lt_mul_of_pos_right hy hp
  have hl : lo / 2 ^ (64 - s) < 2 ^ s := Nat.div_lt_of_lt_mul (by rw [hpp]; exact hlo)
  have hd : lo * 2 ^ s / 18446744073709551616 = lo / 2 ^ (64 - s) := by rw [← hpp, Nat.mul_div_mul_right _ _ hp]
  have hU : hi * 2 ^ s + lo / 2 ^ (64 - s) < y * 2 ^ s := by
    have : (hi + 1) * 2 ^ s ≤ y * 2 ^ s := Nat.mul_le_mul_right _ hy
    rw [Nat.add_mul] at this
    omega
  refine ⟨((y * 2 ^ s : Nat) : Int), ((y * 2 ^ s / 4294967296 : Nat) : Int), ((y * 2 ^ s % 4294967296 : Nat) : Int), ((hi * 2 ^ s + lo / 2 ^ (64 - s) : Nat) : Int), ((lo * 2 ^ s % 18446744073709551616 : Nat) : Int), ((lo * 2 ^ s % 18446744073709551616 / 4294967296 : Nat) : Int), ((lo * 2 ^ s % 18446744073709551616 % 4294967296 : Nat) : Int), ?_⟩
  have cp : ((2 : Int) ^ s) = ((2 ^ s : Nat) : Int) := by push_cast; rfl
  have cp2 : ((2 : Int) ^ (64 - s)) = ((2 ^ (64 - s) : Nat) : Int) := by push_cast; rfl
  constructor
  · rw [cp, IntKind.wrap_u64]; omega
  · rw [cp, cp2, IntKind.wrap_u64]
    have e1 : (hi : Int) * ((2 ^ s : Nat) : Int) % 18446744073709551616 = ((hi * 2 ^ s : Nat) : Int) := by
      rw [← Int.natCast_mul]; omega
    have e2 : (lo : Int) / ((2 ^ (64 - s) : Nat) : Int) = ((lo / 2 ^ (64 - s) : Nat) : Int) := (Int.natCast_ediv _ _).symm
    rw [e1, e2, u64_or _ _ (by omega) (by omega) (by omega) (by omega)]
    rw [Int.toNat_natCast, Int.toNat_natCast]
    rw [nat_join s (hi * 2 ^ s) _ (Nat.mul_mod_left _ _) hl]
  · rw [cp, IntKind.wrap_u64]; omega
  · rw [and_mask32 _ (by omega) (by omega)]; omega
  · omega
  · rw [and_mask32 _ (by omega) (by omega)]; omega
  · omega
  · omega
  · omega
  · omega
  · omega
  · omega
  · omega
  · omega
  · omega
  · omega
  · omega
  · omega
  · omega
  · rw [cp]; omega
  · rw [cp]
    have e3 : hi * 2 ^ s * 18446744073709551616 + lo * 2 ^ s = (hi * 18446744073709551616 + lo) * 2 ^ s := by rw [Nat.add_mul, Nat.mul_right_comm]
    have e4 : ((hi : Int) * 18446744073709551616 + lo) * ((2 ^ s : Nat) : Int) = (((hi * 18446744073709551616 + lo) * 2 ^ s : Nat) : Int) := by rw [Int.natCast_mul]; rfl
    rw [e4, ← e3]
    omega
/-- The rest behind a digit, as the machine reckons it. -/
theorem wrap3 (a u b : Int) (h0 : 0 ≤ a + u - b) (h1 : a + u - b < 18446744073709551616) : IntKind.u64.wrap (IntKind.u64.wrap (IntKind.u64.wrap a + u) - IntKind.u64.wrap b) = a + u - b := by
  have e : ∀ x, IntKind.u64.wrap x = x % 18446744073709551616 := fun x => rfl
  rw [e, e, e, e]
  omega
/-- The state of a digit's loop. -/
structure Guess (y1 y0 U u q r : Int) : Prop where
  ql : 0 ≤ q
  qh : q ≤ 4294967297
  rl : 0 ≤ r
  rh : r < 4294967296
  e : U = q * y1 + r
  d : Div.dig y1 y0 U u ≤ q
/-- The test said yes. -/
theorem Guess.step {y1 y0 U u q r : Int} (G : Guess y1 y0 U u q r) (hy : 0 < y1 * 4294967296 + y0) (hU0 : 0 ≤ U) (hu : 0 ≤ u) (hU : U < y1 * 4294967296 + y0) (hu' : u < 4294967296) (hy1 : 0 ≤ y1)
    (h : 4294967296 ≤ q ∨ r * 4294967296 + u < q * y0) : 1 ≤ q ∧ U = (q - 1) * y1 + (r + y1) ∧ Div.dig y1 y0 U u ≤ q - 1 := by
  have h1 := Div.step_lt y1 y0 U u q r hy hU hu' G.e h
  have h2 := Div.dig_nonneg y1 y0 U u hy hU0 hu
  refine ⟨by omega, ?_, by omega⟩
  have := G.e
  rw [Int.sub_mul]
  generalize q * y1 = A at *
  omega
set_option maxHeartbeats 1600000 in
theorem div_big (hi lo y : Int) (s : Nat) (Y y1 y0 U V u1 u0 : Int) (w : World) (h0 : 0 ≤ lo) (h0' : lo < 18446744073709551616) (h1' : y < 18446744073709551616) (h2 : 0 < hi) (h3 : hi < y) (hs : (s : Int) ≤ 63)
    (LZ : Hid (∀ w, Calls Try.prog 68 #[.int .u64 y] w fun e w' => e = .returned (.int .i64 (s : Int)) ∧ w' = w)) (N : Nums hi lo y s Y y1 y0 U V u1 u0) :
    Calls Try.prog 67 #[.int .u64 hi, .int .u64 lo, .int .u64 y] w fun e w' => e = .returned (.tuple #[.int .u64 ((hi * 18446744073709551616 + lo) / y), .int .u64 ((hi * 18446744073709551616 + lo) % y)]) ∧ Below w.heap.size w w' := by
  have t1 : (y == 0) = false := by simp; omega
  have t2 : decide (y ≤ hi) = false := by simp; omega
  have t3 : (hi == 0) = false := by simp; omega
  have HN : Hid (Nums hi lo y s Y y1 y0 U V u1 u0) := N
  obtain ⟨rY, rU, rV, rYa, rYd, rVa, rVd, eY, eV, y1l, y1h, y0l, y0h, u1l, u1h, u0l, u0h, Ul, Uh, -, -⟩ := N
  have HY : Hid (Y = y1 * 4294967296 + y0) := eY
  have HV : Hid (V = u1 * 4294967296 + u0) := eV
  have Yh : Y < 18446744073709551616 := by omega
  have Vl : 0 ≤ V := by omega
  have Vh : V < 18446744073709551616 := by omega
  clear eY eV
  have y1n : ¬ y1 = 0 := by omega
  have y1z : (y1 == 0) = false := by simp; omega
  obtain ⟨r1, r2⟩ := Div.start_r y1 U (by omega)
  have q1l : 0 ≤ U / y1 := Int.ediv_nonneg Ul (by omega)
  have q1h := Div.start_le y1 y0 U y1l y0h (by have := HY.out; omega)
  have p1 : 0 ≤ U / y1 * y1 := Int.mul_nonneg q1l (by omega)
  have p2 : U / y1 * y1 ≤ U := by omega
  go_enter Try.func67, Try.ntmps67
  go_wp2_with fail
  refine (LZ.out _).mono ?_
  rintro e w1 ⟨rfl, rfl⟩
  clear t1 t2 t3 LZ
  go_upto_block 0 with fail
  have HG : Hid (Guess y1 y0 U u1 (U / y1) (U - U / y1 * y1)) := ⟨q1l, q1h, r1, by omega, Div.start_eq y1 U, Div.start_ge y1 y0 U u1 (by omega) y0l Ul u1l u1h⟩
  have HS : Hid (0 < y1 * 4294967296 + y0) := (by omega : 0 < y1 * 4294967296 + y0)
  go_cut [15, 16] (fun a b wx => w1 = wx ∧ a = .int .u64 (Div.dig y1 y0 U u1))
  case first =>
    go_wp2_with fail
    clear r1 r2 q1l q1h p1 p2 rY rU rV rYa rYd rVa rVd
    go_loopg [15, 16] (U / y1).toNat (fun g a b wx => w1 = wx ∧ ∃ q r : Int, g = q.toNat ∧ a = .int .u64 q ∧ b = .int .u64 r ∧ Hid (Guess y1 y0 U u1 q r))
    case atStart => exact ⟨rfl, _, _, rfl, rfl, rfl, HG⟩
    case round =>
      clear HG
      obtain ⟨rfl, q, r, rfl, rfl, rfl, HG⟩ := hrel
      have ql := HG.out.ql
      have qh := HG.out.qh
      have rl := HG.out.rl
      have rh := HG.out.rh
      by_cases hb : 4294967296 ≤ q
      · have HT : Hid (1 ≤ q ∧ U = (q - 1) * y1 + (r + y1) ∧ Div.dig y1 y0 U u1 ≤ q - 1) := HG.out.step HS.out Ul u1l (by have := HY.out; omega) u1h (by omega) (.inl hb)
        have hsl := HT.out.1
        by_cases hx : 4294967296 ≤ r + y1
        · go_wp2
          go_meet
          have ex : q - 1 = Div.dig y1 y0 U u1 := Div.break_eq y1 y0 U u1 (q - 1) (r + y1) HS.out y0l y0h u1l HT.out.2.1 HT.out.2.2 (by omega) hx
          exact ⟨rfl, by rw [ex]⟩
        · go_wp2
          go_roundg (q - 1).toNat
          case measure => omega
          case rel => exact ⟨rfl, q - 1, r + y1, rfl, rfl, rfl, ⟨by omega, by omega, by omega, by omega, HT.out.2.1, HT.out.2.2⟩⟩
      · have pq0 : 0 ≤ q * y0 := Int.mul_nonneg ql y0l
        have pq1 : q * y0 ≤ 4294967296 * y0 := Int.mul_le_mul_of_nonneg_right (by omega) y0l
        by_cases ht : 4294967296 * r + u1 < q * y0
        · have HT : Hid (1 ≤ q ∧ U = (q - 1) * y1 + (r + y1) ∧ Div.dig y1 y0 U u1 ≤ q - 1) := HG.out.step HS.out Ul u1l (by have := HY.out; omega) u1h (by omega) (.inr (by omega))
          have hsl := HT.out.1
          by_cases hx : 4294967296 ≤ r + y1
          · go_wp2
            go_meet
            have ex : q - 1 = Div.dig y1 y0 U u1 := Div.break_eq y1 y0 U u1 (q - 1) (r + y1) HS.out y0l y0h u1l HT.out.2.1 HT.out.2.2 (by omega) hx
            exact ⟨rfl, by rw [ex]⟩
          · go_wp2
            go_roundg (q - 1).toNat
            case measure => omega
            case rel => exact ⟨rfl, q - 1, r + y1, rfl, rfl, rfl, ⟨by omega, by omega, by omega, by omega, HT.out.2.1, HT.out.2.2⟩⟩
        · go_wp2
          go_meet
          have ex : q = Div.dig y1 y0 U u1 := Div.done_eq y1 y0 U u1 q r HS.out HG.out.e HG.out.d (by omega)
          exact ⟨rfl, by rw [ex]⟩
  case rest =>
    obtain ⟨rfl, rfl⟩ := hcut
    clear r1 r2 q1l q1h p1 p2 rY rU rV rYa rYd rVa rVd HG
    have Q0 := Div.dig_nonneg y1 y0 U u1 HS.out Ul u1l
    have Q1 := Div.dig_small y1 y0 U u1 HS.out (by have := HY.out; omega) u1h
    obtain ⟨R0, R1⟩ := Div.rest y1 y0 U u1 HS.out
    rw [← HY.out] at R0 R1
    have HQ : Hid (Div.dig y1 y0 U u1 = Div.dig y1 y0 U u1) := rfl
    generalize hA : Div.dig y1 y0 U u1 = A at Q0 Q1 R0 R1 HQ ⊢
    have HA : Hid (Div.dig y1 y0 U u1 = A) := hA
    clear hA HQ
    have rR := wrap3 (U * 4294967296) u1 (A * Y) R0 (by omega)
    have HR : Hid (U * 4294967296 + u1 - A * Y = U * 4294967296 + u1 - A * Y) := rfl
    generalize hR : U * 4294967296 + u1 - A * Y = R at R0 R1 rR
    clear HR
    have HR : Hid (U * 4294967296 + u1 - A * Y = R) := hR
    clear hR
    obtain ⟨r1, r2⟩ := Div.start_r y1 R (by omega)
    have q1l : 0 ≤ R / y1 := Int.ediv_nonneg R0 (by omega)
    have q1h := Div.start_le y1 y0 R y1l y0h (by have := HY.out; omega)
    have p1 : 0 ≤ R / y1 * y1 := Int.mul_nonneg q1l (by omega)
    have p2 : R / y1 * y1 ≤ R := by omega
    go_upto_block 2 with fail
    have HG : Hid (Guess y1 y0 R u0 (R / y1) (R - R / y1 * y1)) := ⟨q1l, q1h, r1, by omega, Div.start_eq y1 R, Div.start_ge y1 y0 R u0 (by omega) y0l R0 u0l u0h⟩
    go_cut [18, 16] (fun a b wx => w1 = wx ∧ a = .int .u64 (Div.dig y1 y0 R u0))
    case first =>
      go_wp2_with fail
      clear r1 r2 q1l q1h p1 p2
      go_loopg [18, 16] (R / y1).toNat (fun g a b wx => w1 = wx ∧ ∃ q r : Int, g = q.toNat ∧ a = .int .u64 q ∧ b = .int .u64 r ∧ Hid (Guess y1 y0 R u0 q r))
      case atStart => exact ⟨rfl, _, _, rfl, rfl, rfl, HG⟩
      case round =>
        clear HG
        obtain ⟨rfl, q, r, rfl, rfl, rfl, HG⟩ := hrel
        have ql := HG.out.ql
        have qh := HG.out.qh
        have rl := HG.out.rl
        have rh := HG.out.rh
        by_cases hb : 4294967296 ≤ q
        · have HT : Hid (1 ≤ q ∧ R = (q - 1) * y1 + (r + y1) ∧ Div.dig y1 y0 R u0 ≤ q - 1) := HG.out.step HS.out R0 u0l (by have := HY.out; omega) u0h (by omega) (.inl hb)
          have hsl := HT.out.1
          by_cases hx : 4294967296 ≤ r + y1
          · go_wp2
            go_meet
            have ex : q - 1 = Div.dig y1 y0 R u0 := Div.break_eq y1 y0 R u0 (q - 1) (r + y1) HS.out y0l y0h u0l HT.out.2.1 HT.out.2.2 (by omega) hx
            exact ⟨rfl, by rw [ex]⟩
          · go_wp2
            go_roundg (q - 1).toNat
            case measure => omega
            case rel => exact ⟨rfl, q - 1, r + y1, rfl, rfl, rfl, ⟨by omega, by omega, by omega, by omega, HT.out.2.1, HT.out.2.2⟩⟩
        · have pq0 : 0 ≤ q * y0 := Int.mul_nonneg ql y0l
          have pq1 : q * y0 ≤ 4294967296 * y0 := Int.mul_le_mul_of_nonneg_right (by omega) y0l
          by_cases ht : 4294967296 * r + u0 < q * y0
          · have HT : Hid (1 ≤ q ∧ R = (q - 1) * y1 + (r + y1) ∧ Div.dig y1 y0 R u0 ≤ q - 1) := HG.out.step HS.out R0 u0l (by have := HY.out; omega) u0h (by omega) (.inr (by omega))
            have hsl := HT.out.1
            by_cases hx : 4294967296 ≤ r + y1
            · go_wp2
              go_meet
              have ex : q - 1 = Div.dig y1 y0 R u0 := Div.break_eq y1 y0 R u0 (q - 1) (r + y1) HS.out y0l y0h u0l HT.out.2.1 HT.out.2.2 (by omega) hx
              exact ⟨rfl, by rw [ex]⟩
            · go_wp2
              go_roundg (q - 1).toNat
              case measure => omega
              case rel => exact ⟨rfl, q - 1, r + y1, rfl, rfl, rfl, ⟨by omega, by omega, by omega, by omega, HT.out.2.1, HT.out.2.2⟩⟩
          · go_wp2
            go_meet
            have ex : q = Div.dig y1 y0 R u0 := Div.done_eq y1 y0 R u0 q r HS.out HG.out.e HG.out.d (by omega)
            exact ⟨rfl, by rw [ex]⟩
    case rest =>
      obtain ⟨rfl, rfl⟩ := hcut
      clear r1 r2 q1l q1h p1 p2 HG
      have B0 := Div.dig_nonneg y1 y0 R u0 HS.out R0 u0l
      have B1 := Div.dig_small y1 y0 R u0 HS.out (by have := HY.out; omega) u0h
      obtain ⟨T0, T1⟩ := Div.rest y1 y0 R u0 HS.out
      rw [← HY.out] at T0 T1
      generalize Div.dig y1 y0 R u0 = B at B0 B1 T0 T1 ⊢
      have rT := wrap3 (R * 4294967296) u0 (B * Y) T0 (by omega)
      generalize hT : R * 4294967296 + u0 - B * Y = T at T0 T1 rT
      have HT : Hid (R * 4294967296 + u0 - B * Y = T) := hT
      clear hT
      have J : Hid (A * 4294967296 + B = (hi * 18446744073709551616 + lo) / y ∧ T / 2 ^ s = (hi * 18446744073709551616 + lo) % y) :=
        joinDigits _ y (2 ^ s) Y U u1 u0 A R B T (Int.pow_pos (by omega)) (by omega) HN.out.eYs (by rw [← HV.out]; exact HN.out.eN) HR.out HT.out T0 T1
      have P0 : 0 ≤ T / 2 ^ s := Int.ediv_nonneg T0 (Int.le_of_lt (Int.pow_pos (by omega)))
      go_wp2_with fail
      rw [← J.out.1, ← J.out.2]
      go_ret2
      exact ⟨rfl, Below.refl _ _⟩
set_option maxHeartbeats 800000 in
theorem div_small (lo y : Int) (w : World) (h0 : 0 ≤ lo) (h0' : lo < 18446744073709551616) (h1 : 0 < y) (h1' : y < 18446744073709551616) :
    Calls Try.prog 67 #[.int .u64 0, .int .u64 lo, .int .u64 y] w fun e w' => e = .returned (.tuple #[.int .u64 (lo / y), .int .u64 (lo % y)]) ∧ Below w.heap.size w w' := by
  have t1 : (y == 0) = false := by simp; omega
  have t1' : ¬ y = 0 := by omega
  have t2 : decide (y ≤ 0) = false := by simp; omega
  have d0 : 0 ≤ lo / y := Int.ediv_nonneg h0 (by omega)
  have d1 : lo / y ≤ lo := Int.ediv_le_self _ h0
  have d2 : 0 ≤ lo % y := Int.emod_nonneg _ (by omega)
  have d3 : lo % y < y := Int.emod_lt_of_pos _ h1
  go_enter Try.func67, Try.ntmps67
  go_wp2_with fail
  go_region
  all_goals (go_wp2_with fail; go_ret2; exact ⟨rfl, by go_grown⟩)
/-- bits.Div64 divides. -/
theorem div64_any (hi lo y : Int) (w : World) (h0 : 0 ≤ lo) (h0' : lo < 18446744073709551616) (h1 : 0 ≤ hi) (h2 : hi < y) (h2' : y < 18446744073709551616) :
    Calls Try.prog 67 #[.int .u64 hi, .int .u64 lo, .int .u64 y] w fun e w' => e = .returned (.tuple #[.int .u64 ((hi * 18446744073709551616 + lo) / y), .int .u64 ((hi * 18446744073709551616 + lo) % y)]) ∧ Below w.heap.size w w' := by
  by_cases hz : hi = 0
  · subst hz
    have e : (0 : Int) * 18446744073709551616 + lo = lo := by omega
    rw [e]
    exact div_small lo y w h0 h0' h2 h2'
  · obtain ⟨hi, rfl⟩ := Int.eq_ofNat_of_zero_le h1
    obtain ⟨lo, rfl⟩ := Int.eq_ofNat_of_zero_le h0
    obtain ⟨y, rfl⟩ := Int.eq_ofNat_of_zero_le (show 0 ≤ y by omega)
    obtain ⟨n1, n2, n3⟩ := norm y (by omega) (by omega)
    obtain ⟨Y, y1, y0, U, V, u1, u0, N⟩ := nums hi lo y (64 - Lib.bitLen y) (by omega) (by omega) n1 n2 n3
    have b4 : Lib.bitLen y ≤ 64 := Lib.bitLen_le y 64 (by omega) (by omega)
    refine div_big hi lo y (64 - Lib.bitLen y) Y y1 y0 U V u1 u0 w h0 h0' h2' (by omega) h2 (by omega) (fun w => ?_) N
    refine (Try.bits_LeadingZeros64 (y : Int) w (by omega) (by omega)).mono ?_
    rintro e w' ⟨rfl, rfl⟩
    refine ⟨?_, rfl⟩
    rw [Int.toNat_natCast, Int.natCast_sub b4]
    rfl
end Go.Proofs.Qxb6613076a
