/-
  zzLeastQuotient: a binary search for the quotient rounded up.
-/
import Derived.Test.Qxb6613076aBucket
namespace Go.Proofs.Qxb6613076a
open Go.RowKit
set_option linter.unusedVariables false
set_option maxRecDepth 100000 in
set_option maxHeartbeats 3200000 in
theorem leastQ_words (xh xl d top q r : Int) (bo : Bool) (w : World) (PC : Hid (∀ m : Int, 0 ≤ m → m < 18446744073709551616 → ∃ ph pl : Int, Gives 22 #[.int .u64 m, .int .u64 d] (.agg #[.int .u64 ph, .int .u64 pl]) ∧ Gives 25 #[.agg #[.int .u64 ph, .int .u64 pl], .agg #[.int .u64 xh, .int .u64 xl]] (.bool (decide (m < q)))))
    (hr1 : Hid (top < q → r = top ∧ bo = false)) (hr2 : Hid (q ≤ top → r = q ∧ bo = true)) (hq : 0 ≤ q) (h0 : 0 ≤ top) (h1 : top < 18446744073709551616) :
    Calls Try.prog 26 #[.agg #[.int .u64 xh, .int .u64 xl], .int .u64 d, .int .u64 top] w fun e w' => e = .returned (.tuple #[.int .u64 r, .bool bo]) ∧ Below w.heap.size w w' := by
  obtain ⟨ph, pl, C1, C2⟩ := PC.out top h0 h1
  go_enter Try.func26, Try.ntmps26
  go_upto_region 1 with fail
  refine gen_wp _ (fun W => Hid (U2 W w.heap.size xh xl ∧ Below w.heap.size w W)) ?_ ?_
  · exact ⟨U2.new w xh xl 45, by go_grown⟩
  rintro W HW
  have HU : Hid (U2 W w.heap.size xh xl) := HW.out.1
  have HB : Hid (Below w.heap.size w W) := HW.out.2
  clear HW
  go_cut [15] (fun x wx => x = .bool (decide (top < q)) ∧ Hid (U2 wx w.heap.size xh xl ∧ Below w.heap.size w wx))
  case first =>
    go_region_held3 (fun V => V.cell? ⟨w.heap.size, 0, none⟩ = some (.int .u64 xh) ∧ V.cell? ⟨w.heap.size, 1, none⟩ = some (.int .u64 xl))
      (first
      | (exact ⟨HU.out.m0, HU.out.m1⟩)
      | (exact ⟨U1.out.m0, U1.out.m1⟩)
      | (exact ⟨U2'.out.m0, U2'.out.m1⟩))
      (first
      | (go_at_call 22; refine (C1 _).mono ?_; rintro e w1 ⟨rfl, x1⟩; have U1 : Hid (U2 w1 w.heap.size xh xl) := HU.out.later (bdrew x1))
      | (go_at_call 25; refine (C2 _).mono ?_; rintro e w2 ⟨rfl, x2⟩; have U2' : Hid (U2 w2 w.heap.size xh xl) := U1.out.later x2))
    all_goals (go_wp2_with fail; go_meet; exact ⟨rfl, U2'.out, (HB.out.trans ((bdrew x1).mono HB.out.size)).trans (x2.mono (Nat.le_trans HB.out.size x1.size))⟩)
  case rest =>
    obtain ⟨rfl, HC⟩ := hcut
    clear HU HB C1 C2
    have HU : Hid (U2 wc w.heap.size xh xl) := HC.out.1
    have HB : Hid (Below w.heap.size w wc) := HC.out.2
    clear HC
    by_cases c : top < q
    · have d1 : decide (top < q) = true := by simpa using c
      obtain ⟨rfl, rfl⟩ := hr1.out c
      rw [d1]
      go_wp2_with fail
      go_ret2
      exact ⟨rfl, HB.out⟩
    · have d1 : decide (top < q) = false := by simpa using c
      obtain ⟨rfl, rfl⟩ := hr2.out (by omega)
      rw [d1]
      go_wp2_with fail
      go_loopg [8, 9] (top).toNat (fun g s8 s9 wx => ∃ lo hi : Int, s8 = .int .u64 lo ∧ s9 = .int .u64 hi ∧ g = (hi - lo).toNat ∧ 0 ≤ lo ∧ lo ≤ r ∧ r ≤ hi ∧ hi ≤ top ∧ Hid (U2 wx w.heap.size xh xl) ∧ Hid (Below w.heap.size w wx))
      case atStart => exact ⟨0, top, rfl, rfl, by simp, by omega, by omega, by omega, by omega, HU, HB⟩
      case round =>
        clear HU HB
        obtain ⟨lo, hi, rfl, rfl, rfl, g0, g1, g2, g3, HU, HB⟩ := hrel
        by_cases c2 : lo < hi
        · have v1 : IntKind.u64.wrap (hi - lo) = hi - lo := by rw [IntKind.wrap_u64]; omega
          have v2 : IntKind.u64.wrap (lo + (hi - lo) / 2) = lo + (hi - lo) / 2 := by rw [IntKind.wrap_u64]; omega
          have m1 : lo ≤ lo + (hi - lo) / 2 := by omega
          have m2 : lo + (hi - lo) / 2 < hi := by omega
          have v3 : IntKind.u64.wrap (lo + (hi - lo) / 2 + 1) = lo + (hi - lo) / 2 + 1 := by rw [IntKind.wrap_u64]; omega
          obtain ⟨ph, pl, C1, C2⟩ := PC.out (lo + (hi - lo) / 2) (by omega) (by omega)
          go_upto_region 6 with fail
          go_cut [31] (fun x wx => x = .bool (decide (lo + (hi - lo) / 2 < r)) ∧ Hid (U2 wx w.heap.size xh xl ∧ Below w.heap.size w wx))
          case first =>
            go_region_held3 (fun V => V.cell? ⟨w.heap.size, 0, none⟩ = some (.int .u64 xh) ∧ V.cell? ⟨w.heap.size, 1, none⟩ = some (.int .u64 xl))
              (first
              | (exact ⟨HU.out.m0, HU.out.m1⟩)
              | (exact ⟨U1.out.m0, U1.out.m1⟩)
              | (exact ⟨U2'.out.m0, U2'.out.m1⟩))
              (first
              | (go_at_call 22; refine (C1 _).mono ?_; rintro e w1 ⟨rfl, x1⟩; have U1 : Hid (U2 w1 w.heap.size xh xl) := HU.out.later (bdrew x1))
              | (go_at_call 25; refine (C2 _).mono ?_; rintro e w2 ⟨rfl, x2⟩; have U2' : Hid (U2 w2 w.heap.size xh xl) := U1.out.later x2))
            all_goals (go_wp2_with fail; go_meet; exact ⟨rfl, U2'.out, (HB.out.trans ((bdrew x1).mono HB.out.size)).trans (x2.mono (Nat.le_trans HB.out.size x1.size))⟩)
          case rest =>
            obtain ⟨rfl, HC⟩ := hcut
            clear HU HB C1 C2
            have HU : Hid (U2 wc w.heap.size xh xl) := HC.out.1
            have HB : Hid (Below w.heap.size w wc) := HC.out.2
            clear HC
            by_cases c3 : lo + (hi - lo) / 2 < r
            · have d3 : decide (lo + (hi - lo) / 2 < r) = true := by simpa using c3
              rw [d3]
              go_wp2_with fail
              go_roundg (hi - (lo + (hi - lo) / 2 + 1)).toNat
              case measure => omega
              case rel => exact ⟨_, _, rfl, rfl, rfl, by omega, by omega, by omega, by omega, HU, HB⟩
            · have d3 : decide (lo + (hi - lo) / 2 < r) = false := by simpa using c3
              rw [d3]
              go_wp2_with fail
              go_roundg (lo + (hi - lo) / 2 - lo).toNat
              case measure => omega
              case rel => exact ⟨_, _, rfl, rfl, rfl, by omega, by omega, by omega, by omega, HU, HB⟩
        · have e2 : lo = r := by omega
          go_wp2_with fail
          go_ret2
          exact ⟨by rw [← e2]; rfl, HB.out⟩
theorem leastQ_u (X d top : Int) (w : World) (hX : W128 X) (hd : 0 < d) (hd' : d < 18446744073709551616) (h0 : 0 ≤ top) (h1 : top < 18446744073709551616) (r : Int) (bo : Bool) (hr1 : top < cdiv X d → r = top ∧ bo = false) (hr2 : cdiv X d ≤ top → r = cdiv X d ∧ bo = true) :
    Calls Try.prog 26 #[.agg #[.int .u64 (uH X), .int .u64 (uL X)], .int .u64 d, .int .u64 top] w fun e w' => e = .returned (.tuple #[.int .u64 r, .bool bo]) ∧ Below w.heap.size w w' := by
  refine leastQ_words (uH X) (uL X) d top (cdiv X d) r bo w ?_ hr1 hr2 (cdiv_nonneg X d hd hX.1) h0 h1
  intro m m0 m1
  refine ⟨uH (m * d), uL (m * d), fun w => zzMul_u m d w m0 m1 (by omega) hd', fun w => ?_⟩
  have h := zzLess_u (m * d) X w
  have e : decide (m * d < X) = decide (m < cdiv X d) := by
    have := cdiv_le_iff X d m hd
    rw [decide_eq_decide]
    omega
  rw [e] at h
  exact h
end Go.Proofs.Qxb6613076a
