/-
  Walks of package time, on: Add, After, Equal; then each over ONE number, N nanoseconds after the zero Time.
-/
import Derived.Test.Qxb6613076aTime1
namespace Go.Proofs.Qxb6613076a
open Go.RowKit
/-- 'The call hands back a Time that holds N nanoseconds; nothing old has turned.' -/
def GivesTime (N : Int) (w : World) (e : Ending) (w' : World) : Prop :=
  ∃ n s : Int, e = .returned (.agg #[.int .u64 n, .int .i64 s, .pointer none]) ∧ 0 ≤ n ∧ n < 1000000000 ∧ ns s n = N ∧ Below w.heap.size w w'

set_option maxHeartbeats 400000 in
theorem add_pos_carry (n s d : Int) (w : World) (hn : 0 ≤ n) (hn' : n < 1000000000) (hs : -100000000000000000 ≤ s) (hs' : s ≤ 100000000000000000) (hd : 0 ≤ d) (hd' : d ≤ 9223372036854775807) (c : 1000000000 ≤ n + d % 1000000000) :
    Calls Try.prog 39 #[.agg #[.int .u64 n, .int .i64 s, .pointer none], .int .i64 d] w fun e w' => GivesTime (ns s n + d) w e w' := by
  have e := no_mono n hn hn'
  have f1 := and_lo n hn (by omega)
  have f2 := andNot_lo n hn (by omega)
  have f3 := or_zero (n + d % 1000000000 - 1000000000) (by omega) (by omega)
  have f4 := no_mono (n + d % 1000000000 - 1000000000) (by omega) (by omega)
  have H : Hid (0 ≤ n + d % 1000000000 - 1000000000 ∧ n + d % 1000000000 - 1000000000 < 1000000000 ∧ ns (s + (d / 1000000000 + 1)) (n + d % 1000000000 - 1000000000) = ns s n + d) := by
    unfold Hid ns; omega
  go_enter Try.func39, Try.ntmps39
  go_wp2_with fail
  refine (nsec_any _ _ n _ (by simp [go_sem]) hn hn').mono ?_
  rintro e w' ⟨rfl, rfl⟩
  go_wp2_with fail
  refine (addSec_any _ _ (n + d % 1000000000 - 1000000000) s _ _ (by simp [go_sem]) (by simp [go_sem]) (by simp [go_sem]) (by omega) (by omega) (by omega) (by omega) (by omega) (by omega)).mono ?_
  rintro e w' ⟨rfl, rfl⟩
  go_wp2_with fail
  exact bodyPost_ret (v := .agg #[.int .u64 (n + d % 1000000000 - 1000000000), .int .i64 (s + (d / 1000000000 + 1)), .pointer none]) (by simp [results, Try.results39, go_sem]) rfl ⟨_, _, rfl, H.out.1, H.out.2.1, H.out.2.2, by go_grown⟩

set_option maxHeartbeats 400000 in
theorem add_pos_plain (n s d : Int) (w : World) (hn : 0 ≤ n) (hn' : n < 1000000000) (hs : -100000000000000000 ≤ s) (hs' : s ≤ 100000000000000000) (hd : 0 ≤ d) (hd' : d ≤ 9223372036854775807) (c : n + d % 1000000000 < 1000000000) :
    Calls Try.prog 39 #[.agg #[.int .u64 n, .int .i64 s, .pointer none], .int .i64 d] w fun e w' => GivesTime (ns s n + d) w e w' := by
  have e := no_mono n hn hn'
  have f1 := and_lo n hn (by omega)
  have f2 := andNot_lo n hn (by omega)
  have f3 := or_zero (n + d % 1000000000) (by omega) (by omega)
  have f4 := no_mono (n + d % 1000000000) (by omega) (by omega)
  have H : Hid (0 ≤ n + d % 1000000000 ∧ n + d % 1000000000 < 1000000000 ∧ ns (s + (d / 1000000000)) (n + d % 1000000000) = ns s n + d) := by
    unfold Hid ns; omega
  go_enter Try.func39, Try.ntmps39
  go_wp2_with fail
  refine (nsec_any _ _ n _ (by simp [go_sem]) hn hn').mono ?_
  rintro e w' ⟨rfl, rfl⟩
  go_wp2_with fail
  refine (addSec_any _ _ (n + d % 1000000000) s _ _ (by simp [go_sem]) (by simp [go_sem]) (by simp [go_sem]) (by omega) (by omega) (by omega) (by omega) (by omega) (by omega)).mono ?_
  rintro e w' ⟨rfl, rfl⟩
  go_wp2_with fail
  exact bodyPost_ret (v := .agg #[.int .u64 (n + d % 1000000000), .int .i64 (s + (d / 1000000000)), .pointer none]) (by simp [results, Try.results39, go_sem]) rfl ⟨_, _, rfl, H.out.1, H.out.2.1, H.out.2.2, by go_grown⟩

theorem quot_neg (d : Int) (h : d < 0) : d.tdiv 1000000000 * 1000000000 + d.tmod 1000000000 = d ∧ -1000000000 < d.tmod 1000000000 ∧ d.tmod 1000000000 ≤ 0 := by
  have e1 : d.tdiv 1000000000 = -((-d) / 1000000000) := by
    have := Int.neg_tdiv (a := -d) (b := 1000000000)
    rw [Int.neg_neg] at this
    rw [this, Int.tdiv_eq_ediv_of_nonneg (by omega)]
  have e2 : d.tmod 1000000000 = -((-d) % 1000000000) := by
    have := Int.neg_tmod (a := -d) (b := 1000000000)
    rw [Int.neg_neg] at this
    rw [this, Int.tmod_eq_emod_of_nonneg (by omega)]
  rw [e1, e2]; omega

set_option maxHeartbeats 400000 in
theorem add_neg_carry (n s d : Int) (w : World) (hn : 0 ≤ n) (hn' : n < 1000000000) (hs : -100000000000000000 ≤ s) (hs' : s ≤ 100000000000000000) (hd : d < 0) (hd' : -9223372036854775808 ≤ d) (c : n + d.tmod 1000000000 < 0) :
    Calls Try.prog 39 #[.agg #[.int .u64 n, .int .i64 s, .pointer none], .int .i64 d] w fun e w' => GivesTime (ns s n + d) w e w' := by
  have e := no_mono n hn hn'
  have f1 := and_lo n hn (by omega)
  have f2 := andNot_lo n hn (by omega)
  obtain ⟨q0, q1, q2⟩ := quot_neg d hd
  have g0 : -9223372037 < d.tdiv 1000000000 := by omega
  have g1 : d.tdiv 1000000000 ≤ 0 := by omega
  have f3 := or_zero (n + d.tmod 1000000000 + 1000000000) (by omega) (by omega)
  have f4 := no_mono (n + d.tmod 1000000000 + 1000000000) (by omega) (by omega)
  have H : Hid (0 ≤ n + d.tmod 1000000000 + 1000000000 ∧ n + d.tmod 1000000000 + 1000000000 < 1000000000 ∧ ns (s + (d.tdiv 1000000000 - 1)) (n + d.tmod 1000000000 + 1000000000) = ns s n + d) := by
    unfold Hid ns; omega
  clear q0
  go_enter Try.func39, Try.ntmps39
  go_wp2_with fail
  refine (nsec_any _ _ n _ (by simp [go_sem]) hn hn').mono ?_
  rintro e w' ⟨rfl, rfl⟩
  go_wp2_with fail
  refine (addSec_any _ _ (n + d.tmod 1000000000 + 1000000000) s _ _ (by simp [go_sem]) (by simp [go_sem]) (by simp [go_sem]) (by omega) (by omega) (by omega) (by omega) (by omega) (by omega)).mono ?_
  rintro e w' ⟨rfl, rfl⟩
  go_wp2_with fail
  exact bodyPost_ret (v := .agg #[.int .u64 (n + d.tmod 1000000000 + 1000000000), .int .i64 (s + (d.tdiv 1000000000 - 1)), .pointer none]) (by simp [results, Try.results39, go_sem]) rfl ⟨_, _, rfl, H.out.1, H.out.2.1, H.out.2.2, by go_grown⟩

set_option maxHeartbeats 400000 in
theorem add_neg_plain (n s d : Int) (w : World) (hn : 0 ≤ n) (hn' : n < 1000000000) (hs : -100000000000000000 ≤ s) (hs' : s ≤ 100000000000000000) (hd : d < 0) (hd' : -9223372036854775808 ≤ d) (c : 0 ≤ n + d.tmod 1000000000) :
    Calls Try.prog 39 #[.agg #[.int .u64 n, .int .i64 s, .pointer none], .int .i64 d] w fun e w' => GivesTime (ns s n + d) w e w' := by
  have e := no_mono n hn hn'
  have f1 := and_lo n hn (by omega)
  have f2 := andNot_lo n hn (by omega)
  obtain ⟨q0, q1, q2⟩ := quot_neg d hd
  have g0 : -9223372037 < d.tdiv 1000000000 := by omega
  have g1 : d.tdiv 1000000000 ≤ 0 := by omega
  have f3 := or_zero (n + d.tmod 1000000000) (by omega) (by omega)
  have f4 := no_mono (n + d.tmod 1000000000) (by omega) (by omega)
  have H : Hid (0 ≤ n + d.tmod 1000000000 ∧ n + d.tmod 1000000000 < 1000000000 ∧ ns (s + (d.tdiv 1000000000)) (n + d.tmod 1000000000) = ns s n + d) := by
    unfold Hid ns; omega
  clear q0
  go_enter Try.func39, Try.ntmps39
  go_wp2_with fail
  refine (nsec_any _ _ n _ (by simp [go_sem]) hn hn').mono ?_
  rintro e w' ⟨rfl, rfl⟩
  go_wp2_with fail
  refine (addSec_any _ _ (n + d.tmod 1000000000) s _ _ (by simp [go_sem]) (by simp [go_sem]) (by simp [go_sem]) (by omega) (by omega) (by omega) (by omega) (by omega) (by omega)).mono ?_
  rintro e w' ⟨rfl, rfl⟩
  go_wp2_with fail
  exact bodyPost_ret (v := .agg #[.int .u64 (n + d.tmod 1000000000), .int .i64 (s + (d.tdiv 1000000000)), .pointer none]) (by simp [results, Try.results39, go_sem]) rfl ⟨_, _, rfl, H.out.1, H.out.2.1, H.out.2.2, by go_grown⟩

def aftB (s1 n1 s2 n2 : Int) : Bool := decide (ns s2 n2 < ns s1 n1)
def eqB (s1 n1 s2 n2 : Int) : Bool := decide (ns s1 n1 = ns s2 n2)

set_option maxHeartbeats 400000 in
theorem after_any (n1 s1 n2 s2 : Int) (w : World) (h0 : 0 ≤ n1) (h1 : n1 < 1000000000) (h2 : 0 ≤ n2) (h3 : n2 < 1000000000) :
    Calls Try.prog 43 #[.agg #[.int .u64 n1, .int .i64 s1, .pointer none], .agg #[.int .u64 n2, .int .i64 s2, .pointer none]] w fun e w' => e = .returned (.bool (aftB s1 n1 s2 n2)) ∧ Below w.heap.size w w' := by
  have e := no_mono2 n1 n2 h0 h1 h2 h3
  have e1 := no_mono n1 h0 h1
  have e2 := no_mono n2 h2 h3
  have f1 := and_lo n1 h0 (by omega)
  have f2 := and_lo n2 h2 (by omega)
  by_cases c : s2 < s1
  · have H : Hid (aftB s1 n1 s2 n2 = true) := by unfold Hid aftB ns; simp; omega
    go_enter Try.func43, Try.ntmps43
    go_wp2
    go_ret
    exact ⟨by rw [H.out]; rfl, by go_grown⟩
  · by_cases d : s1 = s2
    · subst d
      have H : Hid (aftB s1 n1 s1 n2 = decide (n2 < n1)) := by unfold Hid aftB ns; simp
      go_enter Try.func43, Try.ntmps43
      go_wp2
      go_ret
      exact ⟨by rw [H.out]; rfl, by go_grown⟩
    · have H : Hid (aftB s1 n1 s2 n2 = false) := by unfold Hid aftB ns; simp; omega
      have d' : (s1 == s2) = false := by simpa using d
      have c' : decide (s2 < s1) = false := by simpa using c
      go_enter Try.func43, Try.ntmps43
      go_wp2
      go_ret
      exact ⟨by rw [H.out]; rfl, by go_grown⟩

set_option maxHeartbeats 400000 in
theorem equal_any (n1 s1 n2 s2 : Int) (w : World) (h0 : 0 ≤ n1) (h1 : n1 < 1000000000) (h2 : 0 ≤ n2) (h3 : n2 < 1000000000) :
    Calls Try.prog 61 #[.agg #[.int .u64 n1, .int .i64 s1, .pointer none], .agg #[.int .u64 n2, .int .i64 s2, .pointer none]] w fun e w' => e = .returned (.bool (eqB s1 n1 s2 n2)) ∧ Below w.heap.size w w' := by
  have e := no_mono2 n1 n2 h0 h1 h2 h3
  have e1 := no_mono n1 h0 h1
  have e2 := no_mono n2 h2 h3
  have f1 := and_lo n1 h0 (by omega)
  have f2 := and_lo n2 h2 (by omega)
  by_cases d : s1 = s2
  · subst d
    have H : Hid (eqB s1 n1 s1 n2 = (n1 == n2)) := by
      unfold Hid eqB ns; rw [Bool.eq_iff_iff]; simp
    go_enter Try.func61, Try.ntmps61
    go_wp2
    go_ret
    exact ⟨by rw [H.out]; rfl, by go_grown⟩
  · have H : Hid (eqB s1 n1 s2 n2 = false) := by unfold Hid eqB ns; simp; omega
    have d' : (s1 == s2) = false := by simpa using d
    go_enter Try.func61, Try.ntmps61
    go_wp2
    go_ret
    exact ⟨by rw [H.out]; rfl, by go_grown⟩

theorem add_any (n s d : Int) (w : World) (hn : 0 ≤ n) (hn' : n < 1000000000) (hs : -100000000000000000 ≤ s) (hs' : s ≤ 100000000000000000) (hd : -9223372036854775808 ≤ d) (hd' : d ≤ 9223372036854775807) :
    Calls Try.prog 39 #[.agg #[.int .u64 n, .int .i64 s, .pointer none], .int .i64 d] w fun e w' => GivesTime (ns s n + d) w e w' := by
  by_cases h : 0 ≤ d
  · by_cases c : 1000000000 ≤ n + d % 1000000000
    · exact add_pos_carry n s d w hn hn' hs hs' h hd' c
    · exact add_pos_plain n s d w hn hn' hs hs' h hd' (by omega)
  · by_cases c : n + d.tmod 1000000000 < 0
    · exact add_neg_carry n s d w hn hn' hs hs' (by omega) hd c
    · exact add_neg_plain n s d w hn hn' hs hs' (by omega) hd (by omega)

/-! ### The same over one number: N nanoseconds after the zero Time. -/
/-- The nanoseconds that the first word holds. -/
def tN (N : Int) : Int := N % 1000000000
/-- The seconds that the second word holds. -/
def tS (N : Int) : Int := N / 1000000000
theorem tN_lo (N : Int) : 0 ≤ tN N := by unfold tN; omega
theorem tN_hi (N : Int) : tN N < 1000000000 := by unfold tN; omega
theorem ns_tm (N : Int) : ns (tS N) (tN N) = N := by unfold ns tS tN; omega
theorem tm_ns (s n : Int) (h0 : 0 ≤ n) (h1 : n < 1000000000) : n = tN (ns s n) ∧ s = tS (ns s n) := by unfold ns tS tN; omega

theorem add_tm (N d : Int) (w : World) (hN : -100000000000000000000 ≤ N) (hN' : N ≤ 100000000000000000000) (hd : -9223372036854775808 ≤ d) (hd' : d ≤ 9223372036854775807) :
    Calls Try.prog 39 #[.agg #[.int .u64 (tN N), .int .i64 (tS N), .pointer none], .int .i64 d] w fun e w' => e = .returned (.agg #[.int .u64 (tN (N + d)), .int .i64 (tS (N + d)), .pointer none]) ∧ Below w.heap.size w w' := by
  refine (add_any (tN N) (tS N) d w (tN_lo N) (tN_hi N) (by unfold tS; omega) (by unfold tS; omega) hd hd').mono ?_
  rintro e w' ⟨n, s, rfl, h0, h1, h2, h3⟩
  rw [ns_tm] at h2
  obtain ⟨a, b⟩ := tm_ns s n h0 h1
  rw [h2] at a b
  rw [a, b]
  exact ⟨rfl, h3⟩
theorem before_tm (N M : Int) (w : World) :
    Calls Try.prog 36 #[.agg #[.int .u64 (tN N), .int .i64 (tS N), .pointer none], .agg #[.int .u64 (tN M), .int .i64 (tS M), .pointer none]] w fun e w' => e = .returned (.bool (decide (N < M))) ∧ Below w.heap.size w w' := by
  have := before_any (tN N) (tS N) (tN M) (tS M) w (tN_lo N) (tN_hi N) (tN_lo M) (tN_hi M)
  unfold befB at this
  rw [ns_tm, ns_tm] at this
  exact this
theorem after_tm (N M : Int) (w : World) :
    Calls Try.prog 43 #[.agg #[.int .u64 (tN N), .int .i64 (tS N), .pointer none], .agg #[.int .u64 (tN M), .int .i64 (tS M), .pointer none]] w fun e w' => e = .returned (.bool (decide (M < N))) ∧ Below w.heap.size w w' := by
  have := after_any (tN N) (tS N) (tN M) (tS M) w (tN_lo N) (tN_hi N) (tN_lo M) (tN_hi M)
  unfold aftB at this
  rw [ns_tm, ns_tm] at this
  exact this
theorem equal_tm (N M : Int) (w : World) :
    Calls Try.prog 61 #[.agg #[.int .u64 (tN N), .int .i64 (tS N), .pointer none], .agg #[.int .u64 (tN M), .int .i64 (tS M), .pointer none]] w fun e w' => e = .returned (.bool (decide (N = M))) ∧ Below w.heap.size w w' := by
  have := equal_any (tN N) (tS N) (tN M) (tS M) w (tN_lo N) (tN_hi N) (tN_lo M) (tN_hi M)
  unfold eqB at this
  rw [ns_tm, ns_tm] at this
  exact this
end Go.Proofs.Qxb6613076a
