/-
  Walks of package time, last: Sub (it saturates); and the two bridges ZZat, ZZnanos.
-/
import Derived.Test.Qxb6613076aTime2
import Derived.Deep.RegionHeld3
namespace Go.Proofs.Qxb6613076a
open Go.RowKit
theorem bcell {W w1 : World} (hb : Below W.heap.size W w1) : (∀ b o, b < W.heap.size → w1.cell? ⟨b, o, none⟩ = W.cell? ⟨b, o, none⟩) ∧ (∀ b o, b < W.heap.size → w1.frozen? ⟨b, o, none⟩ = W.frozen? ⟨b, o, none⟩) :=
  ⟨fun b o h => hb.cell (p := ⟨b, o, none⟩) h, fun b o h => hb.frozen (p := ⟨b, o, none⟩) h⟩
/-- Behind a call that was made with one block more. -/
theorem below1 {w w1 : World} {o : Obj} (hb : Below (w.alloc o).heap.size (w.alloc o) w1) : Below w.heap.size w w1 :=
  ((Below.refl _ _).alloc (Nat.le_refl _) _).trans (hb.mono (by simp))
theorem below2 {w w1 : World} {o p : Obj} (hb : Below ((w.alloc o).alloc p).heap.size ((w.alloc o).alloc p) w1) : Below w.heap.size w w1 :=
  (((Below.refl _ _).alloc (Nat.le_refl _) _).alloc (by simp) _).trans (hb.mono (by simp; omega))
/-- The call's contract at the zero Time, as the walk writes it. -/
theorem add_zero (N : Int) (w : World) (h : -9223372036854775808 ≤ N) (h' : N ≤ 9223372036854775807) :
    Calls Try.prog 39 #[.agg #[.int .u64 0, .int .i64 0, .pointer none], .int .i64 N] w fun e w' => e = .returned (.agg #[.int .u64 (tN N), .int .i64 (tS N), .pointer none]) ∧ Below w.heap.size w w' := by
  have := add_tm 0 N w (by omega) (by omega) h h'
  rw [Int.zero_add] at this
  exact this
set_option maxHeartbeats 400000 in
/-- ZZat: the time n nanoseconds after the zero Time. -/
theorem at_any (N : Int) (w : World) (h : -9223372036854775808 ≤ N) (h' : N ≤ 9223372036854775807) :
    Calls Try.prog 33 #[.int .i64 N] w fun e w' => e = .returned (.agg #[.int .u64 (tN N), .int .i64 (tS N), .pointer none]) ∧ Below w.heap.size w w' := by
  go_enter Try.func33, Try.ntmps33
  go_wp2_with fail
  refine (add_zero N _ h h').mono ?_
  rintro e w1 ⟨rfl, hb⟩
  obtain ⟨hc, hf⟩ := bcell hb
  have hz : w.heap.size < w1.heap.size := by have := hb.size; simp at this; omega
  go_wp2_with fail
  have hb' := below1 hb
  exact bodyPost_ret (v := .agg #[.int .u64 (tN N), .int .i64 (tS N), .pointer none]) (by simp [results, Try.results33, go_sem, hc]) rfl ⟨rfl, by go_grown⟩
def clampD (x : Int) : Int := if x < -9223372036854775808 then -9223372036854775808 else if 9223372036854775807 < x then 9223372036854775807 else x
theorem ret_int {k : IntKind} {a b : Int} (h : a = b) : Ending.returned (.int k a) = .returned (.int k b) := by rw [h]
theorem sub_wraps (n1 s1 n2 s2 : Int) : wrap64 (wrap64 ((s1 - s2) * 1000000000) + (n1 - n2)) = wrap64 (ns s1 n1 - ns s2 n2) := by
  unfold wrap64 ns; omega
theorem wrap64_range (x : Int) : -9223372036854775808 ≤ wrap64 x ∧ wrap64 x ≤ 9223372036854775807 := by unfold wrap64; omega
theorem two_keep {w W V : World} {n1 s1 n2 s2 : Int} (h : Below w.heap.size w W ∧ w.heap.size + 1 < W.heap.size ∧ W.cell? ⟨w.heap.size, 0, none⟩ = some (.int .u64 n1) ∧ W.cell? ⟨w.heap.size, 1, none⟩ = some (.int .i64 s1) ∧ W.cell? ⟨w.heap.size, 2, none⟩ = some (.pointer none) ∧ W.cell? ⟨w.heap.size + 1, 0, none⟩ = some (.int .u64 n2) ∧ W.cell? ⟨w.heap.size + 1, 1, none⟩ = some (.int .i64 s2) ∧ W.cell? ⟨w.heap.size + 1, 2, none⟩ = some (.pointer none)) (hb : Below W.heap.size W V) : Below w.heap.size w V ∧ w.heap.size + 1 < V.heap.size ∧ V.cell? ⟨w.heap.size, 0, none⟩ = some (.int .u64 n1) ∧ V.cell? ⟨w.heap.size, 1, none⟩ = some (.int .i64 s1) ∧ V.cell? ⟨w.heap.size, 2, none⟩ = some (.pointer none) ∧ V.cell? ⟨w.heap.size + 1, 0, none⟩ = some (.int .u64 n2) ∧ V.cell? ⟨w.heap.size + 1, 1, none⟩ = some (.int .i64 s2) ∧ V.cell? ⟨w.heap.size + 1, 2, none⟩ = some (.pointer none) := by
  obtain ⟨h0, h1, h2, h3, h4, h5, h6, h7⟩ := h
  obtain ⟨hc, _⟩ := bcell hb
  refine ⟨h0.trans (hb.mono h0.size), Nat.lt_of_lt_of_le h1 hb.size, ?_, ?_, ?_, ?_, ?_, ?_⟩ <;> rw [hc _ _ (by omega)] <;> assumption
set_option maxHeartbeats 800000 in
theorem sub_any (n1 s1 n2 s2 : Int) (w : World) (h0 : 0 ≤ n1) (h1 : n1 < 1000000000) (h2 : 0 ≤ n2) (h3 : n2 < 1000000000)
    (hs1 : -100000000000000000 ≤ s1) (hs1' : s1 ≤ 100000000000000000) (hs2 : -100000000000000000 ≤ s2) (hs2' : s2 ≤ 100000000000000000) :
    Calls Try.prog 40 #[.agg #[.int .u64 n1, .int .i64 s1, .pointer none], .agg #[.int .u64 n2, .int .i64 s2, .pointer none]] w fun e w' => e = .returned (.int .i64 (clampD (ns s1 n1 - ns s2 n2))) ∧ Below w.heap.size w w' := by
  have e := no_mono2 n1 n2 h0 h1 h2 h3
  have e1 := no_mono n1 h0 h1
  have e2 := no_mono n2 h2 h3
  have f1 := and_lo n1 h0 (by omega)
  have f2 := and_lo n2 h2 (by omega)
  have HW : Hid (wrap64 (wrap64 ((s1 - s2) * 1000000000) + (n1 - n2)) = wrap64 (ns s1 n1 - ns s2 n2)) := sub_wraps n1 s1 n2 s2
  go_enter Try.func40, Try.ntmps40
  go_wp2
  generalize hD : wrap64 (wrap64 ((s1 - s2) * 1000000000) + (n1 - n2)) = D at *
  have HD : Hid (D = wrap64 (ns s1 n1 - ns s2 n2)) := HW.out
  clear HW hD
  have d1 : -9223372036854775808 ≤ D := by rw [HD.out]; exact (wrap64_range _).1
  have d2 : D ≤ 9223372036854775807 := by rw [HD.out]; exact (wrap64_range _).2
  go_region_held3 (fun w' => Below w.heap.size w w' ∧ w.heap.size + 1 < w'.heap.size ∧ w'.cell? ⟨w.heap.size, 0, none⟩ = some (.int .u64 n1) ∧ w'.cell? ⟨w.heap.size, 1, none⟩ = some (.int .i64 s1) ∧ w'.cell? ⟨w.heap.size, 2, none⟩ = some (.pointer none) ∧ w'.cell? ⟨w.heap.size + 1, 0, none⟩ = some (.int .u64 n2) ∧ w'.cell? ⟨w.heap.size + 1, 1, none⟩ = some (.int .i64 s2) ∧ w'.cell? ⟨w.heap.size + 1, 2, none⟩ = some (.pointer none)) (first | (exact two_keep (by assumption) (by assumption)) | (refine ⟨by go_grown, ?_⟩; simp [go_sem, World.cell?_alloc_past]; done))
    (first
      | (go_at_call 39; refine (add_any n2 s2 D _ h2 h3 hs2 hs2' d1 d2).mono ?_; rintro e w' ⟨n, s, rfl, a0, a1, a2, a3⟩)
      | (go_at_call 61; refine (equal_any _ _ n1 s1 _ a0 a1 h0 h1).mono ?_; rintro e w' ⟨rfl, a4⟩))
  rename_i hH
  obtain ⟨hbw, hsz, hH⟩ := hH
  have HE : Hid (ns s n = ns s2 n2 + D) := a2
  have HL : Hid (Below w.heap.size w w') := hbw
  clear a2 a3 a4 hbw
  generalize hq : eqB s n s1 n1 = q
  have HQ : Hid (eqB s n s1 n1 = q) := hq
  clear hq
  cases q
  · go_wp2_with fail
    refine (before_any n1 s1 n2 s2 _ h0 h1 h2 h3).mono ?_
    rintro e w2 ⟨rfl, hb2⟩
    generalize hq : befB s1 n1 s2 n2 = q
    have HR : Hid (befB s1 n1 s2 n2 = q) := hq
    clear hq
    have HB : Hid (Below w.heap.size w w2) := HL.out.trans (hb2.mono (by omega))
    clear hb2
    cases q
    all_goals
      go_wp2_with fail
      go_ret
      refine ⟨?_, HB.out⟩
      have x1 := HQ.out
      have x2 := HR.out
      have x3 := HE.out
      have x4 := HD.out
      clear HQ HR HE HD
      unfold eqB at x1
      unfold befB at x2
      simp only [decide_eq_true_eq, decide_eq_false_iff_not] at x1 x2
      rw [x3] at x1
      generalize ns s1 n1 = A at *
      generalize ns s2 n2 = B at *
      exact ret_int (by unfold clampD; unfold wrap64 at x4; split <;> (try split) <;> omega)
  · go_wp2_with fail
    go_ret
    refine ⟨?_, HL.out⟩
    have x1 := HQ.out
    have x3 := HE.out
    clear HQ HE HD
    unfold eqB at x1
    simp only [decide_eq_true_eq] at x1
    rw [x3] at x1
    generalize ns s1 n1 = A at *
    generalize ns s2 n2 = B at *
    exact ret_int (by unfold clampD; split <;> (try split) <;> omega)
theorem sub_tm (N M : Int) (w : World) (hN : -100000000000000000000 ≤ N) (hN' : N ≤ 100000000000000000000) (hM : -100000000000000000000 ≤ M) (hM' : M ≤ 100000000000000000000) :
    Calls Try.prog 40 #[.agg #[.int .u64 (tN N), .int .i64 (tS N), .pointer none], .agg #[.int .u64 (tN M), .int .i64 (tS M), .pointer none]] w fun e w' => e = .returned (.int .i64 (clampD (N - M))) ∧ Below w.heap.size w w' := by
  have := sub_any (tN N) (tS N) (tN M) (tS M) w (tN_lo N) (tN_hi N) (tN_lo M) (tN_hi M) (by unfold tS; omega) (by unfold tS; omega) (by unfold tS; omega) (by unfold tS; omega)
  rw [ns_tm, ns_tm] at this
  exact this
theorem sub_zero (N : Int) (w : World) (hN : -100000000000000000000 ≤ N) (hN' : N ≤ 100000000000000000000) :
    Calls Try.prog 40 #[.agg #[.int .u64 (tN N), .int .i64 (tS N), .pointer none], .agg #[.int .u64 0, .int .i64 0, .pointer none]] w fun e w' => e = .returned (.int .i64 (clampD N)) ∧ Below w.heap.size w w' := by
  have := sub_tm N 0 w hN hN' (by omega) (by omega)
  rw [Int.sub_zero] at this
  exact this
set_option maxHeartbeats 400000 in
/-- ZZnanos: a Time in nanoseconds after the zero Time. -/
theorem nanos_any (N : Int) (w : World) (hN : -100000000000000000000 ≤ N) (hN' : N ≤ 100000000000000000000) :
    Calls Try.prog 34 #[.agg #[.int .u64 (tN N), .int .i64 (tS N), .pointer none]] w fun e w' => e = .returned (.int .i64 (clampD N)) ∧ Below w.heap.size w w' := by
  go_enter Try.func34, Try.ntmps34
  go_wp2_with fail
  refine (sub_zero N _ hN hN').mono ?_
  rintro e w1 ⟨rfl, hb⟩
  have hb' := below1 hb
  clear hb
  go_wp2_with fail
  go_ret
  exact ⟨rfl, hb'⟩
end Go.Proofs.Qxb6613076a
