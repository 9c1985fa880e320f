/-
  The three doors of the laws to a bucket: ZZnewBucket, ZZbucketTake, ZZbucketState; zzBucketDomain.
-/
import Derived.Test.Qxb6613076aWbtake
namespace Go.Proofs.Qxb6613076a
open Go.RowKit
set_option linter.unusedVariables false
theorem BB.of_heap {w w' : World} {b : Nat} {bn bs bh bl : Int} (h : BB w b bn bs bh bl) (e : w'.heap[b]? = w.heap[b]?) : BB w' b bn bs bh bl where
  a0 := (World.cell?_of_block (w := w) (a := ⟨b, 0, none⟩) e).trans h.a0
  a1 := (World.cell?_of_block (w := w) (a := ⟨b, 1, none⟩) e).trans h.a1
  a2 := (World.cell?_of_block (w := w) (a := ⟨b, 2, none⟩) e).trans h.a2
  m0 := (World.cell?_of_block (w := w) (a := ⟨b, 3, none⟩) e).trans h.m0
  m1 := (World.cell?_of_block (w := w) (a := ⟨b, 4, none⟩) e).trans h.m1
  f0 := (World.frozen?_of_block (w := w) (a := ⟨b, 0, none⟩) e).trans h.f0
  f1 := (World.frozen?_of_block (w := w) (a := ⟨b, 1, none⟩) e).trans h.f1
  f2 := (World.frozen?_of_block (w := w) (a := ⟨b, 2, none⟩) e).trans h.f2
  f3 := (World.frozen?_of_block (w := w) (a := ⟨b, 3, none⟩) e).trans h.f3
  f4 := (World.frozen?_of_block (w := w) (a := ⟨b, 4, none⟩) e).trans h.f4
/-- What remains. -/
def remf (N M T lim win rate cost ahead : Int) : Int := if fits N M T lim win rate cost ahead then lim - cdiv (lackf N M T rate + cost * win) win else lim - cdiv (lackf N M T rate) win
/-- How long to wait. -/
def retryf (N M T lim win rate cost ahead : Int) : Int := if fits N M T lim win rate cost ahead then 0 else capD (cdiv (lackf N M T rate + (cost + ahead) * win - lim * win) rate)
/-- The bucket's time behind the take. -/
def atf (N M T lim win rate cost ahead : Int) : Int := if fits N M T lim win rate cost ahead then t0f N M T else N
/-- What the bucket lacks behind the take. -/
def missf (N M T lim win rate cost ahead : Int) : Int := if fits N M T lim win rate cost ahead then lackf N M T rate + cost * win else M
theorem btake_u (b : Nat) (lim win rate cost ahead N M T : Int) (w : World) (H : BB w b (tN N) (tS N) (uH M) (uL M)) (D : Dom lim win rate cost ahead N M T) :
    Calls Try.prog 28 #[.pointer (some ⟨b, 0, none⟩), .agg #[.int .u8 0, .int .i64 lim, .int .i64 win, .int .i64 rate, .int .u8 0, .int .i64 0, .int .i64 0, .int .i64 0], .int .i64 cost, .int .i64 ahead, .int .i64 T] w fun e w' =>
      e = .returned (.tuple #[.bool (decide (fits N M T lim win rate cost ahead)), .int .i64 lim, .int .i64 (remf N M T lim win rate cost ahead), .int .i64 (retryf N M T lim win rate cost ahead)]) ∧
      Kept b b w w' ∧ BB w' b (tN (atf N M T lim win rate cost ahead)) (tS (atf N M T lim win rate cost ahead)) (uH (missf N M T lim win rate cost ahead)) (uL (missf N M T lim win rate cost ahead)) := by
  have hb : b < w.heap.size := World.block_lt_of_cell? _ _ H.a0
  refine (b_wtake_of b b lim win rate cost ahead T (decide (fits N M T lim win rate cost ahead)) lim (remf N M T lim win rate cost ahead) (retryf N M T lim win rate cost ahead)
    (fun W w2 => BB w2 b (tN (atf N M T lim win rate cost ahead)) (tS (atf N M T lim win rate cost ahead)) (uH (missf N M T lim win rate cost ahead)) (uL (missf N M T lim win rate cost ahead))) w hb hb D.t1 D.t2 ?_).mono ?_
  · intro W hW
    refine (take_u b lim win rate cost ahead N M T W (H.later hW) D).mono ?_
    rintro e w' ⟨p1, p2⟩
    by_cases hf : fits N M T lim win rate cost ahead
    · obtain ⟨rfl, q1, q2⟩ := p1 hf
      refine ⟨?_, q2, ?_⟩
      · unfold remf retryf; rw [if_pos hf, if_pos hf]; simp [hf]
      · unfold atf missf; rw [if_pos hf, if_pos hf]; exact q1
    · obtain ⟨rfl, q1⟩ := p2 hf
      refine ⟨?_, Kept.of_below q1, ?_⟩
      · unfold remf retryf; rw [if_neg hf, if_neg hf]; simp [hf]
      · unfold atf missf; rw [if_neg hf, if_neg hf]; exact (H.later hW).later q1
  · rintro e w' ⟨rfl, k, W, w2, c, hW, hP, h1, h2, h3⟩
    have l1 : b < w2.heap.size := World.block_lt_of_cell? _ _ hP.a0
    exact ⟨rfl, k, hP.of_heap (h3 b (by omega) l1)⟩
set_option maxHeartbeats 800000 in
theorem newBucket_u (N h l : Int) (w : World) (h1 : -9223372036854775808 ≤ N) (h2 : N ≤ 9223372036854775807) :
    Calls Try.prog 27 #[.int .i64 N, .int .u64 h, .int .u64 l] w fun e w' => ∃ b, e = .returned (.pointer (some ⟨b, 0, none⟩)) ∧ w.heap.size ≤ b ∧ Below w.heap.size w w' ∧ BB w' b (tN N) (tS N) h l := by
  go_enter Try.func27, Try.ntmps27
  go_wp2_with fail
  refine (at_any N _ h1 h2).mono ?_
  rintro e w1 ⟨rfl, x1⟩
  have HB : Hid (Below w.heap.size w w1) := x1
  clear x1
  go_wp2_with fail
  go_ret
  refine ⟨_, rfl, HB.out.size, HB.out.alloc HB.out.size _, ?_⟩
  constructor <;> simp [go_sem]
set_option maxHeartbeats 800000 in
theorem bucketState_u (b : Nat) (N h l : Int) (w : World) (H : BB w b (tN N) (tS N) h l) (h1 : -9223372036854775808 ≤ N) (h2 : N ≤ 9223372036854775807) :
    Calls Try.prog 29 #[.pointer (some ⟨b, 0, none⟩)] w fun e w' => e = .returned (.tuple #[.int .i64 N, .int .u64 h, .int .u64 l]) ∧ Below w.heap.size w w' := by
  have HH : Hid (BB w b (tN N) (tS N) h l) := H
  have C : Gives 34 #[.agg #[.int .u64 (tN N), .int .i64 (tS N), .pointer none]] (.int .i64 N) := fun w => by
    have h := nanos_any N w (by omega) (by omega)
    have e : clampD N = N := by unfold clampD; split <;> (try split) <;> omega
    rw [e] at h
    exact h
  generalize tN N = tn at *
  generalize tS N = ts at *
  clear H
  go_enter Try.func29, Try.ntmps29
  go_wp2_with fail
  go_region_held3 (fun V => V.cell? ⟨b, 0, none⟩ = some (.int .u64 tn) ∧ V.cell? ⟨b, 1, none⟩ = some (.int .i64 ts) ∧ V.cell? ⟨b, 2, none⟩ = some (.pointer none) ∧ V.cell? ⟨b, 3, none⟩ = some (.int .u64 h) ∧ V.cell? ⟨b, 4, none⟩ = some (.int .u64 l))
    (first | (exact ⟨HH.out.a0, HH.out.a1, HH.out.a2, HH.out.m0, HH.out.m1⟩) | (have E := HH.out.later (bdrew x1); exact ⟨E.a0, E.a1, E.a2, E.m0, E.m1⟩))
    (first | (go_at_call 34; refine (C _).mono ?_; rintro e w1 ⟨rfl, x1⟩))
  go_wp2_with fail
  exact bodyPost_ret (v := .tuple #[.int .i64 N, .int .u64 h, .int .u64 l]) (by simp [results, Try.results29, go_sem]) rfl ⟨rfl, bdrew x1⟩
set_option maxHeartbeats 800000 in
/-- zzBucketDomain where the numbers are out of bounds. -/
theorem domain_out (h l lim win rate cost ahead : Int) (w : World) (hx : lim < 1 ∨ win < 1 ∨ rate < 1) :
    Calls Try.prog 21 #[.int .u64 h, .int .u64 l, .int .i64 lim, .int .i64 win, .int .i64 rate, .int .i64 cost, .int .i64 ahead] w fun e w' => e = .returned (.bool false) ∧ Below w.heap.size w w' := by
  by_cases c1 : lim < 1
  · go_enter Try.func21, Try.ntmps21
    go_wp2_with fail
    go_ret
    exact ⟨rfl, by go_grown⟩
  · by_cases c2 : win < 1
    · go_enter Try.func21, Try.ntmps21
      go_wp2_with fail
      go_ret
      exact ⟨rfl, by go_grown⟩
    · have c3 : rate < 1 := by omega
      go_enter Try.func21, Try.ntmps21
      go_wp2_with fail
      go_ret
      exact ⟨rfl, by go_grown⟩
set_option maxHeartbeats 800000 in
theorem domain_out2 (h l lim win rate cost ahead : Int) (w : World) (h1 : 1 ≤ lim) (h2 : 1 ≤ win) (h3 : 1 ≤ rate) (h1' : lim ≤ 9223372036854775807) (hx : cost < 0 ∨ ahead < 0 ∨ lim < cost ∨ lim - cost < ahead) :
    Calls Try.prog 21 #[.int .u64 h, .int .u64 l, .int .i64 lim, .int .i64 win, .int .i64 rate, .int .i64 cost, .int .i64 ahead] w fun e w' => e = .returned (.bool false) ∧ Below w.heap.size w w' := by
  by_cases c1 : cost < 0
  · go_enter Try.func21, Try.ntmps21
    go_wp2_with fail
    go_ret
    exact ⟨rfl, by go_grown⟩
  · by_cases c2 : ahead < 0
    · go_enter Try.func21, Try.ntmps21
      go_wp2_with fail
      go_ret
      exact ⟨rfl, by go_grown⟩
    · by_cases c3 : lim < cost
      · go_enter Try.func21, Try.ntmps21
        go_wp2_with fail
        go_ret
        exact ⟨rfl, by go_grown⟩
      · have c4 : lim - cost < ahead := by omega
        go_enter Try.func21, Try.ntmps21
        go_wp2_with fail
        go_ret
        exact ⟨rfl, by go_grown⟩
set_option maxHeartbeats 800000 in
/-- zzBucketDomain within the bounds: is what is missing at most the whole? -/
theorem domain_in (M lim win rate cost ahead : Int) (w : World) (h1 : 1 ≤ lim) (h2 : 1 ≤ win) (h3 : 1 ≤ rate) (h1' : lim ≤ 9223372036854775807) (h2' : win ≤ 9223372036854775807) (hc : 0 ≤ cost) (ha : 0 ≤ ahead) (hca : cost + ahead ≤ lim) :
    Calls Try.prog 21 #[.int .u64 (uH M), .int .u64 (uL M), .int .i64 lim, .int .i64 win, .int .i64 rate, .int .i64 cost, .int .i64 ahead] w fun e w' => e = .returned (.bool (decide (M ≤ lim * win))) ∧ Below w.heap.size w w' := by
  have HC1 : Hid (Gives 22 #[.int .u64 lim, .int .u64 win] (.agg #[.int .u64 (uH (lim * win)), .int .u64 (uL (lim * win))])) := fun w => zzMul_u lim win w (by omega) (by omega) (by omega) (by omega)
  have HC2 : Hid (Gives 25 #[.agg #[.int .u64 (uH (lim * win)), .int .u64 (uL (lim * win))], .agg #[.int .u64 (uH M), .int .u64 (uL M)]] (.bool (decide (lim * win < M)))) := fun w => zzLess_u _ _ w
  have HE : Hid (decide (M ≤ lim * win) = !decide (lim * win < M)) := by
    show _ = _
    by_cases c : lim * win < M
    · simp [c]
    · have h : M ≤ lim * win := by omega
      simp [c]; exact h
  generalize decide (M ≤ lim * win) = r at HE ⊢
  generalize decide (lim * win < M) = d at HE HC2
  generalize uH (lim * win) = fh at HC1 HC2
  generalize uL (lim * win) = fl at HC1 HC2
  generalize uH M = mh at HC2 ⊢
  generalize uL M = ml at HC2 ⊢
  have v1 := wrap_u64 (by omega : 0 ≤ lim) h1'
  have v2 := wrap_u64 (by omega : 0 ≤ win) h2'
  go_enter Try.func21, Try.ntmps21
  go_wp2_with (first | (go_at_call 22; refine (HC1.out _).mono ?_; rintro e w1 ⟨rfl, x1⟩) | (go_at_call 25; refine (HC2.out _).mono ?_; rintro e w2 ⟨rfl, x2⟩))
  go_ret
  exact ⟨by rw [HE.out]; rfl, x1.trans (x2.mono x1.size)⟩
end Go.Proofs.Qxb6613076a
