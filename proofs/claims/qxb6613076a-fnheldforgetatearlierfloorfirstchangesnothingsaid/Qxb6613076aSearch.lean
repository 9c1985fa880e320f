/-
  The rolling window: sort.Search at one element at most; the two literals of window.take.
-/
import Derived.Test.Qxb6613076aTime3
import Derived.Deep.LoopGhost
import Derived.WalkSmall
namespace Go.Proofs.Qxb6613076a
open Go.RowKit
set_option maxHeartbeats 400000 in
theorem search0 (fv : Value) (w : World) : Calls Try.prog 55 #[.int .i64 0, fv] w fun e w' => e = .returned (.int .i64 0) ∧ w' = w := by
  go_enter Try.func55, Try.ntmps55
  go_wp2
  refine wp_loop_rounds 1 ?_
  rw [rounds_succ]
  go_wp2
  go_ret
  exact ⟨rfl, rfl⟩
theorem bdrew {w w' : World} (h : Below w.drew.heap.size w.drew w') : Below w.heap.size w w' := ⟨h.os, h.tape, h.output, h.size, h.block⟩
def pick01 (q : Bool) : Int := if q then 0 else 1
set_option maxHeartbeats 400000 in
theorem search1 (a b c : Value) (q : Bool) (w : World) (h : Hid (Calls Try.prog 56 #[.int .i64 0, a, b, c] w fun e w' => e = .returned (.bool q) ∧ Below w.heap.size w w')) :
    Calls Try.prog 55 #[.int .i64 1, .func (.func 56) #[] #[a, b, c]] w fun e w' => e = .returned (.int .i64 (pick01 q)) ∧ Below w.heap.size w w' := by
  go_enter Try.func55, Try.ntmps55
  go_wp2
  refine wp_loop_rounds 2 ?_
  rw [rounds_succ]
  go_wp2_with fail
  refine h.out.mono ?_
  rintro e w' ⟨rfl, hb⟩
  have HB : Hid (Below w.heap.size w w') := hb
  clear hb h
  cases q
  all_goals
    go_wp2_with fail
    rw [rounds_succ]
    go_wp2_with fail
    go_ret
    exact ⟨rfl, HB.out⟩
set_option maxHeartbeats 400000 in
theorem search2 (a b c d : Value) (q : Bool) (w : World) (h : Hid (Calls Try.prog 57 #[.int .i64 0, a, b, c, d] w fun e w' => e = .returned (.bool q) ∧ Below w.heap.size w w')) :
    Calls Try.prog 55 #[.int .i64 1, .func (.func 57) #[] #[a, b, c, d]] w fun e w' => e = .returned (.int .i64 (pick01 q)) ∧ Below w.heap.size w w' := by
  go_enter Try.func55, Try.ntmps55
  go_wp2
  refine wp_loop_rounds 2 ?_
  rw [rounds_succ]
  go_wp2_with fail
  refine h.out.mono ?_
  rintro e w' ⟨rfl, hb⟩
  have HB : Hid (Below w.heap.size w w') := hb
  clear hb h
  cases q
  all_goals
    go_wp2_with fail
    rw [rounds_succ]
    go_wp2_with fail
    go_ret
    exact ⟨rfl, HB.out⟩
set_option maxHeartbeats 1600000 in
/-- take's first literal: 'now is before the oldest take's end'. -/
theorem lit1 (bn bw wb g c bp : Nat) (N M win : Int) (w : World) (c0 : w.cell? ⟨bn, 0, none⟩ = some (.int .u64 (tN N))) (c1 : w.cell? ⟨bn, 1, none⟩ = some (.int .i64 (tS N))) (c2 : w.cell? ⟨bn, 2, none⟩ = some (.pointer none)) (c3 : w.cell? ⟨bw, 0, none⟩ = some (.pointer (some ⟨wb, 0, none⟩))) (c4 : w.cell? ⟨wb, 0, none⟩ = some (.slice (some ⟨g, 0, none⟩) 1 c)) (c5 : w.cell? ⟨g, 0, none⟩ = some (.int .u64 (tN M))) (c6 : w.cell? ⟨g, 1, none⟩ = some (.int .i64 (tS M))) (c7 : w.cell? ⟨g, 2, none⟩ = some (.pointer none)) (c8 : w.cell? ⟨bp, 2, none⟩ = some (.int .i64 win))
    (hM : -20000000000000000000 ≤ M) (hM' : M ≤ 20000000000000000000) (hw : 0 ≤ win) (hw' : win ≤ 9223372036854775807) :
    Calls Try.prog 56 #[.int .i64 0, .pointer (some ⟨bn, 0, none⟩), .pointer (some ⟨bw, 0, none⟩), .pointer (some ⟨bp, 0, none⟩)] w fun e w' => e = .returned (.bool (decide (N < M + win))) ∧ Below w.heap.size w w' := by
  go_enter Try.func56, Try.ntmps56
  go_wp2
  go_region_held3 (fun W => W.cell? ⟨bn, 0, none⟩ = some (.int .u64 (tN N)) ∧ W.cell? ⟨bn, 1, none⟩ = some (.int .i64 (tS N)) ∧ W.cell? ⟨bn, 2, none⟩ = some (.pointer none) ∧ W.cell? ⟨bw, 0, none⟩ = some (.pointer (some ⟨wb, 0, none⟩)) ∧ W.cell? ⟨wb, 0, none⟩ = some (.slice (some ⟨g, 0, none⟩) 1 c) ∧ W.cell? ⟨g, 0, none⟩ = some (.int .u64 (tN M)) ∧ W.cell? ⟨g, 1, none⟩ = some (.int .i64 (tS M)) ∧ W.cell? ⟨g, 2, none⟩ = some (.pointer none) ∧ W.cell? ⟨bp, 2, none⟩ = some (.int .i64 win))
    (first | (exact ⟨c0, c1, c2, c3, c4, c5, c6, c7, c8⟩) | (exact ⟨cell_later x1 c0, cell_later x1 c1, cell_later x1 c2, cell_later x1 c3, cell_later x1 c4, cell_later x1 c5, cell_later x1 c6, cell_later x1 c7, cell_later x1 c8⟩) | (exact ⟨cell_later x2 (cell_later x1 c0), cell_later x2 (cell_later x1 c1), cell_later x2 (cell_later x1 c2), cell_later x2 (cell_later x1 c3), cell_later x2 (cell_later x1 c4), cell_later x2 (cell_later x1 c5), cell_later x2 (cell_later x1 c6), cell_later x2 (cell_later x1 c7), cell_later x2 (cell_later x1 c8)⟩))
    (first
      | (go_at_call 39; refine (add_tm M win _ (by omega) (by omega) (by omega) (by omega)).mono ?_; rintro e w1 ⟨rfl, x1⟩)
      | (go_at_call 36; refine (before_tm N (M + win) _).mono ?_; rintro e w2 ⟨rfl, x2⟩))
  go_wp2
  go_ret
  exact ⟨rfl, (bdrew x1).trans (x2.mono x1.size)⟩
set_option maxHeartbeats 800000 in
/-- take's second literal, where one take stands and all of it must go. -/
theorem lit2 (bw wb g c bs be bx : Nat) (lim : Int) (w : World) (h1 : 1 ≤ lim) (h2 : lim ≤ 9223372036854775807)
    (c0 : w.cell? ⟨bw, 0, none⟩ = some (.pointer (some ⟨wb, 0, none⟩))) (c1 : w.cell? ⟨wb, 0, none⟩ = some (.slice (some ⟨g, 0, none⟩) 1 c)) (c2 : w.cell? ⟨bs, 0, none⟩ = some (.int .i64 0))
    (c3 : w.cell? ⟨g, 3, none⟩ = some (.int .u64 lim)) (c4 : w.cell? ⟨be, 0, none⟩ = some (.int .u64 0)) (c5 : w.cell? ⟨bx, 0, none⟩ = some (.int .u64 1)) :
    Calls Try.prog 57 #[.int .i64 0, .pointer (some ⟨bw, 0, none⟩), .pointer (some ⟨bs, 0, none⟩), .pointer (some ⟨be, 0, none⟩), .pointer (some ⟨bx, 0, none⟩)] w fun e w' => e = .returned (.bool true) ∧ Below w.heap.size w w' := by
  go_enter Try.func57, Try.ntmps57
  go_wp2
  go_quiet (fail)
  go_wp2
  go_ret
  exact ⟨by simp, below_drewN (Below.refl _ _) _⟩
end Go.Proofs.Qxb6613076a
