/-
  The walk of the law FnWindowIsHowLongASlidingTakeCounts out of what its three takes come to.
-/
import Derived.Test.Qxb6613076aWtake
namespace Go.Proofs.Qxb6613076a
open Go.RowKit
theorem Win1.of_heap {w w' : World} {wb g c : Nat} {M lim : Int} (h : Win1 w wb g c M lim) (e1 : w'.heap[wb]? = w.heap[wb]?) (e2 : w'.heap[g]? = w.heap[g]?) : Win1 w' wb g c M lim where
  takes := (World.cell?_of_block (w := w) (a := ⟨wb, 0, none⟩) e1).trans h.takes
  total := (World.cell?_of_block (w := w) (a := ⟨wb, 1, none⟩) e1).trans h.total
  expired := (World.cell?_of_block (w := w) (a := ⟨wb, 2, none⟩) e1).trans h.expired
  r0 := (World.cell?_of_block (w := w) (a := ⟨g, 0, none⟩) e2).trans h.r0
  r1 := (World.cell?_of_block (w := w) (a := ⟨g, 1, none⟩) e2).trans h.r1
  r2 := (World.cell?_of_block (w := w) (a := ⟨g, 2, none⟩) e2).trans h.r2
  r3 := (World.cell?_of_block (w := w) (a := ⟨g, 3, none⟩) e2).trans h.r3
  cap := h.cap
  wbg := h.wbg
  block := by obtain ⟨C, k1, k2⟩ := h.block; exact ⟨C, e2.trans k1, k2⟩
  f0 := (World.frozen?_of_block (w := w) (a := ⟨wb, 0, none⟩) e1).trans h.f0
  f1 := (World.frozen?_of_block (w := w) (a := ⟨wb, 1, none⟩) e1).trans h.f1
  f2 := (World.frozen?_of_block (w := w) (a := ⟨wb, 2, none⟩) e1).trans h.f2
set_option maxHeartbeats 400000 in
theorem newPolicy_any (l n r : Int) (w : World) :
    Calls Try.prog 14 #[.int .i64 l, .int .i64 n, .int .i64 r] w fun e w' => e = .returned (.agg #[.int .u8 0, .int .i64 l, .int .i64 n, .int .i64 r, .int .u8 0, .int .i64 0, .int .i64 0, .int .i64 0]) ∧ Below w.heap.size w w' := by
  go_enter Try.func14, Try.ntmps14
  go_wp2
  exact bodyPost_ret (v := .agg #[.int .u8 0, .int .i64 l, .int .i64 n, .int .i64 r, .int .u8 0, .int .i64 0, .int .i64 0, .int .i64 0]) (by simp [results, Try.results14, go_sem]) rfl ⟨rfl, by go_grown⟩
set_option maxHeartbeats 400000 in
theorem window_any (l n r : Int) (w : World) :
    Calls Try.prog 30 #[.agg #[.int .u8 0, .int .i64 l, .int .i64 n, .int .i64 r, .int .u8 0, .int .i64 0, .int .i64 0, .int .i64 0]] w fun e w' => e = .returned (.int .i64 n) ∧ Below w.heap.size w w' := by
  go_enter Try.func30, Try.ntmps30
  go_wp2
  go_ret
  exact ⟨rfl, by go_grown⟩
set_option maxHeartbeats 400000 in
theorem newWindow_any (w : World) :
    Calls Try.prog 31 #[] w fun e w' => e = .returned (.pointer (some ⟨w.heap.size, 0, none⟩)) ∧ w' = w.alloc (.cells #[.slice none 0 0, .int .u64 0, .int .u64 0] 79) := by
  go_enter Try.func31, Try.ntmps31
  go_wp2
  go_ret
  exact ⟨rfl, rfl⟩
/-- The law's policy lies at block P. -/
def PolAt (P : Nat) (V : World) (lim win : Int) : Prop := V.cell? ⟨P, 0, none⟩ = some (.int .u8 0) ∧ V.cell? ⟨P, 1, none⟩ = some (.int .i64 lim) ∧ V.cell? ⟨P, 2, none⟩ = some (.int .i64 win) ∧ V.cell? ⟨P, 3, none⟩ = some (.int .i64 0) ∧ V.cell? ⟨P, 4, none⟩ = some (.int .u8 0) ∧ V.cell? ⟨P, 5, none⟩ = some (.int .i64 0) ∧ V.cell? ⟨P, 6, none⟩ = some (.int .i64 0) ∧ V.cell? ⟨P, 7, none⟩ = some (.int .i64 0)
theorem PolAt.later {P : Nat} {V V' : World} {lim win : Int} (h : PolAt P V lim win) (hb : Below V.heap.size V V') : PolAt P V' lim win := by
  obtain ⟨c0, c1, c2, c3, c4, c5, c6, c7⟩ := h
  exact ⟨cell_later hb c0, cell_later hb c1, cell_later hb c2, cell_later hb c3, cell_later hb c4, cell_later hb c5, cell_later hb c6, cell_later hb c7⟩
theorem PolAt.under {P B : Nat} {V V' : World} {lim win : Int} (h : PolAt P V lim win) (hb : Below B V V') (hP : P < B) : PolAt P V' lim win := by
  obtain ⟨c0, c1, c2, c3, c4, c5, c6, c7⟩ := h
  refine ⟨?_, ?_, ?_, ?_, ?_, ?_, ?_, ?_⟩ <;> rw [hb.cell hP] <;> assumption
theorem polAt_new (w : World) (lim win : Int) : PolAt w.heap.size (w.alloc (.cells #[.int .u8 0, .int .i64 lim, .int .i64 win, .int .i64 0, .int .u8 0, .int .i64 0, .int .i64 0, .int .i64 0] 31)) lim win := by
  unfold PolAt; simp [go_sem]
/-- What the three takes of the law come to. -/
structure Takes : Prop where
  fresh : ∀ (wb : Nat) (lim win N : Int) (w : World), 1 ≤ lim → lim ≤ 9223372036854775807 → -9223372036854775808 ≤ N → N ≤ 9223372036854775807 →
    w.cell? ⟨wb, 0, none⟩ = some (.slice none 0 0) → w.cell? ⟨wb, 1, none⟩ = some (.int .u64 0) → w.cell? ⟨wb, 2, none⟩ = some (.int .u64 0) → w.frozen? ⟨wb, 0, none⟩ = false → w.frozen? ⟨wb, 1, none⟩ = false → w.frozen? ⟨wb, 2, none⟩ = false → wb < w.heap.size →
    Calls Try.prog 32 #[.pointer (some ⟨wb, 0, none⟩), .agg #[.int .u8 0, .int .i64 lim, .int .i64 win, .int .i64 0, .int .u8 0, .int .i64 0, .int .i64 0, .int .i64 0], .int .i64 lim, .int .i64 0, .int .i64 N] w fun e w' =>
      e = .returned (.tuple #[.bool true, .int .i64 lim, .int .i64 0, .int .i64 0]) ∧ Below wb w w' ∧ ∃ g c, Win1 w' wb g c N lim
  refused : ∀ (wb g c : Nat) (lim win M N : Int) (w : World), 1 ≤ lim → lim ≤ 9223372036854775807 → 1 ≤ win → win ≤ 9223372036854775807 → -9223372036854775808 ≤ M → M ≤ 9223372036854775807 → N = M + win - 1 → N ≤ 9223372036854775807 → Win1 w wb g c M lim →
    Calls Try.prog 32 #[.pointer (some ⟨wb, 0, none⟩), .agg #[.int .u8 0, .int .i64 lim, .int .i64 win, .int .i64 0, .int .u8 0, .int .i64 0, .int .i64 0, .int .i64 0], .int .i64 1, .int .i64 0, .int .i64 N] w fun e w' =>
      e = .returned (.tuple #[.bool false, .int .i64 lim, .int .i64 0, .int .i64 1]) ∧ Below w.heap.size w w'
  expired : ∀ (wb g c : Nat) (lim win M N : Int) (w : World), 1 ≤ lim → lim ≤ 9223372036854775807 → 1 ≤ win → win ≤ 9223372036854775807 → -9223372036854775808 ≤ M → M ≤ 9223372036854775807 → N = M + win → N ≤ 9223372036854775807 → Win1 w wb g c M lim →
    Calls Try.prog 32 #[.pointer (some ⟨wb, 0, none⟩), .agg #[.int .u8 0, .int .i64 lim, .int .i64 win, .int .i64 0, .int .u8 0, .int .i64 0, .int .i64 0, .int .i64 0], .int .i64 1, .int .i64 0, .int .i64 N] w fun e w' =>
      e = .returned (.tuple #[.bool true, .int .i64 lim, .int .i64 (lim - 1), .int .i64 0]) ∧ Below wb w w'
set_option maxHeartbeats 400000 in
theorem law10_out (lim win now : Int) (w : World) (h : lim < 1 ∨ win < 1) :
    Calls Try.prog 10 #[.int .i64 lim, .int .i64 win, .int .i64 now] w fun e w' => e = .returned (.bool true) ∧ Below w.heap.size w w' := by
  by_cases h1 : lim < 1
  · go_enter Try.func10, Try.ntmps10
    go_wp2
    go_ret
    exact ⟨rfl, Below.refl _ _⟩
  · have h2 : win < 1 := by omega
    have h1' : decide (lim < 1) = false := by simpa using h1
    go_enter Try.func10, Try.ntmps10
    go_wp2
    go_ret
    exact ⟨rfl, Below.refl _ _⟩
set_option maxHeartbeats 400000 in
theorem law10_late (lim win now : Int) (w : World) (h1 : 1 ≤ lim) (h2 : 1 ≤ win) (h2' : win ≤ 9223372036854775807) (h3 : 9223372036854775807 - win < now) :
    Calls Try.prog 10 #[.int .i64 lim, .int .i64 win, .int .i64 now] w fun e w' => e = .returned (.bool true) ∧ Below w.heap.size w w' := by
  have t1 : decide (lim < 1) = false := by simp; omega
  have t2 : decide (win < 1) = false := by simp; omega
  go_enter Try.func10, Try.ntmps10
  go_wp2
  go_ret
  exact ⟨rfl, Below.refl _ _⟩
set_option maxRecDepth 100000 in
set_option maxHeartbeats 1600000 in
theorem law10_main (T : Takes) (lim win now : Int) (w : World) (h1 : 1 ≤ lim) (h1' : lim ≤ 9223372036854775807) (h2 : 1 ≤ win) (h2' : win ≤ 9223372036854775807) (h3 : now ≤ 9223372036854775807 - win) (h3' : -9223372036854775808 ≤ now) :
    Calls Try.prog 10 #[.int .i64 lim, .int .i64 win, .int .i64 now] w fun e w' => e = .returned (.bool true) ∧ Below w.heap.size w w' := by
  have t1 : decide (lim < 1) = false := by simp; omega
  have t2 : decide (win < 1) = false := by simp; omega
  have t3 : decide (9223372036854775807 - win < now) = false := by simp; omega
  go_enter Try.func10, Try.ntmps10
  go_wp2_with fail
  refine (newPolicy_any lim win 0 _).mono ?_
  rintro e w1 ⟨rfl, x1⟩
  clear t1 t2 t3
  go_wp2_with fail
  refine (window_any lim win 0 _).mono ?_
  rintro e w2 ⟨rfl, x2⟩
  have P0 : Hid (PolAt w1.heap.size w2 lim win) := PolAt.later (polAt_new w1 lim win) x2
  have HB : Hid (Below w.heap.size w w2) := x1.trans ((below1 x2).mono x1.size)
  have HS : Hid (w1.heap.size < w2.heap.size) := by have := x2.size; simp at this; unfold Hid; omega
  have HS1 : Hid (w.heap.size ≤ w1.heap.size) := x1.size
  clear x1 x2
  generalize w1.heap.size = P at *
  go_wp2_with fail
  refine (newWindow_any _).mono ?_
  rintro e w3 ⟨rfl, rfl⟩
  have HB3 : Hid (Below w2.heap.size w2 (w2.alloc (.cells #[.slice none 0 0, .int .u64 0, .int .u64 0] 79))) := by unfold Hid; go_grown
  have P3 : Hid (PolAt P (w2.alloc (.cells #[.slice none 0 0, .int .u64 0, .int .u64 0] 79)) lim win) := PolAt.later P0.out HB3.out
  have F3 := T.fresh w2.heap.size lim win now (w2.alloc (.cells #[.slice none 0 0, .int .u64 0, .int .u64 0] 79)) h1 h1' h3' (by omega) (by simp [go_sem]) (by simp [go_sem]) (by simp [go_sem]) (by simp [go_sem]) (by simp [go_sem]) (by simp [go_sem]) (by simp)
  have F3' : Hid _ := F3
  have Y3 : Hid (Below w.heap.size w (w2.alloc (.cells #[.slice none 0 0, .int .u64 0, .int .u64 0] 79))) := HB.out.trans (HB3.out.mono HB.out.size)
  clear F3 HB3 HB P0
  have HW : Hid (w.heap.size ≤ w2.heap.size) := by have := HS.out; have := HS1.out; unfold Hid; omega
  generalize hg : w2.alloc (.cells #[.slice none 0 0, .int .u64 0, .int .u64 0] 79) = W3 at *
  clear hg
  generalize w2.heap.size = wb at *
  obtain ⟨p0, p1, p2, p3, p4, p5, p6, p7⟩ := P3.out
  go_wp2_with fail
  refine Calls.mono F3'.out ?_
  rintro e w4 ⟨rfl, x4, g, c, X4⟩
  have P4 : Hid (PolAt P w4 lim win) := PolAt.under P3.out x4 HS.out
  have Y4 : Hid (Below w.heap.size w w4) := Y3.out.trans (x4.mono HW.out)
  have H4 : Hid (Win1 w4 wb g c now lim) := X4
  clear x4 X4 F3' P3 Y3 p0 p1 p2 p3 p4 p5 p6 p7
  obtain ⟨p0, p1, p2, p3, p4, p5, p6, p7⟩ := P4.out
  go_wp2_with fail
  refine (T.refused wb g c lim win now _ w4 h1 h1' h2 h2' h3' (by omega) rfl (by omega) H4.out).mono ?_
  rintro e w5 ⟨rfl, x5⟩
  have P5 : Hid (PolAt P w5 lim win) := PolAt.later P4.out x5
  have Y5 : Hid (Below w.heap.size w w5) := Y4.out.trans (x5.mono Y4.out.size)
  have H5 : Hid (Win1 w5 wb g c now lim) := H4.out.later x5
  clear x5 P4 Y4 H4 p0 p1 p2 p3 p4 p5 p6 p7
  obtain ⟨p0, p1, p2, p3, p4, p5, p6, p7⟩ := P5.out
  go_wp2_with fail
  refine (T.expired wb g c lim win now _ w5 h1 h1' h2 h2' h3' (by omega) rfl (by omega) H5.out).mono ?_
  rintro e w6 ⟨rfl, x6⟩
  have Y6 : Hid (Below w.heap.size w w6) := Y5.out.trans (x6.mono HW.out)
  clear x6 P5 Y5 H5 p0 p1 p2 p3 p4 p5 p6 p7
  go_wp2_with fail
  go_ret
  exact ⟨by simp, Y6.out⟩
end Go.Proofs.Qxb6613076a
