/-
  ZZwindowTake over whatever contract of window.take.
-/
import Derived.Test.Qxb6613076aWin
namespace Go.Proofs.Qxb6613076a
open Go.RowKit
theorem pol_kept {wb y : Nat} {w V V' : World} {lim win : Int} (hwb : wb < w.heap.size) (hy : y < w.heap.size) (h : Kept wb y w V ∧ w.heap.size < V.heap.size ∧ V.cell? ⟨w.heap.size, 0, none⟩ = some (.int .u8 0) ∧ V.cell? ⟨w.heap.size, 1, none⟩ = some (.int .i64 lim) ∧ V.cell? ⟨w.heap.size, 2, none⟩ = some (.int .i64 win) ∧ V.cell? ⟨w.heap.size, 3, none⟩ = some (.int .i64 0) ∧ V.cell? ⟨w.heap.size, 4, none⟩ = some (.int .u8 0) ∧ V.cell? ⟨w.heap.size, 5, none⟩ = some (.int .i64 0) ∧ V.cell? ⟨w.heap.size, 6, none⟩ = some (.int .i64 0) ∧ V.cell? ⟨w.heap.size, 7, none⟩ = some (.int .i64 0)) (k : Kept wb y V V') : Kept wb y w V' ∧ w.heap.size < V'.heap.size ∧ V'.cell? ⟨w.heap.size, 0, none⟩ = some (.int .u8 0) ∧ V'.cell? ⟨w.heap.size, 1, none⟩ = some (.int .i64 lim) ∧ V'.cell? ⟨w.heap.size, 2, none⟩ = some (.int .i64 win) ∧ V'.cell? ⟨w.heap.size, 3, none⟩ = some (.int .i64 0) ∧ V'.cell? ⟨w.heap.size, 4, none⟩ = some (.int .u8 0) ∧ V'.cell? ⟨w.heap.size, 5, none⟩ = some (.int .i64 0) ∧ V'.cell? ⟨w.heap.size, 6, none⟩ = some (.int .i64 0) ∧ V'.cell? ⟨w.heap.size, 7, none⟩ = some (.int .i64 0) := by
  obtain ⟨k0, k1, c0, c1, c2, c3, c4, c5, c6, c7⟩ := h
  have n1 : w.heap.size ≠ wb := by omega
  have n2 : w.heap.size ≠ y := by omega
  exact ⟨k0.trans k, Nat.lt_of_lt_of_le k1 k.size, k.cell c0 n1 n2, k.cell c1 n1 n2, k.cell c2 n1 n2, k.cell c3 n1 n2, k.cell c4 n1 n2, k.cell c5 n1 n2, k.cell c6 n1 n2, k.cell c7 n1 n2⟩
theorem pol_start (wb y : Nat) (w : World) (lim win : Int) : Kept wb y w (w.alloc (.cells #[.int .u8 0, .int .i64 lim, .int .i64 win, .int .i64 0, .int .u8 0, .int .i64 0, .int .i64 0, .int .i64 0] 31)).drew ∧ w.heap.size < (w.alloc (.cells #[.int .u8 0, .int .i64 lim, .int .i64 win, .int .i64 0, .int .u8 0, .int .i64 0, .int .i64 0, .int .i64 0] 31)).drew.heap.size ∧ (w.alloc (.cells #[.int .u8 0, .int .i64 lim, .int .i64 win, .int .i64 0, .int .u8 0, .int .i64 0, .int .i64 0, .int .i64 0] 31)).drew.cell? ⟨w.heap.size, 0, none⟩ = some (.int .u8 0) ∧ (w.alloc (.cells #[.int .u8 0, .int .i64 lim, .int .i64 win, .int .i64 0, .int .u8 0, .int .i64 0, .int .i64 0, .int .i64 0] 31)).drew.cell? ⟨w.heap.size, 1, none⟩ = some (.int .i64 lim) ∧ (w.alloc (.cells #[.int .u8 0, .int .i64 lim, .int .i64 win, .int .i64 0, .int .u8 0, .int .i64 0, .int .i64 0, .int .i64 0] 31)).drew.cell? ⟨w.heap.size, 2, none⟩ = some (.int .i64 win) ∧ (w.alloc (.cells #[.int .u8 0, .int .i64 lim, .int .i64 win, .int .i64 0, .int .u8 0, .int .i64 0, .int .i64 0, .int .i64 0] 31)).drew.cell? ⟨w.heap.size, 3, none⟩ = some (.int .i64 0) ∧ (w.alloc (.cells #[.int .u8 0, .int .i64 lim, .int .i64 win, .int .i64 0, .int .u8 0, .int .i64 0, .int .i64 0, .int .i64 0] 31)).drew.cell? ⟨w.heap.size, 4, none⟩ = some (.int .u8 0) ∧ (w.alloc (.cells #[.int .u8 0, .int .i64 lim, .int .i64 win, .int .i64 0, .int .u8 0, .int .i64 0, .int .i64 0, .int .i64 0] 31)).drew.cell? ⟨w.heap.size, 5, none⟩ = some (.int .i64 0) ∧ (w.alloc (.cells #[.int .u8 0, .int .i64 lim, .int .i64 win, .int .i64 0, .int .u8 0, .int .i64 0, .int .i64 0, .int .i64 0] 31)).drew.cell? ⟨w.heap.size, 6, none⟩ = some (.int .i64 0) ∧ (w.alloc (.cells #[.int .u8 0, .int .i64 lim, .int .i64 win, .int .i64 0, .int .u8 0, .int .i64 0, .int .i64 0, .int .i64 0] 31)).drew.cell? ⟨w.heap.size, 7, none⟩ = some (.int .i64 0) :=
  ⟨((Kept.refl wb y w).alloc _).drew, by simp, by simp [go_sem], by simp [go_sem], by simp [go_sem], by simp [go_sem], by simp [go_sem], by simp [go_sem], by simp [go_sem], by simp [go_sem]⟩
theorem pol_alloc {wb y : Nat} {w V : World} {lim win : Int} {o : Obj} (hwb : wb < w.heap.size) (hy : y < w.heap.size) (h : Kept wb y w V ∧ w.heap.size < V.heap.size ∧ V.cell? ⟨w.heap.size, 0, none⟩ = some (.int .u8 0) ∧ V.cell? ⟨w.heap.size, 1, none⟩ = some (.int .i64 lim) ∧ V.cell? ⟨w.heap.size, 2, none⟩ = some (.int .i64 win) ∧ V.cell? ⟨w.heap.size, 3, none⟩ = some (.int .i64 0) ∧ V.cell? ⟨w.heap.size, 4, none⟩ = some (.int .u8 0) ∧ V.cell? ⟨w.heap.size, 5, none⟩ = some (.int .i64 0) ∧ V.cell? ⟨w.heap.size, 6, none⟩ = some (.int .i64 0) ∧ V.cell? ⟨w.heap.size, 7, none⟩ = some (.int .i64 0)) : Kept wb y w (V.alloc o) ∧ w.heap.size < (V.alloc o).heap.size ∧ (V.alloc o).cell? ⟨w.heap.size, 0, none⟩ = some (.int .u8 0) ∧ (V.alloc o).cell? ⟨w.heap.size, 1, none⟩ = some (.int .i64 lim) ∧ (V.alloc o).cell? ⟨w.heap.size, 2, none⟩ = some (.int .i64 win) ∧ (V.alloc o).cell? ⟨w.heap.size, 3, none⟩ = some (.int .i64 0) ∧ (V.alloc o).cell? ⟨w.heap.size, 4, none⟩ = some (.int .u8 0) ∧ (V.alloc o).cell? ⟨w.heap.size, 5, none⟩ = some (.int .i64 0) ∧ (V.alloc o).cell? ⟨w.heap.size, 6, none⟩ = some (.int .i64 0) ∧ (V.alloc o).cell? ⟨w.heap.size, 7, none⟩ = some (.int .i64 0) := pol_kept hwb hy h ((Kept.refl _ _ _).alloc _)
theorem pol_below {wb y : Nat} {w V V' : World} {lim win : Int} (hwb : wb < w.heap.size) (hy : y < w.heap.size) (h : Kept wb y w V ∧ w.heap.size < V.heap.size ∧ V.cell? ⟨w.heap.size, 0, none⟩ = some (.int .u8 0) ∧ V.cell? ⟨w.heap.size, 1, none⟩ = some (.int .i64 lim) ∧ V.cell? ⟨w.heap.size, 2, none⟩ = some (.int .i64 win) ∧ V.cell? ⟨w.heap.size, 3, none⟩ = some (.int .i64 0) ∧ V.cell? ⟨w.heap.size, 4, none⟩ = some (.int .u8 0) ∧ V.cell? ⟨w.heap.size, 5, none⟩ = some (.int .i64 0) ∧ V.cell? ⟨w.heap.size, 6, none⟩ = some (.int .i64 0) ∧ V.cell? ⟨w.heap.size, 7, none⟩ = some (.int .i64 0)) (k : Below V.heap.size V V') : Kept wb y w V' ∧ w.heap.size < V'.heap.size ∧ V'.cell? ⟨w.heap.size, 0, none⟩ = some (.int .u8 0) ∧ V'.cell? ⟨w.heap.size, 1, none⟩ = some (.int .i64 lim) ∧ V'.cell? ⟨w.heap.size, 2, none⟩ = some (.int .i64 win) ∧ V'.cell? ⟨w.heap.size, 3, none⟩ = some (.int .i64 0) ∧ V'.cell? ⟨w.heap.size, 4, none⟩ = some (.int .u8 0) ∧ V'.cell? ⟨w.heap.size, 5, none⟩ = some (.int .i64 0) ∧ V'.cell? ⟨w.heap.size, 6, none⟩ = some (.int .i64 0) ∧ V'.cell? ⟨w.heap.size, 7, none⟩ = some (.int .i64 0) := pol_kept hwb hy h (Kept.of_below k)
theorem pol_set {wb y : Nat} {w V : World} {lim win : Int} {p0 p1 p2 p3 : Addr} {v0 v1 v2 v3 : Value} (h0 : w.heap.size < p0.block) (h1 : w.heap.size < p1.block) (h2 : w.heap.size < p2.block) (h3 : w.heap.size < p3.block) (h : Kept wb y w V ∧ w.heap.size < V.heap.size ∧ V.cell? ⟨w.heap.size, 0, none⟩ = some (.int .u8 0) ∧ V.cell? ⟨w.heap.size, 1, none⟩ = some (.int .i64 lim) ∧ V.cell? ⟨w.heap.size, 2, none⟩ = some (.int .i64 win) ∧ V.cell? ⟨w.heap.size, 3, none⟩ = some (.int .i64 0) ∧ V.cell? ⟨w.heap.size, 4, none⟩ = some (.int .u8 0) ∧ V.cell? ⟨w.heap.size, 5, none⟩ = some (.int .i64 0) ∧ V.cell? ⟨w.heap.size, 6, none⟩ = some (.int .i64 0) ∧ V.cell? ⟨w.heap.size, 7, none⟩ = some (.int .i64 0)) : Kept wb y w ((((V.setCell p0 v0).setCell p1 v1).setCell p2 v2).setCell p3 v3) ∧ w.heap.size < ((((V.setCell p0 v0).setCell p1 v1).setCell p2 v2).setCell p3 v3).heap.size ∧ ((((V.setCell p0 v0).setCell p1 v1).setCell p2 v2).setCell p3 v3).cell? ⟨w.heap.size, 0, none⟩ = some (.int .u8 0) ∧ ((((V.setCell p0 v0).setCell p1 v1).setCell p2 v2).setCell p3 v3).cell? ⟨w.heap.size, 1, none⟩ = some (.int .i64 lim) ∧ ((((V.setCell p0 v0).setCell p1 v1).setCell p2 v2).setCell p3 v3).cell? ⟨w.heap.size, 2, none⟩ = some (.int .i64 win) ∧ ((((V.setCell p0 v0).setCell p1 v1).setCell p2 v2).setCell p3 v3).cell? ⟨w.heap.size, 3, none⟩ = some (.int .i64 0) ∧ ((((V.setCell p0 v0).setCell p1 v1).setCell p2 v2).setCell p3 v3).cell? ⟨w.heap.size, 4, none⟩ = some (.int .u8 0) ∧ ((((V.setCell p0 v0).setCell p1 v1).setCell p2 v2).setCell p3 v3).cell? ⟨w.heap.size, 5, none⟩ = some (.int .i64 0) ∧ ((((V.setCell p0 v0).setCell p1 v1).setCell p2 v2).setCell p3 v3).cell? ⟨w.heap.size, 6, none⟩ = some (.int .i64 0) ∧ ((((V.setCell p0 v0).setCell p1 v1).setCell p2 v2).setCell p3 v3).cell? ⟨w.heap.size, 7, none⟩ = some (.int .i64 0) := by
  obtain ⟨k0, k1, c0, c1, c2, c3, c4, c5, c6, c7⟩ := h
  refine ⟨((((k0.setCell _ _ (.inr (.inr (by omega)))).setCell _ _ (.inr (.inr (by omega)))).setCell _ _ (.inr (.inr (by omega)))).setCell _ _ (.inr (.inr (by omega)))), by simpa using k1, ?_, ?_, ?_, ?_, ?_, ?_, ?_, ?_⟩ <;>
    rw [World.cell?_setCell_far _ _ _ _ (by simp; omega), World.cell?_setCell_far _ _ _ _ (by simp; omega), World.cell?_setCell_far _ _ _ _ (by simp; omega), World.cell?_setCell_far _ _ _ _ (by simp; omega)] <;> assumption
theorem pol_re {wb y : Nat} {w V : World} {lim win : Int} {o o' : Obj} (hlt : w.heap.size < V.heap.size) (h : Kept wb y w (V.alloc o) ∧ w.heap.size < (V.alloc o).heap.size ∧ (V.alloc o).cell? ⟨w.heap.size, 0, none⟩ = some (.int .u8 0) ∧ (V.alloc o).cell? ⟨w.heap.size, 1, none⟩ = some (.int .i64 lim) ∧ (V.alloc o).cell? ⟨w.heap.size, 2, none⟩ = some (.int .i64 win) ∧ (V.alloc o).cell? ⟨w.heap.size, 3, none⟩ = some (.int .i64 0) ∧ (V.alloc o).cell? ⟨w.heap.size, 4, none⟩ = some (.int .u8 0) ∧ (V.alloc o).cell? ⟨w.heap.size, 5, none⟩ = some (.int .i64 0) ∧ (V.alloc o).cell? ⟨w.heap.size, 6, none⟩ = some (.int .i64 0) ∧ (V.alloc o).cell? ⟨w.heap.size, 7, none⟩ = some (.int .i64 0)) : Kept wb y w (V.alloc o') ∧ w.heap.size < (V.alloc o').heap.size ∧ (V.alloc o').cell? ⟨w.heap.size, 0, none⟩ = some (.int .u8 0) ∧ (V.alloc o').cell? ⟨w.heap.size, 1, none⟩ = some (.int .i64 lim) ∧ (V.alloc o').cell? ⟨w.heap.size, 2, none⟩ = some (.int .i64 win) ∧ (V.alloc o').cell? ⟨w.heap.size, 3, none⟩ = some (.int .i64 0) ∧ (V.alloc o').cell? ⟨w.heap.size, 4, none⟩ = some (.int .u8 0) ∧ (V.alloc o').cell? ⟨w.heap.size, 5, none⟩ = some (.int .i64 0) ∧ (V.alloc o').cell? ⟨w.heap.size, 6, none⟩ = some (.int .i64 0) ∧ (V.alloc o').cell? ⟨w.heap.size, 7, none⟩ = some (.int .i64 0) := by
  obtain ⟨k0, k1, c0, c1, c2, c3, c4, c5, c6, c7⟩ := h
  have e : ∀ i, (V.alloc o').cell? ⟨w.heap.size, i, none⟩ = (V.alloc o).cell? ⟨w.heap.size, i, none⟩ := fun i => by
    rw [World.cell?_alloc_past _ _ _ hlt, World.cell?_alloc_past _ _ _ hlt]
  refine ⟨⟨k0.os, k0.tape, k0.output, by simpa using k0.size, fun k hk h1 h2 => ?_⟩, by simpa using k1, ?_, ?_, ?_, ?_, ?_, ?_, ?_, ?_⟩
  · rw [← k0.block k hk h1 h2, Below.heap_alloc _ _ _ (by omega), Below.heap_alloc _ _ _ (by omega)]
  all_goals (rw [e]; assumption)
theorem bgrow {w W w1 : World} (h : Below w.heap.size w W) (x : Below W.heap.size W w1) : Below w.heap.size w w1 := h.trans (x.mono h.size)
theorem four_set (V : World) (b : Nat) (a : Bool) (l r t : Int) (h : ∀ i, i < 4 → ∃ v, V.cell? ⟨b, i, none⟩ = some v) :
    ((((V.setCell ⟨b, 0, none⟩ (.bool a)).setCell ⟨b, 1, none⟩ (.int .i64 l)).setCell ⟨b, 2, none⟩ (.int .i64 r)).setCell ⟨b, 3, none⟩ (.int .i64 t)).cell? ⟨b, 0, none⟩ = some (.bool a) ∧
    ((((V.setCell ⟨b, 0, none⟩ (.bool a)).setCell ⟨b, 1, none⟩ (.int .i64 l)).setCell ⟨b, 2, none⟩ (.int .i64 r)).setCell ⟨b, 3, none⟩ (.int .i64 t)).cell? ⟨b, 1, none⟩ = some (.int .i64 l) ∧
    ((((V.setCell ⟨b, 0, none⟩ (.bool a)).setCell ⟨b, 1, none⟩ (.int .i64 l)).setCell ⟨b, 2, none⟩ (.int .i64 r)).setCell ⟨b, 3, none⟩ (.int .i64 t)).cell? ⟨b, 2, none⟩ = some (.int .i64 r) ∧
    ((((V.setCell ⟨b, 0, none⟩ (.bool a)).setCell ⟨b, 1, none⟩ (.int .i64 l)).setCell ⟨b, 2, none⟩ (.int .i64 r)).setCell ⟨b, 3, none⟩ (.int .i64 t)).cell? ⟨b, 3, none⟩ = some (.int .i64 t) := by
  obtain ⟨v0, h0⟩ := h 0 (by omega)
  obtain ⟨v1, h1⟩ := h 1 (by omega)
  obtain ⟨v2, h2⟩ := h 2 (by omega)
  obtain ⟨v3, h3⟩ := h 3 (by omega)
  simp [go_sem, h0, h1, h2, h3]
theorem four_heap (V : World) (b k : Nat) (x0 x1 x2 x3 : Value) (h : k ≠ b) :
    ((((V.setCell ⟨b, 0, none⟩ x0).setCell ⟨b, 1, none⟩ x1).setCell ⟨b, 2, none⟩ x2).setCell ⟨b, 3, none⟩ x3).heap[k]? = V.heap[k]? := by
  rw [Below.heap_setCell _ _ _ _ h, Below.heap_setCell _ _ _ _ h, Below.heap_setCell _ _ _ _ h, Below.heap_setCell _ _ _ _ h]
theorem kcell {wb y : Nat} {W w1 : World} (hb : Kept wb y W w1) : (∀ b o, b < W.heap.size → b ≠ wb → b ≠ y → w1.cell? ⟨b, o, none⟩ = W.cell? ⟨b, o, none⟩) ∧ (∀ b o, b < W.heap.size → b ≠ wb → b ≠ y → w1.frozen? ⟨b, o, none⟩ = W.frozen? ⟨b, o, none⟩) :=
  ⟨fun b o h h1 h2 => World.cell?_of_block (w := W) (a := ⟨b, o, none⟩) (hb.block b h h1 h2), fun b o h h1 h2 => hb.frozen (p := ⟨b, o, none⟩) h h1 h2⟩
set_option maxRecDepth 100000 in
set_option maxHeartbeats 3200000 in
theorem wtake_of (wb y : Nat) (lim win cost N : Int) (a : Bool) (l r t : Int) (Post : World → World → Prop) (w : World) (hwb : wb < w.heap.size) (hy : y < w.heap.size) (hN1 : -9223372036854775808 ≤ N) (hN2 : N ≤ 9223372036854775807)
    (hT : Hid (∀ W, Below w.heap.size w W → Calls Try.prog 38 #[.pointer (some ⟨wb, 0, none⟩), .agg #[.int .u8 0, .int .i64 lim, .int .i64 win, .int .i64 0, .int .u8 0, .int .i64 0, .int .i64 0, .int .i64 0], .int .i64 cost, .int .i64 0, .agg #[.int .u64 (tN N), .int .i64 (tS N), .pointer none]] W fun e w' =>
      e = .returned (.agg #[.bool a, .int .i64 l, .int .i64 r, .int .i64 t]) ∧ Kept wb y W w' ∧ Post W w')) :
    Calls Try.prog 32 #[.pointer (some ⟨wb, 0, none⟩), .agg #[.int .u8 0, .int .i64 lim, .int .i64 win, .int .i64 0, .int .u8 0, .int .i64 0, .int .i64 0, .int .i64 0], .int .i64 cost, .int .i64 0, .int .i64 N] w fun e w' =>
      e = .returned (.tuple #[.bool a, .int .i64 l, .int .i64 r, .int .i64 t]) ∧ Kept wb y w w' ∧
        ∃ W w2 b, Below w.heap.size w W ∧ Post W w2 ∧ w.heap.size ≤ b ∧ (b < W.heap.size ∨ w2.heap.size ≤ b) ∧ ∀ k, k ≠ b → k < w2.heap.size → w'.heap[k]? = w2.heap[k]? := by
  have u1 : w.heap.size ≠ wb := by omega
  have u2 : w.heap.size ≠ y := by omega
  have u3 : w.heap.size + 1 ≠ wb := by omega
  have u4 : w.heap.size + 1 ≠ y := by omega
  go_enter Try.func32, Try.ntmps32
  go_wp2_with fail
  go_region_held3 (fun V => Kept wb y w V ∧ w.heap.size < V.heap.size ∧ V.cell? ⟨w.heap.size, 0, none⟩ = some (.int .u8 0) ∧ V.cell? ⟨w.heap.size, 1, none⟩ = some (.int .i64 lim) ∧ V.cell? ⟨w.heap.size, 2, none⟩ = some (.int .i64 win) ∧ V.cell? ⟨w.heap.size, 3, none⟩ = some (.int .i64 0) ∧ V.cell? ⟨w.heap.size, 4, none⟩ = some (.int .u8 0) ∧ V.cell? ⟨w.heap.size, 5, none⟩ = some (.int .i64 0) ∧ V.cell? ⟨w.heap.size, 6, none⟩ = some (.int .i64 0) ∧ V.cell? ⟨w.heap.size, 7, none⟩ = some (.int .i64 0))
    (first
      | (exact pol_start wb y w lim win)
      | (exact pol_below hwb hy (by assumption) (by assumption))
      | (exact pol_kept hwb hy (by assumption) (by assumption))
      | (exact pol_alloc hwb hy (by assumption))
      | (exact pol_re (Nat.lt_of_lt_of_le hz1 x2.size) (by assumption))
      | (refine pol_set ?_ ?_ ?_ ?_ (by assumption) <;> first | (exact hz1) | (exact Nat.lt_succ_self _)))
    (first
      | (go_at_call 33; refine (at_any N _ hN1 hN2).mono ?_; rintro e w1 ⟨rfl, x1⟩; obtain ⟨hc1, hf1⟩ := bcell x1; have sz1 := x1.size; simp [go_sem] at sz1; have hz1 := Nat.lt_of_succ_le sz1; have BW : Hid (Below w.heap.size w w1) := bgrow (by go_grown) x1; have n5 : w1.heap.size ≠ wb := Nat.ne_of_gt (Nat.lt_of_lt_of_le hwb BW.out.size); have n6 : w1.heap.size ≠ y := Nat.ne_of_gt (Nat.lt_of_lt_of_le hy BW.out.size))
      | (go_at_call 38; refine (hT.out _ ?_).mono ?_; (first | (exact BW.out) | (exact BW.out.alloc BW.out.size _)); rintro e w2 ⟨rfl, x2, x3⟩; obtain ⟨hc2, hf2⟩ := kcell x2))
  all_goals rename_i hH
  all_goals have HH : Hid (Kept wb y w _) := hH.1
  all_goals clear hH
  · go_wp2_with fail
    refine gen_wp _ (fun V => (V.cell? ⟨w2.heap.size, 0, none⟩ = some (.bool a) ∧ V.cell? ⟨w2.heap.size, 1, none⟩ = some (.int .i64 l) ∧ V.cell? ⟨w2.heap.size, 2, none⟩ = some (.int .i64 r) ∧ V.cell? ⟨w2.heap.size, 3, none⟩ = some (.int .i64 t)) ∧ Hid (Kept wb y w V ∧ ∃ W w2 b, Below w.heap.size w W ∧ Post W w2 ∧ w.heap.size ≤ b ∧ (b < W.heap.size ∨ w2.heap.size ≤ b) ∧ ∀ k, k ≠ b → k < w2.heap.size → V.heap[k]? = w2.heap[k]?)) ?_ ?_
    · refine ⟨⟨by simp [go_sem], by simp [go_sem], by simp [go_sem], by simp [go_sem]⟩, HH.out, w1, w2, w2.heap.size, BW.out, x3, Nat.le_trans BW.out.size x2.size, .inr (Nat.le_refl _), fun k h1 h2 => Below.heap_alloc _ _ _ h2⟩
    clear HH x3
    clear hT x1 x2 sz1 BW hc1 hf1 hc2 hf2
    rintro V ⟨⟨c0, c1, c2, c3⟩, HV⟩
    go_quiet (fail)
    have HV2 : Hid (Kept wb y w (V.drewN nq) ∧ ∃ W w2 b, Below w.heap.size w W ∧ Post W w2 ∧ w.heap.size ≤ b ∧ (b < W.heap.size ∨ w2.heap.size ≤ b) ∧ ∀ k, k ≠ b → k < w2.heap.size → (V.drewN nq).heap[k]? = w2.heap[k]?) := ⟨HV.out.1.drewN nq, HV.out.2⟩
    go_wp2_with fail
    exact bodyPost_ret (v := .tuple #[.bool a, .int .i64 l, .int .i64 r, .int .i64 t]) (by simp [results, Try.results32, go_sem]) rfl ⟨rfl, HV2.out⟩
  · go_wp2_with fail
    refine gen_wp _ (fun V => (V.cell? ⟨w1.heap.size, 0, none⟩ = some (.bool a) ∧ V.cell? ⟨w1.heap.size, 1, none⟩ = some (.int .i64 l) ∧ V.cell? ⟨w1.heap.size, 2, none⟩ = some (.int .i64 r) ∧ V.cell? ⟨w1.heap.size, 3, none⟩ = some (.int .i64 t)) ∧ Hid (Kept wb y w V ∧ ∃ W w2 b, Below w.heap.size w W ∧ Post W w2 ∧ w.heap.size ≤ b ∧ (b < W.heap.size ∨ w2.heap.size ≤ b) ∧ ∀ k, k ≠ b → k < w2.heap.size → V.heap[k]? = w2.heap[k]?)) ?_ ?_
    · refine ⟨four_set w2 w1.heap.size a l r t (fun i hi => ?_), HH.out, _, w2, w1.heap.size, BW.out.alloc BW.out.size _, x3, BW.out.size, .inl (by simp), fun k h1 h2 => four_heap _ _ _ _ _ _ _ h1⟩
      have hh : ∃ v, (w1.alloc (.cells #[.bool false, .int .i64 0, .int .i64 0, .int .i64 0] 89)).cell? ⟨w1.heap.size, i, none⟩ = some v := by
        rw [World.cell?_alloc_at _ _ _ _ rfl, Array.getElem?_eq_getElem (by simpa using hi)]; exact ⟨_, rfl⟩
      obtain ⟨v, hv⟩ := hh
      exact ⟨v, x2.cell hv n5 n6⟩
    clear HH x3
    clear hT x1 x2 sz1 BW hc1 hf1 hc2 hf2
    rintro V ⟨⟨c0, c1, c2, c3⟩, HV⟩
    go_quiet (fail)
    have HV2 : Hid (Kept wb y w (V.drewN nq) ∧ ∃ W w2 b, Below w.heap.size w W ∧ Post W w2 ∧ w.heap.size ≤ b ∧ (b < W.heap.size ∨ w2.heap.size ≤ b) ∧ ∀ k, k ≠ b → k < w2.heap.size → (V.drewN nq).heap[k]? = w2.heap[k]?) := ⟨HV.out.1.drewN nq, HV.out.2⟩
    go_wp2_with fail
    exact bodyPost_ret (v := .tuple #[.bool a, .int .i64 l, .int .i64 r, .int .i64 t]) (by simp [results, Try.results32, go_sem]) rfl ⟨rfl, HV2.out⟩
  · go_wp2_with fail
    refine gen_wp _ (fun V => (V.cell? ⟨w.heap.size + 1, 0, none⟩ = some (.bool a) ∧ V.cell? ⟨w.heap.size + 1, 1, none⟩ = some (.int .i64 l) ∧ V.cell? ⟨w.heap.size + 1, 2, none⟩ = some (.int .i64 r) ∧ V.cell? ⟨w.heap.size + 1, 3, none⟩ = some (.int .i64 t)) ∧ Hid (Kept wb y w V ∧ ∃ W w2 b, Below w.heap.size w W ∧ Post W w2 ∧ w.heap.size ≤ b ∧ (b < W.heap.size ∨ w2.heap.size ≤ b) ∧ ∀ k, k ≠ b → k < w2.heap.size → V.heap[k]? = w2.heap[k]?)) ?_ ?_
    · refine ⟨four_set w2 (w.heap.size + 1) a l r t (fun i hi => ?_), HH.out, w1, w2, w.heap.size + 1, BW.out, x3, by omega, .inl hz1, fun k h1 h2 => four_heap _ _ _ _ _ _ _ h1⟩
      have hh : ∃ v, ((w.alloc (.cells #[.int .u8 0, .int .i64 lim, .int .i64 win, .int .i64 0, .int .u8 0, .int .i64 0, .int .i64 0, .int .i64 0] 31)).alloc (.cells #[.bool false, .int .i64 0, .int .i64 0, .int .i64 0] 89)).cell? ⟨w.heap.size + 1, i, none⟩ = some v := by
        rw [World.cell?_alloc_at _ _ _ _ (by simp), Array.getElem?_eq_getElem (by simpa using hi)]; exact ⟨_, rfl⟩
      obtain ⟨v, hv⟩ := hh
      exact ⟨v, x2.cell (cell_later x1 hv) u3 u4⟩
    clear HH x3
    clear hT x1 x2 sz1 BW hc1 hf1 hc2 hf2
    rintro V ⟨⟨c0, c1, c2, c3⟩, HV⟩
    go_quiet (fail)
    have HV2 : Hid (Kept wb y w (V.drewN nq) ∧ ∃ W w2 b, Below w.heap.size w W ∧ Post W w2 ∧ w.heap.size ≤ b ∧ (b < W.heap.size ∨ w2.heap.size ≤ b) ∧ ∀ k, k ≠ b → k < w2.heap.size → (V.drewN nq).heap[k]? = w2.heap[k]?) := ⟨HV.out.1.drewN nq, HV.out.2⟩
    go_wp2_with fail
    exact bodyPost_ret (v := .tuple #[.bool a, .int .i64 l, .int .i64 r, .int .i64 t]) (by simp [results, Try.results32, go_sem]) rfl ⟨rfl, HV2.out⟩
end Go.Proofs.Qxb6613076a
