/-
  window.take at a window that no take has reached: admitted.
-/
import Derived.Test.Qxb6613076aWinB
namespace Go.Proofs.Qxb6613076a
open Go.RowKit
set_option maxRecDepth 100000 in
set_option maxHeartbeats 16000000 in
theorem take_fresh (wb : Nat) (lim win N : Int) (w : World) (h1 : 1 ≤ lim) (h2 : lim ≤ 9223372036854775807)
    (c0 : w.cell? ⟨wb, 0, none⟩ = some (.slice none 0 0)) (c1 : w.cell? ⟨wb, 1, none⟩ = some (.int .u64 0)) (c2 : w.cell? ⟨wb, 2, none⟩ = some (.int .u64 0))
    (f0 : w.frozen? ⟨wb, 0, none⟩ = false) (f1 : w.frozen? ⟨wb, 1, none⟩ = false) (f2 : w.frozen? ⟨wb, 2, none⟩ = false) (hwb : wb < w.heap.size) :
    Calls Try.prog 38 #[.pointer (some ⟨wb, 0, none⟩), .agg #[.int .u8 0, .int .i64 lim, .int .i64 win, .int .i64 0, .int .u8 0, .int .i64 0, .int .i64 0, .int .i64 0], .int .i64 lim, .int .i64 0, .agg #[.int .u64 (tN N), .int .i64 (tS N), .pointer none]] w fun e w' =>
      e = .returned (.agg #[.bool true, .int .i64 lim, .int .i64 0, .int .i64 0]) ∧ Kept wb wb w w' ∧ ∃ g c, w.heap.size ≤ g ∧ Win1 w' wb g c N lim := by
  have b1 : wb < w.heap.size + 1 := by omega
  have b2 : wb < w.heap.size + 1 + 1 := by omega
  have b3 : wb < w.heap.size + 1 + 1 + 1 := by omega
  go_enter Try.func38, Try.ntmps38
  go_wp2_with fail
  go_quiet (fail)
  go_wp2_with (first | (go_at_call 55; refine (search0 _ _).mono ?_; rintro e w1 ⟨rfl, rfl⟩))
  have b4 : wb < w.heap.size + 1 + 1 + 1 + 1 := by omega
  have b5 : wb < w.heap.size + 1 + 1 + 1 + 1 + 1 := by omega
  go_quiet (fail)
  go_wp2_with fail
  refine gen_wp _ (fun W => W.cell? ⟨w.heap.size, 0, none⟩ = some (.pointer (some ⟨wb, 0, none⟩)) ∧ W.cell? ⟨wb, 0, none⟩ = some (.slice none 0 0) ∧ W.cell? ⟨wb, 1, none⟩ = some (.int .u64 lim) ∧ W.cell? ⟨wb, 2, none⟩ = some (.int .u64 0) ∧
      W.cell? ⟨w.heap.size + 1 + 1 + 1 + 1, 0, none⟩ = some (.int .i64 0) ∧ W.cell? ⟨w.heap.size + 1 + 1, 0, none⟩ = some (.int .u64 (tN N)) ∧ W.cell? ⟨w.heap.size + 1 + 1, 1, none⟩ = some (.int .i64 (tS N)) ∧ W.cell? ⟨w.heap.size + 1 + 1, 2, none⟩ = some (.pointer none) ∧
      (W.frozen? ⟨wb, 0, none⟩ = false ∧ W.frozen? ⟨wb, 1, none⟩ = false ∧ W.frozen? ⟨wb, 2, none⟩ = false) ∧ W.cell? ⟨w.heap.size + 1, 1, none⟩ = some (.int .i64 lim) ∧
      (W.cell? ⟨w.heap.size + 1 + 1 + 1, 0, none⟩ = some (.bool false) ∧ W.cell? ⟨w.heap.size + 1 + 1 + 1, 1, none⟩ = some (.int .i64 0) ∧ W.cell? ⟨w.heap.size + 1 + 1 + 1, 2, none⟩ = some (.int .i64 0) ∧ W.cell? ⟨w.heap.size + 1 + 1 + 1, 3, none⟩ = some (.int .i64 0)) ∧
      (W.frozen? ⟨w.heap.size + 1 + 1 + 1, 0, none⟩ = false ∧ W.frozen? ⟨w.heap.size + 1 + 1 + 1, 1, none⟩ = false ∧ W.frozen? ⟨w.heap.size + 1 + 1 + 1, 2, none⟩ = false ∧ W.frozen? ⟨w.heap.size + 1 + 1 + 1, 3, none⟩ = false) ∧
      Hid (W.heap.size = w.heap.size + 6) ∧ Hid (Kept wb wb w W)) ?_ ?_
  · simp only [Hid]
    refine ⟨?_, ?_, ?_, ?_, ?_, ?_, ?_, ?_, ⟨?_, ?_, ?_⟩, ?_, ⟨?_, ?_, ?_, ?_⟩, ⟨?_, ?_, ?_, ?_⟩, ?_, ?_⟩
    all_goals first | (simp [go_sem]; done) | (simp [go_sem, c0, c1, c2, f0, f1, f2, hwb, b1, b2, b3, b4, b5]; done) | skip
    exact (((((((((Kept.refl wb wb w).alloc _).alloc _).alloc _).alloc _).drewN _).alloc _).alloc _).drewN _).setCell ⟨wb, 2, none⟩ _ (.inl rfl) |>.setCell ⟨wb, 1, none⟩ _ (.inl rfl)
  clear c0 c1 c2 f0 f1 f2
  rintro W ⟨d0, d1, d2, d3, d4, d5, d6, d7, ⟨d8, d8a, d8b⟩, d9, ⟨e0, e1, e2, e3⟩, ⟨g0, g1, g2, g3⟩, HS, HB⟩
  have hcap := cap10
  clear b1 b2 b3 b4 b5
  have z0 : wb < W.heap.size := by have := HS.out; omega
  have z1 : wb < W.heap.size + 1 := by omega
  have z2 : w.heap.size < W.heap.size := by have := HS.out; omega
  have z3 : w.heap.size + 1 < W.heap.size := by have := HS.out; omega
  have z4 : w.heap.size + 1 + 1 < W.heap.size := by have := HS.out; omega
  have z5 : w.heap.size + 1 + 1 + 1 < W.heap.size := by have := HS.out; omega
  have z6 : w.heap.size + 1 + 1 + 1 + 1 < W.heap.size := by have := HS.out; omega
  have HF : Hid (FreshV w.heap.size (((W.setCell ⟨wb, 0, none⟩ (.slice (some ⟨W.heap.size + 1, 0, none⟩) 1 ((Question.appendCap 1 0 76).cut (W.tape (W.drawn + 1) (Question.appendCap 1 0 76))))).alloc (.cells #[.int .u64 (tN N), .int .i64 (tS N), .pointer none, .int .u64 lim] 76)).alloc
      (.cells (#[.int .u64 (tN N), .int .i64 (tS N), .pointer none, .int .u64 lim] ++ Builtin.zeroCells #[.int .u64 0, .int .i64 0, .pointer none, .int .u64 0] ((Question.appendCap 1 0 76).cut (W.tape (W.drawn + 1) (Question.appendCap 1 0 76)) - 1)) 76)).drew.drew wb (W.heap.size + 1) ((Question.appendCap 1 0 76).cut (W.tape (W.drawn + 1) (Question.appendCap 1 0 76))) N lim) :=
    fresh_end W w.heap.size wb _ N lim (cut_one _) hwb z5 d1 d2 d3 d8 d8a d8b d9 e0 e1 e2 e3 g0 g1 g2 g3
  have HB' : Hid (Kept wb wb w (((W.setCell ⟨wb, 0, none⟩ (.slice (some ⟨W.heap.size + 1, 0, none⟩) 1 ((Question.appendCap 1 0 76).cut (W.tape (W.drawn + 1) (Question.appendCap 1 0 76))))).alloc (.cells #[.int .u64 (tN N), .int .i64 (tS N), .pointer none, .int .u64 lim] 76)).alloc
      (.cells (#[.int .u64 (tN N), .int .i64 (tS N), .pointer none, .int .u64 lim] ++ Builtin.zeroCells #[.int .u64 0, .int .i64 0, .pointer none, .int .u64 0] ((Question.appendCap 1 0 76).cut (W.tape (W.drawn + 1) (Question.appendCap 1 0 76)) - 1)) 76)).drew.drew) := by
    exact ((((HB.out.setCell ⟨wb, 0, none⟩ _ (.inl rfl)).alloc _).alloc _).drew).drew
  clear e0 e1 e2 e3 g0 g1 g2 g3 d3 d9 d8a d8b
  go_big_region
  generalize (((W.setCell ⟨wb, 0, none⟩ (.slice (some ⟨W.heap.size + 1, 0, none⟩) 1 ((Question.appendCap 1 0 76).cut (W.tape (W.drawn + 1) (Question.appendCap 1 0 76))))).alloc (.cells #[.int .u64 (tN N), .int .i64 (tS N), .pointer none, .int .u64 lim] 76)).alloc
      (.cells (#[.int .u64 (tN N), .int .i64 (tS N), .pointer none, .int .u64 lim] ++ Builtin.zeroCells #[.int .u64 0, .int .i64 0, .pointer none, .int .u64 0] ((Question.appendCap 1 0 76).cut (W.tape (W.drawn + 1) (Question.appendCap 1 0 76)) - 1)) 76)).drew.drew = V at HF HB' ⊢
  generalize (Question.appendCap 1 0 76).cut (W.tape (W.drawn + 1) (Question.appendCap 1 0 76)) = cp at *
  have p1 := HF.out.p1
  obtain ⟨v0, e0⟩ := HF.out.e0
  obtain ⟨v1, e1⟩ := HF.out.e1
  obtain ⟨v2, e2⟩ := HF.out.e2
  obtain ⟨v3, e3⟩ := HF.out.e3
  have g0 := HF.out.g0
  have g1 := HF.out.g1
  have g2 := HF.out.g2
  have g3 := HF.out.g3
  have HK : Hid (w.heap.size ≤ W.heap.size + 1) := by unfold Hid; omega
  have HG : Hid (w.heap.size + 1 + 1 + 1 ≠ W.heap.size + 1) := by unfold Hid; omega
  have HZ : Hid (w.heap.size + 1 + 1 + 1 ≠ wb) := by unfold Hid; omega
  clear d0 d1 d2 d4 d5 d6 d7 d8 z0 z1 z2 z3 z4 z5 z6 hcap HS HB
  go_wp2_with fail
  exact bodyPost_ret (v := .agg #[.bool true, .int .i64 lim, .int .i64 0, .int .i64 0]) (by simp [results, Try.results38, go_sem, e0, e1, e2, e3]) rfl
    ⟨rfl, ((((HB'.out.setCell ⟨w.heap.size + 1 + 1 + 1, 0, none⟩ _ (.inr (.inr (by simp; omega)))).setCell ⟨w.heap.size + 1 + 1 + 1, 1, none⟩ _ (.inr (.inr (by simp; omega)))).setCell ⟨w.heap.size + 1 + 1 + 1, 2, none⟩ _ (.inr (.inr (by simp; omega)))).setCell ⟨w.heap.size + 1 + 1 + 1, 3, none⟩ _ (.inr (.inr (by simp; omega)))),
      _, _, HK.out, ((((HF.out.win.setCell ⟨w.heap.size + 1 + 1 + 1, 0, none⟩ _ HZ.out HG.out).setCell ⟨w.heap.size + 1 + 1 + 1, 1, none⟩ _ HZ.out HG.out).setCell ⟨w.heap.size + 1 + 1 + 1, 2, none⟩ _ HZ.out HG.out).setCell ⟨w.heap.size + 1 + 1 + 1, 3, none⟩ _ HZ.out HG.out)⟩
end Go.Proofs.Qxb6613076a
