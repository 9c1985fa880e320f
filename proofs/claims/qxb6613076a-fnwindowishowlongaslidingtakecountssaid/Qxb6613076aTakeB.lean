/-
  window.take at a window whose one take still counts: refused, to be tried again one nanosecond later.
-/
import Derived.Test.Qxb6613076aWin
namespace Go.Proofs.Qxb6613076a
open Go.RowKit
set_option maxRecDepth 100000 in
set_option maxHeartbeats 3200000 in
theorem take_refused (wb g c : Nat) (lim win M N : Int) (w : World) (h1 : 1 ≤ lim) (h2 : lim ≤ 9223372036854775807) (hw1 : 1 ≤ win) (hw2 : win ≤ 9223372036854775807)
    (hM : -9223372036854775808 ≤ M) (hM' : M ≤ 9223372036854775807) (hN : N = M + win - 1) (H : Win1 w wb g c M lim) :
    Calls Try.prog 38 #[.pointer (some ⟨wb, 0, none⟩), .agg #[.int .u8 0, .int .i64 lim, .int .i64 win, .int .i64 0, .int .u8 0, .int .i64 0, .int .i64 0, .int .i64 0], .int .i64 1, .int .i64 0, .agg #[.int .u64 (tN N), .int .i64 (tS N), .pointer none]] w fun e w' =>
      e = .returned (.agg #[.bool false, .int .i64 lim, .int .i64 0, .int .i64 1]) ∧ Below w.heap.size w w' := by
  have HN : Hid (N = M + win - 1) := hN
  have HW : Hid (Win1 w wb g c M lim) := H
  have c0 := H.takes
  have c1 := H.total
  have c2 := H.expired
  have r0 := H.r0
  have r1 := H.r1
  have r2 := H.r2
  have r3 := H.r3
  have hwb := World.block_lt_of_cell? _ _ c0
  have hg := World.block_lt_of_cell? _ _ r0
  simp only [] at hwb hg
  have b1 : wb < w.heap.size + 1 := by omega
  have b2 : wb < w.heap.size + 1 + 1 := by omega
  have b3 : wb < w.heap.size + 1 + 1 + 1 := by omega
  clear hN H
  go_enter Try.func38, Try.ntmps38
  go_wp2_with fail
  refine gen_wp _ (fun W => Env w.heap.size W wb g c N M lim win ∧ Below w.heap.size w W) ?_ ?_
  · have hb : Below w.heap.size w ((((w.alloc (.cells #[.pointer (some ⟨wb, 0, none⟩)] 60)).alloc (.cells #[.int .u8 0, .int .i64 lim, .int .i64 win, .int .i64 0, .int .u8 0, .int .i64 0, .int .i64 0, .int .i64 0] 31)).alloc (.cells #[.int .u64 (tN N), .int .i64 (tS N), .pointer none] 69)).alloc (.cells #[.bool false, .int .i64 0, .int .i64 0, .int .i64 0] 89)) := by go_grown
    refine ⟨⟨?_, ?_, ?_, ?_, ?_, ?_, ?_, ?_, ?_, ?_, cell_later hb c0, cell_later hb c1, cell_later hb c2, cell_later hb r0, cell_later hb r1, cell_later hb r2, cell_later hb r3, ?_, ?_, ?_, ?_⟩, hb⟩ <;> simp [go_sem]
  clear c0 c1 c2 r0 r1 r2 r3 b1 b2 b3
  rintro W ⟨hE, hB⟩
  have E : Hid (Env w.heap.size W wb g c N M lim win) := hE
  have HB : Hid (Below w.heap.size w W) := hB
  clear hE hB
  have hw0 : IntKind.i64.wrap 0 = 0 := by rw [IntKind.wrap_i64]; omega
  have t1 : decide (N < M) = false := by have := HN.out; simp; omega
  go_region_held3 (fun V => V.cell? ⟨w.heap.size, 0, none⟩ = some (.pointer (some ⟨wb, 0, none⟩)) ∧ V.cell? ⟨w.heap.size + 1 + 1, 0, none⟩ = some (.int .u64 (tN N)) ∧ V.cell? ⟨w.heap.size + 1 + 1, 1, none⟩ = some (.int .i64 (tS N)) ∧ V.cell? ⟨w.heap.size + 1 + 1, 2, none⟩ = some (.pointer none) ∧
      V.cell? ⟨wb, 0, none⟩ = some (.slice (some ⟨g, 0, none⟩) 1 c) ∧ V.cell? ⟨g, 0, none⟩ = some (.int .u64 (tN M)) ∧ V.cell? ⟨g, 1, none⟩ = some (.int .i64 (tS M)) ∧ V.cell? ⟨g, 2, none⟩ = some (.pointer none))
    (first | (exact ⟨E.out.w0, E.out.n0, E.out.n1, E.out.n2, E.out.k0, E.out.k3, E.out.k4, E.out.k5⟩) | (have E1 := E.out.later (bdrew x1); exact ⟨E1.w0, E1.n0, E1.n1, E1.n2, E1.k0, E1.k3, E1.k4, E1.k5⟩))
    (first | (go_at_call 36; refine (before_tm N M _).mono ?_; rintro e w1 ⟨rfl, x1⟩))
  have E1 : Hid (Env w.heap.size w1 wb g c N M lim win) := E.out.later (bdrew x1)
  have HB1 : Hid (Below w.heap.size w w1) := HB.out.trans ((bdrew x1).mono HB.out.size)
  rename_i hx
  clear hx x1 E HB t1
  have y0 := E1.out.w0
  have y1 := E1.out.k0
  go_wp2_with fail
  have t2 : decide (N < M + win) = true := by have := HN.out; simp; omega
  have L1 := lit1 (w.heap.size + 1 + 1) w.heap.size wb g c (w.heap.size + 1) N M win w1 E1.out.n0 E1.out.n1 E1.out.n2 E1.out.w0 E1.out.k0 E1.out.k3 E1.out.k4 E1.out.k5 E1.out.p2 (by omega) (by omega) (by omega) (by omega)
  rw [t2] at L1
  refine (search1 _ _ _ true w1 L1).mono ?_
  rintro e w2 ⟨rfl, x2⟩
  clear L1 t2
  have E2 : Hid (Env w.heap.size w2 wb g c N M lim win) := E1.out.later x2
  have HB2 : Hid (Below w.heap.size w w2) := HB1.out.trans (x2.mono HB1.out.size)
  clear y0 y1 E1 HB1 x2
  have y0 := E2.out.w0
  have y1 := E2.out.k0
  have y2 := E2.out.k2
  have y3 := World.block_lt_of_cell? _ _ y0
  have y4 := World.block_lt_of_cell? _ _ y1
  simp only [] at y3 y4
  have y5 : w.heap.size < w2.heap.size + 1 := by omega
  have y6 : wb < w2.heap.size + 1 := by omega
  simp only [pick01]
  go_wp2_with fail
  refine gen_wp _ (fun V => Env w.heap.size V wb g c N M lim win ∧ Below w.heap.size w V ∧ V.cell? ⟨w2.heap.size, 0, none⟩ = some (.int .i64 0) ∧ V.cell? ⟨w2.heap.size + 1, 0, none⟩ = some (.int .u64 0) ∧ w2.heap.size + 1 < V.heap.size) ?_ ?_
  · have hb : Below w2.heap.size w2 ((w2.alloc (.cells #[.int .i64 0] 3)).alloc (.cells #[.int .u64 0] 42)) := by go_grown
    exact ⟨E2.out.later hb, HB2.out.trans (hb.mono HB2.out.size), by simp [go_sem], by simp [go_sem], by simp⟩
  generalize w2.heap.size = S
  clear y0 y1 y2 y3 y4 y5 y6 E2 HB2
  rintro V ⟨hE, hB, s0, s1, s2⟩
  have E : Hid (Env w.heap.size V wb g c N M lim win) := hE
  have HB : Hid (Below w.heap.size w V) := hB
  clear hE hB
  have y0 := E.out.w0
  have y1 := E.out.k1
  have y2 := E.out.p1
  go_quiet (fail)
  clear y0 y1 y2
  have D : Below V.heap.size V (V.drewN nq) := below_drewN (Below.refl _ _) nq
  have E' : Hid (Env w.heap.size (V.drewN nq) wb g c N M lim win) := E.out.later D
  have HB' : Hid (Below w.heap.size w (V.drewN nq)) := HB.out.trans (D.mono HB.out.size)
  replace s0 : (V.drewN nq).cell? ⟨S, 0, none⟩ = some (.int .i64 0) := s0
  replace s1 : (V.drewN nq).cell? ⟨S + 1, 0, none⟩ = some (.int .u64 0) := s1
  replace s2 : S + 1 < (V.drewN nq).heap.size := s2
  clear D E HB
  generalize V.drewN nq = U at *
  have y2 := E'.out.p1
  go_wp2_with fail
  refine gen_wp _ (fun V => Env w.heap.size V wb g c N M lim win ∧ Below w.heap.size w V ∧ V.cell? ⟨S, 0, none⟩ = some (.int .i64 0) ∧ V.cell? ⟨S + 1, 0, none⟩ = some (.int .u64 0) ∧ V.cell? ⟨U.heap.size, 0, none⟩ = some (.int .u64 1)) ?_ ?_
  · have hb : Below U.heap.size U (U.alloc (.cells #[.int .u64 1] 42)) := by go_grown
    exact ⟨E'.out.later hb, HB'.out.trans (hb.mono HB'.out.size), cell_later hb s0, cell_later hb s1, by simp [go_sem]⟩
  generalize U.heap.size = T
  clear y2 s0 s1 s2 E' HB'
  rintro X ⟨hE, hB, s0, s1, s2⟩
  have E : Hid (Env w.heap.size X wb g c N M lim win) := hE
  have HB : Hid (Below w.heap.size w X) := hB
  have L2 : Hid (Calls Try.prog 57 #[.int .i64 0, .pointer (some ⟨w.heap.size, 0, none⟩), .pointer (some ⟨S, 0, none⟩), .pointer (some ⟨S + 1, 0, none⟩), .pointer (some ⟨T, 0, none⟩)] X.drew fun e w' => e = .returned (.bool true) ∧ Below X.drew.heap.size X.drew w') :=
    lit2 w.heap.size wb g c S (S + 1) T lim X.drew h1 h2 hE.w0 hE.k0 s0 hE.k6 s1 s2
  clear hE hB s2
  go_region_held3 (fun V => V.cell? ⟨w.heap.size, 0, none⟩ = some (.pointer (some ⟨wb, 0, none⟩)) ∧ V.cell? ⟨wb, 0, none⟩ = some (.slice (some ⟨g, 0, none⟩) 1 c) ∧ V.cell? ⟨S, 0, none⟩ = some (.int .i64 0))
    (first | (exact ⟨E.out.w0, E.out.k0, s0⟩) | (exact ⟨cell_later x1 E.out.w0, cell_later x1 E.out.k0, cell_later x1 s0⟩))
    (first | (go_at_call 55; refine (search2 _ _ _ _ true _ L2).mono ?_; rintro e w3 ⟨rfl, x1⟩))
  rename_i hx
  have E3 : Hid (Env w.heap.size w3 wb g c N M lim win) := E.out.later (bdrew x1)
  have HB3 : Hid (Below w.heap.size w w3) := HB.out.trans ((bdrew x1).mono HB.out.size)
  clear hx x1 E HB L2 s0 s1
  simp only [pick01]
  go_wp2_with fail
  have hcl : clampD (M + win - N) = 1 := by
    have := HN.out
    have e : M + win - N = 1 := by omega
    rw [e]; rfl
  have hN1 : -100000000000000000000 ≤ N := by have := HN.out; omega
  have hN2 : N ≤ 100000000000000000000 := by have := HN.out; omega
  go_region_held3 (fun V => V.cell? ⟨w.heap.size, 0, none⟩ = some (.pointer (some ⟨wb, 0, none⟩)) ∧ V.cell? ⟨w.heap.size + 1, 1, none⟩ = some (.int .i64 lim) ∧ V.cell? ⟨w.heap.size + 1, 2, none⟩ = some (.int .i64 win) ∧ V.cell? ⟨w.heap.size + 1 + 1, 0, none⟩ = some (.int .u64 (tN N)) ∧ V.cell? ⟨w.heap.size + 1 + 1, 1, none⟩ = some (.int .i64 (tS N)) ∧ V.cell? ⟨w.heap.size + 1 + 1, 2, none⟩ = some (.pointer none) ∧
      V.cell? ⟨wb, 0, none⟩ = some (.slice (some ⟨g, 0, none⟩) 1 c) ∧ V.cell? ⟨g, 0, none⟩ = some (.int .u64 (tN M)) ∧ V.cell? ⟨g, 1, none⟩ = some (.int .i64 (tS M)) ∧ V.cell? ⟨g, 2, none⟩ = some (.pointer none))
    (first | (exact ⟨E3.out.w0, E3.out.p1, E3.out.p2, E3.out.n0, E3.out.n1, E3.out.n2, E3.out.k0, E3.out.k3, E3.out.k4, E3.out.k5⟩) | (exact ⟨E4.out.w0, E4.out.p1, E4.out.p2, E4.out.n0, E4.out.n1, E4.out.n2, E4.out.k0, E4.out.k3, E4.out.k4, E4.out.k5⟩) | (exact ⟨E5.out.w0, E5.out.p1, E5.out.p2, E5.out.n0, E5.out.n1, E5.out.n2, E5.out.k0, E5.out.k3, E5.out.k4, E5.out.k5⟩) | (simp [go_sem, E5.out.w0, E5.out.p1, E5.out.p2, E5.out.n0, E5.out.n1, E5.out.n2, E5.out.k0, E5.out.k3, E5.out.k4, E5.out.k5]; done))
    (first
      | (go_at_call 39; refine (add_tm M win _ (by omega) (by omega) (by omega) (by omega)).mono ?_; rintro e w4 ⟨rfl, x4⟩; have E4 : Hid (Env w.heap.size w4 wb g c N M lim win) := E3.out.later (bdrew x4))
      | (go_at_call 40; refine (sub_tm (M + win) N _ (by omega) (by omega) hN1 hN2).mono ?_; rintro e w5 ⟨rfl, x5⟩; have E5 : Hid (Env w.heap.size w5 wb g c N M lim win) := E4.out.later x5; have e0 := E5.out.e0; have e1 := E5.out.e1; have e2 := E5.out.e2; have e3 := E5.out.e3; have g0 := E5.out.g0; have g1 := E5.out.g1; have g2 := E5.out.g2; have g3 := E5.out.g3))
  rename_i hx
  have HB5 : Hid (Below w.heap.size w w5) := (HB3.out.trans ((bdrew x4).mono HB3.out.size)).trans (x5.mono (Nat.le_trans HB3.out.size x4.size))
  clear hx x4 x5 E3 E4 E5 HB3
  go_wp2_with fail
  exact bodyPost_ret (v := .agg #[.bool false, .int .i64 lim, .int .i64 0, .int .i64 1]) (by simp [results, Try.results38, go_sem, e0, e1, e2, e3]) rfl
    ⟨rfl, ((((HB5.out.setCell (p := ⟨w.heap.size + 1 + 1 + 1, 0, none⟩) (by simp; omega) _).setCell (p := ⟨w.heap.size + 1 + 1 + 1, 1, none⟩) (by simp; omega) _).setCell (p := ⟨w.heap.size + 1 + 1 + 1, 2, none⟩) (by simp; omega) _).setCell (p := ⟨w.heap.size + 1 + 1 + 1, 3, none⟩) (by simp; omega) _)⟩
end Go.Proofs.Qxb6613076a
