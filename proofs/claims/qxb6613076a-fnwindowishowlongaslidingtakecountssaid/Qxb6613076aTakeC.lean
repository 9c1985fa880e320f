/-
  window.take once its one take has stopped counting, no spare room behind it: admitted.
-/
import Derived.Test.Qxb6613076aWinB
import Derived.Deep.CutBlock
import Derived.Deep.DeepCutAuto
namespace Go.Proofs.Qxb6613076a
open Go.RowKit
set_option maxRecDepth 100000 in
set_option maxHeartbeats 16000000 in
theorem take_expired_full (wb g : Nat) (lim win M N : Int) (w : World) (h1 : 1 ≤ lim) (h2 : lim ≤ 9223372036854775807) (hw1 : 1 ≤ win) (hw2 : win ≤ 9223372036854775807)
    (hM : -9223372036854775808 ≤ M) (hM' : M ≤ 9223372036854775807) (hN : N = M + win) (H : Win1 w wb g 1 M lim) :
    Calls Try.prog 38 #[.pointer (some ⟨wb, 0, none⟩), .agg #[.int .u8 0, .int .i64 lim, .int .i64 win, .int .i64 0, .int .u8 0, .int .i64 0, .int .i64 0, .int .i64 0], .int .i64 1, .int .i64 0, .agg #[.int .u64 (tN N), .int .i64 (tS N), .pointer none]] w fun e w' =>
      e = .returned (.agg #[.bool true, .int .i64 lim, .int .i64 (lim - 1), .int .i64 0]) ∧ Kept wb g w w' := by
  have HN : Hid (N = M + win) := hN
  have HW : Hid (Win1 w wb g 1 M lim) := H
  have c0 := H.takes
  have c1 := H.total
  have c2 := H.expired
  have r0 := H.r0
  have r1 := H.r1
  have r2 := H.r2
  have r3 := H.r3
  have hwb := World.block_lt_of_cell? _ _ c0
  have hg := World.block_lt_of_cell? _ _ r0
  simp only [] at hwb hg
  have b1 : wb < w.heap.size + 1 := by omega
  have b2 : wb < w.heap.size + 1 + 1 := by omega
  have b3 : wb < w.heap.size + 1 + 1 + 1 := by omega
  clear hN H
  go_enter Try.func38, Try.ntmps38
  go_wp2_with fail
  refine gen_wp _ (fun W => Env w.heap.size W wb g 1 N M lim win ∧ Below w.heap.size w W) ?_ ?_
  · have hb : Below w.heap.size w ((((w.alloc (.cells #[.pointer (some ⟨wb, 0, none⟩)] 60)).alloc (.cells #[.int .u8 0, .int .i64 lim, .int .i64 win, .int .i64 0, .int .u8 0, .int .i64 0, .int .i64 0, .int .i64 0] 31)).alloc (.cells #[.int .u64 (tN N), .int .i64 (tS N), .pointer none] 69)).alloc (.cells #[.bool false, .int .i64 0, .int .i64 0, .int .i64 0] 89)) := by go_grown
    refine ⟨⟨?_, ?_, ?_, ?_, ?_, ?_, ?_, ?_, ?_, ?_, cell_later hb c0, cell_later hb c1, cell_later hb c2, cell_later hb r0, cell_later hb r1, cell_later hb r2, cell_later hb r3, ?_, ?_, ?_, ?_⟩, hb⟩ <;> simp [go_sem]
  clear c0 c1 c2 r0 r1 r2 r3 b1 b2 b3
  rintro W ⟨hE, hB⟩
  have E : Hid (Env w.heap.size W wb g 1 N M lim win) := hE
  have HB : Hid (Below w.heap.size w W) := hB
  clear hE hB
  have hw0 : IntKind.i64.wrap 0 = 0 := by rw [IntKind.wrap_i64]; omega
  have t1 : decide (N < M) = false := by have := HN.out; simp; omega
  go_region_held3 (fun V => V.cell? ⟨w.heap.size, 0, none⟩ = some (.pointer (some ⟨wb, 0, none⟩)) ∧ V.cell? ⟨w.heap.size + 1 + 1, 0, none⟩ = some (.int .u64 (tN N)) ∧ V.cell? ⟨w.heap.size + 1 + 1, 1, none⟩ = some (.int .i64 (tS N)) ∧ V.cell? ⟨w.heap.size + 1 + 1, 2, none⟩ = some (.pointer none) ∧
      V.cell? ⟨wb, 0, none⟩ = some (.slice (some ⟨g, 0, none⟩) 1 1) ∧ V.cell? ⟨g, 0, none⟩ = some (.int .u64 (tN M)) ∧ V.cell? ⟨g, 1, none⟩ = some (.int .i64 (tS M)) ∧ V.cell? ⟨g, 2, none⟩ = some (.pointer none))
    (first | (exact ⟨E.out.w0, E.out.n0, E.out.n1, E.out.n2, E.out.k0, E.out.k3, E.out.k4, E.out.k5⟩) | (have E1 := E.out.later (bdrew x1); exact ⟨E1.w0, E1.n0, E1.n1, E1.n2, E1.k0, E1.k3, E1.k4, E1.k5⟩))
    (first | (go_at_call 36; refine (before_tm N M _).mono ?_; rintro e w1 ⟨rfl, x1⟩))
  have E1 : Hid (Env w.heap.size w1 wb g 1 N M lim win) := E.out.later (bdrew x1)
  have HB1 : Hid (Below w.heap.size w w1) := HB.out.trans ((bdrew x1).mono HB.out.size)
  rename_i hx
  clear hx x1 E HB t1
  have y0 := E1.out.w0
  have y1 := E1.out.k0
  go_wp2_with fail
  have t2 : decide (N < M + win) = false := by have := HN.out; simp; omega
  have L1 := lit1 (w.heap.size + 1 + 1) w.heap.size wb g 1 (w.heap.size + 1) N M win w1 E1.out.n0 E1.out.n1 E1.out.n2 E1.out.w0 E1.out.k0 E1.out.k3 E1.out.k4 E1.out.k5 E1.out.p2 (by omega) (by omega) (by omega) (by omega)
  rw [t2] at L1
  refine (search1 _ _ _ false w1 L1).mono ?_
  rintro e w2 ⟨rfl, x2⟩
  clear L1 t2
  have E2 : Hid (Env w.heap.size w2 wb g 1 N M lim win) := E1.out.later x2
  have HB2 : Hid (Below w.heap.size w w2) := HB1.out.trans (x2.mono HB1.out.size)
  clear y0 y1 E1 HB1 x2
  have y0 := E2.out.w0
  have y1 := E2.out.k0
  have y2 := E2.out.k2
  have y3 := World.block_lt_of_cell? _ _ y0
  have y4 := World.block_lt_of_cell? _ _ y1
  simp only [] at y3 y4
  have y5 : w.heap.size < w2.heap.size + 1 := by omega
  have y6 : wb < w2.heap.size + 1 := by omega
  simp only [pick01]
  go_wp2_with fail
  refine gen_wp _ (fun V => Env w.heap.size V wb g 1 N M lim win ∧ Below w.heap.size w V ∧ V.cell? ⟨w2.heap.size, 0, none⟩ = some (.int .i64 1) ∧ V.cell? ⟨w2.heap.size + 1, 0, none⟩ = some (.int .u64 0) ∧ V.frozen? ⟨w2.heap.size + 1, 0, none⟩ = false ∧ w2.heap.size + 1 < V.heap.size ∧ w.heap.size + 1 + 1 + 1 < w2.heap.size) ?_ ?_
  · have hb : Below w2.heap.size w2 ((w2.alloc (.cells #[.int .i64 1] 3)).alloc (.cells #[.int .u64 0] 42)) := by go_grown
    exact ⟨E2.out.later hb, HB2.out.trans (hb.mono HB2.out.size), by simp [go_sem], by simp [go_sem], by simp [go_sem], by simp, World.block_lt_of_cell? _ _ E2.out.e0⟩
  generalize w2.heap.size = S
  clear y0 y1 y2 y3 y4 y5 y6 E2 HB2
  rintro V ⟨hE, hB, s0, s1, s1f, s2, s3⟩
  have E : Hid (Env w.heap.size V wb g 1 N M lim win) := hE
  have HB : Hid (Below w.heap.size w V) := hB
  clear hE hB
  have y0 := E.out.w0
  have y1 := E.out.k0
  have y2 := E.out.k6
  go_region
  have E2 : Hid (Env w.heap.size (V.setCell ⟨S + 1, 0, none⟩ (.int .u64 lim)).drew wb g 1 N M lim win) := by
    have h0 := World.block_lt_of_cell? _ _ E.out.w0
    have E2 := E.out.setCell ⟨S + 1, 0, none⟩ (.int .u64 lim) (fun x => by simp at x; omega) (fun x => by simp at x; omega) (fun x => by simp at x; omega) (fun x => by simp at x; omega) (fun x => by simp at x; omega) (fun x => by simp at x; omega)
    exact E2.later ((Below.refl _ _).drew)
  have HB2 : Hid (Below w.heap.size w (V.setCell ⟨S + 1, 0, none⟩ (.int .u64 lim)).drew) := (HB.out.setCell (p := ⟨S + 1, 0, none⟩) (by simp; omega) _).drew
  have s0' : (V.setCell ⟨S + 1, 0, none⟩ (.int .u64 lim)).drew.cell? ⟨S, 0, none⟩ = some (.int .i64 1) := by
    show (V.setCell ⟨S + 1, 0, none⟩ (.int .u64 lim)).cell? ⟨S, 0, none⟩ = _
    rw [World.cell?_setCell_far _ _ _ _ (by simp)]; exact s0
  have s1' : (V.setCell ⟨S + 1, 0, none⟩ (.int .u64 lim)).drew.cell? ⟨S + 1, 0, none⟩ = some (.int .u64 lim) := by
    show (V.setCell ⟨S + 1, 0, none⟩ (.int .u64 lim)).cell? ⟨S + 1, 0, none⟩ = _
    exact World.cell?_setCell_same _ _ _ s1
  have s2' : S + 1 < (V.setCell ⟨S + 1, 0, none⟩ (.int .u64 lim)).drew.heap.size := by simpa using s2
  clear s0 s1 s1f s2 E HB y0 y1 y2
  generalize (V.setCell ⟨S + 1, 0, none⟩ (.int .u64 lim)).drew = X at *
  have y0 := E2.out.w0
  have y1 := E2.out.k1
  have y2 := E2.out.p1
  go_wp2_with fail
  go_quiet (fail)
  clear y0 y1 y2
  have D : Below X.heap.size X (X.drewN nq) := below_drewN (Below.refl _ _) nq
  have E3 : Hid (Env w.heap.size (X.drewN nq) wb g 1 N M lim win) := E2.out.later D
  have HB3 : Hid (Below w.heap.size w (X.drewN nq)) := HB2.out.trans (D.mono HB2.out.size)
  replace s0' : (X.drewN nq).cell? ⟨S, 0, none⟩ = some (.int .i64 1) := s0'
  replace s1' : (X.drewN nq).cell? ⟨S + 1, 0, none⟩ = some (.int .u64 lim) := s1'
  replace s2' : S + 1 < (X.drewN nq).heap.size := s2'
  clear D E2 HB2
  generalize X.drewN nq = Y at *
  have HF : Hid (Y.frozen? ⟨wb, 1, none⟩ = false ∧ Y.frozen? ⟨wb, 2, none⟩ = false ∧ Y.frozen? ⟨wb, 0, none⟩ = false) := by
    refine ⟨?_, ?_, ?_⟩ <;> rw [HB3.out.frozen hwb]
    · exact HW.out.f1
    · exact HW.out.f2
    · exact HW.out.f0
  obtain ⟨f1, f2, f00⟩ := HF.out
  have y0 := E3.out.w0
  have y1 := E3.out.k1
  have y2 := E3.out.k2
  have y3 := E3.out.p1
  have u1 : w.heap.size ≠ wb := by omega
  have u2 : wb ≠ S + 1 := by omega
  have u3 : S + 1 ≠ wb := by omega
  go_wp2_with fail
  refine gen_wp _ (fun Z => (Z.cell? ⟨w.heap.size, 0, none⟩ = some (.pointer (some ⟨wb, 0, none⟩)) ∧ Z.cell? ⟨wb, 0, none⟩ = some (.slice (some ⟨g, 0, none⟩) 1 1) ∧ Z.cell? ⟨wb, 1, none⟩ = some (.int .u64 (lim + 1)) ∧ Z.cell? ⟨S, 0, none⟩ = some (.int .i64 1) ∧
      Z.cell? ⟨w.heap.size + 1 + 1, 0, none⟩ = some (.int .u64 (tN N)) ∧ Z.cell? ⟨w.heap.size + 1 + 1, 1, none⟩ = some (.int .i64 (tS N)) ∧ Z.cell? ⟨w.heap.size + 1 + 1, 2, none⟩ = some (.pointer none) ∧ Z.frozen? ⟨wb, 0, none⟩ = false ∧ S + 1 < Z.heap.size) ∧
      Hid (Kept wb g w Z ∧ (∃ C, Z.heap[g]? = some (.cells C 76) ∧ C.size = 1 * 4) ∧ Z.cell? ⟨w.heap.size + 1, 1, none⟩ = some (.int .i64 lim) ∧
        (Z.cell? ⟨w.heap.size + 1 + 1 + 1, 0, none⟩ = some (.bool false) ∧ Z.cell? ⟨w.heap.size + 1 + 1 + 1, 1, none⟩ = some (.int .i64 0) ∧ Z.cell? ⟨w.heap.size + 1 + 1 + 1, 2, none⟩ = some (.int .i64 0) ∧ Z.cell? ⟨w.heap.size + 1 + 1 + 1, 3, none⟩ = some (.int .i64 0)) ∧
        (Z.frozen? ⟨w.heap.size + 1 + 1 + 1, 0, none⟩ = false ∧ Z.frozen? ⟨w.heap.size + 1 + 1 + 1, 1, none⟩ = false ∧ Z.frozen? ⟨w.heap.size + 1 + 1 + 1, 2, none⟩ = false ∧ Z.frozen? ⟨w.heap.size + 1 + 1 + 1, 3, none⟩ = false))) ?_ ?_
  · have far : ∀ b o, b ≠ wb → ((Y.setCell ⟨wb, 2, none⟩ (.int .u64 lim)).setCell ⟨wb, 1, none⟩ (.int .u64 (lim + 1))).cell? ⟨b, o, none⟩ = Y.cell? ⟨b, o, none⟩ := fun b o h => by
      rw [World.cell?_setCell_far _ _ _ _ (fun x => h x.symm), World.cell?_setCell_far _ _ _ _ (fun x => h x.symm)]
    have fz : ∀ a, ((Y.setCell ⟨wb, 2, none⟩ (.int .u64 lim)).setCell ⟨wb, 1, none⟩ (.int .u64 (lim + 1))).frozen? a = Y.frozen? a := fun a => by
      rw [World.frozen?_setCell, World.frozen?_setCell]
    have E := E3.out
    have wbg := HW.out.wbg
    refine ⟨⟨?_, ?_, ?_, ?_, ?_, ?_, ?_, ?_, by simpa using s2'⟩, ?_, ?_, ?_, ⟨?_, ?_, ?_, ?_⟩, ?_, ?_, ?_, ?_⟩
    · rw [far _ _ (by omega)]; exact E.w0
    · rw [World.cell?_setCell_other _ _ _ _ (fun x => by injection x with _ x2 _; cases x2), World.cell?_setCell_other _ _ _ _ (fun x => by injection x with _ x2 _; cases x2)]; exact E.k0
    · refine World.cell?_setCell_same _ _ _ (u := .int .u64 lim) ?_
      rw [World.cell?_setCell_other _ _ _ _ (fun x => by injection x with _ x2 _; cases x2)]; exact E.k1
    · rw [far _ _ (by omega)]; exact s0'
    · rw [far _ _ (by omega)]; exact E.n0
    · rw [far _ _ (by omega)]; exact E.n1
    · rw [far _ _ (by omega)]; exact E.n2
    · rw [fz]; exact HF.out.2.2
    · exact ((Kept.of_below HB3.out).setCell ⟨wb, 2, none⟩ _ (.inl rfl)).setCell ⟨wb, 1, none⟩ _ (.inl rfl)
    · obtain ⟨C, k1, k2⟩ := HW.out.block
      refine ⟨C, ?_, k2⟩
      rw [Below.heap_setCell _ _ _ _ (by simp; omega), Below.heap_setCell _ _ _ _ (by simp; omega), HB3.out.block g hg]; exact k1
    · rw [far _ _ (by omega)]; exact E.p1
    · rw [far _ _ (by omega)]; exact E.e0
    · rw [far _ _ (by omega)]; exact E.e1
    · rw [far _ _ (by omega)]; exact E.e2
    · rw [far _ _ (by omega)]; exact E.e3
    · rw [fz]; exact E.g0
    · rw [fz]; exact E.g1
    · rw [fz]; exact E.g2
    · rw [fz]; exact E.g3
  clear y0 y1 y2 y3 u1 u2 u3 E3 HB3 s0' s1' s2' f1 f2
  clear f00 HF
  rintro Z ⟨⟨q0, q1, q2, q3, q4, q5, q6, q7, q8⟩, HZ⟩
  go_cut [5] (fun x wx => x = .pointer (some ⟨w.heap.size, 0, none⟩) ∧ Hid (Kept wb g Z wx))
  case first =>
    as_aux_lemma =>
      generalize tN N = n0 at *
      generalize tS N = s0 at *
      generalize lim + 1 = l1 at *
      have hcap := cap10
      have z0 : wb < Z.heap.size := by omega
      have z1 : wb < Z.heap.size + 1 := by omega
      have z2 : w.heap.size < Z.heap.size := by omega
      have z4 : w.heap.size + 1 + 1 < Z.heap.size := by omega
      have z6 : S < Z.heap.size := by omega
      have HK : Hid (Kept wb g Z (((Z.setCell ⟨wb, 0, none⟩ (.slice (some ⟨Z.heap.size + 1, 0, none⟩) 1 ((Question.appendCap 1 0 76).cut (Z.tape (Z.drawn + 1) (Question.appendCap 1 0 76))))).alloc (.cells #[.int .u64 (n0), .int .i64 (s0), .pointer none, .int .u64 (l1)] 76)).alloc
          (.cells (#[.int .u64 (n0), .int .i64 (s0), .pointer none, .int .u64 (l1)] ++ Builtin.zeroCells #[.int .u64 0, .int .i64 0, .pointer none, .int .u64 0] ((Question.appendCap 1 0 76).cut (Z.tape (Z.drawn + 1) (Question.appendCap 1 0 76)) - 1)) 76)).drew.drew) := by
        exact (((((Kept.refl wb g Z).setCell ⟨wb, 0, none⟩ _ (.inl rfl)).alloc _).alloc _).drew).drew
      go_big_region
      go_wp2_with fail
      go_meet
      exact ⟨rfl, HK.out⟩
  case rest =>
    obtain ⟨rfl, HK⟩ := hcut
    clear q0 q1 q2 q3 q4 q5 q6 q7 q8
    obtain ⟨k0, kb, kp, ⟨e0, e1, e2, e3⟩, g0, g1, g2, g3⟩ := HZ.out
    have zz : w.heap.size + 1 + 1 + 1 < Z.heap.size := World.block_lt_of_cell? _ _ e0
    have n1 : w.heap.size + 1 ≠ wb := by omega
    have n2 : w.heap.size + 1 ≠ g := by omega
    have n3 : w.heap.size + 1 + 1 + 1 ≠ wb := by omega
    have n4 : w.heap.size + 1 + 1 + 1 ≠ g := by omega
    have r1 := HK.out.cell kp n1 n2
    have r2 := HK.out.cell e0 n3 n4
    have r3 := HK.out.cell e1 n3 n4
    have r4 := HK.out.cell e2 n3 n4
    have r5 := HK.out.cell e3 n3 n4
    have r6 := (HK.out.frozen (p := ⟨w.heap.size + 1 + 1 + 1, 0, none⟩) zz n3 n4).trans g0
    have r7 := (HK.out.frozen (p := ⟨w.heap.size + 1 + 1 + 1, 1, none⟩) zz n3 n4).trans g1
    have r8 := (HK.out.frozen (p := ⟨w.heap.size + 1 + 1 + 1, 2, none⟩) zz n3 n4).trans g2
    have r9 := (HK.out.frozen (p := ⟨w.heap.size + 1 + 1 + 1, 3, none⟩) zz n3 n4).trans g3
    have HK2 : Hid (Kept wb g w wc) := k0.trans HK.out
    clear k0 kb kp e0 e1 e2 e3 g0 g1 g2 g3 HK HZ n1 n2 n3 n4 zz
    go_wp2_with fail
    exact bodyPost_ret (v := .agg #[.bool true, .int .i64 lim, .int .i64 (lim - 1), .int .i64 0]) (by simp [results, Try.results38, go_sem, r2, r3, r4, r5]) rfl
      ⟨rfl, ((((HK2.out.setCell ⟨w.heap.size + 1 + 1 + 1, 0, none⟩ _ (.inr (.inr (by simp; omega)))).setCell ⟨w.heap.size + 1 + 1 + 1, 1, none⟩ _ (.inr (.inr (by simp; omega)))).setCell ⟨w.heap.size + 1 + 1 + 1, 2, none⟩ _ (.inr (.inr (by simp; omega)))).setCell ⟨w.heap.size + 1 + 1 + 1, 3, none⟩ _ (.inr (.inr (by simp; omega))))⟩
end Go.Proofs.Qxb6613076a
