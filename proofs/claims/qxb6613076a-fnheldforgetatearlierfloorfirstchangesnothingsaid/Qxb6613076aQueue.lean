/-
  The queue of held keys: Less reads two forget times; ZZnewForgetQueue lays one held key a number.
-/
import Derived.Test.Qxb6613076aTime3
import Derived.Deep.LoopGhost
import Derived.Deep.OwnRows
namespace Go.Proofs.Qxb6613076a
open Go.RowKit Go.Deep
theorem below_drew {w w' : World} (h : Below w.drew.heap.size w.drew w') : Below w.heap.size w w' := ⟨h.os, h.tape, h.output, h.size, h.block⟩
/-- A held's 'forget' reads N. -/
def forgetAt (w : World) (b : Nat) (N : Int) : Prop :=
  w.cell? ⟨b, 3, none⟩ = some (.int .u64 (tN N)) ∧ w.cell? ⟨b, 4, none⟩ = some (.int .i64 (tS N)) ∧ w.cell? ⟨b, 5, none⟩ = some (.pointer none)
theorem forgetAt.later {w w' : World} {b : Nat} {N : Int} (h : forgetAt w b N) (hb : Below w.heap.size w w') : forgetAt w' b N :=
  ⟨cell_later hb h.1, cell_later hb h.2.1, cell_later hb h.2.2⟩
set_option maxHeartbeats 800000 in
theorem less_any (qb qo n c i j bi bj : Nat) (N M : Int) (w : World) (hi : (i : Int) < (n : Int)) (hj : (j : Int) < (n : Int))
    (ci : w.cell? ⟨qb, qo + i, none⟩ = some (.pointer (some ⟨bi, 0, none⟩))) (cj : w.cell? ⟨qb, qo + j, none⟩ = some (.pointer (some ⟨bj, 0, none⟩))) (fi : forgetAt w bi N) (fj : forgetAt w bj M) :
    Calls Try.prog 19 #[.slice (some ⟨qb, qo, none⟩) n c, .int .i64 i, .int .i64 j] w fun e w' => e = .returned (.bool (decide (N < M))) ∧ Below w.heap.size w w' := by
  obtain ⟨i0, i1, i2⟩ := fi
  obtain ⟨j0, j1, j2⟩ := fj
  go_enter Try.func19, Try.ntmps19
  go_wp2
  go_region_held3 (fun w' => w'.cell? ⟨qb, qo + i, none⟩ = some (.pointer (some ⟨bi, 0, none⟩)) ∧ w'.cell? ⟨qb, qo + j, none⟩ = some (.pointer (some ⟨bj, 0, none⟩)) ∧
      w'.cell? ⟨bi, 3, none⟩ = some (.int .u64 (tN N)) ∧ w'.cell? ⟨bi, 4, none⟩ = some (.int .i64 (tS N)) ∧ w'.cell? ⟨bi, 5, none⟩ = some (.pointer none) ∧
      w'.cell? ⟨bj, 3, none⟩ = some (.int .u64 (tN M)) ∧ w'.cell? ⟨bj, 4, none⟩ = some (.int .i64 (tS M)) ∧ w'.cell? ⟨bj, 5, none⟩ = some (.pointer none))
    (first | (exact ⟨ci, cj, i0, i1, i2, j0, j1, j2⟩) | (exact ⟨cell_later a4 ci, cell_later a4 cj, cell_later a4 i0, cell_later a4 i1, cell_later a4 i2, cell_later a4 j0, cell_later a4 j1, cell_later a4 j2⟩))
    (first
      | (go_at_call 36; refine (before_tm N M _).mono ?_; rintro e w' ⟨rfl, a4⟩))
  go_wp2
  go_ret
  exact ⟨rfl, below_drew a4⟩

theorem Try.info24 : (Try.prog.info? 24).map (fun i => (i.zero, i.size, i.bytes)) = some (some (.pointer none), 1, 8) := by kernel_rfl

/-- A queue under way: r of its n places are filled. -/
structure QInv (w wr : World) (n r : Nat) (zs : Nat → Int) : Prop where
  below : Below w.heap.size w wr
  size : w.heap.size < wr.heap.size
  row : ∀ j, j < n → (∃ v, wr.cell? ⟨w.heap.size, j, none⟩ = some v) ∧ wr.frozen? ⟨w.heap.size, j, none⟩ = false
  done : ∀ j, j < r → ∃ hb, w.heap.size < hb ∧ wr.cell? ⟨w.heap.size, j, none⟩ = some (.pointer (some ⟨hb, 0, none⟩)) ∧ forgetAt wr hb (zs j)

theorem QInv.start (w : World) (n : Nat) (zs : Nat → Int) : QInv w (w.alloc (.cells (madeCells #[.pointer none] n) 24)) n 0 zs where
  below := by go_grown
  size := by simp
  row := fun j hj => by
    rw [World.cell?_alloc_at _ _ _ _ rfl, World.frozen?_alloc_at _ _ _ _ rfl]
    exact ⟨⟨_, Array.getElem?_eq_getElem (by rw [size_madeCells]; exact hj)⟩, rfl⟩
  done := fun j hj => by omega
theorem forgetAt.alloc {w : World} {b : Nat} {N : Int} (h : forgetAt w b N) (o : Obj) : forgetAt (w.alloc o) b N :=
  h.later ((Below.refl _ _).alloc (Nat.le_refl _) _)
theorem forgetAt.setCell {w : World} {b : Nat} {N : Int} (h : forgetAt w b N) (p : Addr) (hp : p.block ≠ b) (v : Value) : forgetAt (w.setCell p v) b N := by
  obtain ⟨h0, h1, h2⟩ := h
  refine ⟨?_, ?_, ?_⟩ <;> rw [World.cell?_setCell_far _ _ _ _ hp] <;> assumption
theorem QInv.step {w wr w1 : World} {n r : Nat} {zs : Nat → Int} (h : QInv w wr n r zs) (hr : r < n) (hb : Below wr.heap.size wr w1) (c0 c1 c2 c6 : Value) :
    QInv w ((w1.setCell ⟨w.heap.size, r, none⟩ (.pointer (some ⟨w1.heap.size, 0, none⟩))).alloc (.cells #[c0, c1, c2, .int .u64 (tN (zs r)), .int .i64 (tS (zs r)), .pointer none, c6] 71)) n (r + 1) zs := by
  have hs := h.size
  have hs1 := hb.size
  have hst : ∀ j, j < n → (∃ v, w1.cell? ⟨w.heap.size, j, none⟩ = some v) := fun j hj => by
    obtain ⟨v, hv⟩ := (h.row j hj).1
    exact ⟨v, cell_later hb hv⟩
  refine ⟨?_, by simp; omega, fun j hj => ⟨?_, ?_⟩, fun j hj => ?_⟩
  · exact (((h.below.trans (hb.mono (by omega))).setCell (Nat.le_refl _) _).alloc (by simp; omega) _)
  · rw [World.cell?_alloc_past _ _ _ (by simp; omega)]
    by_cases e : j = r
    · subst e
      obtain ⟨v, hv⟩ := hst j hj
      exact ⟨_, World.cell?_setCell_same _ _ _ hv⟩
    · rw [World.cell?_setCell_other _ _ _ _ (fun x => e (by injection x with _ x2 _; exact x2.symm))]
      exact hst j hj
  · rw [World.frozen?_alloc_past _ _ _ (by simp; omega), World.frozen?_setCell, hb.frozen (p := ⟨w.heap.size, j, none⟩) hs]
    exact (h.row j hj).2
  · rw [World.cell?_alloc_past _ _ _ (by simp; omega)]
    by_cases e : j = r
    · subst e
      obtain ⟨v, hv⟩ := hst j hr
      refine ⟨w1.heap.size, by omega, World.cell?_setCell_same _ _ _ hv, ?_, ?_, ?_⟩ <;> rw [World.cell?_alloc_at _ _ _ _ (by simp)] <;> rfl
    · obtain ⟨b, hb0, hb1, hb2⟩ := h.done j (by omega)
      refine ⟨b, hb0, ?_, ((hb2.later hb).setCell _ (fun x => by simp at x; omega) _).alloc _⟩
      rw [World.cell?_setCell_other _ _ _ _ (fun x => e (by injection x with _ x2 _; exact x2.symm))]
      exact cell_later hb hb1

set_option maxHeartbeats 800000 in
theorem newq_any (b o n c : Nat) (zs : Nat → Int) (w : World) (hn : n ≤ 65536) (hz : ∀ j, -9223372036854775808 ≤ zs j ∧ zs j ≤ 9223372036854775807)
    (hc : ∀ j, j < n → w.cell? ⟨b, o + j, none⟩ = some (.int .i64 (zs j))) :
    Calls Try.prog 18 #[.slice (some ⟨b, o, none⟩) n c] w fun e w' => e = .returned (.slice (some ⟨w.heap.size, 0, none⟩) n n) ∧ QInv w w' n n zs := by
  have hmk := run_make_row' (P := Try.prog) 38 24 (.pointer none) 8 Try.underlying38 Try.info24 rfl .i64 .i64 n (by omega) (by omega)
  have HC : Hid (∀ j, j < n → w.cell? ⟨b, o + j, none⟩ = some (.int .i64 (zs j))) := hc
  have HZ : Hid (∀ j, -9223372036854775808 ≤ zs j ∧ zs j ≤ 9223372036854775807) := hz
  clear hc hz
  go_enter Try.func18, Try.ntmps18
  go_wp2
  clear hmk
  go_loopg [10] n (fun g i wr => ∃ r : Nat, r ≤ n ∧ g = n - r ∧ i = .int .i64 r ∧ QInv w wr n r zs)
  case atStart => exact ⟨0, Nat.zero_le _, rfl, rfl, QInv.start w n zs⟩
  case round =>
    obtain ⟨r, hr, rfl, rfl, hQ⟩ := hrel
    by_cases hlt : r < n
    · have hlz : (r : Int) < (n : Int) := by omega
      have k0 : wr.cell? ⟨b, o + r, none⟩ = some (.int .i64 (zs r)) := cell_later hQ.below (HC.out r hlt)
      have kz := HZ.out r
      have HQ : Hid (QInv w wr n r zs) := hQ
      clear hQ
      go_wp2_with fail
      refine (at_any (zs r) _ kz.1 kz.2).mono ?_
      rintro e w1 ⟨rfl, hb1⟩
      have HB1 : Hid (Below wr.heap.size wr w1) := hb1
      obtain ⟨v0, hv0⟩ := (HQ.out.row r hlt).1
      have c1 : w1.cell? ⟨w.heap.size, r, none⟩ = some v0 := cell_later hb1 hv0
      have s1 : w.heap.size < w1.heap.size := Nat.lt_of_lt_of_le HQ.out.size hb1.size
      have f1 : w1.frozen? ⟨w.heap.size, r, none⟩ = false := by
        rw [hb1.frozen (p := ⟨w.heap.size, r, none⟩) HQ.out.size]; exact (HQ.out.row r hlt).2
      clear hv0 hb1
      go_wp2
      go_roundg (n - (r + 1))
      case measure => omega
      case rel => exact ⟨r + 1, by omega, rfl, by go_num, HQ.out.step hlt HB1.out _ _ _ _⟩
    · go_wp2
      go_ret
      obtain rfl : r = n := by omega
      exact ⟨rfl, hQ⟩
end Go.Proofs.Qxb6613076a
