/-
  The walk of the law FnForgetQueueLessIsStrictOrderOfForgetTimes, way by way; the copy that every law over slices makes first.
-/
import Derived.Test.Qxb6613076aQueue
import Derived.WalkSmall
namespace Go.Proofs.Qxb6613076a
open Go.RowKit Go.Deep
theorem Try.info2 : (Try.prog.info? 2).map (fun i => (i.zero, i.size, i.bytes)) = some (some (.int .i64 0), 1, 8) := by kernel_rfl
theorem below_cells {B b : Nat} {a : World} (hB : B ≤ b) : ∀ (vs : List Value) (o : Nat) (w : World), Below B a w → Below B a (w.setCells b o vs)
  | [], _, _, h => h
  | v :: r, o, _, h => below_cells hB r (o + 1) _ (h.setCell (p := ⟨b, o, none⟩) hB v)
theorem size_cells (b : Nat) : ∀ (vs : List Value) (o : Nat) (w : World), (w.setCells b o vs).heap.size = w.heap.size
  | [], _, _ => rfl
  | v :: r, o, w => by rw [World.setCells, size_cells b r]; simp
/-- 'zzc := make([]int64, len(xs)); copy(zzc, xs)': the copy lies in a block of its own. -/
theorem copied (w : World) (x : Addr) (n cap : Nat) (z : Nat → Int) (ty : TypeId) (h : ∀ i, i < n → w.cell? (x.add i) = some (.int .i64 (z i))) :
    ∃ w2, (Builtin.copy_ #[22, 22] ty #[.slice (some ⟨w.heap.size, 0, none⟩) n n, .slice (some x) n cap]).run Try.prog (w.alloc (.cells (madeCells #[.int .i64 0] n) 2)) = .ok (goInt n) w2 ∧
      Below w.heap.size w w2 ∧ w2.heap.size = w.heap.size + 1 ∧ ∀ j, j < n → w2.cell? ⟨w.heap.size, j, none⟩ = some (.int .i64 (z j)) := by
  have hst : ∀ j, j < n → ((w.alloc (.cells (madeCells #[.int .i64 0] n) 2)).cell? ⟨w.heap.size, 0 + j, none⟩).isSome = true := fun j hj => by
    rw [World.cell?_alloc_at _ _ _ _ rfl, Nat.zero_add, Array.getElem?_eq_getElem (by rw [size_madeCells]; exact hj)]; rfl
  have hl : ((List.range n).map fun i => Value.int .i64 (z i)).length = n := by simp
  have r := run_copy_cells (P := Try.prog) (w.alloc (.cells (madeCells #[.int .i64 0] n) 2)) 22 22 ty 2 w.heap.size 0 n n x n cap ((List.range n).map fun i => .int .i64 (z i)) Try.underlying22
    (by kernel_rfl) (by rw [hl]; exact (Nat.min_self n).symm)
    (fun j v hv => by
      have hj : j < n := by
        have := (List.getElem?_eq_some_iff.1 hv).1
        simpa using this
      have e := World.block_lt_of_cell? _ _ (h j hj)
      rw [World.cell?_alloc_lt _ _ _ e, h j hj, ← hv]
      simp [hj])
    (fun j hj => hst j (by simpa using hj))
    (fun j _ => World.frozen?_alloc_at _ _ _ _ rfl)
    (fun v hv => by simp at hv; obtain ⟨a, _, rfl⟩ := hv; rfl)
  rw [hl] at r
  refine ⟨_, r, ?_, ?_, fun j hj => ?_⟩
  · exact below_cells (Nat.le_refl _) _ _ _ (by go_grown)
  · rw [size_cells]; simp
  · have := World.cell?_setCells_in w.heap.size ((List.range n).map fun i => Value.int .i64 (z i)) 0 (w.alloc (.cells (madeCells #[.int .i64 0] n) 2)) (fun j hj => hst j (by simpa using hj)) j (by simpa using hj)
    rw [Nat.zero_add] at this
    rw [this]
    simp
set_option maxHeartbeats 400000 in
theorem law5_big (a0 : Option Addr) (len0 cap0 : Nat) (a1 a2 a3 : Int) (w : World) (h : 1048576 < len0) :
    Calls Try.prog 5 #[.slice a0 len0 cap0, .int .i64 a1, .int .i64 a2, .int .i64 a3] w fun e w' => e = .returned (.bool true) ∧ Below w.heap.size w w' := by
  have h' : (1048576 : Int) < (len0 : Int) := by omega
  go_enter Try.func5, Try.ntmps5
  go_wp2
  go_ret
  exact ⟨rfl, Below.refl _ _⟩
set_option maxHeartbeats 400000 in
theorem law5_mid (a0 : Option Addr) (len0 cap0 : Nat) (a1 a2 a3 : Int) (w : World) (h : 65536 < len0) (hh : len0 ≤ 1048576) :
    Calls Try.prog 5 #[.slice a0 len0 cap0, .int .i64 a1, .int .i64 a2, .int .i64 a3] w fun e w' => e = .returned (.bool true) ∧ Below w.heap.size w w' := by
  have h' : (65536 : Int) < (len0 : Int) := by omega
  have h2 : ¬ (1048576 : Int) < (len0 : Int) := by omega
  go_enter Try.func5, Try.ntmps5
  go_wp2
  go_ret
  exact ⟨rfl, Below.refl _ _⟩
/-- A queue of n held keys lies at block g; the j-th is to be forgotten at z j. -/
def QRow (w : World) (g n : Nat) (z : Nat → Int) : Prop :=
  ∀ j, j < n → ∃ hb, w.cell? ⟨g, j, none⟩ = some (.pointer (some ⟨hb, 0, none⟩)) ∧ forgetAt w hb (z j)
theorem QRow.later {w w' : World} {g n : Nat} {z : Nat → Int} (h : QRow w g n z) (hb : Below w.heap.size w w') : QRow w' g n z := fun j hj => by
  obtain ⟨b, h1, h2⟩ := h j hj
  exact ⟨b, cell_later hb h1, h2.later hb⟩
theorem QInv.q {w wr : World} {n : Nat} {z : Nat → Int} (h : QInv w wr n n z) : QRow wr w.heap.size n z := fun j hj => by
  obtain ⟨b, _, h1, h2⟩ := h.done j hj
  exact ⟨b, h1, h2⟩
theorem less_q {w : World} {g n : Nat} {z : Nat → Int} (h : QRow w g n z) (i j : Nat) (hi : i < n) (hj : j < n) :
    Calls Try.prog 19 #[.slice (some ⟨g, 0, none⟩) n n, .int .i64 i, .int .i64 j] w fun e w' => ∃ q, e = .returned (.bool q) ∧ Hid (q = decide (z i < z j)) ∧ Hid (Below w.heap.size w w') ∧ Hid (QRow w' g n z) := by
  obtain ⟨bi, ci, fi⟩ := h i hi
  obtain ⟨bj, cj, fj⟩ := h j hj
  refine (less_any g 0 n n i j bi bj (z i) (z j) w (by omega) (by omega) (by rwa [Nat.zero_add]) (by rwa [Nat.zero_add]) fi fj).mono ?_
  rintro e w' ⟨rfl, hb⟩
  exact ⟨_, rfl, rfl, hb, h.later hb⟩
set_option maxRecDepth 100000 in
set_option maxHeartbeats 800000 in
theorem law5_out (a0 : Option Addr) (n cap0 : Nat) (i j k : Int) (w : World) (hn : n ≤ 65536) (h : i < 0 ∨ j < 0 ∨ k < 0 ∨ (n : Int) ≤ i ∨ (n : Int) ≤ j ∨ (n : Int) ≤ k) :
    Calls Try.prog 5 #[.slice a0 n cap0, .int .i64 i, .int .i64 j, .int .i64 k] w fun e w' => e = .returned (.bool true) ∧ Below w.heap.size w w' := by
  have t1 : decide ((1048576 : Int) < (n : Int)) = false := by simp; omega
  have t2 : decide ((65536 : Int) < (n : Int)) = false := by simp; omega
  have t3 : (decide (i < 0) || decide (j < 0) || decide (k < 0) || decide ((n : Int) ≤ i) || decide ((n : Int) ≤ j) || decide ((n : Int) ≤ k)) = true := by
    simp; omega
  have H : Hid (i < 0 ∨ j < 0 ∨ k < 0 ∨ (n : Int) ≤ i ∨ (n : Int) ≤ j ∨ (n : Int) ≤ k) := h
  clear h
  go_enter Try.func5, Try.ntmps5
  go_wp2_with (first | (go_at_call 17; go_in) | fail)
  all_goals (go_ret; exact ⟨rfl, Below.refl _ _⟩)
set_option maxRecDepth 100000 in
set_option maxHeartbeats 800000 in
theorem law5_main (x : Addr) (n cap : Nat) (z : Nat → Int) (i j k : Nat) (w : World) (hn : n ≤ 65536) (hi : i < n) (hj : j < n) (hk : k < n)
    (hz : ∀ j, -9223372036854775808 ≤ z j ∧ z j ≤ 9223372036854775807) (hc : ∀ i, i < n → w.cell? (x.add i) = some (.int .i64 (z i))) :
    Calls Try.prog 5 #[.slice (some x) n cap, .int .i64 i, .int .i64 j, .int .i64 k] w fun e w' => e = .returned (.bool true) ∧ Below w.heap.size w w' := by
  obtain ⟨w2, hcp, hb2, hs2, hc2⟩ := copied w x n cap z 3 hc
  have hmk := run_make_row' (P := Try.prog) 22 2 (.int .i64 0) 8 Try.underlying22 Try.info2 rfl .i64 .i64 n (by omega) (by omega)
  have hnil := fun w => run_neq_slice_nil_any (P := Try.prog) w 22 2 (some x) n cap 0 0 Try.underlying22
  have HC : Hid (∀ j, j < n → w2.cell? ⟨w.heap.size, j, none⟩ = some (.int .i64 (z j))) := hc2
  have HB : Hid (Below w.heap.size w w2) := hb2
  have HS : Hid (w2.heap.size = w.heap.size + 1) := hs2
  have HZ : Hid (∀ j, -9223372036854775808 ≤ z j ∧ z j ≤ 9223372036854775807) := hz
  clear hc hc2 hb2 hs2 hz
  have t1 : decide ((1048576 : Int) < (n : Int)) = false := by simp; omega
  have t2 : decide ((65536 : Int) < (n : Int)) = false := by simp; omega
  have i1 : (i : Int) < (n : Int) := by omega
  have j1 : (j : Int) < (n : Int) := by omega
  have k1 : (k : Int) < (n : Int) := by omega
  go_enter Try.func5, Try.ntmps5
  go_wp2_with (first | (go_at_call 17; go_in) | fail)
  refine (newq_any w.heap.size 0 n n z w2 hn HZ.out (fun j hj => by rw [Nat.zero_add]; exact HC.out j hj)).mono ?_
  rintro e w3 ⟨rfl, hQ⟩
  have hQ3 := hQ.q
  have HB3 : Hid (Below w.heap.size w w3) := HB.out.trans (hQ.below.mono HB.out.size)
  have ci : w3.cell? ⟨w.heap.size, i, none⟩ = some (.int .i64 (z i)) := cell_later hQ.below (HC.out i hi)
  have cj : w3.cell? ⟨w.heap.size, j, none⟩ = some (.int .i64 (z j)) := cell_later hQ.below (HC.out j hj)
  have HQ : Hid (QRow w3 w2.heap.size n z) := hQ3
  clear hQ hQ3 HC HB hcp hmk hnil HS
  go_wp2_with fail
  refine (less_q HQ.out i j hi hj).mono ?_
  rintro e w4 ⟨q1, rfl, P1, KB4, HQ4⟩
  have HB4 : Hid (Below w.heap.size w w4) := HB3.out.trans (KB4.out.mono HB3.out.size)
  replace ci : w4.cell? ⟨w.heap.size, i, none⟩ = some (.int .i64 (z i)) := cell_later KB4.out ci
  replace cj : w4.cell? ⟨w.heap.size, j, none⟩ = some (.int .i64 (z j)) := cell_later KB4.out cj
  clear KB4 HB3 HQ
  go_wp2_with fail
  refine (less_q HQ4.out j i hj hi).mono ?_
  rintro e w5 ⟨q2, rfl, P2, KB5, HQ5⟩
  have HB5 : Hid (Below w.heap.size w w5) := HB4.out.trans (KB5.out.mono HB4.out.size)
  replace ci : w5.cell? ⟨w.heap.size, i, none⟩ = some (.int .i64 (z i)) := cell_later KB5.out ci
  replace cj : w5.cell? ⟨w.heap.size, j, none⟩ = some (.int .i64 (z j)) := cell_later KB5.out cj
  clear KB5 HB4 HQ4
  go_wp2_with fail
  refine (less_q HQ5.out j k hj hk).mono ?_
  rintro e w6 ⟨q3, rfl, P3, KB6, HQ6⟩
  have HB6 : Hid (Below w.heap.size w w6) := HB5.out.trans (KB6.out.mono HB5.out.size)
  replace ci : w6.cell? ⟨w.heap.size, i, none⟩ = some (.int .i64 (z i)) := cell_later KB6.out ci
  replace cj : w6.cell? ⟨w.heap.size, j, none⟩ = some (.int .i64 (z j)) := cell_later KB6.out cj
  clear KB6 HB5 HQ5
  go_wp2_with fail
  refine (less_q HQ6.out i k hi hk).mono ?_
  rintro e w7 ⟨q4, rfl, P4, KB7, HQ7⟩
  have HB7 : Hid (Below w.heap.size w w7) := HB6.out.trans (KB7.out.mono HB6.out.size)
  replace ci : w7.cell? ⟨w.heap.size, i, none⟩ = some (.int .i64 (z i)) := cell_later KB7.out ci
  replace cj : w7.cell? ⟨w.heap.size, j, none⟩ = some (.int .i64 (z j)) := cell_later KB7.out cj
  clear KB7 HB6 HQ6 t1 t2
  cases q1 <;> cases q2
  case true.true =>
    exfalso
    have a := P1.out
    have b := P2.out
    simp at a b
    omega
  case false.false =>
    have e : (z i == z j) = true := by
      have a := P1.out
      have b := P2.out
      simp at a b ⊢
      omega
    go_wp2_with fail
    go_quiet (fail)
    go_wp2_with fail
    have KD : Below w7.heap.size w7 (w7.drewN nq) := below_drewN (Below.refl _ _) nq
    refine (less_q (HQ7.out.later KD) i i hi hi).mono ?_
    rintro e w8 ⟨q5, rfl, P5, KB8, HQ8⟩
    have e5 : q5 = false := by have := P5.out; simpa using this
    subst e5
    have HB8 : Hid (Below w.heap.size w w8) := (HB7.out.trans (KD.mono HB7.out.size)).trans (KB8.out.mono (Nat.le_trans HB7.out.size KD.size))
    clear KD KB8 HQ8 P5
    go_wp2_with fail
    go_ret
    exact ⟨rfl, HB8.out⟩
  case true.false =>
    cases q3 <;> cases q4
    case true.false =>
      exfalso
      have a := P1.out
      have b := P3.out
      have c := P4.out
      simp at a b c
      omega
    all_goals
      have e : (z i == z j) = false := by
        have a := P1.out
        have b := P2.out
        simp at a b ⊢
        omega
      go_wp2_with fail
      go_quiet (fail)
      go_wp2_with fail
      have KD : Below w7.heap.size w7 (w7.drewN nq) := below_drewN (Below.refl _ _) nq
      refine (less_q (HQ7.out.later KD) i i hi hi).mono ?_
      rintro e w8 ⟨q5, rfl, P5, KB8, HQ8⟩
      have e5 : q5 = false := by have := P5.out; simpa using this
      subst e5
      have HB8 : Hid (Below w.heap.size w w8) := (HB7.out.trans (KD.mono HB7.out.size)).trans (KB8.out.mono (Nat.le_trans HB7.out.size KD.size))
      clear KD KB8 HQ8 P5
      go_wp2_with fail
      go_ret
      exact ⟨rfl, HB8.out⟩
  case false.true =>
    have e : (z i == z j) = false := by
      have a := P1.out
      have b := P2.out
      simp at a b ⊢
      omega
    go_wp2_with fail
    go_quiet (fail)
    go_wp2_with fail
    have KD : Below w7.heap.size w7 (w7.drewN nq) := below_drewN (Below.refl _ _) nq
    refine (less_q (HQ7.out.later KD) i i hi hi).mono ?_
    rintro e w8 ⟨q5, rfl, P5, KB8, HQ8⟩
    have e5 : q5 = false := by have := P5.out; simpa using this
    subst e5
    have HB8 : Hid (Below w.heap.size w w8) := (HB7.out.trans (KD.mono HB7.out.size)).trans (KB8.out.mono (Nat.le_trans HB7.out.size KD.size))
    clear KD KB8 HQ8 P5
    go_wp2_with fail
    go_ret
    exact ⟨rfl, HB8.out⟩
/-- What the form says of an int64 that fits its kind. -/
theorem i64_of_wf {n : Int} (h : (Lit.int .i64 n).wf = true) : -9223372036854775808 ≤ n ∧ n ≤ 9223372036854775807 := by
  simp [Lit.wf, IntKind.min, IntKind.max, IntKind.signed, IntKind.bits] at h
  omega
theorem getD_range {zs : List Int} (h : ∀ n ∈ zs, (Lit.int .i64 n).wf = true) (j : Nat) : -9223372036854775808 ≤ zs.getD j 0 ∧ zs.getD j 0 ≤ 9223372036854775807 := by
  by_cases hj : j < zs.length
  · rw [List.getD_eq_getElem?_getD, List.getElem?_eq_getElem hj]
    exact i64_of_wf (h _ (List.getElem_mem hj))
  · rw [List.getD_eq_getElem?_getD, List.getElem?_eq_none (by omega)]
    simp
end Go.Proofs.Qxb6613076a
