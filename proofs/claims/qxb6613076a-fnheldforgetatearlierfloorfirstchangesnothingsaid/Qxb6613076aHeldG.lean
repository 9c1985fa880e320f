/-
  ZZheldClaims: the claims' ends and costs in two new rows.
-/
import Derived.Test.Qxb6613076aHeldC
import Derived.Test.Qxb6613076aLaw5
namespace Go.Proofs.Qxb6613076a
open Go.RowKit Go.Deep
set_option linter.unusedVariables false
/-- The two rows under way: i claims are gone through. -/
structure Cl (V : World) (A g m i : Nat) (cs : List (Int × Int)) : Prop where
  ra : ∀ j, j < m → (∃ v, V.cell? ⟨A, j, none⟩ = some v) ∧ V.frozen? ⟨A, j, none⟩ = false
  rb : ∀ j, j < m → (∃ v, V.cell? ⟨A + 1, j, none⟩ = some v) ∧ V.frozen? ⟨A + 1, j, none⟩ = false
  da : ∀ j c, j < i → cs[j]? = some c → V.cell? ⟨A, j, none⟩ = some (.int .i64 c.1)
  db : ∀ j c, j < i → cs[j]? = some c → V.cell? ⟨A + 1, j, none⟩ = some (.int .i64 c.2)
  rows : CRows V g 0 cs
  sz : A + 1 < V.heap.size
theorem Cl.later {V V' : World} {A g m i : Nat} {cs : List (Int × Int)} (h : Cl V A g m i cs) (b : Below V.heap.size V V') : Cl V' A g m i cs where
  ra := fun j hj => by
    have hs := h.sz
    obtain ⟨⟨v, hv⟩, hf⟩ := h.ra j hj
    exact ⟨⟨v, cell_later b hv⟩, hfrozen b hv hf⟩
  rb := fun j hj => by
    obtain ⟨⟨v, hv⟩, hf⟩ := h.rb j hj
    exact ⟨⟨v, cell_later b hv⟩, hfrozen b hv hf⟩
  da := fun j c hj hc => cell_later b (h.da j c hj hc)
  db := fun j c hj hc => cell_later b (h.db j c hj hc)
  rows := h.rows.later b
  sz := Nat.lt_of_lt_of_le h.sz b.size
theorem Cl.step {V : World} {A g m i : Nat} {cs : List (Int × Int)} (h : Cl V A g m i cs) (hi : i < m) (hg : g < A) {L C : Int} (hc : cs[i]? = some (L, C)) :
    Cl ((V.setCell ⟨A, i, none⟩ (.int .i64 L)).setCell ⟨A + 1, i, none⟩ (.int .i64 C)) A g m (i + 1) cs := by
  have kk : Kept A (A + 1) V ((V.setCell ⟨A, i, none⟩ (.int .i64 L)).setCell ⟨A + 1, i, none⟩ (.int .i64 C)) := ((Kept.refl A (A + 1) V).setCell ⟨A, i, none⟩ _ (.inl rfl)).setCell ⟨A + 1, i, none⟩ _ (.inr (.inl rfl))
  have ff : ∀ a, ((V.setCell ⟨A, i, none⟩ (.int .i64 L)).setCell ⟨A + 1, i, none⟩ (.int .i64 C)).frozen? a = V.frozen? a := fun a => by rw [World.frozen?_setCell, World.frozen?_setCell]
  have ca : ∀ j v, V.cell? ⟨A, j, none⟩ = some v → ((V.setCell ⟨A, i, none⟩ (.int .i64 L)).setCell ⟨A + 1, i, none⟩ (.int .i64 C)).cell? ⟨A, j, none⟩ = if j = i then some (.int .i64 L) else some v := fun j v hv => by
    rw [World.cell?_setCell_far _ _ _ _ (by show A + 1 ≠ A; omega)]
    by_cases e : j = i
    · subst e; rw [if_pos rfl]; exact World.cell?_setCell_same _ _ _ hv
    · rw [if_neg e, World.cell?_setCell_other _ _ _ _ (fun x => e (by injection x with _ x2 _; exact x2.symm))]; exact hv
  have cb : ∀ j v, V.cell? ⟨A + 1, j, none⟩ = some v → ((V.setCell ⟨A, i, none⟩ (.int .i64 L)).setCell ⟨A + 1, i, none⟩ (.int .i64 C)).cell? ⟨A + 1, j, none⟩ = if j = i then some (.int .i64 C) else some v := fun j v hv => by
    have hv' : (V.setCell ⟨A, i, none⟩ (.int .i64 L)).cell? ⟨A + 1, j, none⟩ = some v := by rw [World.cell?_setCell_far _ _ _ _ (by show A ≠ A + 1; omega)]; exact hv
    by_cases e : j = i
    · subst e; rw [if_pos rfl]; exact World.cell?_setCell_same _ _ _ hv'
    · rw [if_neg e, World.cell?_setCell_other _ _ _ _ (fun x => e (by injection x with _ x2 _; exact x2.symm))]; exact hv'
  refine ⟨fun j hj => ?_, fun j hj => ?_, fun j c hj hcj => ?_, fun j c hj hcj => ?_, h.rows.kept kk (by omega) (by omega), by simpa using h.sz⟩
  · obtain ⟨⟨v, hv⟩, hf⟩ := h.ra j hj
    refine ⟨?_, (ff _).trans hf⟩
    rw [ca j v hv]; split <;> exact ⟨_, rfl⟩
  · obtain ⟨⟨v, hv⟩, hf⟩ := h.rb j hj
    refine ⟨?_, (ff _).trans hf⟩
    rw [cb j v hv]; split <;> exact ⟨_, rfl⟩
  · by_cases e : j = i
    · subst e
      obtain ⟨⟨v, hv⟩, -⟩ := h.ra j hi
      rw [ca j v hv, if_pos rfl]
      rw [hc] at hcj; injection hcj with e2; rw [← e2]
    · rw [ca j _ (h.da j c (by omega) hcj), if_neg e]
  · by_cases e : j = i
    · subst e
      obtain ⟨⟨v, hv⟩, -⟩ := h.rb j hi
      rw [cb j v hv, if_pos rfl]
      rw [hc] at hcj; injection hcj with e2; rw [← e2]
    · rw [cb j _ (h.db j c (by omega) hcj), if_neg e]
theorem Cl.start {w : World} {g m : Nat} {cs : List (Int × Int)} (hR : CRows w g 0 cs) : Cl ((w.alloc (.cells (madeCells #[.int .i64 0] m) 2)).alloc (.cells (madeCells #[.int .i64 0] m) 2)) w.heap.size g m 0 cs where
  ra := fun j hj => by
    rw [World.cell?_alloc_past _ _ _ (by show w.heap.size < _; simp), World.cell?_alloc_at _ _ _ _ rfl, World.frozen?_alloc_past _ _ _ (by show w.heap.size < _; simp), World.frozen?_alloc_at _ _ _ _ rfl]
    exact ⟨⟨_, Array.getElem?_eq_getElem (by rw [size_madeCells]; exact hj)⟩, rfl⟩
  rb := fun j hj => by
    rw [World.cell?_alloc_at _ _ _ _ (by simp), World.frozen?_alloc_at _ _ _ _ (by simp)]
    exact ⟨⟨_, Array.getElem?_eq_getElem (by rw [size_madeCells]; exact hj)⟩, rfl⟩
  da := fun j c hj => by omega
  db := fun j c hj => by omega
  rows := hR.later (((Below.refl _ _).alloc (Nat.le_refl _) _).alloc (by simp) _)
  sz := by simp
set_option maxRecDepth 100000 in
set_option maxHeartbeats 3200000 in
theorem claims_row (hb g m cap : Nat) (st : Value) (cs : List (Int × Int)) (w : World) (H : Hd w hb st (.slice (some ⟨g, 0, none⟩) m cap)) (hm : cs.length = m) (HR : CRows w g 0 cs) (hg : g < w.heap.size) (hm' : m ≤ 32768)
    (hr : ∀ (x : Nat) (c : Int × Int), cs[x]? = some c → -9223372036854775808 ≤ c.1 ∧ c.1 ≤ 9223372036854775807) :
    Calls Try.prog 15 #[.pointer (some ⟨hb, 0, none⟩)] w fun e w' => e = .returned (.tuple #[.slice (some ⟨w.heap.size, 0, none⟩) m m, .slice (some ⟨w.heap.size + 1, 0, none⟩) m m]) ∧ Below w.heap.size w w' ∧ Cl w' w.heap.size g m m cs := by
  have hmk := run_make_row' (P := Try.prog) 22 2 (.int .i64 0) 8 Try.underlying22 Try.info2 rfl .i64 .i64 m (by omega) (by omega)
  have hbl : hb < w.heap.size := World.block_lt_of_cell? _ _ H.c
  have b1 : hb < w.heap.size + 1 := by omega
  have b2 : hb < w.heap.size + 1 + 1 := by omega
  have HN : Hid (cs.length = m) := hm
  have HR' : Hid (CRows w g 0 cs) := HR
  have HE : Hid (∀ (x : Nat) (c : Int × Int), cs[x]? = some c → -9223372036854775808 ≤ c.1 ∧ c.1 ≤ 9223372036854775807) := hr
  have c2 := H.c
  clear H HR hr hm
  go_enter Try.func15, Try.ntmps15
  go_wp2
  clear hmk c2
  go_loopg [25] m (fun gg s25 wx => ∃ i : Nat, s25 = .int .i64 (i : Int) ∧ gg = m - i ∧ i ≤ m ∧ Hid (Cl wx w.heap.size g m i cs) ∧ Hid (Below w.heap.size w wx))
  case atStart => exact ⟨0, rfl, by simp, by omega, Cl.start HR'.out, by unfold Hid; go_grown⟩
  case round =>
    obtain ⟨i, rfl, rfl, hi, D, HB⟩ := hrel
    by_cases c : i < m
    · have ci : (i : Int) < (m : Int) := by omega
      obtain ⟨L, C, hLC⟩ : ∃ L C, cs[i]? = some (L, C) := ⟨(cs[i]'(by have := HN.out; omega)).1, (cs[i]'(by have := HN.out; omega)).2, by rw [List.getElem?_eq_getElem]⟩
      have HL : Hid (cs[i]? = some (L, C)) := hLC
      have hrow := D.out.rows i (L, C) hLC
      have hrg := HE.out i (L, C) hLC
      simp only [] at hrg
      rw [Nat.zero_add] at hrow
      obtain ⟨c0, c1, c2, c3, c4⟩ := hrow
      have hcl : clampD L = L := by unfold clampD; split <;> (try split) <;> omega
      clear hLC
      go_wp2_with fail
      have hX : Below wr.heap.size wr (wr.alloc (.cells #[.string { data := #[] }, .int .i64 C, .int .u64 (tN L), .int .i64 (tS L), .pointer none] 74)) := (Below.refl _ _).alloc (Nat.le_refl _) _
      have hN34 := nanos_any L (wr.alloc (.cells #[.string { data := #[] }, .int .i64 C, .int .u64 (tN L), .int .i64 (tS L), .pointer none] 74)) (by omega) (by omega)
      rw [hcl] at hN34
      refine hN34.mono ?_
      rintro e w2 ⟨rfl, x2⟩
      have hY : Below wr.heap.size wr w2 := hX.trans (x2.mono (by simp))
      have D2 : Hid (Cl w2 w.heap.size g m i cs) := D.out.later hY
      have B2 : Hid (Below w.heap.size w w2) := HB.out.trans (hY.mono HB.out.size)
      have z1 : w2.cell? ⟨wr.heap.size, 1, none⟩ = some (.int .i64 C) := cell_later x2 (by simp [go_sem])
      have hs2 : IntKind.i64.wrap ((i : Int) + 1) = (i : Int) + 1 := by rw [IntKind.wrap_i64]; omega
      obtain ⟨⟨v0, y0⟩, f0⟩ := D2.out.ra i c
      obtain ⟨⟨v1, y1⟩, f1⟩ := D2.out.rb i c
      have q1 : ¬ wr.heap.size = w.heap.size := by have := D.out.sz; omega
      have q2 : ¬ w.heap.size = wr.heap.size := by omega
      clear x2 hX hY D HB c0 c1 c2 c3 c4 hN34 hrg
      generalize wr.heap.size = Q at *
      go_wp2_with fail
      go_roundg (m - (i + 1))
      case measure => omega
      case rel => exact ⟨i + 1, by push_cast; rfl, rfl, by omega, D2.out.step c hg HL.out, (B2.out.setCell (by show w.heap.size ≤ w.heap.size; omega) _).setCell (by show w.heap.size ≤ w.heap.size + 1; omega) _⟩
    · have ci : ¬ (i : Int) < (m : Int) := by omega
      obtain rfl : i = m := by omega
      go_wp2_with fail
      go_ret2
      exact ⟨rfl, HB.out, D.out⟩
set_option maxRecDepth 100000 in
set_option maxHeartbeats 3200000 in
theorem claims_nil (hb : Nat) (st : Value) (w : World) (H : Hd w hb st (.slice none 0 0)) :
    Calls Try.prog 15 #[.pointer (some ⟨hb, 0, none⟩)] w fun e w' => e = .returned (.tuple #[.slice (some ⟨w.heap.size, 0, none⟩) 0 0, .slice (some ⟨w.heap.size + 1, 0, none⟩) 0 0]) ∧ Below w.heap.size w w' := by
  have hmk := run_make_row' (P := Try.prog) 22 2 (.int .i64 0) 8 Try.underlying22 Try.info2 rfl .i64 .i64 0 (by omega) (by omega)
  have e0 : ((0 : Nat) : Int) = 0 := rfl
  simp only [e0] at hmk
  have hbl : hb < w.heap.size := World.block_lt_of_cell? _ _ H.c
  have b1 : hb < w.heap.size + 1 := by omega
  have b2 : hb < w.heap.size + 1 + 1 := by omega
  have c2 := H.c
  clear H
  go_enter Try.func15, Try.ntmps15
  go_wp2
  refine wp_loop_rounds 1 ?_
  rw [rounds_succ]
  go_wp2_with fail
  go_ret2
  exact ⟨rfl, by go_grown⟩
end Go.Proofs.Qxb6613076a
