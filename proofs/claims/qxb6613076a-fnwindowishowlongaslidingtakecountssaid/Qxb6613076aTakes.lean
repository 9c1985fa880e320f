/-
  The three takes of the law, out of the walks of window.take.
-/
import Derived.Test.Qxb6613076aLaw10
import Derived.Test.Qxb6613076aTakeA
import Derived.Test.Qxb6613076aTakeB
import Derived.Test.Qxb6613076aTakeC
import Derived.Test.Qxb6613076aTakeD
namespace Go.Proofs.Qxb6613076a
open Go.RowKit
theorem below_cells3 {w W : World} {b : Nat} (h : Below w.heap.size w W) (hb : b < w.heap.size) (o : Nat) : W.cell? ⟨b, o, none⟩ = w.cell? ⟨b, o, none⟩ ∧ W.frozen? ⟨b, o, none⟩ = w.frozen? ⟨b, o, none⟩ :=
  ⟨h.cell (p := ⟨b, o, none⟩) hb, h.frozen (p := ⟨b, o, none⟩) hb⟩
theorem takes : Takes where
  fresh wb lim win N w h1 h1' h2 h2' c0 c1 c2 f0 f1 f2 hwb := by
    refine (wtake_of wb wb lim win lim N true lim 0 0 (fun W w2 => ∃ g c, W.heap.size ≤ g ∧ Win1 w2 wb g c N lim) w hwb hwb h2 h2' ?_).mono ?_
    · intro W hW
      have k := fun o => below_cells3 hW hwb o
      exact take_fresh wb lim win N W h1 h1' ((k 0).1.trans c0) ((k 1).1.trans c1) ((k 2).1.trans c2) ((k 0).2.trans f0) ((k 1).2.trans f1) ((k 2).2.trans f2) (Nat.lt_of_lt_of_le hwb hW.size)
    · rintro e w' ⟨rfl, k, W, w2, b, hW, ⟨g, c, hg, hw⟩, hb1, hb2, hb3⟩
      have l1 : g < w2.heap.size := World.block_lt_of_cell? _ _ hw.r0
      have l2 : wb < w2.heap.size := World.block_lt_of_cell? _ _ hw.takes
      exact ⟨rfl, k.below (Nat.le_refl _) (Nat.le_refl _) (Nat.le_of_lt hwb), g, c, hw.of_heap (hb3 wb (by omega) l2) (hb3 g (by omega) l1)⟩
  refused wb g c lim win M N w h1 h1' h2 h2' h3 h3' hN hN' H := by
    have hwb : wb < w.heap.size := World.block_lt_of_cell? _ _ H.takes
    refine (wtake_of wb wb lim win 1 N false lim 0 1 (fun W w2 => Below W.heap.size W w2) w hwb hwb (by omega) hN' ?_).mono ?_
    · intro W hW
      refine (take_refused wb g c lim win M N W h1 h1' h2 h2' h3 h3' hN (H.later hW)).mono ?_
      rintro e w' ⟨rfl, hb⟩
      exact ⟨rfl, Kept.of_below hb, hb⟩
    · rintro e w' ⟨rfl, k, W, w2, b, hW, hw, hb1, hb2, hb3⟩
      refine ⟨rfl, k.os, k.tape, k.output, k.size, fun i hi => ?_⟩
      have s1 := hW.size
      have s2 := hw.size
      rw [hb3 i (by omega) (by omega), hw.block i (by omega), hW.block i hi]
  expired wb g c lim win M N w h1 h1' h2 h2' h3 h3' hN hN' H := by
    have hwb : wb < w.heap.size := World.block_lt_of_cell? _ _ H.takes
    have hg : g < w.heap.size := World.block_lt_of_cell? _ _ H.r0
    have hwg := H.wbg
    refine (wtake_of wb g lim win 1 N true lim (lim - 1) 0 (fun _ _ => True) w hwb hg (by omega) hN' ?_).mono ?_
    · intro W hW
      by_cases hc : c = 1
      · subst hc
        refine (take_expired_full wb g lim win M N W h1 h1' h2 h2' h3 h3' hN (H.later hW)).mono ?_
        rintro e w' ⟨rfl, hb⟩
        exact ⟨rfl, hb, trivial⟩
      · have hc1 := H.cap
        refine (take_expired_room wb g c lim win M N W h1 h1' h2 h2' h3 h3' hN (H.later hW) (by omega)).mono ?_
        rintro e w' ⟨rfl, hb⟩
        exact ⟨rfl, hb, trivial⟩
    · rintro e w' ⟨rfl, k, _⟩
      exact ⟨rfl, k.below (Nat.le_refl _) (Nat.le_of_lt hwg) (Nat.le_of_lt hwb)⟩
end Go.Proofs.Qxb6613076a
