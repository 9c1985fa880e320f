/-
  The rolling window's memory, on: a store elsewhere; the spare room of a row; that a row of one take is small.
-/
import Derived.Test.Qxb6613076aWin
namespace Go.Proofs.Qxb6613076a
open Go.RowKit
theorem cap_small (a b : Nat) (h : Builtin.nextslicecap a b * Try.t76.bytes ≤ 281474976710656) : ¬ 281474976710656 < Builtin.nextslicecap a b * Try.t76.bytes := by omega
theorem cap10 : ¬ 281474976710656 < Builtin.nextslicecap 1 0 * Try.t76.bytes := cap_small 1 0 (by decide +kernel)
theorem room8 {Z : World} {g : Nat} {C : Array Value} (h : Z.heap[g]? = some (.cells C 76)) (hs : 8 ≤ C.size) :
    (∃ v, Z.cell? ⟨g, 4, none⟩ = some v) ∧ (∃ v, Z.cell? ⟨g, 5, none⟩ = some v) ∧ (∃ v, Z.cell? ⟨g, 6, none⟩ = some v) ∧ (∃ v, Z.cell? ⟨g, 7, none⟩ = some v) ∧ Z.frozen? ⟨g, 4, none⟩ = false ∧ Z.frozen? ⟨g, 5, none⟩ = false ∧ Z.frozen? ⟨g, 6, none⟩ = false ∧ Z.frozen? ⟨g, 7, none⟩ = false := by
  have hc : ∀ j, j < 8 → ∃ v, Z.cell? ⟨g, j, none⟩ = some v := fun j hj => by
    rw [cell_of_row Z g j C 76 (0, 0) h, Array.getElem?_eq_getElem (by omega)]; exact ⟨_, rfl⟩
  have hf : ∀ j, Z.frozen? ⟨g, j, none⟩ = false := fun j => by simp [World.frozen?, h]
  exact ⟨hc 4 (by omega), hc 5 (by omega), hc 6 (by omega), hc 7 (by omega), hf 4, hf 5, hf 6, hf 7⟩
theorem Env.setCell {B : Nat} {V : World} {wb g c : Nat} {N M lim win : Int} (h : Env B V wb g c N M lim win) (p : Addr) (v : Value) (hB : p.block ≠ B) (h1 : p.block ≠ B + 1) (h2 : p.block ≠ B + 1 + 1) (h3 : p.block ≠ B + 1 + 1 + 1) (hw : p.block ≠ wb) (hg : p.block ≠ g) : Env B (V.setCell p v) wb g c N M lim win where
  w0 := by rw [World.cell?_setCell_far _ _ _ _ hB]; exact h.w0
  p1 := by rw [World.cell?_setCell_far _ _ _ _ h1]; exact h.p1
  p2 := by rw [World.cell?_setCell_far _ _ _ _ h1]; exact h.p2
  n0 := by rw [World.cell?_setCell_far _ _ _ _ h2]; exact h.n0
  n1 := by rw [World.cell?_setCell_far _ _ _ _ h2]; exact h.n1
  n2 := by rw [World.cell?_setCell_far _ _ _ _ h2]; exact h.n2
  e0 := by rw [World.cell?_setCell_far _ _ _ _ h3]; exact h.e0
  e1 := by rw [World.cell?_setCell_far _ _ _ _ h3]; exact h.e1
  e2 := by rw [World.cell?_setCell_far _ _ _ _ h3]; exact h.e2
  e3 := by rw [World.cell?_setCell_far _ _ _ _ h3]; exact h.e3
  k0 := by rw [World.cell?_setCell_far _ _ _ _ hw]; exact h.k0
  k1 := by rw [World.cell?_setCell_far _ _ _ _ hw]; exact h.k1
  k2 := by rw [World.cell?_setCell_far _ _ _ _ hw]; exact h.k2
  k3 := by rw [World.cell?_setCell_far _ _ _ _ hg]; exact h.k3
  k4 := by rw [World.cell?_setCell_far _ _ _ _ hg]; exact h.k4
  k5 := by rw [World.cell?_setCell_far _ _ _ _ hg]; exact h.k5
  k6 := by rw [World.cell?_setCell_far _ _ _ _ hg]; exact h.k6
  g0 := by rw [World.frozen?_setCell]; exact h.g0
  g1 := by rw [World.frozen?_setCell]; exact h.g1
  g2 := by rw [World.frozen?_setCell]; exact h.g2
  g3 := by rw [World.frozen?_setCell]; exact h.g3
end Go.Proofs.Qxb6613076a
