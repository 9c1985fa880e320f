/-
  The rolling window's memory: what a window with one take holds; what the walk of take wants of its world.
-/
import Derived.Test.Qxb6613076aSearch
namespace Go.Proofs.Qxb6613076a
open Go.RowKit
/-- The world under a name: what the rest of the walk wants of it is said once. -/
theorem gen_wp {P : Program} {c : Code} {Q : Exit → Act → World → Prop} {a : Act} (w0 : World) (F : World → Prop) (hF : F w0) (h : ∀ W, F W → c.wp P Q a W) : c.wp P Q a w0 := h w0 hF
/-- A window in which one take of lim stands, made at M. -/
structure Win1 (w : World) (wb g c : Nat) (M lim : Int) : Prop where
  takes : w.cell? ⟨wb, 0, none⟩ = some (.slice (some ⟨g, 0, none⟩) 1 c)
  total : w.cell? ⟨wb, 1, none⟩ = some (.int .u64 lim)
  expired : w.cell? ⟨wb, 2, none⟩ = some (.int .u64 0)
  r0 : w.cell? ⟨g, 0, none⟩ = some (.int .u64 (tN M))
  r1 : w.cell? ⟨g, 1, none⟩ = some (.int .i64 (tS M))
  r2 : w.cell? ⟨g, 2, none⟩ = some (.pointer none)
  r3 : w.cell? ⟨g, 3, none⟩ = some (.int .u64 lim)
  cap : 1 ≤ c
  wbg : wb < g
  block : ∃ C, w.heap[g]? = some (.cells C 76) ∧ C.size = c * 4
  f0 : w.frozen? ⟨wb, 0, none⟩ = false
  f1 : w.frozen? ⟨wb, 1, none⟩ = false
  f2 : w.frozen? ⟨wb, 2, none⟩ = false
/-- What the walk of take wants of its world: its own boxes from block B on, and the window. -/
structure Env (B : Nat) (V : World) (wb g c : Nat) (N M lim win : Int) : Prop where
  w0 : V.cell? ⟨B, 0, none⟩ = some (.pointer (some ⟨wb, 0, none⟩))
  p1 : V.cell? ⟨B + 1, 1, none⟩ = some (.int .i64 lim)
  p2 : V.cell? ⟨B + 1, 2, none⟩ = some (.int .i64 win)
  n0 : V.cell? ⟨B + 1 + 1, 0, none⟩ = some (.int .u64 (tN N))
  n1 : V.cell? ⟨B + 1 + 1, 1, none⟩ = some (.int .i64 (tS N))
  n2 : V.cell? ⟨B + 1 + 1, 2, none⟩ = some (.pointer none)
  e0 : V.cell? ⟨B + 1 + 1 + 1, 0, none⟩ = some (.bool false)
  e1 : V.cell? ⟨B + 1 + 1 + 1, 1, none⟩ = some (.int .i64 0)
  e2 : V.cell? ⟨B + 1 + 1 + 1, 2, none⟩ = some (.int .i64 0)
  e3 : V.cell? ⟨B + 1 + 1 + 1, 3, none⟩ = some (.int .i64 0)
  k0 : V.cell? ⟨wb, 0, none⟩ = some (.slice (some ⟨g, 0, none⟩) 1 c)
  k1 : V.cell? ⟨wb, 1, none⟩ = some (.int .u64 lim)
  k2 : V.cell? ⟨wb, 2, none⟩ = some (.int .u64 0)
  k3 : V.cell? ⟨g, 0, none⟩ = some (.int .u64 (tN M))
  k4 : V.cell? ⟨g, 1, none⟩ = some (.int .i64 (tS M))
  k5 : V.cell? ⟨g, 2, none⟩ = some (.pointer none)
  k6 : V.cell? ⟨g, 3, none⟩ = some (.int .u64 lim)
  g0 : V.frozen? ⟨B + 1 + 1 + 1, 0, none⟩ = false
  g1 : V.frozen? ⟨B + 1 + 1 + 1, 1, none⟩ = false
  g2 : V.frozen? ⟨B + 1 + 1 + 1, 2, none⟩ = false
  g3 : V.frozen? ⟨B + 1 + 1 + 1, 3, none⟩ = false
theorem Env.later {B : Nat} {V V' : World} {wb g c : Nat} {N M lim win : Int} (h : Env B V wb g c N M lim win) (hb : Below V.heap.size V V') : Env B V' wb g c N M lim win where
  w0 := cell_later hb h.w0
  p1 := cell_later hb h.p1
  p2 := cell_later hb h.p2
  n0 := cell_later hb h.n0
  n1 := cell_later hb h.n1
  n2 := cell_later hb h.n2
  e0 := cell_later hb h.e0
  e1 := cell_later hb h.e1
  e2 := cell_later hb h.e2
  e3 := cell_later hb h.e3
  k0 := cell_later hb h.k0
  k1 := cell_later hb h.k1
  k2 := cell_later hb h.k2
  k3 := cell_later hb h.k3
  k4 := cell_later hb h.k4
  k5 := cell_later hb h.k5
  k6 := cell_later hb h.k6
  g0 := by rw [hb.frozen (World.block_lt_of_cell? _ _ h.e0)]; exact h.g0
  g1 := by rw [hb.frozen (World.block_lt_of_cell? _ _ h.e1)]; exact h.g1
  g2 := by rw [hb.frozen (World.block_lt_of_cell? _ _ h.e2)]; exact h.g2
  g3 := by rw [hb.frozen (World.block_lt_of_cell? _ _ h.e3)]; exact h.g3
theorem Win1.later {w w' : World} {wb g c : Nat} {M lim : Int} (h : Win1 w wb g c M lim) (hb : Below w.heap.size w w') : Win1 w' wb g c M lim where
  takes := cell_later hb h.takes
  total := cell_later hb h.total
  expired := cell_later hb h.expired
  r0 := cell_later hb h.r0
  r1 := cell_later hb h.r1
  r2 := cell_later hb h.r2
  r3 := cell_later hb h.r3
  cap := h.cap
  wbg := h.wbg
  block := by
    obtain ⟨C, h1, h2⟩ := h.block
    exact ⟨C, by rw [hb.block g (World.block_lt_of_cell? _ _ h.r0)]; exact h1, h2⟩
  f0 := by rw [hb.frozen (World.block_lt_of_cell? _ _ h.takes)]; exact h.f0
  f1 := by rw [hb.frozen (World.block_lt_of_cell? _ _ h.total)]; exact h.f1
  f2 := by rw [hb.frozen (World.block_lt_of_cell? _ _ h.expired)]; exact h.f2
theorem Win1.setCell {w : World} {wb g c : Nat} {M lim : Int} (h : Win1 w wb g c M lim) (p : Addr) (v : Value) (h1 : p.block ≠ wb) (h2 : p.block ≠ g) : Win1 (w.setCell p v) wb g c M lim where
  takes := by rw [World.cell?_setCell_far _ _ _ _ h1]; exact h.takes
  total := by rw [World.cell?_setCell_far _ _ _ _ h1]; exact h.total
  expired := by rw [World.cell?_setCell_far _ _ _ _ h1]; exact h.expired
  r0 := by rw [World.cell?_setCell_far _ _ _ _ h2]; exact h.r0
  r1 := by rw [World.cell?_setCell_far _ _ _ _ h2]; exact h.r1
  r2 := by rw [World.cell?_setCell_far _ _ _ _ h2]; exact h.r2
  r3 := by rw [World.cell?_setCell_far _ _ _ _ h2]; exact h.r3
  cap := h.cap
  wbg := h.wbg
  block := by
    obtain ⟨C, k1, k2⟩ := h.block
    exact ⟨C, by rw [Below.heap_setCell _ _ _ _ (Ne.symm h2)]; exact k1, k2⟩
  f0 := by rw [World.frozen?_setCell]; exact h.f0
  f1 := by rw [World.frozen?_setCell]; exact h.f1
  f2 := by rw [World.frozen?_setCell]; exact h.f2
/-- Behind the append of the first take: the window, the policy's limit, the place of the result. -/
structure FreshV (B : Nat) (V : World) (wb g cp : Nat) (N lim : Int) : Prop where
  win : Win1 V wb g cp N lim
  p1 : V.cell? ⟨B + 1, 1, none⟩ = some (.int .i64 lim)
  e0 : ∃ v, V.cell? ⟨B + 1 + 1 + 1, 0, none⟩ = some v
  e1 : ∃ v, V.cell? ⟨B + 1 + 1 + 1, 1, none⟩ = some v
  e2 : ∃ v, V.cell? ⟨B + 1 + 1 + 1, 2, none⟩ = some v
  e3 : ∃ v, V.cell? ⟨B + 1 + 1 + 1, 3, none⟩ = some v
  g0 : V.frozen? ⟨B + 1 + 1 + 1, 0, none⟩ = false
  g1 : V.frozen? ⟨B + 1 + 1 + 1, 1, none⟩ = false
  g2 : V.frozen? ⟨B + 1 + 1 + 1, 2, none⟩ = false
  g3 : V.frozen? ⟨B + 1 + 1 + 1, 3, none⟩ = false
theorem row_at (cs zs : Array Value) (j : Nat) (h : j < cs.size) : (cs ++ zs)[j]? = cs[j]? := by
  rw [Array.getElem?_append_left h]
theorem fresh_end (W : World) (B wb cp : Nat) (N lim : Int) (hc : 1 ≤ cp) (hwb : wb < B) (z5 : B + 1 + 1 + 1 < W.heap.size)
    (d1 : W.cell? ⟨wb, 0, none⟩ = some (.slice none 0 0)) (d2 : W.cell? ⟨wb, 1, none⟩ = some (.int .u64 lim)) (d3 : W.cell? ⟨wb, 2, none⟩ = some (.int .u64 0))
    (f0 : W.frozen? ⟨wb, 0, none⟩ = false) (f1 : W.frozen? ⟨wb, 1, none⟩ = false) (f2 : W.frozen? ⟨wb, 2, none⟩ = false) (d9 : W.cell? ⟨B + 1, 1, none⟩ = some (.int .i64 lim))
    (e0 : W.cell? ⟨B + 1 + 1 + 1, 0, none⟩ = some (.bool false)) (e1 : W.cell? ⟨B + 1 + 1 + 1, 1, none⟩ = some (.int .i64 0)) (e2 : W.cell? ⟨B + 1 + 1 + 1, 2, none⟩ = some (.int .i64 0)) (e3 : W.cell? ⟨B + 1 + 1 + 1, 3, none⟩ = some (.int .i64 0))
    (g0 : W.frozen? ⟨B + 1 + 1 + 1, 0, none⟩ = false) (g1 : W.frozen? ⟨B + 1 + 1 + 1, 1, none⟩ = false) (g2 : W.frozen? ⟨B + 1 + 1 + 1, 2, none⟩ = false) (g3 : W.frozen? ⟨B + 1 + 1 + 1, 3, none⟩ = false) :
    FreshV B (((W.setCell ⟨wb, 0, none⟩ (.slice (some ⟨W.heap.size + 1, 0, none⟩) 1 cp)).alloc (.cells #[.int .u64 (tN N), .int .i64 (tS N), .pointer none, .int .u64 lim] 76)).alloc
      (.cells (#[.int .u64 (tN N), .int .i64 (tS N), .pointer none, .int .u64 lim] ++ Builtin.zeroCells #[.int .u64 0, .int .i64 0, .pointer none, .int .u64 0] (cp - 1)) 76)).drew.drew wb (W.heap.size + 1) cp N lim := by
  have old : ∀ b o, b ≠ wb → b < W.heap.size → ∀ O1 O2, (((W.setCell ⟨wb, 0, none⟩ (.slice (some ⟨W.heap.size + 1, 0, none⟩) 1 cp)).alloc O1).alloc O2).drew.drew.cell? ⟨b, o, none⟩ = W.cell? ⟨b, o, none⟩ := fun b o h1 h2 O1 O2 => by
    show (((W.setCell ⟨wb, 0, none⟩ (.slice (some ⟨W.heap.size + 1, 0, none⟩) 1 cp)).alloc O1).alloc O2).cell? ⟨b, o, none⟩ = _
    rw [World.cell?_alloc_past _ _ _ (by simp; omega), World.cell?_alloc_past _ _ _ (by simp; omega), World.cell?_setCell_far _ _ _ _ (fun x => h1 x.symm)]
  have oldf : ∀ b o, b < W.heap.size → ∀ O1 O2, (((W.setCell ⟨wb, 0, none⟩ (.slice (some ⟨W.heap.size + 1, 0, none⟩) 1 cp)).alloc O1).alloc O2).drew.drew.frozen? ⟨b, o, none⟩ = W.frozen? ⟨b, o, none⟩ := fun b o h2 O1 O2 => by
    show (((W.setCell ⟨wb, 0, none⟩ (.slice (some ⟨W.heap.size + 1, 0, none⟩) 1 cp)).alloc O1).alloc O2).frozen? ⟨b, o, none⟩ = _
    rw [World.frozen?_alloc_past _ _ _ (by simp; omega), World.frozen?_alloc_past _ _ _ (by simp; omega), World.frozen?_setCell]
  have oldw : ∀ o, o ≠ 0 → ∀ O1 O2, (((W.setCell ⟨wb, 0, none⟩ (.slice (some ⟨W.heap.size + 1, 0, none⟩) 1 cp)).alloc O1).alloc O2).drew.drew.cell? ⟨wb, o, none⟩ = W.cell? ⟨wb, o, none⟩ := fun o h1 O1 O2 => by
    show (((W.setCell ⟨wb, 0, none⟩ (.slice (some ⟨W.heap.size + 1, 0, none⟩) 1 cp)).alloc O1).alloc O2).cell? ⟨wb, o, none⟩ = _
    rw [World.cell?_alloc_past _ _ _ (by simp; omega), World.cell?_alloc_past _ _ _ (by simp; omega), World.cell?_setCell_other _ _ _ _ (fun x => h1 (by injection x with _ x2 _; exact x2.symm))]
  have new : ∀ o, o < 4 → (((W.setCell ⟨wb, 0, none⟩ (.slice (some ⟨W.heap.size + 1, 0, none⟩) 1 cp)).alloc (.cells #[.int .u64 (tN N), .int .i64 (tS N), .pointer none, .int .u64 lim] 76)).alloc
      (.cells (#[.int .u64 (tN N), .int .i64 (tS N), .pointer none, .int .u64 lim] ++ Builtin.zeroCells #[.int .u64 0, .int .i64 0, .pointer none, .int .u64 0] (cp - 1)) 76)).drew.drew.cell? ⟨W.heap.size + 1, o, none⟩ = (#[.int .u64 (tN N), .int .i64 (tS N), .pointer none, .int .u64 lim] : Array Value)[o]? := fun o ho => by
    show (((W.setCell ⟨wb, 0, none⟩ (.slice (some ⟨W.heap.size + 1, 0, none⟩) 1 cp)).alloc (.cells #[.int .u64 (tN N), .int .i64 (tS N), .pointer none, .int .u64 lim] 76)).alloc _).cell? ⟨W.heap.size + 1, o, none⟩ = _
    rw [World.cell?_alloc_at _ _ _ _ (by simp), row_at _ _ _ (by simpa using ho)]
  refine ⟨⟨?_, ?_, ?_, ?_, ?_, ?_, ?_, hc, by omega, ?_, ?_, ?_, ?_⟩, ?_, ⟨.bool false, ?_⟩, ⟨.int .i64 0, ?_⟩, ⟨.int .i64 0, ?_⟩, ⟨.int .i64 0, ?_⟩, ?_, ?_, ?_, ?_⟩
  · show (((W.setCell ⟨wb, 0, none⟩ (.slice (some ⟨W.heap.size + 1, 0, none⟩) 1 cp)).alloc _).alloc _).cell? ⟨wb, 0, none⟩ = _
    rw [World.cell?_alloc_past _ _ _ (by simp; omega), World.cell?_alloc_past _ _ _ (by simp; omega), World.cell?_setCell_same _ _ _ d1]
  · rw [oldw 1 (by omega)]; exact d2
  · rw [oldw 2 (by omega)]; exact d3
  · rw [new 0 (by omega)]; rfl
  · rw [new 1 (by omega)]; rfl
  · rw [new 2 (by omega)]; rfl
  · rw [new 3 (by omega)]; rfl
  · refine ⟨#[.int .u64 (tN N), .int .i64 (tS N), .pointer none, .int .u64 lim] ++ Builtin.zeroCells #[.int .u64 0, .int .i64 0, .pointer none, .int .u64 0] (cp - 1), ?_, ?_⟩
    · show (((W.setCell ⟨wb, 0, none⟩ (.slice (some ⟨W.heap.size + 1, 0, none⟩) 1 cp)).alloc (.cells #[.int .u64 (tN N), .int .i64 (tS N), .pointer none, .int .u64 lim] 76)).heap.push _)[W.heap.size + 1]? = _
      rw [Array.getElem?_push, if_pos (by simp)]
    · rw [Array.size_append, size_zeroCells]
      simp
      omega
  · rw [oldf wb 0 (by omega)]; exact f0
  · rw [oldf wb 1 (by omega)]; exact f1
  · rw [oldf wb 2 (by omega)]; exact f2
  · rw [old (B + 1) 1 (by omega) (by omega)]; exact d9
  · rw [old _ _ (by omega) z5]; exact e0
  · rw [old _ _ (by omega) z5]; exact e1
  · rw [old _ _ (by omega) z5]; exact e2
  · rw [old _ _ (by omega) z5]; exact e3
  · rw [oldf _ _ z5]; exact g0
  · rw [oldf _ _ z5]; exact g1
  · rw [oldf _ _ z5]; exact g2
  · rw [oldf _ _ z5]; exact g3
/-- Of the blocks that were there only numbers x and y may have turned. -/
structure Kept (x y : Nat) (w w' : World) : Prop where
  os : w'.os = w.os
  tape : w'.tape = w.tape
  output : w'.output = w.output
  size : w.heap.size ≤ w'.heap.size
  block : ∀ k, k < w.heap.size → k ≠ x → k ≠ y → w'.heap[k]? = w.heap[k]?
theorem Kept.of_below {x y : Nat} {w w' : World} (h : Below w.heap.size w w') : Kept x y w w' := ⟨h.os, h.tape, h.output, h.size, fun k hk _ _ => h.block k hk⟩
theorem Kept.refl (x y : Nat) (w : World) : Kept x y w w := ⟨rfl, rfl, rfl, Nat.le_refl _, fun _ _ _ _ => rfl⟩
theorem Kept.trans {x y : Nat} {a b c : World} (h : Kept x y a b) (k : Kept x y b c) : Kept x y a c :=
  ⟨k.os.trans h.os, k.tape.trans h.tape, k.output.trans h.output, Nat.le_trans h.size k.size, fun i hi h1 h2 => (k.block i (Nat.lt_of_lt_of_le hi h.size) h1 h2).trans (h.block i hi h1 h2)⟩
theorem Kept.later {x y : Nat} {a b c : World} (h : Kept x y a b) (k : Below b.heap.size b c) : Kept x y a c := h.trans (Kept.of_below k)
theorem Kept.alloc {x y : Nat} {a b : World} (h : Kept x y a b) (o : Obj) : Kept x y a (b.alloc o) := h.later ((Below.refl _ _).alloc (Nat.le_refl _) _)
theorem Kept.drew {x y : Nat} {a b : World} (h : Kept x y a b) : Kept x y a b.drew := h.later ((Below.refl _ _).drew)
theorem Kept.drewN {x y : Nat} {a b : World} (h : Kept x y a b) (n : Nat) : Kept x y a (b.drewN n) := h.later (below_drewN (Below.refl _ _) n)
theorem Kept.setCell {x y : Nat} {a b : World} (h : Kept x y a b) (p : Addr) (v : Value) (hp : p.block = x ∨ p.block = y ∨ a.heap.size ≤ p.block) : Kept x y a (b.setCell p v) :=
  ⟨h.os, h.tape, h.output, Nat.le_trans h.size (by simp), fun k hk h1 h2 => by
    rw [Below.heap_setCell _ _ _ _ (by omega)]; exact h.block k hk h1 h2⟩
theorem Kept.cell {x y : Nat} {w w' : World} (h : Kept x y w w') {p : Addr} {v : Value} (hc : w.cell? p = some v) (h1 : p.block ≠ x) (h2 : p.block ≠ y) : w'.cell? p = some v :=
  (World.cell?_of_block (w := w) (h.block p.block (World.block_lt_of_cell? _ _ hc) h1 h2)).trans hc
theorem Kept.frozen {x y : Nat} {w w' : World} (h : Kept x y w w') {p : Addr} (hp : p.block < w.heap.size) (h1 : p.block ≠ x) (h2 : p.block ≠ y) : w'.frozen? p = w.frozen? p :=
  World.frozen?_of_block (w := w) (h.block p.block hp h1 h2)
theorem Kept.below {x y B : Nat} {w w' : World} (h : Kept x y w w') (hx : B ≤ x) (hy : B ≤ y) (hB : B ≤ w.heap.size) : Below B w w' :=
  ⟨h.os, h.tape, h.output, h.size, fun k hk => h.block k (by omega) (by omega) (by omega)⟩
theorem cut_one (t : Nat) : 1 ≤ (Question.appendCap 1 0 76).cut t := by
  show 1 ≤ 1 + t % (2 ^ 63 - 1)
  omega
end Go.Proofs.Qxb6613076a
