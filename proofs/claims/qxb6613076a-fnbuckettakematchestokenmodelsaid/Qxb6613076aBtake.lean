/-
  bucket.take over whatever contracts of its callees: all words are letters.
-/
import Derived.Test.Qxb6613076aLacking
namespace Go.Proofs.Qxb6613076a
open Go.RowKit
set_option linter.unusedVariables false
/-- Whatever the world, the call answers v and leaves all that lay before. -/
def Gives (f : Nat) (args : Array Value) (v : Value) : Prop := ∀ w, Calls Try.prog f args w fun e w' => e = .returned v ∧ Below w.heap.size w w'
theorem frozen_later {w w' : World} {b o o' : Nat} {v : Value} (hb : Below w.heap.size w w') (h : w.cell? ⟨b, o, none⟩ = some v) (k : w.frozen? ⟨b, o', none⟩ = false) : w'.frozen? ⟨b, o', none⟩ = false := by
  rw [hb.frozen (p := ⟨b, o', none⟩) (World.block_lt_of_cell? w ⟨b, o, none⟩ h)]; exact k
/-- A bucket at block b, word by word. -/
structure BB (w : World) (b : Nat) (bn bs bh bl : Int) : Prop where
  a0 : w.cell? ⟨b, 0, none⟩ = some (.int .u64 bn)
  a1 : w.cell? ⟨b, 1, none⟩ = some (.int .i64 bs)
  a2 : w.cell? ⟨b, 2, none⟩ = some (.pointer none)
  m0 : w.cell? ⟨b, 3, none⟩ = some (.int .u64 bh)
  m1 : w.cell? ⟨b, 4, none⟩ = some (.int .u64 bl)
  f0 : w.frozen? ⟨b, 0, none⟩ = false
  f1 : w.frozen? ⟨b, 1, none⟩ = false
  f2 : w.frozen? ⟨b, 2, none⟩ = false
  f3 : w.frozen? ⟨b, 3, none⟩ = false
  f4 : w.frozen? ⟨b, 4, none⟩ = false
theorem BB.later {w w' : World} {b : Nat} {bn bs bh bl : Int} (h : BB w b bn bs bh bl) (hb : Below w.heap.size w w') : BB w' b bn bs bh bl where
  a0 := cell_later hb h.a0
  a1 := cell_later hb h.a1
  a2 := cell_later hb h.a2
  m0 := cell_later hb h.m0
  m1 := cell_later hb h.m1
  f0 := frozen_later hb h.a0 h.f0
  f1 := frozen_later hb h.a0 h.f1
  f2 := frozen_later hb h.a0 h.f2
  f3 := frozen_later hb h.a0 h.f3
  f4 := frozen_later hb h.a0 h.f4
theorem BB.setCell {w : World} {b : Nat} {bn bs bh bl : Int} (h : BB w b bn bs bh bl) (p : Addr) (v : Value) (hp : p.block ≠ b) : BB (w.setCell p v) b bn bs bh bl where
  a0 := by rw [World.cell?_setCell_far _ _ _ _ hp]; exact h.a0
  a1 := by rw [World.cell?_setCell_far _ _ _ _ hp]; exact h.a1
  a2 := by rw [World.cell?_setCell_far _ _ _ _ hp]; exact h.a2
  m0 := by rw [World.cell?_setCell_far _ _ _ _ hp]; exact h.m0
  m1 := by rw [World.cell?_setCell_far _ _ _ _ hp]; exact h.m1
  f0 := by rw [World.frozen?_setCell]; exact h.f0
  f1 := by rw [World.frozen?_setCell]; exact h.f1
  f2 := by rw [World.frozen?_setCell]; exact h.f2
  f3 := by rw [World.frozen?_setCell]; exact h.f3
  f4 := by rw [World.frozen?_setCell]; exact h.f4
/-- take's own boxes: policy at B, now at B+1, the result at B+2. -/
structure Tk0 (V : World) (B : Nat) (lim win rate un us : Int) : Prop where
  p1 : V.cell? ⟨B, 1, none⟩ = some (.int .i64 lim)
  p2 : V.cell? ⟨B, 2, none⟩ = some (.int .i64 win)
  p3 : V.cell? ⟨B, 3, none⟩ = some (.int .i64 rate)
  n0 : V.cell? ⟨B + 1, 0, none⟩ = some (.int .u64 un)
  n1 : V.cell? ⟨B + 1, 1, none⟩ = some (.int .i64 us)
  n2 : V.cell? ⟨B + 1, 2, none⟩ = some (.pointer none)
  r0 : V.cell? ⟨B + 1 + 1, 0, none⟩ = some (.bool false)
  r1 : V.cell? ⟨B + 1 + 1, 1, none⟩ = some (.int .i64 0)
  r2 : V.cell? ⟨B + 1 + 1, 2, none⟩ = some (.int .i64 0)
  r3 : V.cell? ⟨B + 1 + 1, 3, none⟩ = some (.int .i64 0)
  fn0 : V.frozen? ⟨B + 1, 0, none⟩ = false
  fn1 : V.frozen? ⟨B + 1, 1, none⟩ = false
  fn2 : V.frozen? ⟨B + 1, 2, none⟩ = false
  fr0 : V.frozen? ⟨B + 1 + 1, 0, none⟩ = false
  fr1 : V.frozen? ⟨B + 1 + 1, 1, none⟩ = false
  fr2 : V.frozen? ⟨B + 1 + 1, 2, none⟩ = false
  fr3 : V.frozen? ⟨B + 1 + 1, 3, none⟩ = false
theorem Tk0.later {V V' : World} {B : Nat} {lim win rate un us : Int} (h : Tk0 V B lim win rate un us) (hb : Below V.heap.size V V') : Tk0 V' B lim win rate un us where
  p1 := cell_later hb h.p1
  p2 := cell_later hb h.p2
  p3 := cell_later hb h.p3
  n0 := cell_later hb h.n0
  n1 := cell_later hb h.n1
  n2 := cell_later hb h.n2
  r0 := cell_later hb h.r0
  r1 := cell_later hb h.r1
  r2 := cell_later hb h.r2
  r3 := cell_later hb h.r3
  fn0 := frozen_later hb h.n0 h.fn0
  fn1 := frozen_later hb h.n0 h.fn1
  fn2 := frozen_later hb h.n0 h.fn2
  fr0 := frozen_later hb h.r0 h.fr0
  fr1 := frozen_later hb h.r0 h.fr1
  fr2 := frozen_later hb h.r0 h.fr2
  fr3 := frozen_later hb h.r0 h.fr3
/-- 'now' is set. -/
theorem Tk0.putN {V : World} {B : Nat} {lim win rate un us : Int} (h : Tk0 V B lim win rate un us) (n s : Int) :
    Tk0 (((V.setCell ⟨B + 1, 0, none⟩ (.int .u64 n)).setCell ⟨B + 1, 1, none⟩ (.int .i64 s)).setCell ⟨B + 1, 2, none⟩ (.pointer none)) B lim win rate n s := by
  obtain ⟨p1, p2, p3, n0, n1, n2, r0, r1, r2, r3, fn0, fn1, fn2, fr0, fr1, fr2, fr3⟩ := h
  constructor <;> simp [go_sem, *]
/-- A store elsewhere. -/
theorem Tk0.setCell {V : World} {B : Nat} {lim win rate un us : Int} (h : Tk0 V B lim win rate un us) (p : Addr) (v : Value) (h0 : p.block ≠ B) (h1 : p.block ≠ B + 1) (h2 : p.block ≠ B + 1 + 1) : Tk0 (V.setCell p v) B lim win rate un us where
  p1 := by rw [World.cell?_setCell_far _ _ _ _ h0]; exact h.p1
  p2 := by rw [World.cell?_setCell_far _ _ _ _ h0]; exact h.p2
  p3 := by rw [World.cell?_setCell_far _ _ _ _ h0]; exact h.p3
  n0 := by rw [World.cell?_setCell_far _ _ _ _ h1]; exact h.n0
  n1 := by rw [World.cell?_setCell_far _ _ _ _ h1]; exact h.n1
  n2 := by rw [World.cell?_setCell_far _ _ _ _ h1]; exact h.n2
  r0 := by rw [World.cell?_setCell_far _ _ _ _ h2]; exact h.r0
  r1 := by rw [World.cell?_setCell_far _ _ _ _ h2]; exact h.r1
  r2 := by rw [World.cell?_setCell_far _ _ _ _ h2]; exact h.r2
  r3 := by rw [World.cell?_setCell_far _ _ _ _ h2]; exact h.r3
  fn0 := by rw [World.frozen?_setCell]; exact h.fn0
  fn1 := by rw [World.frozen?_setCell]; exact h.fn1
  fn2 := by rw [World.frozen?_setCell]; exact h.fn2
  fr0 := by rw [World.frozen?_setCell]; exact h.fr0
  fr1 := by rw [World.frozen?_setCell]; exact h.fr1
  fr2 := by rw [World.frozen?_setCell]; exact h.fr2
  fr3 := by rw [World.frozen?_setCell]; exact h.fr3
/-- A 128-bit number at block p. -/
structure U2 (V : World) (p : Nat) (h l : Int) : Prop where
  m0 : V.cell? ⟨p, 0, none⟩ = some (.int .u64 h)
  m1 : V.cell? ⟨p, 1, none⟩ = some (.int .u64 l)
  f0 : V.frozen? ⟨p, 0, none⟩ = false
  f1 : V.frozen? ⟨p, 1, none⟩ = false
theorem U2.later {V V' : World} {p : Nat} {h l : Int} (k : U2 V p h l) (hb : Below V.heap.size V V') : U2 V' p h l :=
  ⟨cell_later hb k.m0, cell_later hb k.m1, frozen_later hb k.m0 k.f0, frozen_later hb k.m0 k.f1⟩
theorem U2.setCell {V : World} {p : Nat} {h l : Int} (k : U2 V p h l) (a : Addr) (v : Value) (n : a.block ≠ p) : U2 (V.setCell a v) p h l :=
  ⟨by rw [World.cell?_setCell_far _ _ _ _ n]; exact k.m0, by rw [World.cell?_setCell_far _ _ _ _ n]; exact k.m1, by rw [World.frozen?_setCell]; exact k.f0, by rw [World.frozen?_setCell]; exact k.f1⟩
theorem U2.put {V : World} {p : Nat} {h l : Int} (k : U2 V p h l) (h' l' : Int) : U2 ((V.setCell ⟨p, 0, none⟩ (.int .u64 h')).setCell ⟨p, 1, none⟩ (.int .u64 l')) p h' l' := by
  obtain ⟨m0, m1, f0, f1⟩ := k
  constructor <;> simp [go_sem, *]
theorem U2.new (V : World) (h l : Int) (t : TypeId) : U2 (V.alloc (.cells #[.int .u64 h, .int .u64 l] t)) V.heap.size h l := by
  constructor <;> simp [go_sem]
theorem sv_start {V : World} {p : Nat} {h l : Int} (k : U2 V p h l) : Below V.heap.size V V.drew ∧ V.drew.cell? ⟨p, 0, none⟩ = some (.int .u64 h) ∧ V.drew.cell? ⟨p, 1, none⟩ = some (.int .u64 l) :=
  ⟨(Below.refl _ _).drew, k.m0, k.m1⟩
theorem sv_later {V V1 V2 : World} {p : Nat} {h l : Int} (k : Below V.heap.size V V1 ∧ V1.cell? ⟨p, 0, none⟩ = some (.int .u64 h) ∧ V1.cell? ⟨p, 1, none⟩ = some (.int .u64 l)) (x : Below V1.heap.size V1 V2) :
    Below V.heap.size V V2 ∧ V2.cell? ⟨p, 0, none⟩ = some (.int .u64 h) ∧ V2.cell? ⟨p, 1, none⟩ = some (.int .u64 l) :=
  ⟨k.1.trans (x.mono k.1.size), cell_later x k.2.1, cell_later x k.2.2⟩
theorem sv_alloc {V V1 : World} {p : Nat} {h l : Int} {o : Obj} (k : Below V.heap.size V V1 ∧ V1.cell? ⟨p, 0, none⟩ = some (.int .u64 h) ∧ V1.cell? ⟨p, 1, none⟩ = some (.int .u64 l)) :
    Below V.heap.size V (V1.alloc o) ∧ (V1.alloc o).cell? ⟨p, 0, none⟩ = some (.int .u64 h) ∧ (V1.alloc o).cell? ⟨p, 1, none⟩ = some (.int .u64 l) :=
  sv_later k ((Below.refl _ _).alloc (Nat.le_refl _) _)
theorem sv_re {V V1 : World} {p : Nat} {h l : Int} {o o' : Obj} (hp : p < V.heap.size) (hs : V.heap.size ≤ V1.heap.size) (k : Below V.heap.size V (V1.alloc o) ∧ (V1.alloc o).cell? ⟨p, 0, none⟩ = some (.int .u64 h) ∧ (V1.alloc o).cell? ⟨p, 1, none⟩ = some (.int .u64 l)) :
    Below V.heap.size V (V1.alloc o') ∧ (V1.alloc o').cell? ⟨p, 0, none⟩ = some (.int .u64 h) ∧ (V1.alloc o').cell? ⟨p, 1, none⟩ = some (.int .u64 l) := by
  have e : ∀ i, (V1.alloc o').cell? ⟨p, i, none⟩ = (V1.alloc o).cell? ⟨p, i, none⟩ := fun i => by
    rw [World.cell?_alloc_past _ _ _ (by show p < V1.heap.size; omega), World.cell?_alloc_past _ _ _ (by show p < V1.heap.size; omega)]
  refine ⟨⟨k.1.os, k.1.tape, k.1.output, by simpa using k.1.size, fun i hi => ?_⟩, by rw [e]; exact k.2.1, by rw [e]; exact k.2.2⟩
  rw [← k.1.block i hi, Below.heap_alloc _ _ _ (by omega), Below.heap_alloc _ _ _ (by omega)]
theorem sv_set {V V1 : World} {p q : Nat} {h l : Int} {v0 v1 : Value} (hp : p < V.heap.size) (hq : V.heap.size ≤ q) (k : Below V.heap.size V V1 ∧ V1.cell? ⟨p, 0, none⟩ = some (.int .u64 h) ∧ V1.cell? ⟨p, 1, none⟩ = some (.int .u64 l)) :
    Below V.heap.size V ((V1.setCell ⟨q, 0, none⟩ v0).setCell ⟨q, 1, none⟩ v1) ∧ ((V1.setCell ⟨q, 0, none⟩ v0).setCell ⟨q, 1, none⟩ v1).cell? ⟨p, 0, none⟩ = some (.int .u64 h) ∧ ((V1.setCell ⟨q, 0, none⟩ v0).setCell ⟨q, 1, none⟩ v1).cell? ⟨p, 1, none⟩ = some (.int .u64 l) := by
  refine ⟨(k.1.setCell hq _).setCell hq _, ?_, ?_⟩
  · rw [World.cell?_setCell_far _ _ _ _ (by show q ≠ p; omega), World.cell?_setCell_far _ _ _ _ (by show q ≠ p; omega)]; exact k.2.1
  · rw [World.cell?_setCell_far _ _ _ _ (by show q ≠ p; omega), World.cell?_setCell_far _ _ _ _ (by show q ≠ p; omega)]; exact k.2.2
theorem U2.drew {V : World} {p : Nat} {h l : Int} (k : U2 V p h l) : U2 V.drew p h l := k.later ((Below.refl _ _).drew)
theorem U2.kept {x y : Nat} {V V' : World} {p : Nat} {h l : Int} (k : U2 V p h l) (hk : Kept x y V V') (h1 : p ≠ x) (h2 : p ≠ y) : U2 V' p h l :=
  ⟨hk.cell k.m0 h1 h2, hk.cell k.m1 h1 h2, (hk.frozen (p := ⟨p, 0, none⟩) (World.block_lt_of_cell? V ⟨p, 0, none⟩ k.m0) h1 h2).trans k.f0, (hk.frozen (p := ⟨p, 1, none⟩) (World.block_lt_of_cell? V ⟨p, 0, none⟩ k.m0) h1 h2).trans k.f1⟩
/-- What the refusing statement reads. -/
theorem s13 {V V' : World} {B F q : Nat} {lim win rate un us lh ll fh fl nh nl : Int} (hT : Tk0 V B lim win rate un us) (hM : U2 V (B + 1 + 1 + 1) lh ll) (hF : U2 V F fh fl) (hQ : U2 V q nh nl) (nF : F ≠ B + 1 + 1) (nq : q ≠ B + 1 + 1) (k : Kept (B + 1 + 1) (B + 1 + 1) V V') :
    Kept (B + 1 + 1) (B + 1 + 1) V V' ∧ V'.cell? ⟨B, 1, none⟩ = some (.int .i64 lim) ∧ V'.cell? ⟨B + 1 + 1 + 1, 0, none⟩ = some (.int .u64 lh) ∧ V'.cell? ⟨B + 1 + 1 + 1, 1, none⟩ = some (.int .u64 ll) ∧
      V'.cell? ⟨F, 0, none⟩ = some (.int .u64 fh) ∧ V'.cell? ⟨F, 1, none⟩ = some (.int .u64 fl) ∧ V'.cell? ⟨q, 0, none⟩ = some (.int .u64 nh) ∧ V'.cell? ⟨q, 1, none⟩ = some (.int .u64 nl) := by
  have n1 : B ≠ B + 1 + 1 := by omega
  have n2 : B + 1 + 1 + 1 ≠ B + 1 + 1 := by omega
  exact ⟨k, k.cell hT.p1 n1 n1, k.cell hM.m0 n2 n2, k.cell hM.m1 n2 n2, k.cell hF.m0 nF nF, k.cell hF.m1 nF nF, k.cell hQ.m0 nq nq, k.cell hQ.m1 nq nq⟩
/-- What the admitting statement reads. -/
theorem s12 {V V' : World} {B q : Nat} {lim win rate un us ah al : Int} (hT : Tk0 V B lim win rate un us) (hQ : U2 V q ah al) (nq : q ≠ B + 1 + 1) (k : Kept (B + 1 + 1) (B + 1 + 1) V V') :
    Kept (B + 1 + 1) (B + 1 + 1) V V' ∧ V'.cell? ⟨B, 1, none⟩ = some (.int .i64 lim) ∧ V'.cell? ⟨q, 0, none⟩ = some (.int .u64 ah) ∧ V'.cell? ⟨q, 1, none⟩ = some (.int .u64 al) := by
  have n1 : B ≠ B + 1 + 1 := by omega
  exact ⟨k, k.cell hT.p1 n1 n1, k.cell hQ.m0 nq nq, k.cell hQ.m1 nq nq⟩
theorem BB.putAll {V : World} {b : Nat} {bn bs bh bl : Int} (h : BB V b bn bs bh bl) (un us ah al : Int) :
    BB (((((V.setCell ⟨b, 0, none⟩ (.int .u64 un)).setCell ⟨b, 1, none⟩ (.int .i64 us)).setCell ⟨b, 2, none⟩ (.pointer none)).setCell ⟨b, 3, none⟩ (.int .u64 ah)).setCell ⟨b, 4, none⟩ (.int .u64 al)).drew b un us ah al := by
  obtain ⟨k0, k1, k2, k3, k4, g0, g1, g2, g3, g4⟩ := h
  constructor <;> simp [go_sem, *]
theorem Tk0.put5 {V : World} {B b : Nat} {lim win rate un us : Int} (h : Tk0 V B lim win rate un us) (hb : b < B) (v0 v1 v2 v3 v4 : Value) :
    Tk0 (((((V.setCell ⟨b, 0, none⟩ v0).setCell ⟨b, 1, none⟩ v1).setCell ⟨b, 2, none⟩ v2).setCell ⟨b, 3, none⟩ v3).setCell ⟨b, 4, none⟩ v4).drew B lim win rate un us := by
  have h0 : b ≠ B := by omega
  have h1 : b ≠ B + 1 := by omega
  have h2 : b ≠ B + 1 + 1 := by omega
  exact (((((h.setCell _ _ h0 h1 h2).setCell _ _ h0 h1 h2).setCell _ _ h0 h1 h2).setCell _ _ h0 h1 h2).setCell _ _ h0 h1 h2).later ((Below.refl _ _).drew)
theorem U2.put5 {V : World} {b p : Nat} {h l : Int} (k : U2 V p h l) (hb : b ≠ p) (v0 v1 v2 v3 v4 : Value) :
    U2 (((((V.setCell ⟨b, 0, none⟩ v0).setCell ⟨b, 1, none⟩ v1).setCell ⟨b, 2, none⟩ v2).setCell ⟨b, 3, none⟩ v3).setCell ⟨b, 4, none⟩ v4).drew p h l :=
  (((((k.setCell _ _ hb).setCell _ _ hb).setCell _ _ hb).setCell _ _ hb).setCell _ _ hb).drew
theorem Kept.put5 {w V : World} {b : Nat} (k : Below w.heap.size w V) (v0 v1 v2 v3 v4 : Value) :
    Kept b b w (((((V.setCell ⟨b, 0, none⟩ v0).setCell ⟨b, 1, none⟩ v1).setCell ⟨b, 2, none⟩ v2).setCell ⟨b, 3, none⟩ v3).setCell ⟨b, 4, none⟩ v4).drew :=
  ((((((Kept.of_below k).setCell ⟨b, 0, none⟩ _ (.inl rfl)).setCell ⟨b, 1, none⟩ _ (.inl rfl)).setCell ⟨b, 2, none⟩ _ (.inl rfl)).setCell ⟨b, 3, none⟩ _ (.inl rfl)).setCell ⟨b, 4, none⟩ _ (.inl rfl)).drew
/-- Behind a write to a new block c alone. -/
theorem BB.kept {c : Nat} {V V' : World} {b : Nat} {bn bs bh bl : Int} (h : BB V b bn bs bh bl) (k : Kept c c V V') (n : b ≠ c) : BB V' b bn bs bh bl where
  a0 := k.cell h.a0 n n
  a1 := k.cell h.a1 n n
  a2 := k.cell h.a2 n n
  m0 := k.cell h.m0 n n
  m1 := k.cell h.m1 n n
  f0 := (k.frozen (p := ⟨b, 0, none⟩) (World.block_lt_of_cell? V ⟨b, 0, none⟩ h.a0) n n).trans h.f0
  f1 := (k.frozen (p := ⟨b, 1, none⟩) (World.block_lt_of_cell? V ⟨b, 0, none⟩ h.a0) n n).trans h.f1
  f2 := (k.frozen (p := ⟨b, 2, none⟩) (World.block_lt_of_cell? V ⟨b, 0, none⟩ h.a0) n n).trans h.f2
  f3 := (k.frozen (p := ⟨b, 3, none⟩) (World.block_lt_of_cell? V ⟨b, 0, none⟩ h.a0) n n).trans h.f3
  f4 := (k.frozen (p := ⟨b, 4, none⟩) (World.block_lt_of_cell? V ⟨b, 0, none⟩ h.a0) n n).trans h.f4
theorem Kept.join {b c : Nat} {w V V' : World} (h : Kept b b w V) (hc : w.heap.size ≤ c) (k : Kept c c V V') : Kept b b w V' :=
  ⟨k.os.trans h.os, k.tape.trans h.tape, k.output.trans h.output, Nat.le_trans h.size k.size, fun i hi h1 h2 => (k.block i (Nat.lt_of_lt_of_le hi h.size) (by omega) (by omega)).trans (h.block i hi h1 h2)⟩
theorem keptL {x : Nat} {V V1 V2 : World} {R : Prop} (k : Kept x x V V1 ∧ R) (h : Below V1.heap.size V1 V2) : Kept x x V V2 := k.1.later h
theorem keptS {x : Nat} {V V1 : World} {R : Prop} {v0 v1 v2 v3 : Value} (k : Kept x x V V1 ∧ R) : Kept x x V ((((V1.setCell ⟨x, 0, none⟩ v0).setCell ⟨x, 1, none⟩ v1).setCell ⟨x, 2, none⟩ v2).setCell ⟨x, 3, none⟩ v3) :=
  (((k.1.setCell _ _ (.inl rfl)).setCell _ _ (.inl rfl)).setCell _ _ (.inl rfl)).setCell _ _ (.inl rfl)
theorem Kept.under {w V V' : World} {c : Nat} (h : Below w.heap.size w V) (hc : w.heap.size ≤ c) (k : Kept c c V V') : Below w.heap.size w V' :=
  h.trans (k.below hc hc h.size)
set_option maxRecDepth 100000 in
set_option maxHeartbeats 3200000 in
theorem take_words (b : Nat) (lim win rate cost ahead tn ts bn bs bh bl un us lh ll fh fl ph pl nh nl ch cl ah al dh dl k1 k2 r sm : Int) (z bf less : Bool) (w : World) (H : BB w b bn bs bh bl)
    (hlim : IntKind.u64.wrap lim = lim) (hwin : IntKind.u64.wrap win = win) (hrate : IntKind.u64.wrap rate = rate)
    (C47 : Gives 47 #[.agg #[.int .u64 bh, .int .u64 bl]] (.bool z))
    (C36 : Gives 36 #[.agg #[.int .u64 tn, .int .i64 ts, .pointer none], .agg #[.int .u64 bn, .int .i64 bs, .pointer none]] (.bool bf))
    (C48 : z = false → Hid (∀ W, BB W b bn bs bh bl → Calls Try.prog 48 #[.pointer (some ⟨b, 0, none⟩), .int .u64 rate, .agg #[.int .u64 un, .int .i64 us, .pointer none]] W fun e w' => e = .returned (.agg #[.int .u64 lh, .int .u64 ll]) ∧ Below W.heap.size W w'))
    (hz1 : z = true → un = tn ∧ us = ts ∧ lh = bh ∧ ll = bl)
    (hz2 : z = false → bf = true → un = bn ∧ us = bs)
    (hz3 : z = false → bf = false → un = tn ∧ us = ts)
    (hcv : IntKind.u64.wrap cost = cost) (hcav : IntKind.u64.wrap (IntKind.i64.wrap (cost + ahead)) = sm)
    (C49a : Gives 49 #[.int .u64 lim, .int .u64 win] (.agg #[.int .u64 fh, .int .u64 fl]))
    (C49b : Gives 49 #[.int .u64 sm, .int .u64 win] (.agg #[.int .u64 ph, .int .u64 pl]))
    (C50 : Gives 50 #[.agg #[.int .u64 lh, .int .u64 ll], .agg #[.int .u64 ph, .int .u64 pl]] (.agg #[.int .u64 nh, .int .u64 nl]))
    (C51 : Gives 51 #[.agg #[.int .u64 fh, .int .u64 fl], .agg #[.int .u64 nh, .int .u64 nl]] (.bool less))
    (C49c : Gives 49 #[.int .u64 cost, .int .u64 win] (.agg #[.int .u64 ch, .int .u64 cl]))
    (C50b : Gives 50 #[.agg #[.int .u64 lh, .int .u64 ll], .agg #[.int .u64 ch, .int .u64 cl]] (.agg #[.int .u64 ah, .int .u64 al]))
    (C52 : less = false → Gives 52 #[.agg #[.int .u64 ah, .int .u64 al], .int .u64 win] (.int .i64 k1))
    (C52b : Gives 52 #[.agg #[.int .u64 lh, .int .u64 ll], .int .u64 win] (.int .i64 k2))
    (C54 : Gives 54 #[.agg #[.int .u64 nh, .int .u64 nl], .agg #[.int .u64 fh, .int .u64 fl]] (.agg #[.int .u64 dh, .int .u64 dl]))
    (C53 : Gives 53 #[.agg #[.int .u64 dh, .int .u64 dl], .int .u64 rate] (.int .i64 r))
    (hk1 : less = false → IntKind.i64.wrap (lim - k1) = lim - k1) (hk2 : IntKind.i64.wrap (lim - k2) = lim - k2) :
    Calls Try.prog 37 #[.pointer (some ⟨b, 0, none⟩), .agg #[.int .u8 0, .int .i64 lim, .int .i64 win, .int .i64 rate, .int .u8 0, .int .i64 0, .int .i64 0, .int .i64 0], .int .i64 cost, .int .i64 ahead, .agg #[.int .u64 tn, .int .i64 ts, .pointer none]] w fun e w' =>
      (less = false → e = .returned (.agg #[.bool true, .int .i64 lim, .int .i64 (lim - k1), .int .i64 0]) ∧ BB w' b un us ah al ∧ Kept b b w w') ∧
      (less = true → e = .returned (.agg #[.bool false, .int .i64 lim, .int .i64 (lim - k2), .int .i64 r]) ∧ Below w.heap.size w w') := by
  have HC52 : Hid (less = false → Gives 52 #[.agg #[.int .u64 ah, .int .u64 al], .int .u64 win] (.int .i64 k1)) := C52
  have HK1 : Hid (less = false → IntKind.i64.wrap (lim - k1) = lim - k1) := hk1
  clear C52 hk1
  have hbw : b < w.heap.size := World.block_lt_of_cell? _ _ H.a0
  have HH : Hid (BB w b bn bs bh bl) := H
  have HZ1 : Hid (z = true → un = tn ∧ us = ts ∧ lh = bh ∧ ll = bl) := hz1
  have HZ2 : Hid (z = false → bf = true → un = bn ∧ us = bs) := hz2
  have HZ3 : Hid (z = false → bf = false → un = tn ∧ us = ts) := hz3
  have HC48 : Hid (z = false → ∀ W, BB W b bn bs bh bl → Calls Try.prog 48 #[.pointer (some ⟨b, 0, none⟩), .int .u64 rate, .agg #[.int .u64 un, .int .i64 us, .pointer none]] W fun e w' => e = .returned (.agg #[.int .u64 lh, .int .u64 ll]) ∧ Below W.heap.size W w') := fun h => (C48 h).out
  clear H hz1 hz2 hz3 C48
  go_enter Try.func37, Try.ntmps37
  go_wp2_with fail
  refine gen_wp _ (fun W => BB W b bn bs bh bl ∧ Below w.heap.size w W ∧ W.heap.size = w.heap.size + 1 + 1 + 1 ∧ Tk0 W w.heap.size lim win rate tn ts) ?_ ?_
  · have hb : Below w.heap.size w (((w.alloc (.cells #[.int .u8 0, .int .i64 lim, .int .i64 win, .int .i64 rate, .int .u8 0, .int .i64 0, .int .i64 0, .int .i64 0] 31)).alloc (.cells #[.int .u64 tn, .int .i64 ts, .pointer none] 69)).alloc (.cells #[.bool false, .int .i64 0, .int .i64 0, .int .i64 0] 89)) := by go_grown
    refine ⟨HH.out.later hb, hb, by simp, ?_⟩
    constructor <;> simp [go_sem]
  rintro W ⟨hBB, hBe, hsz, hTk⟩
  have HBB : Hid (BB W b bn bs bh bl) := hBB
  have HB : Hid (Below w.heap.size w W) := hBe
  have HT : Hid (Tk0 W w.heap.size lim win rate tn ts) := hTk
  have HS : Hid (W.heap.size = w.heap.size + 1 + 1 + 1) := hsz
  clear hBB hBe hTk hsz HH
  have p2 := HT.out.p2
  have p3 := HT.out.p3
  go_quiet (fail)
  clear p2 p3
  have D : Below W.heap.size W (W.drewN nq) := below_drewN (Below.refl _ _) nq
  replace HBB : Hid (BB (W.drewN nq) b bn bs bh bl) := HBB.out.later D
  replace HB : Hid (Below w.heap.size w (W.drewN nq)) := HB.out.trans (D.mono HB.out.size)
  replace HT : Hid (Tk0 (W.drewN nq) w.heap.size lim win rate tn ts) := HT.out.later D
  replace HS : Hid ((W.drewN nq).heap.size = w.heap.size + 1 + 1 + 1) := HS
  clear D
  generalize W.drewN nq = X at *
  have c0 := HBB.out.m0
  have c1 := HBB.out.m1
  go_upto_if 29 with (go_at_call 47; refine (C47 _).mono ?_; rintro e w1 ⟨rfl, x1⟩)
  clear c0 c1
  have hX : Below X.heap.size X (X.alloc (.cells #[.int .u64 bh, .int .u64 bl] 85)) := (Below.refl _ _).alloc (Nat.le_refl _) _
  have HM : Hid (U2 w1 (w.heap.size + 1 + 1 + 1) bh bl) := by
    have h := (U2.new X bh bl 85).later x1
    rw [HS.out] at h; exact h
  have hX1 : Below X.heap.size X w1 := hX.trans (x1.mono (by simp))
  replace HBB : Hid (BB w1 b bn bs bh bl) := HBB.out.later hX1
  replace HB : Hid (Below w.heap.size w w1) := HB.out.trans (hX1.mono HB.out.size)
  replace HT : Hid (Tk0 w1 w.heap.size lim win rate tn ts) := HT.out.later hX1
  rw [HS.out]
  clear hX hX1 x1 HS C47
  go_cut [13] (fun x wx => x = .pointer (some ⟨w.heap.size + 1 + 1 + 1, 0, none⟩) ∧ Hid (BB wx b bn bs bh bl ∧ Below w.heap.size w wx ∧ Tk0 wx w.heap.size lim win rate un us ∧ U2 wx (w.heap.size + 1 + 1 + 1) lh ll))
  case first =>
    cases z with
    | true =>
      go_wp2_with fail
      go_meet
      obtain ⟨rfl, rfl, rfl, rfl⟩ := HZ1.out (by simp)
      exact ⟨rfl, HBB.out, HB.out, HT.out, HM.out⟩
    | false =>
      go_upto_region 4 with fail
      go_region_held3 (fun V => V.cell? ⟨w.heap.size + 1, 0, none⟩ = some (.int .u64 tn) ∧ V.cell? ⟨w.heap.size + 1, 1, none⟩ = some (.int .i64 ts) ∧ V.cell? ⟨w.heap.size + 1, 2, none⟩ = some (.pointer none) ∧
          V.cell? ⟨b, 0, none⟩ = some (.int .u64 bn) ∧ V.cell? ⟨b, 1, none⟩ = some (.int .i64 bs) ∧ V.cell? ⟨b, 2, none⟩ = some (.pointer none))
        (first | (exact ⟨HT.out.n0, HT.out.n1, HT.out.n2, HBB.out.a0, HBB.out.a1, HBB.out.a2⟩) | (have E1 := HT.out.later (bdrew x2); have E2 := HBB.out.later (bdrew x2); exact ⟨E1.n0, E1.n1, E1.n2, E2.a0, E2.a1, E2.a2⟩))
        (first | (go_at_call 36; refine (C36 _).mono ?_; rintro e w2 ⟨rfl, x2⟩))
      rename_i hx
      clear hx
      replace HBB : Hid (BB w2 b bn bs bh bl) := HBB.out.later (bdrew x2)
      replace HB : Hid (Below w.heap.size w w2) := HB.out.trans ((bdrew x2).mono HB.out.size)
      replace HT : Hid (Tk0 w2 w.heap.size lim win rate tn ts) := HT.out.later (bdrew x2)
      replace HM : Hid (U2 w2 (w.heap.size + 1 + 1 + 1) bh bl) := HM.out.later (bdrew x2)
      clear x2
      cases bf with
      | true =>
        obtain ⟨rfl, rfl⟩ := HZ2.out (by simp) (by simp)
        have c0 := HBB.out.a0
        have c1 := HBB.out.a1
        have c2 := HBB.out.a2
        obtain ⟨-, -, -, n0, n1, n2, -, -, -, -, fn0, fn1, fn2, -, -, -, -⟩ := HT.out
        go_wp2_with fail
        have HT2 := HT.out.putN un us
        have HBB2 := ((HBB.out.setCell ⟨w.heap.size + 1, 0, none⟩ (.int .u64 un) (by show w.heap.size + 1 ≠ b; omega)).setCell ⟨w.heap.size + 1, 1, none⟩ (.int .i64 us) (by show w.heap.size + 1 ≠ b; omega)).setCell ⟨w.heap.size + 1, 2, none⟩ (.pointer none) (by show w.heap.size + 1 ≠ b; omega)
        have HM2 := ((HM.out.setCell ⟨w.heap.size + 1, 0, none⟩ (.int .u64 un) (by show w.heap.size + 1 ≠ w.heap.size + 1 + 1 + 1; omega)).setCell ⟨w.heap.size + 1, 1, none⟩ (.int .i64 us) (by show w.heap.size + 1 ≠ w.heap.size + 1 + 1 + 1; omega)).setCell ⟨w.heap.size + 1, 2, none⟩ (.pointer none) (by show w.heap.size + 1 ≠ w.heap.size + 1 + 1 + 1; omega)
        have HB2 := ((HB.out.setCell (p := ⟨w.heap.size + 1, 0, none⟩) (by show w.heap.size ≤ w.heap.size + 1; omega) (.int .u64 un)).setCell (p := ⟨w.heap.size + 1, 1, none⟩) (by show w.heap.size ≤ w.heap.size + 1; omega) (.int .i64 us)).setCell (p := ⟨w.heap.size + 1, 2, none⟩) (by show w.heap.size ≤ w.heap.size + 1; omega) (.pointer none)
        refine (HC48.out (by simp) _ HBB2).mono ?_
        rintro e w3 ⟨rfl, x3⟩
        replace HBB : Hid (BB w3 b un us bh bl) := HBB2.later x3
        replace HB : Hid (Below w.heap.size w w3) := HB2.trans (x3.mono HB2.size)
        replace HT : Hid (Tk0 w3 w.heap.size lim win rate un us) := HT2.later x3
        replace HM : Hid (U2 w3 (w.heap.size + 1 + 1 + 1) bh bl) := HM2.later x3
        clear x3 n0 n1 n2 c0 c1 c2 fn0 fn1 fn2 HT2 HBB2 HM2 HB2
        obtain ⟨m0, m1, f0, f1⟩ := HM.out
        go_wp2_with fail
        go_meet
        have n1 : w.heap.size + 1 + 1 + 1 ≠ b := by omega
        exact ⟨rfl, (HBB.out.setCell _ _ n1).setCell _ _ n1, (HB.out.setCell (by show w.heap.size ≤ w.heap.size + 1 + 1 + 1; omega) _).setCell (by show w.heap.size ≤ w.heap.size + 1 + 1 + 1; omega) _,
          (HT.out.setCell _ _ (by show w.heap.size + 1 + 1 + 1 ≠ w.heap.size; omega) (by show w.heap.size + 1 + 1 + 1 ≠ w.heap.size + 1; omega) (by show w.heap.size + 1 + 1 + 1 ≠ w.heap.size + 1 + 1; omega)).setCell _ _ (by show w.heap.size + 1 + 1 + 1 ≠ w.heap.size; omega) (by show w.heap.size + 1 + 1 + 1 ≠ w.heap.size + 1; omega) (by show w.heap.size + 1 + 1 + 1 ≠ w.heap.size + 1 + 1; omega),
          HM.out.put lh ll⟩
      | false =>
        obtain ⟨rfl, rfl⟩ := HZ3.out (by simp) (by simp)
        obtain ⟨-, -, -, n0, n1, n2, -, -, -, -, -, -, -, -, -, -, -⟩ := HT.out
        go_wp2_with fail
        refine (HC48.out (by simp) _ HBB.out).mono ?_
        rintro e w3 ⟨rfl, x3⟩
        replace HBB : Hid (BB w3 b bn bs bh bl) := HBB.out.later x3
        replace HB : Hid (Below w.heap.size w w3) := HB.out.trans (x3.mono HB.out.size)
        replace HT : Hid (Tk0 w3 w.heap.size lim win rate un us) := HT.out.later x3
        replace HM : Hid (U2 w3 (w.heap.size + 1 + 1 + 1) bh bl) := HM.out.later x3
        clear x3 n0 n1 n2
        obtain ⟨m0, m1, f0, f1⟩ := HM.out
        go_wp2_with fail
        go_meet
        have n1 : w.heap.size + 1 + 1 + 1 ≠ b := by omega
        exact ⟨rfl, (HBB.out.setCell _ _ n1).setCell _ _ n1, (HB.out.setCell (by show w.heap.size ≤ w.heap.size + 1 + 1 + 1; omega) _).setCell (by show w.heap.size ≤ w.heap.size + 1 + 1 + 1; omega) _,
          (HT.out.setCell _ _ (by show w.heap.size + 1 + 1 + 1 ≠ w.heap.size; omega) (by show w.heap.size + 1 + 1 + 1 ≠ w.heap.size + 1; omega) (by show w.heap.size + 1 + 1 + 1 ≠ w.heap.size + 1 + 1; omega)).setCell _ _ (by show w.heap.size + 1 + 1 + 1 ≠ w.heap.size; omega) (by show w.heap.size + 1 + 1 + 1 ≠ w.heap.size + 1; omega) (by show w.heap.size + 1 + 1 + 1 ≠ w.heap.size + 1 + 1; omega),
          HM.out.put lh ll⟩
  case rest =>
    obtain ⟨rfl, HC⟩ := hcut
    clear HBB HB HT HM HZ1 HZ2 HZ3 HC48 C36
    obtain ⟨hBB, hB, hT, hM⟩ := HC.out
    have HBB : Hid (BB wc b bn bs bh bl) := hBB
    have HB : Hid (Below w.heap.size w wc) := hB
    have HT : Hid (Tk0 wc w.heap.size lim win rate un us) := hT
    have HM : Hid (U2 wc (w.heap.size + 1 + 1 + 1) lh ll) := hM
    clear hBB hB hT hM HC
    have p1 := HT.out.p1
    go_upto_region 8 with (go_at_call 49; refine (C49a _).mono ?_; rintro e w4 ⟨rfl, x4⟩)
    clear p1
    refine gen_wp _ (fun V => BB V b bn bs bh bl ∧ Below w.heap.size w V ∧ Tk0 V w.heap.size lim win rate un us ∧ U2 V (w.heap.size + 1 + 1 + 1) lh ll ∧ U2 V w4.heap.size fh fl ∧ w.heap.size + 1 + 1 + 1 < w4.heap.size) ?_ ?_
    · have hX : Below wc.heap.size wc (w4.alloc (.cells #[.int .u64 fh, .int .u64 fl] 85)) := x4.alloc x4.size _
      exact ⟨HBB.out.later hX, HB.out.trans (hX.mono HB.out.size), HT.out.later hX, HM.out.later hX, U2.new w4 fh fl 85, Nat.lt_of_lt_of_le (World.block_lt_of_cell? wc ⟨w.heap.size + 1 + 1 + 1, 0, none⟩ HM.out.m0) x4.size⟩
    generalize w4.heap.size = F
    clear HBB HB HT HM x4
    rintro V ⟨hBB, hB, hT, hM, hF, hF3⟩
    have HBB : Hid (BB V b bn bs bh bl) := hBB
    have HB : Hid (Below w.heap.size w V) := hB
    have HT : Hid (Tk0 V w.heap.size lim win rate un us) := hT
    have HM : Hid (U2 V (w.heap.size + 1 + 1 + 1) lh ll) := hM
    have HF : Hid (U2 V F fh fl) := hF
    clear hBB hB hT hM hF
    go_cut [15] (fun x wx => ∃ q : Nat, x = .pointer (some ⟨q, 0, none⟩) ∧ Hid (BB wx b bn bs bh bl ∧ Below w.heap.size w wx ∧ Tk0 wx w.heap.size lim win rate un us ∧ U2 wx (w.heap.size + 1 + 1 + 1) lh ll ∧ U2 wx F fh fl ∧ U2 wx q nh nl ∧ w.heap.size + 1 + 1 + 1 < q))
    case first =>
      have hp3 : w.heap.size + 1 + 1 + 1 < V.heap.size := World.block_lt_of_cell? _ _ HM.out.m0
      go_region_held3 (fun V' => Below V.heap.size V V' ∧ V'.cell? ⟨w.heap.size + 1 + 1 + 1, 0, none⟩ = some (.int .u64 lh) ∧ V'.cell? ⟨w.heap.size + 1 + 1 + 1, 1, none⟩ = some (.int .u64 ll))
        (first
        | (exact sv_start HM.out)
        | (exact sv_later (by assumption) (by assumption))
        | (exact sv_alloc (by assumption))
        | (refine sv_re hp3 ?_ (by assumption); first | (exact Nat.le_refl _) | (omega))
        | (refine sv_set hp3 ?_ (by assumption); first | (exact Nat.le_refl _) | (omega)))
        (first
        | (go_at_call 49; refine (C49b _).mono ?_; rintro e w5 ⟨rfl, x5⟩; obtain ⟨hc5, hf5⟩ := bcell x5; have sz5 := x5.size; (try simp [go_sem] at sz5); (try have hz5 := Nat.lt_of_succ_le sz5))
        | (go_at_call 50; refine (C50 _).mono ?_; rintro e w6 ⟨rfl, x6⟩; obtain ⟨hc6, hf6⟩ := bcell x6; have sz6 := x6.size; (try simp [go_sem] at sz6); (try have hz6 := Nat.lt_of_succ_le sz6)))
      · go_wp2_with fail
        go_meet
        rename_i hH
        exact ⟨_, rfl, HBB.out.later hH.1, HB.out.trans (hH.1.mono HB.out.size), HT.out.later hH.1, HM.out.later hH.1, HF.out.later hH.1, U2.new w6 nh nl 85, by omega⟩
      · go_wp2_with fail
        go_meet
        rename_i hH
        exact ⟨_, rfl, HBB.out.later hH.1, HB.out.trans (hH.1.mono HB.out.size), HT.out.later hH.1, HM.out.later hH.1, HF.out.later hH.1, ((U2.new w5 0 0 85).later x6).put nh nl, by omega⟩
      · go_wp2_with fail
        go_meet
        rename_i hH
        exact ⟨_, rfl, HBB.out.later hH.1, HB.out.trans (hH.1.mono HB.out.size), HT.out.later hH.1, HM.out.later hH.1, HF.out.later hH.1, ((((U2.new V 0 0 85).drew).later x5).later x6).put nh nl, by omega⟩
    case rest =>
      obtain ⟨q, rfl, HC⟩ := hcut
      clear HBB HB HT HM HF C49b C50 hcav
      obtain ⟨hBB, hB, hT, hM, hF, hQ, hq3⟩ := HC.out
      have HBB : Hid (BB wc b bn bs bh bl) := hBB
      have HB : Hid (Below w.heap.size w wc) := hB
      have HT : Hid (Tk0 wc w.heap.size lim win rate un us) := hT
      have HM : Hid (U2 wc (w.heap.size + 1 + 1 + 1) lh ll) := hM
      have HF : Hid (U2 wc F fh fl) := hF
      have HQ : Hid (U2 wc q nh nl) := hQ
      clear hBB hB hT hM hF hQ HC
      have f0 := HF.out.m0
      have f1 := HF.out.m1
      have q0 := HQ.out.m0
      have q1 := HQ.out.m1
      cases less with
      | true =>
        clear HC52 HK1 C49c C50b
        go_upto_region 13 with (go_at_call 51; refine (C51 _).mono ?_; rintro e w7 ⟨rfl, x7⟩)
        clear f0 f1 q0 q1 C51
        replace HBB : Hid (BB w7 b bn bs bh bl) := HBB.out.later x7
        replace HB : Hid (Below w.heap.size w w7) := HB.out.trans (x7.mono HB.out.size)
        replace HT : Hid (Tk0 w7 w.heap.size lim win rate un us) := HT.out.later x7
        replace HM : Hid (U2 w7 (w.heap.size + 1 + 1 + 1) lh ll) := HM.out.later x7
        replace HF : Hid (U2 w7 F fh fl) := HF.out.later x7
        replace HQ : Hid (U2 w7 q nh nl) := HQ.out.later x7
        clear x7
        have hr2 : w.heap.size + 1 + 1 < w7.heap.size := World.block_lt_of_cell? _ _ HT.out.r0
        have nF : F ≠ w.heap.size + 1 + 1 := by omega
        have nq : q ≠ w.heap.size + 1 + 1 := by omega
        obtain ⟨-, -, -, -, -, -, r0, r1, r2, r3, -, -, -, fr0, fr1, fr2, fr3⟩ := HT.out
        go_region_held3 (fun V' => Kept (w.heap.size + 1 + 1) (w.heap.size + 1 + 1) w7 V' ∧ V'.cell? ⟨w.heap.size, 1, none⟩ = some (.int .i64 lim) ∧ V'.cell? ⟨w.heap.size + 1 + 1 + 1, 0, none⟩ = some (.int .u64 lh) ∧ V'.cell? ⟨w.heap.size + 1 + 1 + 1, 1, none⟩ = some (.int .u64 ll) ∧
            V'.cell? ⟨F, 0, none⟩ = some (.int .u64 fh) ∧ V'.cell? ⟨F, 1, none⟩ = some (.int .u64 fl) ∧ V'.cell? ⟨q, 0, none⟩ = some (.int .u64 nh) ∧ V'.cell? ⟨q, 1, none⟩ = some (.int .u64 nl))
          (first
          | (exact s13 HT.out HM.out HF.out HQ.out nF nq ((Kept.refl _ _ w7).drew))
          | (exact s13 HT.out HM.out HF.out HQ.out nF nq (keptL (by assumption) (by assumption)))
          | (exact s13 HT.out HM.out HF.out HQ.out nF nq (keptS (by assumption))))
          (first
          | (go_at_call 52; refine (C52b _).mono ?_; rintro e w8 ⟨rfl, x8⟩; have T8 : Hid (Tk0 w8 w.heap.size lim win rate un us) := (by first | (exact T9.out.later x8) | (exact T10.out.later x8) | (exact HT.out.later (bdrew x8))); obtain ⟨-, -, -, -, -, -, r0, r1, r2, r3, -, -, -, fr0, fr1, fr2, fr3⟩ := T8.out)
          | (go_at_call 54; refine (C54 _).mono ?_; rintro e w9 ⟨rfl, x9⟩; have T9 : Hid (Tk0 w9 w.heap.size lim win rate un us) := (by first | (exact T8.out.later x9) | (exact HT.out.later (bdrew x9))); obtain ⟨-, -, -, -, -, -, r0, r1, r2, r3, -, -, -, fr0, fr1, fr2, fr3⟩ := T9.out)
          | (go_at_call 53; refine (C53 _).mono ?_; rintro e w10 ⟨rfl, x10⟩; have T10 : Hid (Tk0 w10 w.heap.size lim win rate un us) := (by first | (exact T8.out.later x10) | (exact T9.out.later x10) | (exact HT.out.later (bdrew x10))); obtain ⟨-, -, -, -, -, -, r0, r1, r2, r3, -, -, -, fr0, fr1, fr2, fr3⟩ := T10.out))
        rename_i hH
        have HE : Hid (Below w.heap.size w _) := Kept.under HB.out (by omega) hH.1
        clear hH
        go_wp2_with fail
        exact bodyPost_ret (v := .agg #[.bool false, .int .i64 lim, .int .i64 (lim - k2), .int .i64 r]) (by simp [results, Try.results37, go_sem, r0, r1, r2, r3]) rfl ⟨rfl, HE.out⟩
      | false =>
        have C52' : Gives 52 #[.agg #[.int .u64 ah, .int .u64 al], .int .u64 win] (.int .i64 k1) := HC52.out (by simp)
        have hk1 : IntKind.i64.wrap (lim - k1) = lim - k1 := HK1.out (by simp)
        clear HC52 HK1 C52b C54 C53 hk2
        go_upto_region 10 with (go_at_call 51; refine (C51 _).mono ?_; rintro e w7 ⟨rfl, x7⟩)
        clear f0 f1 q0 q1 C51 HF HQ
        replace HBB : Hid (BB w7 b bn bs bh bl) := HBB.out.later x7
        replace HB : Hid (Below w.heap.size w w7) := HB.out.trans (x7.mono HB.out.size)
        replace HT : Hid (Tk0 w7 w.heap.size lim win rate un us) := HT.out.later x7
        replace HM : Hid (U2 w7 (w.heap.size + 1 + 1 + 1) lh ll) := HM.out.later x7
        clear x7
        go_cut [16] (fun x wx => ∃ q : Nat, x = .pointer (some ⟨q, 0, none⟩) ∧ Hid (BB wx b bn bs bh bl ∧ Below w.heap.size w wx ∧ Tk0 wx w.heap.size lim win rate un us ∧ U2 wx q ah al ∧ w.heap.size + 1 + 1 + 1 < q))
        case first =>
          have hp3 : w.heap.size + 1 + 1 + 1 < w7.heap.size := World.block_lt_of_cell? _ _ HM.out.m0
          go_region_held3 (fun V' => Below w7.heap.size w7 V' ∧ V'.cell? ⟨w.heap.size + 1 + 1 + 1, 0, none⟩ = some (.int .u64 lh) ∧ V'.cell? ⟨w.heap.size + 1 + 1 + 1, 1, none⟩ = some (.int .u64 ll))
            (first
            | (exact sv_start HM.out)
            | (exact sv_later (by assumption) (by assumption))
            | (exact sv_alloc (by assumption))
            | (refine sv_re hp3 ?_ (by assumption); first | (exact Nat.le_refl _) | (omega))
            | (refine sv_set hp3 ?_ (by assumption); first | (exact Nat.le_refl _) | (omega)))
            (first
            | (go_at_call 49; refine (C49c _).mono ?_; rintro e w5 ⟨rfl, x5⟩; obtain ⟨hc5, hf5⟩ := bcell x5; have sz5 := x5.size; (try simp [go_sem] at sz5); (try have hz5 := Nat.lt_of_succ_le sz5))
            | (go_at_call 50; refine (C50b _).mono ?_; rintro e w6 ⟨rfl, x6⟩; obtain ⟨hc6, hf6⟩ := bcell x6; have sz6 := x6.size; (try simp [go_sem] at sz6); (try have hz6 := Nat.lt_of_succ_le sz6)))
          · go_wp2_with fail
            go_meet
            rename_i hH
            exact ⟨_, rfl, HBB.out.later hH.1, HB.out.trans (hH.1.mono HB.out.size), HT.out.later hH.1, U2.new w6 ah al 85, by omega⟩
          · go_wp2_with fail
            go_meet
            rename_i hH
            exact ⟨_, rfl, HBB.out.later hH.1, HB.out.trans (hH.1.mono HB.out.size), HT.out.later hH.1, ((U2.new w5 0 0 85).later x6).put ah al, by omega⟩
          · go_wp2_with fail
            go_meet
            rename_i hH
            exact ⟨_, rfl, HBB.out.later hH.1, HB.out.trans (hH.1.mono HB.out.size), HT.out.later hH.1, ((((U2.new w7 0 0 85).drew).later x5).later x6).put ah al, by omega⟩
        case rest =>
          obtain ⟨a, rfl, HC⟩ := hcut
          clear HBB HB HT HM C49c C50b hcv
          obtain ⟨hBB, hB, hT, hQ, hq3⟩ := HC.out
          have HBB : Hid (BB wc b bn bs bh bl) := hBB
          have HB : Hid (Below w.heap.size w wc) := hB
          have HT : Hid (Tk0 wc w.heap.size lim win rate un us) := hT
          have HQ : Hid (U2 wc a ah al) := hQ
          clear hBB hB hT hQ HC
          go_upto_region 11 with fail
          go_cut [16] (fun x wx => x = .pointer (some ⟨a, 0, none⟩) ∧ Hid (BB wx b un us ah al ∧ Kept b b w wx ∧ Tk0 wx w.heap.size lim win rate un us ∧ U2 wx a ah al))
          case first =>
            have a0 := HQ.out.m0
            have a1 := HQ.out.m1
            obtain ⟨-, -, -, n0, n1, n2, -, -, -, -, -, -, -, -, -, -, -⟩ := HT.out
            obtain ⟨k0, k1, k2, k3, k4, g0, g1, g2, g3, g4⟩ := HBB.out
            have u1 : ¬ b = w.heap.size + 1 := by omega
            have u2 : ¬ w.heap.size + 1 = b := by omega
            have u3 : ¬ b = a := by omega
            have u4 : ¬ a = b := by omega
            go_region
            go_wp2_with fail
            go_meet
            exact ⟨rfl, HBB.out.putAll un us ah al, Kept.put5 HB.out _ _ _ _ _, HT.out.put5 hbw _ _ _ _ _, HQ.out.put5 u3 _ _ _ _ _⟩
          case rest =>
            obtain ⟨rfl, HC⟩ := hcut
            clear HBB HB HT HQ
            obtain ⟨hBB, hB, hT, hQ⟩ := HC.out
            have HBB : Hid (BB wc b un us ah al) := hBB
            have HB : Hid (Kept b b w wc) := hB
            have HT : Hid (Tk0 wc w.heap.size lim win rate un us) := hT
            have HQ : Hid (U2 wc a ah al) := hQ
            clear hBB hB hT hQ HC
            go_upto_region 12 with fail
            have na : a ≠ w.heap.size + 1 + 1 := by omega
            obtain ⟨-, -, -, -, -, -, r0, r1, r2, r3, -, -, -, fr0, fr1, fr2, fr3⟩ := HT.out
            go_region_held3 (fun V' => Kept (w.heap.size + 1 + 1) (w.heap.size + 1 + 1) wc V' ∧ V'.cell? ⟨w.heap.size, 1, none⟩ = some (.int .i64 lim) ∧ V'.cell? ⟨a, 0, none⟩ = some (.int .u64 ah) ∧ V'.cell? ⟨a, 1, none⟩ = some (.int .u64 al))
              (first
              | (exact s12 HT.out HQ.out na ((Kept.refl _ _ wc).drew))
              | (exact s12 HT.out HQ.out na (keptL (by assumption) (by assumption)))
              | (exact s12 HT.out HQ.out na (keptS (by assumption))))
              (first
              | (go_at_call 52; refine (C52' _).mono ?_; rintro e w8 ⟨rfl, x8⟩; have T8 : Hid (Tk0 w8 w.heap.size lim win rate un us) := HT.out.later (bdrew x8); obtain ⟨-, -, -, -, -, -, r0, r1, r2, r3, -, -, -, fr0, fr1, fr2, fr3⟩ := T8.out))
            rename_i hH
            have HE : Hid (BB _ b un us ah al ∧ Kept b b w _) := ⟨HBB.out.kept hH.1 (by omega), HB.out.join (by omega) hH.1⟩
            clear hH
            go_wp2_with fail
            exact bodyPost_ret (v := .agg #[.bool true, .int .i64 lim, .int .i64 (lim - k1), .int .i64 0]) (by simp [results, Try.results37, go_sem, r0, r1, r2, r3]) rfl ⟨rfl, HE.out⟩
end Go.Proofs.Qxb6613076a
