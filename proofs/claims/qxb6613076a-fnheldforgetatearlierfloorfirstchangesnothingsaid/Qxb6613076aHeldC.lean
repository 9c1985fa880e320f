/-
  held.forgetAt, and window.forgetAt behind the interface.
-/
import Derived.Test.Qxb6613076aHeldB
import Derived.Handy
namespace Go.Proofs.Qxb6613076a
open Go.RowKit
set_option linter.unusedVariables false
theorem hfrozen {w w' : World} {b o o' : Nat} {v : Value} (hb : Below w.heap.size w w') (h : w.cell? ⟨b, o, none⟩ = some v) (k : w.frozen? ⟨b, o', none⟩ = false) : w'.frozen? ⟨b, o', none⟩ = false := by
  rw [hb.frozen (p := ⟨b, o', none⟩) (World.block_lt_of_cell? w ⟨b, o, none⟩ h)]; exact k
theorem hkeptL {x : Nat} {V V1 V2 : World} {R : Prop} (k : Kept x x V V1 ∧ R) (h : Below V1.heap.size V1 V2) : Kept x x V V2 := k.1.later h
theorem Kept.hunder {w V V' : World} {c : Nat} (h : Below w.heap.size w V) (hc : w.heap.size ≤ c) (k : Kept c c V V') : Below w.heap.size w V' :=
  h.trans (k.below hc hc h.size)
theorem Kept.wide {x y : Nat} {w w' : World} (k : Kept y y w w') : Kept x y w w' := ⟨k.os, k.tape, k.output, k.size, fun i hi _ h2 => k.block i hi h2 h2⟩
/-- A window whose last take was made at M. -/
structure LastAt (w : World) (wb g c : Nat) (M : Int) : Prop where
  s : w.cell? ⟨wb, 0, none⟩ = some (.slice (some ⟨g, 0, none⟩) 1 c)
  r0 : w.cell? ⟨g, 0, none⟩ = some (.int .u64 (tN M))
  r1 : w.cell? ⟨g, 1, none⟩ = some (.int .i64 (tS M))
  r2 : w.cell? ⟨g, 2, none⟩ = some (.pointer none)
theorem LastAt.later {w w' : World} {wb g c : Nat} {M : Int} (h : LastAt w wb g c M) (hb : Below w.heap.size w w') : LastAt w' wb g c M :=
  ⟨cell_later hb h.s, cell_later hb h.r0, cell_later hb h.r1, cell_later hb h.r2⟩
theorem LastAt.kept {w w' : World} {wb g c x : Nat} {M : Int} (h : LastAt w wb g c M) (k : Kept x x w w') (h1 : wb ≠ x) (h2 : g ≠ x) : LastAt w' wb g c M :=
  ⟨k.cell h.s h1 h1, k.cell h.r0 h2 h2, k.cell h.r1 h2 h2, k.cell h.r2 h2 h2⟩
theorem w92 {x : Nat} {V V' : World} {wb g c P : Nat} {M win : Int} (h : LastAt V wb g c M) (hp : V.cell? ⟨P, 2, none⟩ = some (.int .i64 win)) (h1 : wb ≠ x) (h2 : g ≠ x) (h3 : P ≠ x) (k : Kept x x V V') :
    Kept x x V V' ∧ V'.cell? ⟨wb, 0, none⟩ = some (.slice (some ⟨g, 0, none⟩) 1 c) ∧ V'.cell? ⟨g, 0, none⟩ = some (.int .u64 (tN M)) ∧ V'.cell? ⟨g, 1, none⟩ = some (.int .i64 (tS M)) ∧ V'.cell? ⟨g, 2, none⟩ = some (.pointer none) ∧ V'.cell? ⟨P, 2, none⟩ = some (.int .i64 win) :=
  ⟨k, (h.kept k h1 h2).s, (h.kept k h1 h2).r0, (h.kept k h1 h2).r1, (h.kept k h1 h2).r2, k.cell hp h3 h3⟩
theorem hkeptS3 {x : Nat} {V V1 : World} {R : Prop} {v0 v1 v2 : Value} (k : Kept x x V V1 ∧ R) : Kept x x V (((V1.setCell ⟨x, 0, none⟩ v0).setCell ⟨x, 1, none⟩ v1).setCell ⟨x, 2, none⟩ v2) :=
  ((k.1.setCell ⟨x, 0, none⟩ _ (.inl rfl)).setCell ⟨x, 1, none⟩ _ (.inl rfl)).setCell ⟨x, 2, none⟩ _ (.inl rfl)
set_option maxRecDepth 100000 in
set_option maxHeartbeats 1600000 in
/-- window.forgetAt: the last take's end. -/
theorem wforget_any (wb g c : Nat) (M lim win rate fn fs : Int) (w : World) (H : LastAt w wb g c M) (hM : -9223372036854775808 ≤ M) (hM' : M ≤ 9223372036854775807) (hw : 0 ≤ win) (hw' : win ≤ 9223372036854775807) :
    Calls Try.prog 92 #[.pointer (some ⟨wb, 0, none⟩), .agg #[.int .u8 0, .int .i64 lim, .int .i64 win, .int .i64 rate, .int .u8 0, .int .i64 0, .int .i64 0, .int .i64 0], .agg #[.int .u64 fn, .int .i64 fs, .pointer none]] w fun e w' => e = .returned (.agg #[.int .u64 (tN (M + win)), .int .i64 (tS (M + win)), .pointer none]) ∧ Below w.heap.size w w' := by
  have C : Hid (∀ w, Calls Try.prog 39 #[.agg #[.int .u64 (tN M), .int .i64 (tS M), .pointer none], .int .i64 win] w fun e w' => e = .returned (.agg #[.int .u64 (tN (M + win)), .int .i64 (tS (M + win)), .pointer none]) ∧ Below w.heap.size w w') := fun w => add_tm M win w (by omega) (by omega) (by omega) (by omega)
  have HH : Hid (LastAt w wb g c M) := H
  have l1 : wb < w.heap.size := World.block_lt_of_cell? _ _ H.s
  have l2 : g < w.heap.size := World.block_lt_of_cell? _ _ H.r0
  clear H
  go_enter Try.func92, Try.ntmps92
  go_wp2_with fail
  refine gen_wp _ (fun W => Hid (Below w.heap.size w W ∧ W.cell? ⟨w.heap.size, 2, none⟩ = some (.int .i64 win) ∧
    (W.cell? ⟨w.heap.size + 1 + 1, 0, none⟩ = some (.int .u64 0) ∧ W.cell? ⟨w.heap.size + 1 + 1, 1, none⟩ = some (.int .i64 0) ∧ W.cell? ⟨w.heap.size + 1 + 1, 2, none⟩ = some (.pointer none)) ∧
    (W.frozen? ⟨w.heap.size + 1 + 1, 0, none⟩ = false ∧ W.frozen? ⟨w.heap.size + 1 + 1, 1, none⟩ = false ∧ W.frozen? ⟨w.heap.size + 1 + 1, 2, none⟩ = false))) ?_ ?_
  · refine ⟨by go_grown, ?_, ⟨?_, ?_, ?_⟩, ?_, ?_, ?_⟩ <;> simp [go_sem]
  rintro W HW
  have HL : Hid (LastAt W wb g c M) := HH.out.later HW.out.1
  have n1 : wb ≠ w.heap.size + 1 + 1 := by omega
  have n2 : g ≠ w.heap.size + 1 + 1 := by omega
  have n3 : w.heap.size ≠ w.heap.size + 1 + 1 := by omega
  obtain ⟨HB, p2, ⟨r0, r1, r2⟩, f0, f1, f2⟩ := HW.out
  have YB : Hid (Below w.heap.size w W) := HB
  have hr : w.heap.size + 1 + 1 < W.heap.size := World.block_lt_of_cell? _ _ r0
  clear HB HW HH
  have hw0 : IntKind.i64.wrap 0 = 0 := by rw [IntKind.wrap_i64]; omega
  go_region_held3 (fun V' => Kept (w.heap.size + 1 + 1) (w.heap.size + 1 + 1) W V' ∧ V'.cell? ⟨wb, 0, none⟩ = some (.slice (some ⟨g, 0, none⟩) 1 c) ∧ V'.cell? ⟨g, 0, none⟩ = some (.int .u64 (tN M)) ∧ V'.cell? ⟨g, 1, none⟩ = some (.int .i64 (tS M)) ∧ V'.cell? ⟨g, 2, none⟩ = some (.pointer none) ∧ V'.cell? ⟨w.heap.size, 2, none⟩ = some (.int .i64 win))
    (first
    | (exact w92 HL.out p2 n1 n2 n3 ((Kept.refl _ _ W).drew))
    | (exact w92 HL.out p2 n1 n2 n3 (hkeptL (by assumption) (by assumption)))
    | (exact w92 HL.out p2 n1 n2 n3 (hkeptS3 (by assumption))))
    (first
    | (go_at_call 39; refine (C.out _).mono ?_; rintro e w1 ⟨rfl, x1⟩; have r0' : w1.cell? ⟨w.heap.size + 1 + 1, 0, none⟩ = some (.int .u64 0) := cell_later (bdrew x1) r0; have r1' : w1.cell? ⟨w.heap.size + 1 + 1, 1, none⟩ = some (.int .i64 0) := cell_later (bdrew x1) r1; have r2' : w1.cell? ⟨w.heap.size + 1 + 1, 2, none⟩ = some (.pointer none) := cell_later (bdrew x1) r2; have f0' : w1.frozen? ⟨w.heap.size + 1 + 1, 0, none⟩ = false := hfrozen (bdrew x1) r0 f0; have f1' : w1.frozen? ⟨w.heap.size + 1 + 1, 1, none⟩ = false := hfrozen (bdrew x1) r0 f1; have f2' : w1.frozen? ⟨w.heap.size + 1 + 1, 2, none⟩ = false := hfrozen (bdrew x1) r0 f2))
  all_goals
    rename_i hH
    have HE : Hid (Below w.heap.size w _) := Kept.hunder YB.out (by omega) hH.1
    clear hH
    go_wp2_with fail
    exact bodyPost_ret (v := .agg #[.int .u64 (tN (M + win)), .int .i64 (tS (M + win)), .pointer none]) (by simp [results, Try.results92, go_sem, r0', r1', r2']) rfl ⟨rfl, HE.out⟩
/-- A policy at block P. -/
def PolC (P : Nat) (V : World) (lim win rate : Int) : Prop := V.cell? ⟨P, 0, none⟩ = some (.int .u8 0) ∧ V.cell? ⟨P, 1, none⟩ = some (.int .i64 lim) ∧ V.cell? ⟨P, 2, none⟩ = some (.int .i64 win) ∧ V.cell? ⟨P, 3, none⟩ = some (.int .i64 rate) ∧ V.cell? ⟨P, 4, none⟩ = some (.int .u8 0) ∧ V.cell? ⟨P, 5, none⟩ = some (.int .i64 0) ∧ V.cell? ⟨P, 6, none⟩ = some (.int .i64 0) ∧ V.cell? ⟨P, 7, none⟩ = some (.int .i64 0)
theorem PolC.later {P : Nat} {V V' : World} {lim win rate : Int} (h : PolC P V lim win rate) (hb : Below V.heap.size V V') : PolC P V' lim win rate := by
  obtain ⟨c0, c1, c2, c3, c4, c5, c6, c7⟩ := h
  exact ⟨cell_later hb c0, cell_later hb c1, cell_later hb c2, cell_later hb c3, cell_later hb c4, cell_later hb c5, cell_later hb c6, cell_later hb c7⟩
theorem PolC.kept {P x y : Nat} {V V' : World} {lim win rate : Int} (h : PolC P V lim win rate) (k : Kept x y V V') (n : P ≠ x) (m : P ≠ y) : PolC P V' lim win rate := by
  obtain ⟨c0, c1, c2, c3, c4, c5, c6, c7⟩ := h
  exact ⟨k.cell c0 n m, k.cell c1 n m, k.cell c2 n m, k.cell c3 n m, k.cell c4 n m, k.cell c5 n m, k.cell c6 n m, k.cell c7 n m⟩
theorem TmAt.kept {x y : Nat} {V V' : World} {b : Nat} {N : Int} (h : TmAt V b N) (k : Kept x y V V') (n : b ≠ x) (m : b ≠ y) : TmAt V' b N := ⟨k.cell h.c0 n m, k.cell h.c1 n m, k.cell h.c2 n m⟩
theorem CRows.kept {x y : Nat} {V V' : World} {g o : Nat} {cs : List (Int × Int)} (h : CRows V g o cs) (k : Kept x y V V') (n : g ≠ x) (m : g ≠ y) : CRows V' g o cs := fun i c hi =>
  ⟨k.cell (h i c hi).c0 n m, k.cell (h i c hi).c1 n m, k.cell (h i c hi).c2 n m, k.cell (h i c hi).c3 n m, k.cell (h i c hi).c4 n m⟩
/-- A held key at hb: its state st, its claims' slice sl. -/
structure Hd (V : World) (hb : Nat) (st sl : Value) : Prop where
  s : V.cell? ⟨hb, 1, none⟩ = some st
  c : V.cell? ⟨hb, 2, none⟩ = some sl
  f : V.frozen? ⟨hb, 2, none⟩ = false
theorem Hd.later {V V' : World} {hb : Nat} {st sl : Value} (h : Hd V hb st sl) (b : Below V.heap.size V V') : Hd V' hb st sl := ⟨cell_later b h.s, cell_later b h.c, hfrozen b h.c h.f⟩
theorem Hd.kept {x y : Nat} {V V' : World} {hb : Nat} {st sl : Value} (h : Hd V hb st sl) (k : Kept x y V V') (n : hb ≠ x) (m : hb ≠ y) : Hd V' hb st sl :=
  ⟨k.cell h.s n m, k.cell h.c n m, (k.frozen (p := ⟨hb, 2, none⟩) (World.block_lt_of_cell? V ⟨hb, 2, none⟩ h.c) n m).trans h.f⟩
theorem Hd.put {V : World} {hb : Nat} {st sl : Value} (h : Hd V hb st sl) (sl' : Value) : Hd (V.setCell ⟨hb, 2, none⟩ sl') hb st sl' :=
  ⟨by rw [World.cell?_setCell_other _ _ _ _ (fun e => by injection e with _ e2 _; omega)]; exact h.s, World.cell?_setCell_same _ _ _ h.c, by rw [World.frozen?_setCell]; exact h.f⟩
/-- The later of the claims' ends and b. -/
def latest (b : Int) (cs : List (Int × Int)) : Int := cs.foldl (fun a c => if a < c.1 then c.1 else a) b
theorem latest_step {b : Int} {cs : List (Int × Int)} {i : Nat} {c : Int × Int} (h : cs[i]? = some c) : latest b (cs.take (i + 1)) = if latest b (cs.take i) < c.1 then c.1 else latest b (cs.take i) := by
  unfold latest
  rw [List.take_add_one, h, List.foldl_append]
  rfl
theorem Kept.three {x y c : Nat} {w V : World} (k : Kept x y w V) (hc : w.heap.size ≤ c) (v0 v1 v2 : Value) : Kept x y w (((V.setCell ⟨c, 0, none⟩ v0).setCell ⟨c, 1, none⟩ v1).setCell ⟨c, 2, none⟩ v2) :=
  ((k.setCell ⟨c, 0, none⟩ _ (.inr (.inr hc))).setCell ⟨c, 1, none⟩ _ (.inr (.inr hc))).setCell ⟨c, 2, none⟩ _ (.inr (.inr hc))
theorem TmAt.put {V : World} {b : Nat} {N : Int} (h : TmAt V b N) (N' : Int) : TmAt (((V.setCell ⟨b, 0, none⟩ (.int .u64 (tN N'))).setCell ⟨b, 1, none⟩ (.int .i64 (tS N'))).setCell ⟨b, 2, none⟩ (.pointer none)) b N' := by
  obtain ⟨c0, c1, c2⟩ := h
  constructor <;> simp [go_sem, *]
end Go.Proofs.Qxb6613076a
