/-
  slices.DeleteFunc over made claims.
-/
import Derived.Test.Qxb6613076aHeldA
import Derived.Lib.SliceRun
namespace Go.Proofs.Qxb6613076a
open Go.RowKit
set_option linter.unusedVariables false
/-- Block g has room for n rows and may be written. -/
structure Blk (V : World) (g n : Nat) : Prop where
  room : ∀ o, o < n * 5 → ∃ v, V.cell? ⟨g, o, none⟩ = some v
  free : ∀ o, V.frozen? ⟨g, o, none⟩ = false
theorem Blk.lt {V : World} {g n : Nat} (h : Blk V g n) (hn : 0 < n) : g < V.heap.size := by
  obtain ⟨v, hv⟩ := h.room 0 (by omega)
  exact World.block_lt_of_cell? V ⟨g, 0, none⟩ hv
theorem Blk.of_block {V V' : World} {g n : Nat} (h : Blk V g n) (e : V'.heap[g]? = V.heap[g]?) : Blk V' g n where
  room := fun o ho => by rw [World.cell?_of_block (w := V) (a := ⟨g, o, none⟩) e]; exact h.room o ho
  free := fun o => by rw [World.frozen?_of_block (w := V) (a := ⟨g, o, none⟩) e]; exact h.free o
theorem Blk.later {V V' : World} {g n : Nat} (h : Blk V g n) (hn : 0 < n) (hb : Below V.heap.size V V') : Blk V' g n := h.of_block (hb.block g (h.lt hn))
theorem Blk.setCell {V : World} {g n : Nat} (h : Blk V g n) (p : Addr) (v : Value) : Blk (V.setCell p v) g n where
  room := fun o ho => by
    obtain ⟨u, hu⟩ := h.room o ho
    by_cases e : p = ⟨g, o, none⟩
    · subst e; exact ⟨v, World.cell?_setCell_same _ _ _ hu⟩
    · exact ⟨u, by rw [World.cell?_setCell_other _ _ _ _ e]; exact hu⟩
  free := fun o => by rw [World.frozen?_setCell]; exact h.free o
theorem CRow.setCell {V : World} {g x i k : Nat} {L C : Int} (h : CRow V g x L C) (hx : x ≠ i) (hk : k < 5) (v : Value) : CRow (V.setCell ⟨g, i * 5 + k, none⟩ v) g x L C where
  c0 := by rw [World.cell?_setCell_other _ _ _ _ (fun e => by injection e with _ e2 _; omega)]; exact h.c0
  c1 := by rw [World.cell?_setCell_other _ _ _ _ (fun e => by injection e with _ e2 _; omega)]; exact h.c1
  c2 := by rw [World.cell?_setCell_other _ _ _ _ (fun e => by injection e with _ e2 _; omega)]; exact h.c2
  c3 := by rw [World.cell?_setCell_other _ _ _ _ (fun e => by injection e with _ e2 _; omega)]; exact h.c3
  c4 := by rw [World.cell?_setCell_other _ _ _ _ (fun e => by injection e with _ e2 _; omega)]; exact h.c4
theorem CRow.keep {V : World} {g x i : Nat} {L C : Int} (h : CRow V g x L C) (hx : x ≠ i) (v0 v1 v2 v3 v4 : Value) :
    CRow (((((V.setCell ⟨g, i * 5, none⟩ v0).setCell ⟨g, i * 5 + 1, none⟩ v1).setCell ⟨g, i * 5 + 2, none⟩ v2).setCell ⟨g, i * 5 + 3, none⟩ v3).setCell ⟨g, i * 5 + 4, none⟩ v4) g x L C :=
  ((((h.setCell (k := 0) hx (by omega) v0).setCell (k := 1) hx (by omega) v1).setCell (k := 2) hx (by omega) v2).setCell (k := 3) hx (by omega) v3).setCell (k := 4) hx (by omega) v4
theorem CRow.put {V : World} {g n i : Nat} (B : Blk V g n) (hi : i < n) (L C : Int) :
    CRow (((((V.setCell ⟨g, i * 5, none⟩ (.string { data := #[] })).setCell ⟨g, i * 5 + 1, none⟩ (.int .i64 C)).setCell ⟨g, i * 5 + 2, none⟩ (.int .u64 (tN L))).setCell ⟨g, i * 5 + 3, none⟩ (.int .i64 (tS L))).setCell ⟨g, i * 5 + 4, none⟩ (.pointer none)) g i L C := by
  obtain ⟨u0, h0⟩ := B.room (i * 5) (by omega)
  obtain ⟨u1, h1⟩ := B.room (i * 5 + 1) (by omega)
  obtain ⟨u2, h2⟩ := B.room (i * 5 + 2) (by omega)
  obtain ⟨u3, h3⟩ := B.room (i * 5 + 3) (by omega)
  obtain ⟨u4, h4⟩ := B.room (i * 5 + 4) (by omega)
  constructor <;> simp [go_sem, h0, h1, h2, h3, h4]
theorem TmAt.setCell {V : World} {fb : Nat} {F : Int} (h : TmAt V fb F) (p : Addr) (v : Value) (hp : p.block ≠ fb) : TmAt (V.setCell p v) fb F :=
  ⟨by rw [World.cell?_setCell_far _ _ _ _ hp]; exact h.c0, by rw [World.cell?_setCell_far _ _ _ _ hp]; exact h.c1, by rw [World.cell?_setCell_far _ _ _ _ hp]; exact h.c2⟩
/-- DeleteFunc's loop: the first j claims are gone through. -/
structure Dl (V : World) (g n fb : Nat) (F : Int) (cs : List (Int × Int)) (i j : Nat) : Prop where
  blk : Blk V g n
  tm : TmAt V fb F
  len : i = ((cs.take j).filter fun c => decide (F < c.1)).length
  head : CRows V g 0 ((cs.take j).filter fun c => decide (F < c.1))
  rest : CRows V g j (cs.drop j)
  ij : i < j
theorem Dl.later {V V' : World} {g n fb : Nat} {F : Int} {cs : List (Int × Int)} {i j : Nat} (h : Dl V g n fb F cs i j) (hn : 0 < n) (hb : Below V.heap.size V V') : Dl V' g n fb F cs i j :=
  ⟨h.blk.later hn hb, h.tm.later hb, h.len, h.head.later hb, h.rest.later hb, h.ij⟩
theorem take_filter_drop {cs : List (Int × Int)} {F : Int} {j : Nat} {c : Int × Int} (h : cs[j]? = some c) (hd : ¬ F < c.1) : ((cs.take (j + 1)).filter fun c => decide (F < c.1)) = ((cs.take j).filter fun c => decide (F < c.1)) := by
  rw [List.take_add_one, h, List.filter_append]; simp [hd]
theorem take_filter_keep {cs : List (Int × Int)} {F : Int} {j : Nat} {c : Int × Int} (h : cs[j]? = some c) (hd : F < c.1) : ((cs.take (j + 1)).filter fun c => decide (F < c.1)) = ((cs.take j).filter fun c => decide (F < c.1)) ++ [c] := by
  rw [List.take_add_one, h, List.filter_append]; simp [hd]
theorem CRows.tail {V : World} {g j : Nat} {cs : List (Int × Int)} (h : CRows V g j (cs.drop j)) : CRows V g (j + 1) (cs.drop (j + 1)) := fun x c hx => by
  have := h (x + 1) c (by rw [List.getElem?_drop] at hx ⊢; rw [← hx]; congr 1; omega)
  have e : j + (x + 1) = j + 1 + x := by omega
  rw [e] at this; exact this
theorem Dl.skip {V : World} {g n fb : Nat} {F : Int} {cs : List (Int × Int)} {i j : Nat} (h : Dl V g n fb F cs i j) {c : Int × Int} (hc : cs[j]? = some c) (hd : ¬ F < c.1) : Dl V g n fb F cs i (j + 1) :=
  ⟨h.blk, h.tm, by rw [take_filter_drop hc hd]; exact h.len, by rw [take_filter_drop hc hd]; exact h.head, h.rest.tail, by have := h.ij; omega⟩
theorem Dl.keep {V : World} {g n fb : Nat} {F : Int} {cs : List (Int × Int)} {i j : Nat} (h : Dl V g n fb F cs i j) (hn : cs.length = n) (hfb : g ≠ fb) {L C : Int} (hc : cs[j]? = some (L, C)) (hd : F < L) :
    Dl (((((V.setCell ⟨g, i * 5, none⟩ (.string { data := #[] })).setCell ⟨g, i * 5 + 1, none⟩ (.int .i64 C)).setCell ⟨g, i * 5 + 2, none⟩ (.int .u64 (tN L))).setCell ⟨g, i * 5 + 3, none⟩ (.int .i64 (tS L))).setCell ⟨g, i * 5 + 4, none⟩ (.pointer none)) g n fb F cs (i + 1) (j + 1) := by
  have hij := h.ij
  have hjn : j < cs.length := by rcases Nat.lt_or_ge j cs.length with q | q; exact q; rw [List.getElem?_eq_none q] at hc; cases hc
  refine ⟨((((h.blk.setCell _ _).setCell _ _).setCell _ _).setCell _ _).setCell _ _, ((((h.tm.setCell _ _ hfb).setCell _ _ hfb).setCell _ _ hfb).setCell _ _ hfb).setCell _ _ hfb, ?_, ?_, ?_, by omega⟩
  · rw [take_filter_keep hc hd, List.length_append, ← h.len]; rfl
  · rw [take_filter_keep hc hd]
    intro x c hx
    rw [Nat.zero_add]
    by_cases e : x = i
    · subst e
      rw [List.getElem?_append_right (by rw [← h.len]; exact Nat.le_refl _), ← h.len, Nat.sub_self] at hx
      simp at hx
      subst hx
      exact CRow.put h.blk (by omega) L C
    · have hx' : x < i := by
        rcases Nat.lt_or_ge x i with q | q
        · exact q
        · rw [List.getElem?_append_right (by rw [← h.len]; exact q), ← h.len] at hx
          have : x - i ≠ 0 := by omega
          obtain ⟨y, hy⟩ : ∃ y, x - i = y + 1 := ⟨x - i - 1, by omega⟩
          rw [hy] at hx; simp at hx
      rw [List.getElem?_append_left (by rw [← h.len]; exact hx')] at hx
      have := h.head x c hx
      rw [Nat.zero_add] at this
      exact this.keep e _ _ _ _ _
  · intro x c hx
    have := h.rest.tail x c hx
    exact this.keep (by omega) _ _ _ _ _
theorem Kept.row {x : Nat} {w V : World} (k : Kept x x w V) (o : Nat) (v0 v1 v2 v3 v4 : Value) :
    Kept x x w (((((V.setCell ⟨x, o, none⟩ v0).setCell ⟨x, o + 1, none⟩ v1).setCell ⟨x, o + 2, none⟩ v2).setCell ⟨x, o + 3, none⟩ v3).setCell ⟨x, o + 4, none⟩ v4) :=
  ((((k.setCell ⟨x, o, none⟩ _ (.inl rfl)).setCell ⟨x, o + 1, none⟩ _ (.inl rfl)).setCell ⟨x, o + 2, none⟩ _ (.inl rfl)).setCell ⟨x, o + 3, none⟩ _ (.inl rfl)).setCell ⟨x, o + 4, none⟩ _ (.inl rfl)
theorem Kept.cells {x : Nat} {w : World} : ∀ (vs : List Value) (o : Nat) (V : World), Kept x x w V → Kept x x w (V.setCells x o vs)
  | [], _, _, k => k
  | v :: r, o, V, k => Kept.cells r (o + 1) _ (k.setCell ⟨x, o, none⟩ v (.inl rfl))
theorem Blk.cells {g n : Nat} : ∀ (vs : List Value) (o : Nat) (V : World), Blk V g n → Blk (V.setCells g o vs) g n
  | [], _, _, k => k
  | v :: r, o, V, k => Blk.cells r (o + 1) _ (k.setCell ⟨g, o, none⟩ v)
theorem CRow.cells {V : World} {g j o : Nat} {L C : Int} (h : CRow V g j L C) (hj : j * 5 + 5 ≤ o) (vs : List Value) : CRow (V.setCells g o vs) g j L C where
  c0 := by rw [World.cell?_setCells_out g vs o V ⟨g, j * 5, none⟩ (fun _ _ => .inl (by show j * 5 < o; omega))]; exact h.c0
  c1 := by rw [World.cell?_setCells_out g vs o V ⟨g, j * 5 + 1, none⟩ (fun _ _ => .inl (by show j * 5 + 1 < o; omega))]; exact h.c1
  c2 := by rw [World.cell?_setCells_out g vs o V ⟨g, j * 5 + 2, none⟩ (fun _ _ => .inl (by show j * 5 + 2 < o; omega))]; exact h.c2
  c3 := by rw [World.cell?_setCells_out g vs o V ⟨g, j * 5 + 3, none⟩ (fun _ _ => .inl (by show j * 5 + 3 < o; omega))]; exact h.c3
  c4 := by rw [World.cell?_setCells_out g vs o V ⟨g, j * 5 + 4, none⟩ (fun _ _ => .inl (by show j * 5 + 4 < o; omega))]; exact h.c4
theorem zeros_one (n : Nat) : ∀ v ∈ (Builtin.zeroCells (Value.agg #[.string { data := #[] }, .int .i64 0, .int .u64 0, .int .i64 0, .pointer none]).cells n).toList, v.oneCell' = true := by
  intro v hv
  simp only [Builtin.zeroCells, Array.toList_map, List.mem_map] at hv
  obtain ⟨i, -, rfl⟩ := hv
  have h : i % (Value.agg #[.string { data := #[] }, .int .i64 0, .int .u64 0, .int .i64 0, .pointer none]).cells.size < 5 := Nat.mod_lt _ (by decide)
  generalize i % (Value.agg #[.string { data := #[] }, .int .i64 0, .int .u64 0, .int .i64 0, .pointer none]).cells.size = k at h
  match k, h with
  | 0, _ => rfl
  | 1, _ => rfl
  | 2, _ => rfl
  | 3, _ => rfl
  | 4, _ => rfl
theorem run_clear (w : World) (ty : TypeId) (g o n c : Nat) (hn : 0 < n) (hc : ∀ j, j < n * 5 → (w.cell? ⟨g, o + j, none⟩).isSome = true) (hf : ∀ j, w.frozen? ⟨g, o + j, none⟩ = false) :
    (Builtin.clear_ #[66] ty #[.slice (some ⟨g, o, none⟩) n c]).run Try.prog w = .ok (.tuple #[]) (w.setCells g o (Builtin.zeroCells (Value.agg #[.string { data := #[] }, .int .i64 0, .int .u64 0, .int .i64 0, .pointer none]).cells n).toList) := by
  have hl : (Builtin.zeroCells (Value.agg #[.string { data := #[] }, .int .i64 0, .int .u64 0, .int .i64 0, .pointer none]).cells n).toList.length = n * 5 := by
    rw [Array.length_toList, size_zeroCells]; rfl
  have hst := run_storeCells_cells (P := Try.prog) g o (Builtin.zeroCells (Value.agg #[.string { data := #[] }, .int .i64 0, .int .u64 0, .int .i64 0, .pointer none]).cells n).toList 0 w (by rw [hl]; simpa using hc) (by intro j _; simpa using hf j) (zeros_one n)
  simp only [Nat.add_zero] at hst
  obtain ⟨m, rfl⟩ : ∃ m, n = m + 1 := ⟨n - 1, by omega⟩
  simp [Builtin.clear_, run_underlying Try.underlying66, hst]
/-- The claims that stand. -/
def standing (F : Int) (cs : List (Int × Int)) : List (Int × Int) := cs.filter fun c => decide (F < c.1)
set_option maxRecDepth 100000 in
set_option maxHeartbeats 3200000 in
/-- slices.DeleteFunc: something has lapsed; k is the first. -/
theorem delete_some (g n cap fb k : Nat) (F : Int) (cs : List (Int × Int)) (w : World) (hn : cs.length = n) (HR : CRows w g 0 cs) (HT : TmAt w fb F) (HK : Blk w g n) (hfb : g ≠ fb) (hn' : (n : Int) ≤ 32768) (hcap : n ≤ cap)
    (hk : k < n) (hk1 : ∀ x c, x < k → cs[x]? = some c → F < c.1) (hk2 : ∀ c, cs[k]? = some c → c.1 ≤ F) :
    Calls Try.prog 41 #[.slice (some ⟨g, 0, none⟩) n cap, .func (.func 42) #[] #[.pointer (some ⟨fb, 0, none⟩)]] w fun e w' => e = .returned (.slice (some ⟨g, 0, none⟩) (standing F cs).length cap) ∧ Kept g g w w' ∧ Blk w' g n ∧ CRows w' g 0 (standing F cs) := by
  have hg : g < w.heap.size := HK.lt (by omega)
  have CI : Hid (Calls Try.prog 62 #[.slice (some ⟨g, 0, none⟩) n cap, .func (.func 42) #[] #[.pointer (some ⟨fb, 0, none⟩)]] w fun e w' => e = .returned (.int .i64 (k : Int)) ∧ Below w.heap.size w w') :=
    index_any g n cap fb k F cs (k : Int) w hn HR HT hn' (by omega) hk1 hk2 (by rw [if_pos hk])
  have hkc : ∃ c, cs[k]? = some c := ⟨cs[k]'(by omega), List.getElem?_eq_getElem _⟩
  have D0 : Hid (Dl w g n fb F cs k (k + 1)) := by
    obtain ⟨c, hc⟩ := hkc
    have hd : ¬ F < c.1 := by have := hk2 c hc; omega
    have hall : ((cs.take k).filter fun c => decide (F < c.1)) = cs.take k := by
      rw [List.filter_eq_self]
      intro a ha
      obtain ⟨x, hx, rfl⟩ := List.getElem_of_mem ha
      rw [List.length_take] at hx
      have := hk1 x cs[x] (by omega) (List.getElem?_eq_getElem _)
      rw [List.getElem_take]
      simpa using this
    refine ⟨HK, HT, ?_, ?_, ?_, by omega⟩
    · rw [take_filter_drop hc hd, hall, List.length_take]; omega
    · rw [take_filter_drop hc hd, hall]
      intro x c hx
      rw [List.getElem?_take] at hx
      split at hx
      · exact HR x c hx
      · cases hx
    · intro x c hx
      rw [List.getElem?_drop] at hx
      have := HR (k + 1 + x) c hx
      rw [Nat.zero_add] at this
      exact this
  have HN : Hid (cs.length = n) := hn
  have hn0 : 0 < n := by omega
  clear HR HT HK hk1 hk2 hkc hn
  have e1 : ((k : Int) == -1) = false := by simp
  have hs : IntKind.i64.wrap ((k : Int) + 1) = (k : Int) + 1 := by rw [IntKind.wrap_i64]; omega
  go_enter Try.func41, Try.ntmps41
  go_wp2_with fail
  refine Calls.mono CI.out ?_
  rintro e w1 ⟨rfl, x1⟩
  have D1 : Hid (Dl w1 g n fb F cs k (k + 1)) := D0.out.later hn0 x1
  have K1 : Hid (Kept g g w w1) := Kept.of_below x1
  clear D0 x1 CI
  go_wp2_with fail
  go_loopg [5, 6] (n - (k + 1)) (fun gg s5 s6 wx => ∃ i j : Nat, s5 = .int .i64 (i : Int) ∧ s6 = .int .i64 (j : Int) ∧ gg = n - j ∧ j ≤ n ∧ Hid (Dl wx g n fb F cs i j) ∧ Hid (Kept g g w wx))
  case atStart => exact ⟨k, k + 1, rfl, by simp, rfl, by omega, D1, K1⟩
  case round =>
    clear D1 K1
    obtain ⟨i, j, rfl, rfl, rfl, hj, D, K⟩ := hrel
    by_cases c : j < n
    · have cj : (j : Int) < (n : Int) := by omega
      obtain ⟨L, C, hLC⟩ : ∃ L C, cs[j]? = some (L, C) := ⟨(cs[j]'(by have := HN.out; omega)).1, (cs[j]'(by have := HN.out; omega)).2, by rw [List.getElem?_eq_getElem]⟩
      have HL : Hid (cs[j]? = some (L, C)) := hLC
      have hrow := D.out.rest 0 (L, C) (by rw [List.getElem?_drop, Nat.add_zero]; exact hLC)
      rw [Nat.add_zero] at hrow
      obtain ⟨c0, c1, c2, c3, c4⟩ := hrow
      clear hLC
      go_wp2_with fail
      have hX : Below wr.heap.size wr (wr.alloc (.cells #[.string { data := #[] }, .int .i64 C, .int .u64 (tN L), .int .i64 (tS L), .pointer none] 74)) := (Below.refl _ _).alloc (Nat.le_refl _) _
      refine (lapsed_any fb F L C _ (D.out.tm.later hX)).mono ?_
      rintro e w2 ⟨rfl, x2⟩
      have hY : Below wr.heap.size wr w2 := hX.trans (x2.mono (by simp))
      have D2 : Hid (Dl w2 g n fb F cs i j) := D.out.later hn0 hY
      have K2 : Hid (Kept g g w w2) := K.out.later hY
      have z0 : w2.cell? ⟨wr.heap.size, 0, none⟩ = some (.string { data := #[] }) := cell_later x2 (by simp [go_sem])
      have z1 : w2.cell? ⟨wr.heap.size, 1, none⟩ = some (.int .i64 C) := cell_later x2 (by simp [go_sem])
      have z2 : w2.cell? ⟨wr.heap.size, 2, none⟩ = some (.int .u64 (tN L)) := cell_later x2 (by simp [go_sem])
      have z3 : w2.cell? ⟨wr.heap.size, 3, none⟩ = some (.int .i64 (tS L)) := cell_later x2 (by simp [go_sem])
      have z4 : w2.cell? ⟨wr.heap.size, 4, none⟩ = some (.pointer none) := cell_later x2 (by simp [go_sem])
      have hs2 : IntKind.i64.wrap ((j : Int) + 1) = (j : Int) + 1 := by rw [IntKind.wrap_i64]; omega
      clear x2 hX hY D K c0 c1 c2 c3 c4
      generalize wr.heap.size = T at *
      by_cases ck : F < L
      · have d : decide (L ≤ F) = false := by rw [decide_eq_false_iff_not]; omega
        have hij := D2.out.ij
        have ci : (i : Int) < (n : Int) := by omega
        have hs3 : IntKind.i64.wrap ((i : Int) + 1) = (i : Int) + 1 := by rw [IntKind.wrap_i64]; omega
        obtain ⟨u0, y0⟩ := D2.out.blk.room (i * 5) (by omega)
        obtain ⟨u1, y1⟩ := D2.out.blk.room (i * 5 + 1) (by omega)
        obtain ⟨u2, y2⟩ := D2.out.blk.room (i * 5 + 2) (by omega)
        obtain ⟨u3, y3⟩ := D2.out.blk.room (i * 5 + 3) (by omega)
        obtain ⟨u4, y4⟩ := D2.out.blk.room (i * 5 + 4) (by omega)
        have f0 := D2.out.blk.free (i * 5)
        have f1 := D2.out.blk.free (i * 5 + 1)
        have f2 := D2.out.blk.free (i * 5 + 2)
        have f3 := D2.out.blk.free (i * 5 + 3)
        have f4 := D2.out.blk.free (i * 5 + 4)
        rw [d]
        go_wp2_with fail
        go_roundg (n - (j + 1))
        case measure => omega
        case rel => exact ⟨i + 1, j + 1, by push_cast; rfl, by push_cast; rfl, rfl, by omega, D2.out.keep HN.out hfb HL.out ck, K2.out.row (i * 5) _ _ _ _ _⟩
      · have d : decide (L ≤ F) = true := by rw [decide_eq_true_iff]; omega
        rw [d]
        go_wp2_with fail
        go_roundg (n - (j + 1))
        case measure => omega
        case rel => exact ⟨i, j + 1, rfl, by push_cast; rfl, rfl, by omega, D2.out.skip HL.out (fun h => by simp only [] at h; omega), K2⟩
    · have cj : ¬ (j : Int) < (n : Int) := by omega
      have ej : j = n := by omega
      have hij := D.out.ij
      have hcl : ∀ ty, (Builtin.clear_ #[66] ty #[.slice (some ⟨g, i * 5, none⟩) (n - i) (cap - i)]).run Try.prog wr = .ok (.tuple #[]) (wr.setCells g (i * 5) (Builtin.zeroCells (Value.agg #[.string { data := #[] }, .int .i64 0, .int .u64 0, .int .i64 0, .pointer none]).cells (n - i)).toList) :=
        fun ty => run_clear wr ty g (i * 5) (n - i) (cap - i) (by omega) (fun x hx => by obtain ⟨v, hv⟩ := D.out.blk.room (i * 5 + x) (by omega); rw [hv]; rfl) (fun x => D.out.blk.free _)
      have q1 : (0 : Int) ≤ (i : Int) := by omega
      have q2 : (i : Int) ≤ (n : Int) := by omega
      have q3 : (n : Int) ≤ (cap : Int) := by omega
      have HS : Hid (i = (standing F cs).length ∧ CRows wr g 0 (standing F cs)) := by
        have h1 := D.out.len
        have h2 := D.out.head
        rw [ej, List.take_of_length_le (by rw [HN.out]; exact Nat.le_refl _)] at h1 h2
        exact ⟨h1, h2⟩
      go_wp2_with (simp only [hcl])
      go_ret
      obtain ⟨e1, e2⟩ := HS.out
      refine ⟨by rw [← e1]; rfl, Kept.cells _ _ _ K.out, Blk.cells _ _ _ D.out.blk, ?_⟩
      intro x c hx
      have hx' : x < i := by
        rw [e1]
        rcases Nat.lt_or_ge x (standing F cs).length with q | q
        · exact q
        · rw [List.getElem?_eq_none q] at hx; cases hx
      have := e2 x c hx
      rw [Nat.zero_add] at this ⊢
      exact this.cells (by omega) _
set_option maxHeartbeats 800000 in
/-- slices.DeleteFunc: nothing has lapsed. -/
theorem delete_none (g n cap fb : Nat) (F : Int) (cs : List (Int × Int)) (w : World) (hn : cs.length = n) (HR : CRows w g 0 cs) (HT : TmAt w fb F) (hn' : (n : Int) ≤ 32768) (hall : ∀ (x : Nat) (c : Int × Int), cs[x]? = some c → F < c.1) :
    Calls Try.prog 41 #[.slice (some ⟨g, 0, none⟩) n cap, .func (.func 42) #[] #[.pointer (some ⟨fb, 0, none⟩)]] w fun e w' => e = .returned (.slice (some ⟨g, 0, none⟩) n cap) ∧ Below w.heap.size w w' := by
  have CI : Hid (Calls Try.prog 62 #[.slice (some ⟨g, 0, none⟩) n cap, .func (.func 42) #[] #[.pointer (some ⟨fb, 0, none⟩)]] w fun e w' => e = .returned (.int .i64 (-1)) ∧ Below w.heap.size w w') :=
    index_any g n cap fb n F cs (-1) w hn HR HT hn' (by omega) (fun x c _ h => hall x c h) (fun c h => by rw [List.getElem?_eq_none (by omega)] at h; cases h) (by rw [if_neg (by omega)])
  clear HR HT hall
  go_enter Try.func41, Try.ntmps41
  go_wp2_with fail
  refine Calls.mono CI.out ?_
  rintro e w1 ⟨rfl, x1⟩
  have Y : Hid (Below w.heap.size w w1) := x1
  clear x1 CI
  go_wp2_with fail
  go_ret
  exact ⟨rfl, Y.out⟩
set_option maxHeartbeats 800000 in
theorem delete_nil (fv : Value) (w : World) : Calls Try.prog 41 #[.slice none 0 0, fv] w fun e w' => e = .returned (.slice none 0 0) ∧ w' = w := by
  go_enter Try.func41, Try.ntmps41
  go_wp2_with fail
  refine (index_nil fv _).mono ?_
  rintro e w1 ⟨rfl, rfl⟩
  go_wp2_with fail
  go_ret
  exact ⟨rfl, rfl⟩
theorem standing_all {F : Int} {cs : List (Int × Int)} (h : ∀ (x : Nat) (c : Int × Int), cs[x]? = some c → F < c.1) : standing F cs = cs := by
  unfold standing
  rw [List.filter_eq_self]
  intro a ha
  obtain ⟨x, hx, rfl⟩ := List.getElem_of_mem ha
  simpa using h x cs[x] (List.getElem?_eq_getElem _)
/-- The first claim that has lapsed, if there is one. -/
theorem first_lapsed (F : Int) : ∀ cs : List (Int × Int), (∀ (x : Nat) (c : Int × Int), cs[x]? = some c → F < c.1) ∨ ∃ k, k < cs.length ∧ (∀ (x : Nat) (c : Int × Int), x < k → cs[x]? = some c → F < c.1) ∧ (∀ c, cs[k]? = some c → c.1 ≤ F)
  | [] => .inl (fun x c h => by simp at h)
  | a :: r => by
    by_cases ha : F < a.1
    · rcases first_lapsed F r with h | ⟨k, hk, h1, h2⟩
      · refine .inl (fun x c hx => ?_)
        match x with
        | 0 => simp at hx; subst hx; exact ha
        | x + 1 => exact h x c (by simpa using hx)
      · refine .inr ⟨k + 1, by simpa using hk, fun x c hx hc => ?_, fun c hc => h2 c (by simpa using hc)⟩
        match x with
        | 0 => simp at hc; subst hc; exact ha
        | x + 1 => exact h1 x c (by omega) (by simpa using hc)
    · exact .inr ⟨0, by simp, fun x c hx => by omega, fun c hc => by simp at hc; subst hc; omega⟩
/-- slices.DeleteFunc at a row of claims that is not nil. -/
theorem delete_any (g n cap fb : Nat) (F : Int) (cs : List (Int × Int)) (w : World) (hn : cs.length = n) (HR : CRows w g 0 cs) (HT : TmAt w fb F) (HK : Blk w g n) (hfb : g ≠ fb) (hn' : (n : Int) ≤ 32768) (hcap : n ≤ cap) (hg : g < w.heap.size) :
    Calls Try.prog 41 #[.slice (some ⟨g, 0, none⟩) n cap, .func (.func 42) #[] #[.pointer (some ⟨fb, 0, none⟩)]] w fun e w' => e = .returned (.slice (some ⟨g, 0, none⟩) (standing F cs).length cap) ∧ Kept g g w w' ∧ Blk w' g n ∧ CRows w' g 0 (standing F cs) := by
  rcases first_lapsed F cs with h | ⟨k, hk, h1, h2⟩
  · refine (delete_none g n cap fb F cs w hn HR HT hn' h).mono ?_
    rintro e w' ⟨rfl, hb⟩
    rw [standing_all h]
    exact ⟨by rw [hn], Kept.of_below hb, HK.of_block (hb.block g hg), HR.later hb⟩
  · exact delete_some g n cap fb k F cs w hn HR HT HK hfb hn' hcap (by omega) h1 h2
end Go.Proofs.Qxb6613076a
