/-
  ZZnewHeld: a held key with its claims and its state.
-/
import Derived.Test.Qxb6613076aHeldD
import Derived.Test.Qxb6613076aLaw5
import Derived.Deep.RegionLaw
import Derived.Deep.AppendLies
namespace Go.Proofs.Qxb6613076a
open Go.RowKit Go.Deep
set_option linter.unusedVariables false
/-- A claim's five cells. -/
def rowv (c : Int × Int) : List Value := [.string { data := #[] }, .int .i64 c.2, .int .u64 (tN c.1), .int .i64 (tS c.1), .pointer none]
def flat : List (Int × Int) → List Value
  | [] => []
  | c :: r => rowv c ++ flat r
theorem flat_append : ∀ a b : List (Int × Int), flat (a ++ b) = flat a ++ flat b
  | [], b => rfl
  | c :: r, b => by simp [flat, flat_append r b]
theorem flat_length : ∀ a : List (Int × Int), (flat a).length = a.length * 5
  | [] => rfl
  | c :: r => by simp [flat, rowv, flat_length r]; omega
theorem flat_get : ∀ (cs : List (Int × Int)) (x k : Nat) (c : Int × Int), cs[x]? = some c → k < 5 → (flat cs)[x * 5 + k]? = (rowv c)[k]?
  | [], x, k, c, h, _ => by simp at h
  | a :: r, 0, k, c, h, hk => by
    simp at h; subst h
    rw [Nat.zero_mul, Nat.zero_add]
    show (rowv a ++ flat r)[k]? = _
    rw [List.getElem?_append_left (by simpa [rowv] using hk)]
  | a :: r, x + 1, k, c, h, hk => by
    have h' : r[x]? = some c := by simpa using h
    show (rowv a ++ flat r)[(x + 1) * 5 + k]? = _
    rw [List.getElem?_append_right (by simp [rowv]; omega)]
    have e : (x + 1) * 5 + k - (rowv a).length = x * 5 + k := by simp [rowv]; omega
    rw [e]
    exact flat_get r x k c h' hk
theorem info74 : Try.prog.info? 74 = some Try.t74 := by kernel_rfl
theorem own_later {w w' : World} {base : Nat} {e : TypeId} {size : Nat} {v : Value} {n : Nat} {xs : List Value} (h : w.ownsRow base e size v n xs) (hb : Below w.heap.size w w') : w'.ownsRow base e size v n xs := by
  refine ⟨h.1, ?_⟩
  rcases h.2 with h0 | ⟨g, cap, cur, h1, h2, h3, h4⟩
  · exact .inl h0
  · have hg : g < w.heap.size := by
      rcases Nat.lt_or_ge g w.heap.size with q | q
      · exact q
      · rw [Array.getElem?_eq_none q] at h3; cases h3
    exact .inr ⟨g, cap, cur, h1, h2, by rw [hb.block g hg]; exact h3, h4⟩
theorem own_kept {w w' : World} {base x : Nat} {e : TypeId} {size : Nat} {v : Value} {n : Nat} {xs : List Value} (h : w.ownsRow base e size v n xs) (k : Kept x x w w') (hx : x < base) : w'.ownsRow base e size v n xs := by
  refine ⟨h.1, ?_⟩
  rcases h.2 with h0 | ⟨g, cap, cur, h1, h2, h3, h4⟩
  · exact .inl h0
  · have hg : g < w.heap.size := by
      rcases Nat.lt_or_ge g w.heap.size with q | q
      · exact q
      · rw [Array.getElem?_eq_none q] at h3; cases h3
    exact .inr ⟨g, cap, cur, h1, h2, by rw [k.block g hg (by omega) (by omega)]; exact h3, h4⟩
/-- What owns the claims' cells has the claims' rows. -/
theorem own_rows {w : World} {base n : Nat} {v : Value} {cs : List (Int × Int)} (h : w.ownsRow base 74 5 v n (flat cs)) (hn : cs.length = n) (h0 : 0 < n) :
    ∃ g cap, v = .slice (some ⟨g, 0, none⟩) n cap ∧ base ≤ g ∧ g < w.heap.size ∧ n ≤ cap ∧ CRows w g 0 cs ∧ Blk w g n := by
  rcases h.2 with ⟨_, hz⟩ | ⟨g, cap, cur, h1, h2, h3, h4, h5, h6, h7⟩
  · omega
  · have hg : g < w.heap.size := by
      rcases Nat.lt_or_ge g w.heap.size with q | q
      · exact q
      · rw [Array.getElem?_eq_none q] at h3; cases h3
    have hcell : ∀ o, w.cell? ⟨g, o, none⟩ = cur[o]? := fun o => cell_of_row w g o cur 74 (0, 0) h3
    have hget : ∀ x k c, cs[x]? = some c → k < 5 → w.cell? ⟨g, x * 5 + k, none⟩ = (rowv c)[k]? := fun x k c hc hk => by
      have hx : x < cs.length := by
        rcases Nat.lt_or_ge x cs.length with q | q
        · exact q
        · rw [List.getElem?_eq_none q] at hc; cases hc
      rw [hcell, ← flat_get cs x k c hc hk, ← h7, List.getElem?_take, if_pos (by omega), Array.getElem?_toList]
    refine ⟨g, cap, h1, h2, hg, h4, fun x c hc => ?_, ⟨fun o ho => ?_, fun o => by simp [World.frozen?, h3]⟩⟩
    · rw [Nat.zero_add]
      exact ⟨hget x 0 c hc (by omega), hget x 1 c hc (by omega), hget x 2 c hc (by omega), hget x 3 c hc (by omega), hget x 4 c hc (by omega)⟩
    · rw [hcell, Array.getElem?_eq_getElem (by rw [h6]; have := Nat.mul_le_mul_right 5 h4; omega)]
      exact ⟨_, rfl⟩
theorem rowv_one (c : Int × Int) : ∀ u ∈ rowv c, u.oneCell' = true := by
  intro u hu
  simp [rowv] at hu
  rcases hu with rfl | rfl | rfl | rfl | rfl <;> rfl
theorem flat_take {cs : List (Int × Int)} {i : Nat} {c : Int × Int} (h : cs[i]? = some c) : flat (cs.take i) ++ rowv c = flat (cs.take (i + 1)) := by
  rw [List.take_add_one, h, flat_append]
  simp [flat]
/-- What the state says, whatever the floor and the window. -/
def StOk (V : World) (st : Value) (hb g : Nat) (hasS : Bool) (M : Int) : Prop := ∀ F base win : Int, (base = if hasS then M + win else F) → StAt V st hb g F base win
/-- What ZZnewHeld has made. -/
structure Made (w w' : World) (hb : Nat) (st sl : Value) (cs : List (Int × Int)) (hasS : Bool) (M : Int) : Prop where
  below : Below w.heap.size w w'
  new : w.heap.size ≤ hb
  hd : Hd w' hb st sl
  free : ∀ o, w'.frozen? ⟨hb, o, none⟩ = false
  claims : (cs = [] ∧ sl = .slice none 0 0 ∧ StOk w' st hb hb hasS M) ∨ ∃ g cap, sl = .slice (some ⟨g, 0, none⟩) cs.length cap ∧ hb ≠ g ∧ w.heap.size ≤ g ∧ g < w'.heap.size ∧ cs.length ≤ cap ∧ CRows w' g 0 cs ∧ Blk w' g cs.length ∧ StOk w' st hb g hasS M
def MadeAny (w w' : World) (cs : List (Int × Int)) (hasS : Bool) (M : Int) : Prop := ∃ st sl, Made w w' w.heap.size st sl cs hasS M
theorem own_ne {w : World} {base : Nat} {e : TypeId} {size : Nat} {v : Value} {n : Nat} {xs : List Value} (h : w.ownsRow base e size v n xs) (k : Nat) (hk : k < base) : some k ≠ v.ownBlock := by
  rcases h.2 with ⟨rfl, _⟩ | ⟨g, cap, cur, rfl, h2, _⟩
  · intro x; cases x
  · intro x; injection x with x; simp only [] at x; omega
theorem grown_below {w w' : World} {base B : Nat} {e : TypeId} {size : Nat} {v : Value} {n : Nat} {xs : List Value} (h : w.ownsRow base e size v n xs) (hB : B ≤ base) (hw : B ≤ w.heap.size) (g : w.grownBy w' v.ownBlock) : Below B w w' :=
  ⟨g.os, g.tape, g.output, g.size, fun k hk => g.block k (by omega) (own_ne h k (by omega))⟩
theorem state_made {w4 : World} {hb : Nat} {v : Value} {M : Int} (H4 : Hd w4 hb .nilIface v) (FZ4 : ∀ o, w4.frozen? ⟨hb, o, none⟩ = false) :
    Hd (((w4.setCell ⟨hb, 1, none⟩ (.iface 60 (.pointer (some ⟨w4.heap.size + 1, 0, none⟩)))).alloc (.cells #[.int .u64 (tN M), .int .i64 (tS M), .pointer none, .int .u64 0] 76)).alloc (.cells #[.slice (some ⟨w4.heap.size, 0, none⟩) 1 1, .int .u64 0, .int .u64 0] 79)) hb (.iface 60 (.pointer (some ⟨w4.heap.size + 1, 0, none⟩))) v ∧
    (∀ o, (((w4.setCell ⟨hb, 1, none⟩ (.iface 60 (.pointer (some ⟨w4.heap.size + 1, 0, none⟩)))).alloc (.cells #[.int .u64 (tN M), .int .i64 (tS M), .pointer none, .int .u64 0] 76)).alloc (.cells #[.slice (some ⟨w4.heap.size, 0, none⟩) 1 1, .int .u64 0, .int .u64 0] 79)).frozen? ⟨hb, o, none⟩ = false) ∧
    LastAt (((w4.setCell ⟨hb, 1, none⟩ (.iface 60 (.pointer (some ⟨w4.heap.size + 1, 0, none⟩)))).alloc (.cells #[.int .u64 (tN M), .int .i64 (tS M), .pointer none, .int .u64 0] 76)).alloc (.cells #[.slice (some ⟨w4.heap.size, 0, none⟩) 1 1, .int .u64 0, .int .u64 0] 79)) (w4.heap.size + 1) w4.heap.size 1 M ∧
    Kept hb hb w4 (((w4.setCell ⟨hb, 1, none⟩ (.iface 60 (.pointer (some ⟨w4.heap.size + 1, 0, none⟩)))).alloc (.cells #[.int .u64 (tN M), .int .i64 (tS M), .pointer none, .int .u64 0] 76)).alloc (.cells #[.slice (some ⟨w4.heap.size, 0, none⟩) 1 1, .int .u64 0, .int .u64 0] 79)) := by
  have hl : hb < w4.heap.size := World.block_lt_of_cell? w4 ⟨hb, 1, none⟩ H4.s
  have past : ∀ o, (((w4.setCell ⟨hb, 1, none⟩ (.iface 60 (.pointer (some ⟨w4.heap.size + 1, 0, none⟩)))).alloc (.cells #[.int .u64 (tN M), .int .i64 (tS M), .pointer none, .int .u64 0] 76)).alloc (.cells #[.slice (some ⟨w4.heap.size, 0, none⟩) 1 1, .int .u64 0, .int .u64 0] 79)).cell? ⟨hb, o, none⟩ = (w4.setCell ⟨hb, 1, none⟩ (.iface 60 (.pointer (some ⟨w4.heap.size + 1, 0, none⟩)))).cell? ⟨hb, o, none⟩ := fun o => by
    rw [World.cell?_alloc_past _ _ _ (by show hb < _; simp; omega), World.cell?_alloc_past _ _ _ (by show hb < _; simp; omega)]
  have fpast : ∀ o, (((w4.setCell ⟨hb, 1, none⟩ (.iface 60 (.pointer (some ⟨w4.heap.size + 1, 0, none⟩)))).alloc (.cells #[.int .u64 (tN M), .int .i64 (tS M), .pointer none, .int .u64 0] 76)).alloc (.cells #[.slice (some ⟨w4.heap.size, 0, none⟩) 1 1, .int .u64 0, .int .u64 0] 79)).frozen? ⟨hb, o, none⟩ = false := fun o => by
    rw [World.frozen?_alloc_past _ _ _ (by show hb < _; simp; omega), World.frozen?_alloc_past _ _ _ (by show hb < _; simp; omega), World.frozen?_setCell]; exact FZ4 o
  refine ⟨⟨?_, ?_, fpast 2⟩, fpast, ?_, (((Kept.refl hb hb w4).setCell ⟨hb, 1, none⟩ _ (.inl rfl)).alloc _).alloc _⟩
  · rw [past]; exact World.cell?_setCell_same _ _ _ H4.s
  · rw [past, World.cell?_setCell_other _ _ _ _ (fun e => by injection e with _ e2 _; omega)]; exact H4.c
  · constructor <;> simp [go_sem]
theorem StOk.win {V : World} {wb g2 c hb g : Nat} {M : Int} (h : LastAt V wb g2 c M) (hM1 : -9223372036854775808 ≤ M) (hM2 : M ≤ 9223372036854775807) (n1 : wb ≠ hb) (n2 : wb ≠ g) (n3 : g2 ≠ hb) (n4 : g2 ≠ g) : StOk V (.iface 60 (.pointer (some ⟨wb, 0, none⟩))) hb g true M :=
  fun F base win e => .inr ⟨wb, g2, c, M, rfl, h, by simpa using e, hM1, hM2, n1, n2, n3, n4⟩
theorem StOk.none (V : World) (hb g : Nat) (M : Int) : StOk V .nilIface hb g false M := fun F base win e => .inl ⟨rfl, by simpa using e⟩
theorem claims_f {w wr : World} {v : Value} {n : Nat} {cs : List (Int × Int)} {M : Int} (hn : cs.length = n) (h0 : 0 < n) (O : wr.ownsRow (w.heap.size + 1) 74 5 v n (flat cs)) :
    ∃ g cap, v = .slice (some ⟨g, 0, none⟩) cs.length cap ∧ w.heap.size ≠ g ∧ w.heap.size ≤ g ∧ g < wr.heap.size ∧ cs.length ≤ cap ∧ CRows wr g 0 cs ∧ Blk wr g cs.length ∧ StOk wr .nilIface w.heap.size g false M := by
  obtain ⟨g, cap, h1, h2, h3, h4, h5, h6⟩ := own_rows O hn h0
  rw [hn]
  exact ⟨g, cap, h1, by omega, by omega, h3, h4, h5, h6, StOk.none _ _ _ _⟩
theorem claims_t {w wr w4 W : World} {v : Value} {n : Nat} {cs : List (Int × Int)} {M : Int} (hn : cs.length = n) (h0 : 0 < n) (O : wr.ownsRow (w.heap.size + 1) 74 5 v n (flat cs)) (X : Below wr.heap.size wr w4) (k : Kept w.heap.size w.heap.size w4 W)
    (m : LastAt W (w4.heap.size + 1) w4.heap.size 1 M) (hM1 : -9223372036854775808 ≤ M) (hM2 : M ≤ 9223372036854775807) :
    ∃ g cap, v = .slice (some ⟨g, 0, none⟩) cs.length cap ∧ w.heap.size ≠ g ∧ w.heap.size ≤ g ∧ g < W.heap.size ∧ cs.length ≤ cap ∧ CRows W g 0 cs ∧ Blk W g cs.length ∧ StOk W (.iface 60 (.pointer (some ⟨w4.heap.size + 1, 0, none⟩))) w.heap.size g true M := by
  obtain ⟨g, cap, h1, h2, h3, h4, h5, h6⟩ := own_rows (own_later O X) hn h0
  rw [hn]
  exact ⟨g, cap, h1, by omega, by omega, Nat.lt_of_lt_of_le h3 k.size, h4, h5.kept k (by omega) (by omega), h6.of_block (k.block g h3 (by omega) (by omega)), StOk.win m hM1 hM2 (by omega) (by omega) (by omega) (by omega)⟩
set_option maxRecDepth 100000 in
set_option maxHeartbeats 3200000 in
theorem newHeld_zero (la ca : Option Addr) (lc cc : Nat) (hasS : Bool) (M : Int) (w : World) (hM1 : -9223372036854775808 ≤ M) (hM2 : M ≤ 9223372036854775807) :
    Calls Try.prog 12 #[.slice la 0 lc, .slice ca 0 cc, .bool hasS, .int .i64 M] w fun e w' => e = .returned (.pointer (some ⟨w.heap.size, 0, none⟩)) ∧ MadeAny w w' [] hasS M := by
  go_enter Try.func12, Try.ntmps12
  go_wp2_with fail
  refine wp_loop_rounds 1 ?_
  rw [rounds_succ]
  obtain ⟨wr, v, hwr, hv, H, B, FZ⟩ : ∃ (wr : World) (v : Value), wr = w.alloc (.cells #[.string { data := #[] }, .nilIface, .slice none 0 0, .int .u64 0, .int .i64 0, .pointer none, .int .i64 0] 71) ∧ v = .slice none 0 0 ∧ Hid (Hd wr w.heap.size .nilIface v) ∧ Hid (Below w.heap.size w wr) ∧ Hid (∀ o, wr.frozen? ⟨w.heap.size, o, none⟩ = false) :=
    ⟨_, _, rfl, rfl, ⟨by simp [go_sem], by simp [go_sem], by simp [go_sem]⟩, by unfold Hid; go_grown, fun o => by simp [go_sem]⟩
  rw [← hwr]
  have HV : Hid (v = .slice none 0 0) := hv
  clear hwr hv
  cases hasS with
  | false =>
    go_wp2_with fail
    go_ret
    exact ⟨rfl, .nilIface, v, B.out, Nat.le_refl _, H.out, FZ.out, .inl ⟨rfl, HV.out, StOk.none _ _ _ _⟩⟩
  | true =>
    go_wp2_with fail
    refine (at_any M _ hM1 hM2).mono ?_
    rintro e w4 ⟨rfl, x4⟩
    have H4 : Hid (Hd w4 w.heap.size .nilIface v) := H.out.later x4
    have B4 : Hid (Below w.heap.size w w4) := B.out.trans (x4.mono B.out.size)
    have FZ4 : Hid (∀ o, w4.frozen? ⟨w.heap.size, o, none⟩ = false) := fun o => hfrozen x4 H.out.c (FZ.out o)
    have s4 := H4.out.s
    have f4 := FZ4.out 1
    have z4 : w.heap.size < w4.heap.size := World.block_lt_of_cell? _ _ s4
    have z5 : w.heap.size < w4.heap.size + 1 := by omega
    have z6 : w.heap.size < w4.heap.size + 1 + 1 := by omega
    have X4 : Hid (Below wr.heap.size wr w4) := x4
    clear x4
    go_wp2_with fail
    go_ret
    obtain ⟨m1, m2, m3, m4⟩ := state_made (M := M) H4.out FZ4.out
    exact ⟨rfl, _, v, Kept.hunder B4.out (Nat.le_refl _) m4, Nat.le_refl _, m1, m2, .inl ⟨rfl, HV.out, StOk.win m3 hM1 hM2 (by omega) (by omega) (by omega) (by omega)⟩⟩
set_option maxRecDepth 100000 in
set_option maxHeartbeats 6400000 in
theorem newHeld_loop (lb cb n lc cc : Nat) (cs : List (Int × Int)) (hasS : Bool) (M : Int) (w : World) (hn : cs.length = n) (hn' : n ≤ 32768) (hlb : lb < w.heap.size) (hcb : cb < w.heap.size)
    (hL : ∀ (x : Nat) (c : Int × Int), cs[x]? = some c → w.cell? ⟨lb, x, none⟩ = some (.int .i64 c.1)) (hC : ∀ (x : Nat) (c : Int × Int), cs[x]? = some c → w.cell? ⟨cb, x, none⟩ = some (.int .i64 c.2))
    (hr : ∀ (x : Nat) (c : Int × Int), cs[x]? = some c → -9223372036854775808 ≤ c.1 ∧ c.1 ≤ 9223372036854775807) (hM1 : -9223372036854775808 ≤ M) (hM2 : M ≤ 9223372036854775807) (h0 : 0 < n) :
    Calls Try.prog 12 #[.slice (some ⟨lb, 0, none⟩) n lc, .slice (some ⟨cb, 0, none⟩) n cc, .bool hasS, .int .i64 M] w fun e w' => e = .returned (.pointer (some ⟨w.heap.size, 0, none⟩)) ∧ MadeAny w w' cs hasS M := by
  have HN : Hid (cs.length = n) := hn
  have HL : Hid (∀ (x : Nat) (c : Int × Int), cs[x]? = some c → w.cell? ⟨lb, x, none⟩ = some (.int .i64 c.1)) := hL
  have HC : Hid (∀ (x : Nat) (c : Int × Int), cs[x]? = some c → w.cell? ⟨cb, x, none⟩ = some (.int .i64 c.2)) := hC
  have HR : Hid (∀ (x : Nat) (c : Int × Int), cs[x]? = some c → -9223372036854775808 ≤ c.1 ∧ c.1 ≤ 9223372036854775807) := hr
  clear hn hL hC hr
  go_enter Try.func12, Try.ntmps12
  go_wp2_with fail
  go_loopg [15] n (fun gg s15 wx => ∃ (i : Nat) (v : Value), s15 = .int .i64 (i : Int) ∧ gg = n - i ∧ i ≤ n ∧ Hid (Hd wx w.heap.size .nilIface v) ∧ Hid (wx.ownsRow (w.heap.size + 1) 74 5 v i (flat (cs.take i))) ∧ Hid (Below w.heap.size w wx) ∧ Hid (∀ o, wx.frozen? ⟨w.heap.size, o, none⟩ = false))
  case atStart => exact ⟨0, .slice none 0 0, rfl, by simp, by omega, ⟨by simp [go_sem], by simp [go_sem], by simp [go_sem]⟩, ⟨by simp [flat], .inl ⟨rfl, rfl⟩⟩, by unfold Hid; go_grown, fun o => by simp [go_sem]⟩
  case round =>
    obtain ⟨i, v, rfl, rfl, hi, H, O, B, FZ⟩ := hrel
    by_cases c : i < n
    · have ci : (i : Int) < (n : Int) := by omega
      obtain ⟨L, C, hLC⟩ : ∃ L C, cs[i]? = some (L, C) := ⟨(cs[i]'(by have := HN.out; omega)).1, (cs[i]'(by have := HN.out; omega)).2, by rw [List.getElem?_eq_getElem]⟩
      have HLC : Hid (cs[i]? = some (L, C)) := hLC
      have k0 : wr.cell? ⟨lb, i, none⟩ = some (.int .i64 L) := cell_later B.out (HL.out i _ hLC)
      have k1 : wr.cell? ⟨cb, i, none⟩ = some (.int .i64 C) := cell_later B.out (HC.out i _ hLC)
      have hrg := HR.out i _ hLC
      simp only [] at hrg
      clear hLC
      have h2 := H.out.c
      have h3 := H.out.f
      have C33 : Hid (∀ w, Calls Try.prog 33 #[.int .i64 L] w fun e w' => e = .returned (.agg #[.int .u64 (tN L), .int .i64 (tS L), .pointer none]) ∧ Below w.heap.size w w') := fun w => at_any L w hrg.1 hrg.2
      clear hrg
      have hne : some w.heap.size ≠ v.ownBlock := own_ne O.out _ (by omega)
      have hwB : w.heap.size < wr.heap.size := World.block_lt_of_cell? _ _ h2
      have LEN : Hid (i + 1 ≤ maxLen ∧ (i + 1) * 48 ≤ 140737488355328) := ⟨by unfold maxLen; omega, by omega⟩
      go_upto_region 5 with fail
      go_region_law
        (first
        | (refine step_append_lies _ (by rfl) _ _ _ (by rfl) (w.heap.size + 1) 74 Try.t74 (.agg #[.string { data := #[] }, .int .i64 0, .int .u64 0, .int .i64 0, .pointer none]) 5 48 Try.underlying66 info74 rfl rfl rfl rfl (by omega) v i (flat (cs.take i)) (by rfl) O1.out _ 1 1 (rowv (L, C)) (by rfl) rfl N1.out (rowv_one _) (by omega) LEN.out.1 LEN.out.2 Z1.out _ rfl ?_; intro g cap w3 hown hgrow hat hlt; have e2 : w3.cell? ⟨w.heap.size, 2, none⟩ = some v := (hgrow.cell_far ⟨w.heap.size, 2, none⟩ E1.out.2.2 hne).trans E1.out.1; have e3 : w3.frozen? ⟨w.heap.size, 2, none⟩ = false := (hgrow.frozen_far ⟨w.heap.size, 2, none⟩ E1.out.2.2 hne).trans E1.out.2.1)
        | (go_simp; go_at_call 33; refine (C33.out _).mono ?_; rintro e w1 ⟨rfl, x1⟩; dsimp only; have Y1 := bdrew x1; have AL : Below wr.heap.size wr (w1.alloc (.cells #[.string { data := #[] }, .int .i64 C, .int .u64 (tN L), .int .i64 (tS L), .pointer none] 74)) := Y1.alloc Y1.size _; have O1 : Hid ((w1.alloc (.cells #[.string { data := #[] }, .int .i64 C, .int .u64 (tN L), .int .i64 (tS L), .pointer none] 74)).ownsRow (w.heap.size + 1) 74 5 v i (flat (cs.take i))) := own_later O.out AL; have N1 : Hid (∀ j u, (rowv (L, C))[j]? = some u → (w1.alloc (.cells #[.string { data := #[] }, .int .i64 C, .int .u64 (tN L), .int .i64 (tS L), .pointer none] 74)).cell? ((⟨w1.heap.size, 0, none⟩ : Addr).add j) = some u) := World.news_of_block (heap_alloc_new w1 _); have h2' := cell_later Y1 h2; have k1' := cell_later Y1 k1; have hb1 : w.heap.size < w1.heap.size := Nat.lt_of_lt_of_le hwB Y1.size; have E1 : Hid ((w1.alloc (.cells #[.string { data := #[] }, .int .i64 C, .int .u64 (tN L), .int .i64 (tS L), .pointer none] 74)).cell? ⟨w.heap.size, 2, none⟩ = some v ∧ (w1.alloc (.cells #[.string { data := #[] }, .int .i64 C, .int .u64 (tN L), .int .i64 (tS L), .pointer none] 74)).frozen? ⟨w.heap.size, 2, none⟩ = false ∧ w.heap.size < (w1.alloc (.cells #[.string { data := #[] }, .int .i64 C, .int .u64 (tN L), .int .i64 (tS L), .pointer none] 74)).heap.size) := ⟨cell_later AL h2, hfrozen AL h2 h3, Nat.lt_of_lt_of_le hwB AL.size⟩; have Z1 : Hid (w.heap.size + 1 ≤ (w1.alloc (.cells #[.string { data := #[] }, .int .i64 C, .int .u64 (tN L), .int .i64 (tS L), .pointer none] 74)).heap.size) := Nat.lt_of_lt_of_le hwB AL.size; have AL' : Hid (Below wr.heap.size wr (w1.alloc (.cells #[.string { data := #[] }, .int .i64 C, .int .u64 (tN L), .int .i64 (tS L), .pointer none] 74))) := AL; clear Y1 AL))
      all_goals
        have HE : Hid (Hd (w3.setCell ⟨w.heap.size, 2, none⟩ (.slice (some ⟨g, 0, none⟩) (i + 1) cap)) w.heap.size .nilIface (.slice (some ⟨g, 0, none⟩) (i + 1) cap) ∧ (w3.setCell ⟨w.heap.size, 2, none⟩ (.slice (some ⟨g, 0, none⟩) (i + 1) cap)).ownsRow (w.heap.size + 1) 74 5 (.slice (some ⟨g, 0, none⟩) (i + 1) cap) (i + 1) (flat (cs.take (i + 1))) ∧ Below w.heap.size w (w3.setCell ⟨w.heap.size, 2, none⟩ (.slice (some ⟨g, 0, none⟩) (i + 1) cap)) ∧ ∀ o, (w3.setCell ⟨w.heap.size, 2, none⟩ (.slice (some ⟨g, 0, none⟩) (i + 1) cap)).frozen? ⟨w.heap.size, o, none⟩ = false) := by
          have a1 : w3.cell? ⟨w.heap.size, 1, none⟩ = some .nilIface := (hgrow.cell_far ⟨w.heap.size, 1, none⟩ E1.out.2.2 hne).trans (cell_later AL'.out H.out.s)
          have a2 : Hd w3 w.heap.size .nilIface v := ⟨a1, e2, e3⟩
          rw [flat_take HLC.out] at hown
          have bw : Below w.heap.size w w3 := (B.out.trans (AL'.out.mono B.out.size)).trans (grown_below O1.out (by omega) (by have := Z1.out; omega) hgrow)
          refine ⟨a2.put _, own_kept hown ((Kept.refl w.heap.size w.heap.size w3).setCell ⟨w.heap.size, 2, none⟩ _ (.inl rfl)) (by omega), bw.setCell (Nat.le_refl _) _, fun o => ?_⟩
          rw [World.frozen?_setCell, hgrow.frozen_far ⟨w.heap.size, o, none⟩ E1.out.2.2 hne]
          exact hfrozen AL'.out h2 (FZ.out o)
        have hs2 : IntKind.i64.wrap ((i : Int) + 1) = (i : Int) + 1 := by rw [IntKind.wrap_i64]; omega
        clear hown hgrow hat e2 e3 E1 N1 O1 Z1 AL' h2 h2' h3 k0 k1 k1' LEN
        go_wp2_with fail
        go_roundg (n - (i + 1))
        case measure => omega
        case rel => exact ⟨i + 1, _, by push_cast; rfl, rfl, by omega, HE.out.1, HE.out.2.1, HE.out.2.2.1, HE.out.2.2.2⟩
    · have ci : ¬ (i : Int) < (n : Int) := by omega
      obtain rfl : i = n := by omega
      have OO : Hid (wr.ownsRow (w.heap.size + 1) 74 5 v i (flat cs)) := by
        have h := O.out
        rw [List.take_of_length_le (by rw [HN.out]; exact Nat.le_refl _)] at h; exact h
      clear O
      cases hasS with
      | false =>
        go_wp2_with fail
        go_ret
        exact ⟨rfl, .nilIface, v, B.out, Nat.le_refl _, H.out, FZ.out, .inr (claims_f HN.out h0 OO.out)⟩
      | true =>
        go_wp2_with fail
        refine (at_any M _ hM1 hM2).mono ?_
        rintro e w4 ⟨rfl, x4⟩
        have H4 : Hid (Hd w4 w.heap.size .nilIface v) := H.out.later x4
        have B4 : Hid (Below w.heap.size w w4) := B.out.trans (x4.mono B.out.size)
        have FZ4 : Hid (∀ o, w4.frozen? ⟨w.heap.size, o, none⟩ = false) := fun o => hfrozen x4 H.out.c (FZ.out o)
        have s4 := H4.out.s
        have f4 := FZ4.out 1
        have z4 : w.heap.size < w4.heap.size := World.block_lt_of_cell? _ _ s4
        have z5 : w.heap.size < w4.heap.size + 1 := by omega
        have z6 : w.heap.size < w4.heap.size + 1 + 1 := by omega
        have X4 : Hid (Below wr.heap.size wr w4) := x4
        clear x4
        go_wp2_with fail
        go_ret
        obtain ⟨m1, m2, m3, m4⟩ := state_made (M := M) H4.out FZ4.out
        exact ⟨rfl, _, v, Kept.hunder B4.out (Nat.le_refl _) m4, Nat.le_refl _, m1, m2, .inr (claims_t HN.out h0 OO.out X4.out m4 m3 hM1 hM2)⟩
end Go.Proofs.Qxb6613076a
