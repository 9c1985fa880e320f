/-
  held.forgetAt's literal; slices.IndexFunc over made claims.
-/
import Derived.Test.Qxb6613076aWin
import Derived.Deep.RegionHeld3
import Derived.Deep.CutBlock
import Derived.Deep.DeepCutAuto
import Derived.Deep.LoopGhost
namespace Go.Proofs.Qxb6613076a
open Go.RowKit
set_option linter.unusedVariables false
/-- A Time at block b. -/
structure TmAt (w : World) (b : Nat) (N : Int) : Prop where
  c0 : w.cell? ⟨b, 0, none⟩ = some (.int .u64 (tN N))
  c1 : w.cell? ⟨b, 1, none⟩ = some (.int .i64 (tS N))
  c2 : w.cell? ⟨b, 2, none⟩ = some (.pointer none)
theorem TmAt.later {w w' : World} {b : Nat} {N : Int} (h : TmAt w b N) (hb : Below w.heap.size w w') : TmAt w' b N := ⟨cell_later hb h.c0, cell_later hb h.c1, cell_later hb h.c2⟩
set_option maxHeartbeats 800000 in
/-- forgetAt's literal: has the claim lapsed? -/
theorem lapsed_any (fb : Nat) (F L C : Int) (w : World) (H : TmAt w fb F) :
    Calls Try.prog 42 #[.agg #[.string { data := #[] }, .int .i64 C, .int .u64 (tN L), .int .i64 (tS L), .pointer none], .pointer (some ⟨fb, 0, none⟩)] w fun e w' => e = .returned (.bool (decide (L ≤ F))) ∧ Below w.heap.size w w' := by
  have C1 : Hid (∀ w, Calls Try.prog 36 #[.agg #[.int .u64 (tN F), .int .i64 (tS F), .pointer none], .agg #[.int .u64 (tN L), .int .i64 (tS L), .pointer none]] w fun e w' => e = .returned (.bool (decide (F < L))) ∧ Below w.heap.size w w') := fun w => before_tm F L w
  have HE : Hid (decide (L ≤ F) = !decide (F < L)) := by
    show _ = _
    by_cases c : F < L
    · have c' : ¬ L ≤ F := by omega
      rw [decide_eq_true c, decide_eq_false c']; rfl
    · have c' : L ≤ F := by omega
      rw [decide_eq_false c, decide_eq_true c']; rfl
  have hb : fb < w.heap.size := World.block_lt_of_cell? _ _ H.c0
  have b1 : fb < w.heap.size + 1 := by omega
  obtain ⟨c0, c1, c2⟩ := H
  generalize decide (L ≤ F) = r at HE ⊢
  generalize decide (F < L) = q at HE C1
  generalize tN F = fn at *
  generalize tS F = fs at *
  generalize tN L = ln at *
  generalize tS L = ls at *
  go_enter Try.func42, Try.ntmps42
  go_wp2_with fail
  refine (C1.out _).mono ?_
  rintro e w1 ⟨rfl, x1⟩
  have Y : Hid (Below w.heap.size w w1) := below1 x1
  clear x1
  go_wp2_with fail
  go_ret
  exact ⟨by rw [HE.out]; rfl, Y.out⟩
/-- Row j of the claims' block g. -/
structure CRow (w : World) (g j : Nat) (L C : Int) : Prop where
  c0 : w.cell? ⟨g, j * 5, none⟩ = some (.string { data := #[] })
  c1 : w.cell? ⟨g, j * 5 + 1, none⟩ = some (.int .i64 C)
  c2 : w.cell? ⟨g, j * 5 + 2, none⟩ = some (.int .u64 (tN L))
  c3 : w.cell? ⟨g, j * 5 + 3, none⟩ = some (.int .i64 (tS L))
  c4 : w.cell? ⟨g, j * 5 + 4, none⟩ = some (.pointer none)
theorem CRow.later {w w' : World} {g j : Nat} {L C : Int} (h : CRow w g j L C) (hb : Below w.heap.size w w') : CRow w' g j L C := ⟨cell_later hb h.c0, cell_later hb h.c1, cell_later hb h.c2, cell_later hb h.c3, cell_later hb h.c4⟩
/-- The claims cs lie in block g from row o on. -/
def CRows (w : World) (g o : Nat) (cs : List (Int × Int)) : Prop := ∀ x c, cs[x]? = some c → CRow w g (o + x) c.1 c.2
theorem CRows.later {w w' : World} {g o : Nat} {cs : List (Int × Int)} (h : CRows w g o cs) (hb : Below w.heap.size w w') : CRows w' g o cs := fun x c hx => (h x c hx).later hb
set_option maxRecDepth 100000 in
set_option maxHeartbeats 1600000 in
/-- slices.IndexFunc: k is the first claim that has lapsed, or their number. -/
theorem index_any (g n cap fb k : Nat) (F : Int) (cs : List (Int × Int)) (r : Int) (w : World) (hn : cs.length = n) (HR : CRows w g 0 cs) (HT : TmAt w fb F) (hn' : (n : Int) ≤ 32768)
    (hk : k ≤ n) (hk1 : ∀ x c, x < k → cs[x]? = some c → F < c.1) (hk2 : ∀ c, cs[k]? = some c → c.1 ≤ F) (hr : r = if k < n then (k : Int) else -1) :
    Calls Try.prog 62 #[.slice (some ⟨g, 0, none⟩) n cap, .func (.func 42) #[] #[.pointer (some ⟨fb, 0, none⟩)]] w fun e w' => e = .returned (.int .i64 r) ∧ Below w.heap.size w w' := by
  have HR' : Hid (CRows w g 0 cs) := HR
  have HT' : Hid (TmAt w fb F) := HT
  have HK1 : Hid (∀ x c, x < k → cs[x]? = some c → F < c.1) := hk1
  have HK2 : Hid (∀ c, cs[k]? = some c → c.1 ≤ F) := hk2
  have HRR : Hid (r = if k < n then (k : Int) else -1) := hr
  have HN : Hid (cs.length = n) := hn
  clear HR HT hk1 hk2 hr hn
  go_enter Try.func62, Try.ntmps62
  go_wp2_with fail
  go_loopg [8] n (fun gg s8 wx => ∃ i : Nat, s8 = .int .i64 (i : Int) ∧ gg = n - i ∧ i ≤ k ∧ Hid (CRows wx g 0 cs) ∧ Hid (TmAt wx fb F) ∧ Hid (Below w.heap.size w wx))
  case atStart => exact ⟨0, rfl, by simp, by omega, HR', HT', Below.refl _ _⟩
  case round =>
    clear HR' HT'
    obtain ⟨i, rfl, rfl, hi, HR, HT, HB⟩ := hrel
    by_cases c : i < n
    · have ci : (i : Int) < (n : Int) := by omega
      obtain ⟨L, C, hLC⟩ : ∃ L C, cs[i]? = some (L, C) := ⟨(cs[i]'(by have := HN.out; omega)).1, (cs[i]'(by have := HN.out; omega)).2, by rw [List.getElem?_eq_getElem]⟩
      have HL : Hid (cs[i]? = some (L, C)) := hLC
      clear hLC
      have hrow := HR.out i (L, C) HL.out
      simp only [Nat.zero_add] at hrow
      obtain ⟨c0, c1, c2, c3, c4⟩ := hrow
      go_wp2_with fail
      refine (lapsed_any fb F L C _ HT.out).mono ?_
      rintro e w1 ⟨rfl, x1⟩
      have HR1 : Hid (CRows w1 g 0 cs) := HR.out.later x1
      have HT1 : Hid (TmAt w1 fb F) := HT.out.later x1
      have HB1 : Hid (Below w.heap.size w w1) := HB.out.trans (x1.mono HB.out.size)
      clear x1 c0 c1 c2 c3 c4 HR HT HB
      by_cases ck : i < k
      · have d : decide (L ≤ F) = false := by have := HK1.out i (L, C) ck HL.out; rw [decide_eq_false_iff_not]; simp only [] at this; omega
        have hs : IntKind.i64.wrap ((i : Int) + 1) = (i : Int) + 1 := by rw [IntKind.wrap_i64]; omega
        rw [d]
        clear HL
        go_wp2_with fail
        go_roundg (n - (i + 1))
        case measure => omega
        case rel => exact ⟨i + 1, by push_cast; rfl, rfl, by omega, HR1, HT1, HB1⟩
      · obtain rfl : i = k := by omega
        have d : decide (L ≤ F) = true := by have := HK2.out (L, C) HL.out; rw [decide_eq_true_iff]; exact this
        obtain rfl : r = (i : Int) := by rw [HRR.out, if_pos (by omega)]
        rw [d]
        clear HL
        go_wp2_with fail
        go_ret
        exact ⟨rfl, HB1.out⟩
    · have ci : ¬ (i : Int) < (n : Int) := by omega
      obtain rfl : r = -1 := by rw [HRR.out, if_neg (by omega)]
      go_wp2_with fail
      go_ret
      exact ⟨rfl, HB.out⟩
set_option maxHeartbeats 400000 in
theorem index_nil (fv : Value) (w : World) : Calls Try.prog 62 #[.slice none 0 0, fv] w fun e w' => e = .returned (.int .i64 (-1)) ∧ w' = w := by
  go_enter Try.func62, Try.ntmps62
  go_wp2_with fail
  refine wp_loop_rounds 1 ?_
  rw [rounds_succ]
  go_wp2_with fail
  go_ret
  exact ⟨rfl, rfl⟩
end Go.Proofs.Qxb6613076a
