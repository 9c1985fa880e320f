/-
  bucket.lackingAt: what a bucket lacks at a later time (a loop, since Sub saturates).
-/
import Derived.Test.Qxb6613076aCeil
import Derived.Test.Qxb6613076aTime3
import Derived.Test.Qxb6613076aWin
import Derived.Deep.RegionHeld3
import Derived.Deep.CutBlock
import Derived.Deep.DeepCutAuto
import Derived.Deep.LoopGhost
namespace Go.Proofs.Qxb6613076a
open Go.RowKit
set_option linter.unusedVariables false
/-- A bucket at block b: its time N, what it lacks M. -/
structure BAt (w : World) (b : Nat) (N M : Int) : Prop where
  a0 : w.cell? ⟨b, 0, none⟩ = some (.int .u64 (tN N))
  a1 : w.cell? ⟨b, 1, none⟩ = some (.int .i64 (tS N))
  a2 : w.cell? ⟨b, 2, none⟩ = some (.pointer none)
  m0 : w.cell? ⟨b, 3, none⟩ = some (.int .u64 (uH M))
  m1 : w.cell? ⟨b, 4, none⟩ = some (.int .u64 (uL M))
/-- The store in lackingAt's loop: B: now, B+1: the result, p: missing, q: at. -/
structure Lk (V : World) (B p q : Nat) (A M T : Int) : Prop where
  t0 : V.cell? ⟨B, 0, none⟩ = some (.int .u64 (tN T))
  t1 : V.cell? ⟨B, 1, none⟩ = some (.int .i64 (tS T))
  t2 : V.cell? ⟨B, 2, none⟩ = some (.pointer none)
  r0 : V.cell? ⟨B + 1, 0, none⟩ = some (.int .u64 0)
  r1 : V.cell? ⟨B + 1, 1, none⟩ = some (.int .u64 0)
  m0 : V.cell? ⟨p, 0, none⟩ = some (.int .u64 (uH M))
  m1 : V.cell? ⟨p, 1, none⟩ = some (.int .u64 (uL M))
  a0 : V.cell? ⟨q, 0, none⟩ = some (.int .u64 (tN A))
  a1 : V.cell? ⟨q, 1, none⟩ = some (.int .i64 (tS A))
  a2 : V.cell? ⟨q, 2, none⟩ = some (.pointer none)
  fr0 : V.frozen? ⟨B + 1, 0, none⟩ = false
  fr1 : V.frozen? ⟨B + 1, 1, none⟩ = false
  fm0 : V.frozen? ⟨p, 0, none⟩ = false
  fm1 : V.frozen? ⟨p, 1, none⟩ = false
  fa0 : V.frozen? ⟨q, 0, none⟩ = false
  fa1 : V.frozen? ⟨q, 1, none⟩ = false
  fa2 : V.frozen? ⟨q, 2, none⟩ = false
theorem Lk.later {V V' : World} {B p q : Nat} {A M T : Int} (h : Lk V B p q A M T) (hb : Below V.heap.size V V') : Lk V' B p q A M T where
  t0 := cell_later hb h.t0
  t1 := cell_later hb h.t1
  t2 := cell_later hb h.t2
  r0 := cell_later hb h.r0
  r1 := cell_later hb h.r1
  m0 := cell_later hb h.m0
  m1 := cell_later hb h.m1
  a0 := cell_later hb h.a0
  a1 := cell_later hb h.a1
  a2 := cell_later hb h.a2
  fr0 := by rw [hb.frozen (p := ⟨B + 1, 0, none⟩) (World.block_lt_of_cell? _ _ h.r0)]; exact h.fr0
  fr1 := by rw [hb.frozen (p := ⟨B + 1, 1, none⟩) (World.block_lt_of_cell? _ _ h.r1)]; exact h.fr1
  fm0 := by rw [hb.frozen (p := ⟨p, 0, none⟩) (World.block_lt_of_cell? _ _ h.m0)]; exact h.fm0
  fm1 := by rw [hb.frozen (p := ⟨p, 1, none⟩) (World.block_lt_of_cell? _ _ h.m1)]; exact h.fm1
  fa0 := by rw [hb.frozen (p := ⟨q, 0, none⟩) (World.block_lt_of_cell? _ _ h.a0)]; exact h.fa0
  fa1 := by rw [hb.frozen (p := ⟨q, 1, none⟩) (World.block_lt_of_cell? _ _ h.a1)]; exact h.fa1
  fa2 := by rw [hb.frozen (p := ⟨q, 2, none⟩) (World.block_lt_of_cell? _ _ h.a2)]; exact h.fa2
theorem Lk.putM {V : World} {B p q : Nat} {A M T : Int} (h : Lk V B p q A M T) (hp : B + 1 < p) (hpq : ¬ p = q) (M' : Int) :
    Lk ((V.setCell ⟨p, 0, none⟩ (.int .u64 (uH M'))).setCell ⟨p, 1, none⟩ (.int .u64 (uL M'))) B p q A M' T := by
  obtain ⟨t0, t1, t2, r0, r1, m0, m1, a0, a1, a2, fr0, fr1, fm0, fm1, fa0, fa1, fa2⟩ := h
  have n1 : ¬ B = p := by omega
  have n2 : ¬ B + 1 = p := by omega
  have n3 : ¬ q = p := by omega
  have n4 : ¬ p = B := by omega
  have n5 : ¬ p = B + 1 := by omega
  constructor <;> simp [go_sem, *]
theorem Lk.putA {V : World} {B p q : Nat} {A M T : Int} (h : Lk V B p q A M T) (hq : B + 1 < q) (hpq : ¬ p = q) (A' : Int) :
    Lk (((V.setCell ⟨q, 0, none⟩ (.int .u64 (tN A'))).setCell ⟨q, 1, none⟩ (.int .i64 (tS A'))).setCell ⟨q, 2, none⟩ (.pointer none)) B p q A' M T := by
  obtain ⟨t0, t1, t2, r0, r1, m0, m1, a0, a1, a2, fr0, fr1, fm0, fm1, fa0, fa1, fa2⟩ := h
  have n1 : ¬ B = q := by omega
  have n2 : ¬ B + 1 = q := by omega
  have n3 : ¬ q = p := by omega
  have n4 : ¬ q = B := by omega
  have n5 : ¬ q = B + 1 := by omega
  constructor <;> simp [go_sem, *]
theorem prod_w (a b : Int) (h0 : 0 ≤ a) (h1 : a < 18446744073709551616) (k0 : 0 ≤ b) (k1 : b < 18446744073709551616) : W128 (a * b) := by
  refine ⟨Int.mul_nonneg h0 k0, ?_⟩
  have : a * b ≤ 18446744073709551616 * b := Int.mul_le_mul_of_nonneg_right (by omega) k0
  omega
theorem clip_id {M : Int} (h : 0 ≤ M) : clip M = M := by unfold clip; split <;> omega
theorem clip_w (M x : Int) (hM : W128 M) (hx : 0 ≤ x) : W128 (clip (M - x)) := by
  obtain ⟨h1, h2⟩ := hM
  unfold W128 clip; split <;> omega
theorem clip_clip (M x y : Int) (hx : 0 ≤ x) (hy : 0 ≤ y) : clip (clip (M - x) - y) = clip (M - (x + y)) := by
  unfold clip
  split <;> split <;> (try split) <;> omega
set_option maxHeartbeats 1600000 in
theorem lacking_u (b : Nat) (N M T rate : Int) (w : World) (H : BAt w b N M) (hM : W128 M) (hr : 0 ≤ rate) (hr' : rate < 9223372036854775808) (hN : -9223372036854775808 ≤ N) (hT : T ≤ 9223372036854775807) (hNT : N ≤ T) :
    Calls Try.prog 48 #[.pointer (some ⟨b, 0, none⟩), .int .u64 rate, .agg #[.int .u64 (tN T), .int .i64 (tS T), .pointer none]] w fun e w' => e = .returned (.agg #[.int .u64 (uH (clip (M - rate * (T - N)))), .int .u64 (uL (clip (M - rate * (T - N))))]) ∧ Below w.heap.size w w' := by
  have hb : b < w.heap.size := World.block_lt_of_cell? _ _ H.a0
  obtain ⟨a0, a1, a2, m0, m1⟩ := H
  have n1 : b < w.heap.size + 1 := by omega
  have n2 : b < w.heap.size + 1 + 1 := by omega
  have n3 : b < w.heap.size + 1 + 1 + 1 := by omega
  go_enter Try.func48, Try.ntmps48
  go_upto_region 1 with fail
  go_cut [7, 8] (fun x y wx => ∃ p q : Nat, x = .pointer (some ⟨p, 0, none⟩) ∧ y = .pointer (some ⟨q, 0, none⟩) ∧ Hid (Lk wx w.heap.size p q N M T ∧ w.heap.size + 1 < p ∧ w.heap.size + 1 < q ∧ ¬ p = q ∧ Below w.heap.size w wx))
  case first =>
    go_region
    all_goals (go_wp2_with fail; go_meet)
    · refine ⟨_, _, rfl, rfl, ?_⟩
      refine ⟨⟨?_, ?_, ?_, ?_, ?_, ?_, ?_, ?_, ?_, ?_, ?_, ?_, ?_, ?_, ?_, ?_, ?_⟩, by omega, by omega, by omega, by go_grown⟩
      all_goals (simp [go_sem]; done)
    · refine ⟨_, _, rfl, rfl, ?_⟩
      refine ⟨⟨?_, ?_, ?_, ?_, ?_, ?_, ?_, ?_, ?_, ?_, ?_, ?_, ?_, ?_, ?_, ?_, ?_⟩, by omega, by omega, by omega, by go_grown⟩
      all_goals (simp [go_sem]; done)
  case rest =>
    clear a0 a1 a2 m0 m1
    obtain ⟨p, q, rfl, rfl, HC⟩ := hcut
    obtain ⟨hL, hp, hq, hpq, hB⟩ := HC.out
    have HL : Hid (Lk wc w.heap.size p q N M T) := hL
    have HB : Hid (Below w.heap.size w wc) := hB
    clear hL hB HC n1 n2 n3
    go_wp2_with fail
    go_loopg [9] (T - N).toNat (fun g s9 wx => ∃ A : Int, g = (T - A).toNat ∧ N ≤ A ∧ A ≤ T ∧ Hid (Lk wx w.heap.size p q A (clip (M - rate * (A - N))) T) ∧ Hid (Below w.heap.size w wx))
    case atStart => exact ⟨N, rfl, by omega, hNT, by have e : clip (M - rate * (N - N)) = M := by (rw [Int.sub_self, Int.mul_zero, Int.sub_zero]; exact clip_id hM.1)
                                                     rw [e]; exact HL, HB⟩
    case round =>
      clear HL HB
      obtain ⟨A, rfl, hA1, hA2, HL, HB⟩ := hrel
      have hWM := clip_w M (rate * (A - N)) hM (Int.mul_nonneg hr (by omega))
      have HE : Hid (M = M) := rfl
      generalize hm : clip (M - rate * (A - N)) = m at HL hWM
      have Hm : Hid (clip (M - rate * (A - N)) = m) := hm
      clear hm
      obtain ⟨t0, t1, t2, -, -, -, -, a0, a1, a2, -, -, -, -, -, -, -⟩ := HL.out
      by_cases hlt : A < T
      · have d1 : decide (A < T) = true := by simpa using hlt
        go_wp2_with fail
        refine (before_tm A T _).mono ?_
        rintro e w1 ⟨rfl, x1⟩
        have HL1 : Hid (Lk w1 w.heap.size p q A m T) := HL.out.later x1
        have HB1 : Hid (Below w.heap.size w w1) := HB.out.trans (x1.mono HB.out.size)
        clear x1 HL HB t0 t1 t2 a0 a1 a2
        obtain ⟨t0, t1, t2, -, -, -, -, a0, a1, a2, -, -, -, -, -, -, -⟩ := HL1.out
        go_wp2_with fail
        refine (sub_tm T A _ (by omega) (by omega) (by omega) (by omega)).mono ?_
        rintro e w2 ⟨rfl, x2⟩
        have HL2 : Hid (Lk w2 w.heap.size p q A m T) := HL1.out.later x2
        have HB2 : Hid (Below w.heap.size w w2) := HB1.out.trans (x2.mono HB1.out.size)
        clear x2 HL1 HB1 t0 t1 t2 a0 a1 a2
        have D1 : 1 ≤ clampD (T - A) ∧ clampD (T - A) ≤ T - A ∧ clampD (T - A) ≤ 9223372036854775807 := by unfold clampD; (repeat' split) <;> omega
        generalize clampD (T - A) = d at D1 ⊢
        obtain ⟨D0, D1, D2⟩ := D1
        go_upto_region 4 with fail
        go_cut [9] (fun s9 wx => s9 = .int .i64 d ∧ Hid (Lk wx w.heap.size p q A (clip (m - rate * d)) T ∧ Below w.heap.size w wx))
        case first =>
          have m0 := HL2.out.m0
          have m1 := HL2.out.m1
          have fm0 := HL2.out.fm0
          have fm1 := HL2.out.fm1
          have HWP : W128 (rate * d) := prod_w rate d hr (by omega) (by omega) (by omega)
          have C1 : Hid (∀ w, Calls Try.prog 49 #[.int .u64 rate, .int .u64 d] w fun e w' => e = .returned (.agg #[.int .u64 (uH (rate * d)), .int .u64 (uL (rate * d))]) ∧ Below w.heap.size w w') := fun w => mul_u rate d w (by omega) (by omega) (by omega) (by omega)
          have C2 : Hid (∀ w, Calls Try.prog 54 #[.agg #[.int .u64 (uH m), .int .u64 (uL m)], .agg #[.int .u64 (uH (rate * d)), .int .u64 (uL (rate * d))]] w fun e w' => e = .returned (.agg #[.int .u64 (uH (clip (m - rate * d))), .int .u64 (uL (clip (m - rate * d)))]) ∧ Below w.heap.size w w') := fun w => sub_u m (rate * d) w hWM HWP
          generalize uH (rate * d) = ph at C1 C2
          generalize uL (rate * d) = pl at C1 C2
          generalize uH m = mh at C2 m0
          generalize uL m = ml at C2 m1
          have HQ : Hid (uH (clip (m - rate * d)) = uH (clip (m - rate * d)) ∧ uL (clip (m - rate * d)) = uL (clip (m - rate * d))) := ⟨rfl, rfl⟩
          generalize hQ1 : uH (clip (m - rate * d)) = rh at C2
          generalize hQ2 : uL (clip (m - rate * d)) = rl at C2
          have HQ' : Hid (uH (clip (m - rate * d)) = rh ∧ uL (clip (m - rate * d)) = rl) := ⟨hQ1, hQ2⟩
          have cv : IntKind.u64.wrap d = d := by rw [IntKind.wrap_u64]; omega
          clear hQ1 hQ2 HQ hWM HWP HE Hm d1
          go_region_with
            (first
            | (go_at_call 49; refine (C1.out _).mono ?_; rintro e w3 ⟨rfl, x3⟩; have HL3 : Hid (Lk w3 w.heap.size p q A m T) := HL2.out.later (bdrew x3); have m0' : w3.cell? ⟨p, 0, none⟩ = some (.int .u64 mh) := cell_later (bdrew x3) m0; have m1' : w3.cell? ⟨p, 1, none⟩ = some (.int .u64 ml) := cell_later (bdrew x3) m1)
            | (go_at_call 54; refine (C2.out _).mono ?_; rintro e w4 ⟨rfl, x4⟩; have HL4 : Hid (Lk w4 w.heap.size p q A m T) := HL3.out.later x4; have m0'' : w4.cell? ⟨p, 0, none⟩ = some (.int .u64 mh) := cell_later x4 m0'; have m1'' : w4.cell? ⟨p, 1, none⟩ = some (.int .u64 ml) := cell_later x4 m1'; have f0'' := HL4.out.fm0; have f1'' := HL4.out.fm1))
          all_goals
            go_wp2_with fail
            go_meet
            refine ⟨rfl, ?_⟩
            have hh := HL4.out.putM hp hpq (clip (m - rate * d))
            rw [HQ'.out.1, HQ'.out.2] at hh
            refine ⟨hh, ?_⟩
            have b4 : Below w.heap.size w w4 := (HB2.out.trans ((bdrew x3).mono HB2.out.size)).trans (x4.mono (Nat.le_trans HB2.out.size x3.size))
            exact (b4.setCell (by show w.heap.size ≤ p; omega) _).setCell (by show w.heap.size ≤ p; omega) _
        case rest =>
          obtain ⟨rfl, HC⟩ := hcut
          clear HL2 HB2
          have HL5 : Hid (Lk wc w.heap.size p q A (clip (m - rate * d)) T) := HC.out.1
          have HB5 : Hid (Below w.heap.size w wc) := HC.out.2
          obtain ⟨-, -, -, -, -, -, -, a0, a1, a2, -, -, -, -, -, -, -⟩ := HL5.out
          clear HC
          go_wp2_with fail
          refine (add_tm A d _ (by omega) (by omega) (by omega) (by omega)).mono ?_
          rintro e w6 ⟨rfl, x6⟩
          have HL6 : Hid (Lk w6 w.heap.size p q A (clip (m - rate * d)) T) := HL5.out.later x6
          have HB6 : Hid (Below w.heap.size w w6) := HB5.out.trans (x6.mono HB5.out.size)
          clear x6 a0 a1 a2
          obtain ⟨-, -, -, -, -, -, -, a0, a1, a2, -, -, -, -, fa0, fa1, fa2⟩ := HL6.out
          go_wp2_with fail
          go_roundg (T - (A + d)).toNat
          case measure => omega
          case rel =>
            refine ⟨A + d, rfl, by omega, by omega, ?_, ?_⟩
            · have e1 : clip (M - rate * (A + d - N)) = clip (m - rate * d) := by
                rw [← Hm.out, clip_clip _ _ _ (Int.mul_nonneg hr (by omega)) (Int.mul_nonneg hr (by omega)), ← Int.mul_add]
                congr 3; omega
              rw [e1]
              exact HL6.out.putA hq hpq (A + d)
            · exact ((HB6.out.setCell (by show w.heap.size ≤ q; omega) _).setCell (by show w.heap.size ≤ q; omega) _).setCell (by show w.heap.size ≤ q; omega) _
      · have d1 : decide (A < T) = false := by simp; omega
        go_wp2_with fail
        refine (before_tm A T _).mono ?_
        rintro e w1 ⟨rfl, x1⟩
        have HL1 : Hid (Lk w1 w.heap.size p q A m T) := HL.out.later x1
        have HB1 : Hid (Below w.heap.size w w1) := HB.out.trans (x1.mono HB.out.size)
        clear x1 HL HB t0 t1 t2 a0 a1 a2
        obtain ⟨-, -, -, r0, r1, m0, m1, -, -, -, fr0, fr1, -, -, -, -, -⟩ := HL1.out
        have HR : Hid (clip (M - rate * (T - N)) = m) := by have e : A = T := by omega
                                                            rw [← e]; exact Hm
        generalize hQ1 : uH m = mh at m0
        generalize hQ2 : uL m = ml at m1
        have HQ : Hid (uH m = mh ∧ uL m = ml) := ⟨hQ1, hQ2⟩
        clear hQ1 hQ2 hWM HE Hm
        go_wp2_with fail
        rw [HR.out, HQ.out.1, HQ.out.2]
        refine bodyPost_ret (v := .agg #[.int .u64 mh, .int .u64 ml]) (by simp [results, Try.results48, go_sem, r0, r1]) rfl ?_
        exact ⟨rfl, (HB1.out.setCell (by show w.heap.size ≤ w.heap.size + 1; omega) _).setCell (by show w.heap.size ≤ w.heap.size + 1; omega) _⟩
end Go.Proofs.Qxb6613076a
