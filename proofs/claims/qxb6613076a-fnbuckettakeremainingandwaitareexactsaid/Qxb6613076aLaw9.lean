/-
  The law of the refill period: a drained bucket holds min(rate, limit) tokens one Window later.
-/
import Derived.Test.Qxb6613076aBucket
import Derived.Test.Qxb6613076aLaw10
namespace Go.Proofs.Qxb6613076a
open Go.RowKit
set_option linter.unusedVariables false
/-- The law's policy lies at block P. -/
def PolB (P : Nat) (V : World) (lim win rate : Int) : Prop := V.cell? ⟨P, 0, none⟩ = some (.int .u8 0) ∧ V.cell? ⟨P, 1, none⟩ = some (.int .i64 lim) ∧ V.cell? ⟨P, 2, none⟩ = some (.int .i64 win) ∧ V.cell? ⟨P, 3, none⟩ = some (.int .i64 rate) ∧ V.cell? ⟨P, 4, none⟩ = some (.int .u8 0) ∧ V.cell? ⟨P, 5, none⟩ = some (.int .i64 0) ∧ V.cell? ⟨P, 6, none⟩ = some (.int .i64 0) ∧ V.cell? ⟨P, 7, none⟩ = some (.int .i64 0)
theorem PolB.lt {P : Nat} {V : World} {lim win rate : Int} (h : PolB P V lim win rate) : P < V.heap.size := World.block_lt_of_cell? V ⟨P, 0, none⟩ h.1
theorem PolB.later {P : Nat} {V V' : World} {lim win rate : Int} (h : PolB P V lim win rate) (hb : Below V.heap.size V V') : PolB P V' lim win rate := by
  obtain ⟨c0, c1, c2, c3, c4, c5, c6, c7⟩ := h
  exact ⟨cell_later hb c0, cell_later hb c1, cell_later hb c2, cell_later hb c3, cell_later hb c4, cell_later hb c5, cell_later hb c6, cell_later hb c7⟩
theorem PolB.kept {P b : Nat} {V V' : World} {lim win rate : Int} (h : PolB P V lim win rate) (k : Kept b b V V') (n : P ≠ b) : PolB P V' lim win rate := by
  obtain ⟨c0, c1, c2, c3, c4, c5, c6, c7⟩ := h
  exact ⟨k.cell c0 n n, k.cell c1 n n, k.cell c2 n n, k.cell c3 n n, k.cell c4 n n, k.cell c5 n n, k.cell c6 n n, k.cell c7 n n⟩
theorem polB_new (w : World) (lim win rate : Int) : PolB w.heap.size (w.alloc (.cells #[.int .u8 0, .int .i64 lim, .int .i64 win, .int .i64 rate, .int .u8 0, .int .i64 0, .int .i64 0, .int .i64 0] 31)) lim win rate := by
  unfold PolB; simp [go_sem]
/-- A take at a bucket of these words answers a. -/
def BTake (lim win rate cost ahead T tn ts h l : Int) (a : Bool) : Prop := ∀ (W : World) (b : Nat), BB W b tn ts h l →
  Calls Try.prog 28 #[.pointer (some ⟨b, 0, none⟩), .agg #[.int .u8 0, .int .i64 lim, .int .i64 win, .int .i64 rate, .int .u8 0, .int .i64 0, .int .i64 0, .int .i64 0], .int .i64 cost, .int .i64 ahead, .int .i64 T] W fun e w' =>
    (∃ r t : Int, e = .returned (.tuple #[.bool a, .int .i64 lim, .int .i64 r, .int .i64 t])) ∧ Kept b b W w'
theorem btake_is {lim win rate cost ahead N M T : Int} (D : Dom lim win rate cost ahead N M T) (a : Bool) (h : fits N M T lim win rate cost ahead ↔ a = true) : BTake lim win rate cost ahead T (tN N) (tS N) (uH M) (uL M) a := by
  intro W b hB
  refine (btake_u b lim win rate cost ahead N M T W hB D).mono ?_
  rintro e w' ⟨rfl, k, -⟩
  have e : decide (fits N M T lim win rate cost ahead) = a := by
    by_cases c : fits N M T lim win rate cost ahead
    · rw [h.mp c]; exact decide_eq_true c
    · have : a = false := by cases a; rfl; exact absurd (h.mpr rfl) c
      rw [this]; exact decide_eq_false c
  rw [e]
  exact ⟨⟨_, _, rfl⟩, k⟩
/-- A new bucket of these words. -/
def BNew (N tn ts h l : Int) : Prop := ∀ W : World, Calls Try.prog 27 #[.int .i64 N, .int .u64 h, .int .u64 l] W fun e w' => ∃ b, e = .returned (.pointer (some ⟨b, 0, none⟩)) ∧ W.heap.size ≤ b ∧ Below W.heap.size W w' ∧ BB w' b tn ts h l
theorem drain_fits (lim win now rate : Int) (hr : 0 ≤ rate) : fits 0 0 now lim win rate lim 0 := by
  unfold fits
  rw [lackf_zero 0 now rate hr, Int.add_zero]
  omega
theorem drain_at (lim win now rate : Int) (hr : 0 ≤ rate) : atf 0 0 now lim win rate lim 0 = now := by
  unfold atf; rw [if_pos (drain_fits lim win now rate hr)]; unfold t0f; rw [if_pos rfl]
theorem drain_miss (lim win now rate : Int) (hr : 0 ≤ rate) : missf 0 0 now lim win rate lim 0 = lim * win := by
  unfold missf; rw [if_pos (drain_fits lim win now rate hr), lackf_zero 0 now rate hr]; omega
theorem refill_lack (lim win now rate : Int) (hw : 1 ≤ win) : lackf now (lim * win) (now + win) rate = clip (lim * win - rate * win) := by
  unfold lackf late
  rw [if_neg (by omega)]
  have e : now + win - now = win := by omega
  rw [e]
theorem refill_fits (lim win now rate k : Int) (hw : 1 ≤ win) (hl : 1 ≤ lim) (hr : 1 ≤ rate) (hk : k = if lim < rate then lim else rate) : fits now (lim * win) (now + win) lim win rate k 0 := by
  unfold fits
  rw [refill_lack lim win now rate hw, Int.add_zero]
  by_cases c : lim < rate
  · rw [if_pos c] at hk; subst hk
    have h1 : k * win ≤ rate * win := Int.mul_le_mul_of_nonneg_right (by omega) (by omega)
    unfold clip; split <;> omega
  · rw [if_neg c] at hk; subst hk
    have h1 : k * win ≤ lim * win := Int.mul_le_mul_of_nonneg_right (by omega) (by omega)
    unfold clip; split <;> omega
theorem refill_over (lim win now rate : Int) (hw : 1 ≤ win) (hr : 1 ≤ rate) (hk : rate < lim) : ¬ fits now (lim * win) (now + win) lim win rate (rate + 1) 0 := by
  unfold fits
  rw [refill_lack lim win now rate hw, Int.add_zero, Int.add_mul]
  have h1 : rate * win ≤ lim * win := Int.mul_le_mul_of_nonneg_right (by omega) (by omega)
  unfold clip; split <;> omega
set_option maxHeartbeats 400000 in
theorem law9_out (lim win rate now : Int) (w : World) (h : lim < 1 ∨ win < 1 ∨ rate < 1) :
    Calls Try.prog 9 #[.int .i64 lim, .int .i64 win, .int .i64 rate, .int .i64 now] w fun e w' => e = .returned (.bool true) ∧ Below w.heap.size w w' := by
  by_cases h1 : lim < 1
  · go_enter Try.func9, Try.ntmps9
    go_wp2
    go_ret
    exact ⟨rfl, Below.refl _ _⟩
  · by_cases h2 : win < 1
    · go_enter Try.func9, Try.ntmps9
      go_wp2
      go_ret
      exact ⟨rfl, Below.refl _ _⟩
    · have h3 : rate < 1 := by omega
      go_enter Try.func9, Try.ntmps9
      go_wp2
      go_ret
      exact ⟨rfl, Below.refl _ _⟩
set_option maxHeartbeats 400000 in
theorem law9_late (lim win rate now : Int) (w : World) (h1 : 1 ≤ lim) (h2 : 1 ≤ win) (h2' : win ≤ 9223372036854775807) (h4 : 1 ≤ rate) (h3 : 9223372036854775807 - win < now) :
    Calls Try.prog 9 #[.int .i64 lim, .int .i64 win, .int .i64 rate, .int .i64 now] w fun e w' => e = .returned (.bool true) ∧ Below w.heap.size w w' := by
  have t1 : decide (lim < 1) = false := by simp; omega
  have t2 : decide (win < 1) = false := by simp; omega
  have t3 : decide (rate < 1) = false := by simp; omega
  go_enter Try.func9, Try.ntmps9
  go_wp2
  go_ret
  exact ⟨rfl, Below.refl _ _⟩
set_option maxRecDepth 100000 in
set_option maxHeartbeats 3200000 in
theorem law9_main (lim win rate now : Int) (w : World) (h1 : 1 ≤ lim) (h1' : lim ≤ 9223372036854775807) (h2 : 1 ≤ win) (h2' : win ≤ 9223372036854775807) (h4 : 1 ≤ rate) (h4' : rate ≤ 9223372036854775807) (h3 : now ≤ 9223372036854775807 - win) (h3' : -9223372036854775808 ≤ now) :
    Calls Try.prog 9 #[.int .i64 lim, .int .i64 win, .int .i64 rate, .int .i64 now] w fun e w' => e = .returned (.bool true) ∧ Below w.heap.size w w' := by
  obtain ⟨f1, f2⟩ := mul_small (by omega) h1' (by omega : (0 : Int) ≤ win) h2'
  have N0 : Hid (BNew 0 (tN 0) (tS 0) 0 0) := fun W => newBucket_u 0 0 0 W (by omega) (by omega)
  have T0 : Hid (∀ (W : World) (b : Nat), BB W b (tN 0) (tS 0) 0 0 →
      Calls Try.prog 28 #[.pointer (some ⟨b, 0, none⟩), .agg #[.int .u8 0, .int .i64 lim, .int .i64 win, .int .i64 rate, .int .u8 0, .int .i64 0, .int .i64 0, .int .i64 0], .int .i64 lim, .int .i64 0, .int .i64 now] W fun e w' =>
        (∃ r t : Int, e = .returned (.tuple #[.bool true, .int .i64 lim, .int .i64 r, .int .i64 t])) ∧ Kept b b W w' ∧ BB w' b (tN now) (tS now) (uH (lim * win)) (uL (lim * win))) := by
    intro W b hB
    have hB' : BB W b (tN 0) (tS 0) (uH 0) (uL 0) := by rw [zero_words.1, zero_words.2]; exact hB
    refine (btake_u b lim win rate lim 0 0 0 now W hB' ⟨h1, h1', h2, h2', h4, h4', by omega, by omega, by omega, by omega, by omega, by omega, by omega, h3', by omega⟩).mono ?_
    rintro e w' ⟨rfl, k, hb⟩
    rw [drain_at lim win now rate (by omega), drain_miss lim win now rate (by omega)] at hb
    refine ⟨⟨_, _, by rw [decide_eq_true (drain_fits lim win now rate (by omega))]⟩, k, hb⟩
  have S0 : Hid (∀ (W : World) (b : Nat), BB W b (tN now) (tS now) (uH (lim * win)) (uL (lim * win)) → Calls Try.prog 29 #[.pointer (some ⟨b, 0, none⟩)] W fun e w' => e = .returned (.tuple #[.int .i64 now, .int .u64 (uH (lim * win)), .int .u64 (uL (lim * win))]) ∧ Below W.heap.size W w') := fun W b hB =>
    bucketState_u b now _ _ W hB h3' (by omega)
  have N1 : Hid (BNew now (tN now) (tS now) (uH (lim * win)) (uL (lim * win))) := fun W => newBucket_u now _ _ W h3' (by omega)
  have D1 : ∀ k, 0 ≤ k → k ≤ lim → Dom lim win rate k 0 now (lim * win) (now + win) := fun k k0 k1 => ⟨h1, h1', h2, h2', h4, h4', k0, by omega, by omega, f1, by omega, h3', by omega, by omega, by omega⟩
  have T1 : Hid (BTake lim win rate (if lim < rate then lim else rate) 0 (now + win) (tN now) (tS now) (uH (lim * win)) (uL (lim * win)) true) :=
    btake_is (D1 _ (by split <;> omega) (by split <;> omega)) true ⟨fun _ => rfl, fun _ => refill_fits lim win now rate _ h2 h1 h4 rfl⟩
  have T2 : Hid (rate < lim → BTake lim win rate (rate + 1) 0 (now + win) (tN now) (tS now) (uH (lim * win)) (uL (lim * win)) false) := fun hk =>
    btake_is (D1 _ (by omega) (by omega)) false ⟨fun h => absurd h (refill_over lim win now rate h2 h4 hk), fun h => by cases h⟩
  clear D1 f1 f2
  generalize uH (lim * win) = fh at *
  generalize uL (lim * win) = fl at *
  generalize tN now = tn at *
  generalize tS now = ts at *
  generalize tN 0 = zn at *
  generalize tS 0 = zs at *
  have t1 : decide (lim < 1) = false := by simp; omega
  have t2 : decide (win < 1) = false := by simp; omega
  have t3 : decide (rate < 1) = false := by simp; omega
  have t4 : decide (9223372036854775807 - win < now) = false := by simp; omega
  go_enter Try.func9, Try.ntmps9
  go_wp2_with fail
  refine (newPolicy_any lim win rate _).mono ?_
  rintro e w1 ⟨rfl, x1⟩
  clear t1 t2 t3 t4
  go_wp2_with fail
  refine (window_any lim win rate _).mono ?_
  rintro e w2 ⟨rfl, x2⟩
  have P0 : Hid (PolB w1.heap.size w2 lim win rate) := PolB.later (polB_new w1 lim win rate) x2
  have HB : Hid (Below w.heap.size w w2) := x1.trans ((below1 x2).mono x1.size)
  have HS1 : Hid (w.heap.size ≤ w1.heap.size) := x1.size
  clear x1 x2
  generalize w1.heap.size = P at *
  go_wp2_with fail
  refine (N0.out _).mono ?_
  rintro e w3 ⟨b, rfl, hb, x3, hBB⟩
  have P3 : Hid (PolB P w3 lim win rate) := P0.out.later x3
  have Y3 : Hid (Below w.heap.size w w3) := HB.out.trans (x3.mono HB.out.size)
  have hPb : Hid (P < b ∧ w.heap.size ≤ b) := ⟨Nat.lt_of_lt_of_le P0.out.lt hb, Nat.le_trans HB.out.size hb⟩
  have B3 : Hid (BB w3 b zn zs 0 0) := hBB
  clear P0 HB hb x3 hBB N0
  obtain ⟨p0, p1, p2, p3, p4, p5, p6, p7⟩ := P3.out
  go_wp2_with fail
  refine (T0.out _ b B3.out).mono ?_
  rintro e w4 ⟨⟨r, t, rfl⟩, k4, hBB⟩
  have P4 : Hid (PolB P w4 lim win rate) := P3.out.kept k4 (by have := hPb.out; omega)
  have Y4 : Hid (Below w.heap.size w w4) := Kept.under Y3.out hPb.out.2 k4
  have B4 : Hid (BB w4 b tn ts fh fl) := hBB
  clear P3 Y3 B3 k4 hBB T0 p0 p1 p2 p3 p4 p5 p6 p7
  go_wp2_with fail
  refine (S0.out _ b B4.out).mono ?_
  rintro e w5 ⟨rfl, x5⟩
  have P5 : Hid (PolB P w5 lim win rate) := P4.out.later x5
  have Y5 : Hid (Below w.heap.size w w5) := Y4.out.trans (x5.mono Y4.out.size)
  clear P4 Y4 B4 x5 S0 hPb
  have hPw : P < w5.heap.size := P5.out.lt
  by_cases hk : lim < rate
  · have T1' : Hid (BTake lim win rate lim 0 (now + win) tn ts fh fl true) := by have h := T1.out; rw [if_pos hk] at h; exact h
    clear T1 T2
    go_upto_region 16 with fail
    go_cut [21] (fun x wx => x = .bool true ∧ Hid (Below w.heap.size w wx))
    case first =>
      go_region_held3 (fun V' => V'.cell? ⟨P, 0, none⟩ = some (.int .u8 0) ∧ V'.cell? ⟨P, 1, none⟩ = some (.int .i64 lim) ∧ V'.cell? ⟨P, 2, none⟩ = some (.int .i64 win) ∧ V'.cell? ⟨P, 3, none⟩ = some (.int .i64 rate) ∧ V'.cell? ⟨P, 4, none⟩ = some (.int .u8 0) ∧ V'.cell? ⟨P, 5, none⟩ = some (.int .i64 0) ∧ V'.cell? ⟨P, 6, none⟩ = some (.int .i64 0) ∧ V'.cell? ⟨P, 7, none⟩ = some (.int .i64 0))
        (first
        | (exact P5.out)
        | (exact P6.out)
        | (exact P7.out))
        (first
        | (go_at_call 27; refine (N1.out _).mono ?_; rintro e w6 ⟨b6, rfl, hb6, x6, hBB⟩; have P6 : Hid (PolB P w6 lim win rate) := P5.out.later (bdrew x6); have Y6 : Hid (Below w.heap.size w w6) := Y5.out.trans ((bdrew x6).mono Y5.out.size); have B6 : Hid (BB w6 b6 tn ts fh fl) := hBB; clear hBB)
        | (go_at_call 28; refine (T1'.out _ _ B6.out).mono ?_; rintro e w7 ⟨⟨r7, t7, rfl⟩, k7⟩; have P7 : Hid (PolB P w7 lim win rate) := P6.out.kept k7 (Nat.ne_of_lt (Nat.lt_of_lt_of_le hPw hb6))))
      all_goals (go_wp2_with fail; go_meet; exact ⟨rfl, Kept.under Y6.out (Nat.le_trans Y5.out.size hb6) k7⟩)
    case rest =>
      obtain ⟨rfl, HC⟩ := hcut
      go_wp2_with fail
      go_ret
      exact ⟨rfl, HC.out⟩
  · have T1' : Hid (BTake lim win rate rate 0 (now + win) tn ts fh fl true) := by have h := T1.out; rw [if_neg hk] at h; exact h
    clear T1
    go_upto_region 16 with fail
    go_cut [21] (fun x wx => x = .bool true ∧ Hid (Below w.heap.size w wx ∧ PolB P wx lim win rate))
    case first =>
      go_region_held3 (fun V' => V'.cell? ⟨P, 0, none⟩ = some (.int .u8 0) ∧ V'.cell? ⟨P, 1, none⟩ = some (.int .i64 lim) ∧ V'.cell? ⟨P, 2, none⟩ = some (.int .i64 win) ∧ V'.cell? ⟨P, 3, none⟩ = some (.int .i64 rate) ∧ V'.cell? ⟨P, 4, none⟩ = some (.int .u8 0) ∧ V'.cell? ⟨P, 5, none⟩ = some (.int .i64 0) ∧ V'.cell? ⟨P, 6, none⟩ = some (.int .i64 0) ∧ V'.cell? ⟨P, 7, none⟩ = some (.int .i64 0))
        (first
        | (exact P5.out)
        | (exact P6.out)
        | (exact P7.out))
        (first
        | (go_at_call 27; refine (N1.out _).mono ?_; rintro e w6 ⟨b6, rfl, hb6, x6, hBB⟩; have P6 : Hid (PolB P w6 lim win rate) := P5.out.later (bdrew x6); have Y6 : Hid (Below w.heap.size w w6) := Y5.out.trans ((bdrew x6).mono Y5.out.size); have B6 : Hid (BB w6 b6 tn ts fh fl) := hBB; clear hBB)
        | (go_at_call 28; refine (T1'.out _ _ B6.out).mono ?_; rintro e w7 ⟨⟨r7, t7, rfl⟩, k7⟩; have P7 : Hid (PolB P w7 lim win rate) := P6.out.kept k7 (Nat.ne_of_lt (Nat.lt_of_lt_of_le hPw hb6))))
      all_goals (go_wp2_with fail; go_meet; exact ⟨rfl, Kept.under Y6.out (Nat.le_trans Y5.out.size hb6) k7, P7.out⟩)
    case rest =>
      obtain ⟨rfl, HC⟩ := hcut
      clear P5 Y5 hPw T1'
      have P5 : Hid (PolB P wc lim win rate) := HC.out.2
      have Y5 : Hid (Below w.heap.size w wc) := HC.out.1
      have hPw : P < wc.heap.size := P5.out.lt
      clear HC
      by_cases hk2 : rate < lim
      · have T2' : Hid (BTake lim win rate (rate + 1) 0 (now + win) tn ts fh fl false) := T2.out hk2
        have hs : IntKind.i64.wrap (rate + 1) = rate + 1 := wrap_i64 (by omega) (by omega)
        clear T2
        go_upto_region 20 with fail
        go_cut [25] (fun x wx => x = .bool false ∧ Hid (Below w.heap.size w wx))
        case first =>
          go_region_held3 (fun V' => V'.cell? ⟨P, 0, none⟩ = some (.int .u8 0) ∧ V'.cell? ⟨P, 1, none⟩ = some (.int .i64 lim) ∧ V'.cell? ⟨P, 2, none⟩ = some (.int .i64 win) ∧ V'.cell? ⟨P, 3, none⟩ = some (.int .i64 rate) ∧ V'.cell? ⟨P, 4, none⟩ = some (.int .u8 0) ∧ V'.cell? ⟨P, 5, none⟩ = some (.int .i64 0) ∧ V'.cell? ⟨P, 6, none⟩ = some (.int .i64 0) ∧ V'.cell? ⟨P, 7, none⟩ = some (.int .i64 0))
            (first
            | (exact P5.out)
            | (exact P6.out)
            | (exact P7.out))
            (first
            | (go_at_call 27; refine (N1.out _).mono ?_; rintro e w6 ⟨b6, rfl, hb6, x6, hBB⟩; have P6 : Hid (PolB P w6 lim win rate) := P5.out.later (bdrew x6); have Y6 : Hid (Below w.heap.size w w6) := Y5.out.trans ((bdrew x6).mono Y5.out.size); have B6 : Hid (BB w6 b6 tn ts fh fl) := hBB; clear hBB)
            | (go_at_call 28; refine (T2'.out _ _ B6.out).mono ?_; rintro e w7 ⟨⟨r7, t7, rfl⟩, k7⟩; have P7 : Hid (PolB P w7 lim win rate) := P6.out.kept k7 (Nat.ne_of_lt (Nat.lt_of_lt_of_le hPw hb6))))
          all_goals (go_wp2_with fail; go_meet; exact ⟨rfl, Kept.under Y6.out (Nat.le_trans Y5.out.size hb6) k7⟩)
        case rest =>
          obtain ⟨rfl, HC⟩ := hcut
          go_wp2_with fail
          go_ret
          exact ⟨rfl, HC.out⟩
      · clear T2
        go_wp2_with fail
        go_ret
        exact ⟨rfl, Y5.out⟩
end Go.Proofs.Qxb6613076a
