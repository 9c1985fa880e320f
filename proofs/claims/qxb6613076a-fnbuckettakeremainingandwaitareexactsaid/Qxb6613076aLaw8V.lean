/-
  The law of Remaining, refused and RetryAfter: the walk, over letters.
-/
import Derived.Test.Qxb6613076aLaw8W
namespace Go.Proofs.Qxb6613076a
open Go.RowKit
set_option linter.unusedVariables false
set_option maxRecDepth 100000 in
set_option maxHeartbeats 6400000 in
theorem law8_false (N h l lim win rate cost ahead T rem ret t0 n1 tn ts tn1 ts1 h1 l1 : Int) (c : Bool) (w : World)
    (D : Gives 21 #[.int .u64 h, .int .u64 l, .int .i64 lim, .int .i64 win, .int .i64 rate, .int .i64 cost, .int .i64 ahead] (.bool true))
    (N0 : Hid (BNew N tn ts h l)) (N1 : Hid (BNew n1 tn1 ts1 h1 l1))
    (TK : Hid (∀ (W : World) (b : Nat), BB W b tn ts h l →
      Calls Try.prog 28 #[.pointer (some ⟨b, 0, none⟩), .agg #[.int .u8 0, .int .i64 lim, .int .i64 win, .int .i64 rate, .int .u8 0, .int .i64 0, .int .i64 0, .int .i64 0], .int .i64 cost, .int .i64 ahead, .int .i64 T] W fun e w' =>
        e = .returned (.tuple #[.bool false, .int .i64 lim, .int .i64 rem, .int .i64 ret]) ∧ Kept b b W w' ∧ BB w' b tn1 ts1 h1 l1))
    (S0 : Hid (∀ (W : World) (b : Nat), BB W b tn1 ts1 h1 l1 → Calls Try.prog 29 #[.pointer (some ⟨b, 0, none⟩)] W fun e w' => e = .returned (.tuple #[.int .i64 n1, .int .u64 h1, .int .u64 l1]) ∧ Below W.heap.size W w'))
    (T12 : Hid (BTake lim win rate rem 0 t0 tn1 ts1 h1 l1 true)) (T16 : Hid (rem < lim → BTake lim win rate (rem + 1) 0 t0 tn1 ts1 h1 l1 false))
    (T22 : Hid (t0 ≤ 9223372036854775807 - ret + 1 → BTake lim win rate cost ahead (t0 + ret - 1) tn ts h l false)) (T26 : Hid (ret < 9223372036854775807 → t0 ≤ 9223372036854775807 - ret → BTake lim win rate cost ahead (t0 + ret) tn ts h l true))
    (hr1 : 1 ≤ ret) (hr2 : ret ≤ 9223372036854775807) (ht1 : -9223372036854775808 ≤ t0) (ht2 : t0 ≤ 9223372036854775807)
    (hm0 : 0 ≤ rem) (hm1 : rem ≤ lim) (hl : lim ≤ 9223372036854775807) (hc : Hid (c = ((h != 0 || l != 0) && decide (T < N)))) (ht : Hid ((c = true → t0 = N) ∧ (c = false → t0 = T))) :
    Calls Try.prog 8 #[.int .i64 N, .int .u64 h, .int .u64 l, .int .i64 lim, .int .i64 win, .int .i64 rate, .int .i64 cost, .int .i64 ahead, .int .i64 T] w fun e w' => e = .returned (.bool true) ∧ Below w.heap.size w w' := by
  have bl : (lim != lim) = false := bne_self64 lim
  have b0 : (ret == 0) = false := by simp; omega
  have b1 : decide (ret < 0) = false := by simp; omega
  have b2 : decide (rem < 0) = false := by simp; omega
  have b3 : decide (lim < rem) = false := by simp; omega
  go_enter Try.func8, Try.ntmps8
  go_wp2_with fail
  refine (D _).mono ?_
  rintro e w1 ⟨rfl, x1⟩
  have Y1 : Hid (Below w.heap.size w w1) := x1
  clear x1 D
  go_wp2_with fail
  refine (newPolicy_any lim win rate _).mono ?_
  rintro e w2 ⟨rfl, x2⟩
  have Y2 : Hid (Below w.heap.size w w2) := Y1.out.trans (x2.mono Y1.out.size)
  clear x2 Y1
  go_wp2_with fail
  refine (N0.out _).mono ?_
  rintro e w3 ⟨b, rfl, hb, x3, hBB⟩
  have P3 : Hid (PolB w2.heap.size w3 lim win rate) := (polB_new w2 lim win rate).later x3
  have Y3 : Hid (Below w.heap.size w w3) := Y2.out.trans ((below1 x3).mono Y2.out.size)
  have hPb : Hid (w2.heap.size < b ∧ w.heap.size ≤ b) := by
    have h1 := Y2.out.size
    simp at hb
    exact ⟨by omega, by omega⟩
  have B3 : Hid (BB w3 b tn ts h l) := hBB
  clear hb x3 hBB Y2
  generalize w2.heap.size = P at *
  obtain ⟨p0, p1, p2, p3, p4, p5, p6, p7⟩ := P3.out
  go_wp2_with fail
  refine (TK.out _ b B3.out).mono ?_
  rintro e w4 ⟨rfl, k4, hBB⟩
  have P4 : Hid (PolB P w4 lim win rate) := P3.out.kept k4 (by have := hPb.out; omega)
  have Y4 : Hid (Below w.heap.size w w4) := Kept.under Y3.out hPb.out.2 k4
  have B4 : Hid (BB w4 b tn1 ts1 h1 l1) := hBB
  clear P3 Y3 B3 k4 hBB TK p0 p1 p2 p3 p4 p5 p6 p7
  go_upto_region 9 with fail
  go_cut [106] (fun x wx => x = .bool c ∧ wx = w4)
  case first =>
    by_cases c1 : h = 0
    · by_cases c2 : l = 0
      · have e : c = false := by rw [hc.out]; simp [c1, c2]
        subst c1 c2
        go_wp2_with fail
        go_meet
        exact ⟨by rw [e], rfl⟩
      · have c2' : (l != 0) = true := by simpa using c2
        have e : c = decide (T < N) := by rw [hc.out]; simp [c2]
        subst c1
        go_wp2_with fail
        go_meet
        exact ⟨by rw [e], rfl⟩
    · have c1' : (h != 0) = true := by simpa using c1
      have e : c = decide (T < N) := by rw [hc.out]; simp [c1]
      go_wp2_with fail
      go_meet
      exact ⟨by rw [e], rfl⟩
  case rest =>
  obtain ⟨rfl, rfl⟩ := hcut
  go_upto_if 106 with fail
  go_cut [25] (fun x wx => x = .int .i64 t0 ∧ wx = wc)
  case first =>
    cases c with
    | true =>
      have e : t0 = N := ht.out.1 (by simp)
      go_wp2_with fail
      go_meet
      exact ⟨by rw [e], rfl⟩
    | false =>
      have e : t0 = T := ht.out.2 (by simp)
      go_wp2_with fail
      go_meet
      exact ⟨by rw [e], rfl⟩
  case rest =>
    obtain ⟨rfl, rfl⟩ := hcut
    clear ht hc bl b2 b3 b0 b1
    go_wp2_with fail
    refine (S0.out _ b B4.out).mono ?_
    rintro e w5 ⟨rfl, x5⟩
    have P5 : Hid (PolB P w5 lim win rate) := P4.out.later x5
    have Y5 : Hid (Below w.heap.size w w5) := Y4.out.trans (x5.mono Y4.out.size)
    have hPw : P < w5.heap.size := P5.out.lt
    clear P4 Y4 B4 x5 S0 hPb
    go_upto_region 12 with fail
    go_cut [29] (fun x wx => x = .bool true ∧ Hid (Below w.heap.size w wx ∧ PolB P wx lim win rate))
    case first =>
      as_aux_lemma =>
        go_region_held3 (fun V' => V'.cell? ⟨P, 0, none⟩ = some (.int .u8 0) ∧ V'.cell? ⟨P, 1, none⟩ = some (.int .i64 lim) ∧ V'.cell? ⟨P, 2, none⟩ = some (.int .i64 win) ∧ V'.cell? ⟨P, 3, none⟩ = some (.int .i64 rate) ∧ V'.cell? ⟨P, 4, none⟩ = some (.int .u8 0) ∧ V'.cell? ⟨P, 5, none⟩ = some (.int .i64 0) ∧ V'.cell? ⟨P, 6, none⟩ = some (.int .i64 0) ∧ V'.cell? ⟨P, 7, none⟩ = some (.int .i64 0))
          (first
          | (exact P5.out)
          | (exact P6.out)
          | (exact P7.out))
          (first
          | (go_at_call 27; refine (N1.out _).mono ?_; rintro e w6 ⟨b6, rfl, hb6, x6, hBB⟩; have P6 : Hid (PolB P w6 lim win rate) := P5.out.later (bdrew x6); have Y6 : Hid (Below w.heap.size w w6) := Y5.out.trans ((bdrew x6).mono Y5.out.size); have B6 : Hid (BB w6 b6 tn1 ts1 h1 l1) := hBB; clear hBB)
          | (go_at_call 28; refine (T12.out _ _ B6.out).mono ?_; rintro e w7 ⟨⟨r7, t7, rfl⟩, k7⟩; have P7 : Hid (PolB P w7 lim win rate) := P6.out.kept k7 (Nat.ne_of_lt (Nat.lt_of_lt_of_le hPw hb6))))
        all_goals (go_wp2_with fail; go_meet; exact ⟨rfl, Kept.under Y6.out (Nat.le_trans Y5.out.size hb6) k7, P7.out⟩)
    case rest =>
      obtain ⟨rfl, HC⟩ := hcut
      clear P5 Y5 hPw
      have P5 : Hid (PolB P wc lim win rate) := HC.out.2
      have Y5 : Hid (Below w.heap.size w wc) := HC.out.1
      have hPw : P < wc.heap.size := P5.out.lt
      clear HC
      clear T12
      go_upto_if 131 with fail
      go_cut [29] (fun x wx => x = .bool true ∧ Hid (Below w.heap.size w wx ∧ PolB P wx lim win rate))
      case first =>
       as_aux_lemma =>
        by_cases hk : rem < lim
        · have T16' : Hid (BTake lim win rate (rem + 1) 0 t0 tn1 ts1 h1 l1 false) := T16.out hk
          have hs : IntKind.i64.wrap (rem + 1) = rem + 1 := wrap_i64 (by omega) (by omega)
          clear T16
          go_upto_region 16 with fail
          go_cut [33] (fun x wx => x = .bool false ∧ Hid (Below w.heap.size w wx ∧ PolB P wx lim win rate))
          case first =>
            as_aux_lemma =>
              go_region_held3 (fun V' => V'.cell? ⟨P, 0, none⟩ = some (.int .u8 0) ∧ V'.cell? ⟨P, 1, none⟩ = some (.int .i64 lim) ∧ V'.cell? ⟨P, 2, none⟩ = some (.int .i64 win) ∧ V'.cell? ⟨P, 3, none⟩ = some (.int .i64 rate) ∧ V'.cell? ⟨P, 4, none⟩ = some (.int .u8 0) ∧ V'.cell? ⟨P, 5, none⟩ = some (.int .i64 0) ∧ V'.cell? ⟨P, 6, none⟩ = some (.int .i64 0) ∧ V'.cell? ⟨P, 7, none⟩ = some (.int .i64 0))
                (first
                | (exact P5.out)
                | (exact P6.out)
                | (exact P7.out))
                (first
                | (go_at_call 27; refine (N1.out _).mono ?_; rintro e w6 ⟨b6, rfl, hb6, x6, hBB⟩; have P6 : Hid (PolB P w6 lim win rate) := P5.out.later (bdrew x6); have Y6 : Hid (Below w.heap.size w w6) := Y5.out.trans ((bdrew x6).mono Y5.out.size); have B6 : Hid (BB w6 b6 tn1 ts1 h1 l1) := hBB; clear hBB)
                | (go_at_call 28; refine (T16'.out _ _ B6.out).mono ?_; rintro e w7 ⟨⟨r7, t7, rfl⟩, k7⟩; have P7 : Hid (PolB P w7 lim win rate) := P6.out.kept k7 (Nat.ne_of_lt (Nat.lt_of_lt_of_le hPw hb6))))
              all_goals (go_wp2_with fail; go_meet; exact ⟨rfl, Kept.under Y6.out (Nat.le_trans Y5.out.size hb6) k7, P7.out⟩)
          case rest =>
            obtain ⟨rfl, HC⟩ := hcut
            go_wp2_with fail
            go_meet
            exact ⟨rfl, HC.out⟩
        · go_wp2_with fail
          go_meet
          exact ⟨rfl, Y5.out, P5.out⟩
      case rest =>
        obtain ⟨rfl, HC⟩ := hcut
        clear P5 Y5 hPw
        have P5 : Hid (PolB P wc lim win rate) := HC.out.2
        have Y5 : Hid (Below w.heap.size w wc) := HC.out.1
        have hPw : P < wc.heap.size := P5.out.lt
        clear HC
        clear T16 N1
        go_upto_if 152 with fail
        go_cut [29] (fun x wx => x = .bool true ∧ Hid (Below w.heap.size w wx ∧ PolB P wx lim win rate))
        case first =>
         as_aux_lemma =>
          by_cases hk : t0 ≤ 9223372036854775807 - ret + 1
          · have T22' : Hid (BTake lim win rate cost ahead (t0 + ret - 1) tn ts h l false) := T22.out hk
            have hs : IntKind.i64.wrap (IntKind.i64.wrap (t0 + ret) - 1) = t0 + ret - 1 := by rw [IntKind.wrap_i64, IntKind.wrap_i64]; omega
            clear T22
            go_upto_region 22 with fail
            go_cut [37] (fun x wx => x = .bool false ∧ Hid (Below w.heap.size w wx ∧ PolB P wx lim win rate))
            case first =>
              as_aux_lemma =>
                go_region_held3 (fun V' => V'.cell? ⟨P, 0, none⟩ = some (.int .u8 0) ∧ V'.cell? ⟨P, 1, none⟩ = some (.int .i64 lim) ∧ V'.cell? ⟨P, 2, none⟩ = some (.int .i64 win) ∧ V'.cell? ⟨P, 3, none⟩ = some (.int .i64 rate) ∧ V'.cell? ⟨P, 4, none⟩ = some (.int .u8 0) ∧ V'.cell? ⟨P, 5, none⟩ = some (.int .i64 0) ∧ V'.cell? ⟨P, 6, none⟩ = some (.int .i64 0) ∧ V'.cell? ⟨P, 7, none⟩ = some (.int .i64 0))
                  (first
                  | (exact P5.out)
                  | (exact P6.out)
                  | (exact P7.out))
                  (first
                  | (go_at_call 27; refine (N0.out _).mono ?_; rintro e w6 ⟨b6, rfl, hb6, x6, hBB⟩; have P6 : Hid (PolB P w6 lim win rate) := P5.out.later (bdrew x6); have Y6 : Hid (Below w.heap.size w w6) := Y5.out.trans ((bdrew x6).mono Y5.out.size); have B6 : Hid (BB w6 b6 tn ts h l) := hBB; clear hBB)
                  | (go_at_call 28; refine (T22'.out _ _ B6.out).mono ?_; rintro e w7 ⟨⟨r7, t7, rfl⟩, k7⟩; have P7 : Hid (PolB P w7 lim win rate) := P6.out.kept k7 (Nat.ne_of_lt (Nat.lt_of_lt_of_le hPw hb6))))
                all_goals (go_wp2_with fail; go_meet; exact ⟨rfl, Kept.under Y6.out (Nat.le_trans Y5.out.size hb6) k7, P7.out⟩)
            case rest =>
              obtain ⟨rfl, HC⟩ := hcut
              go_wp2_with fail
              go_meet
              exact ⟨rfl, HC.out⟩
          · go_wp2_with fail
            go_meet
            exact ⟨rfl, Y5.out, P5.out⟩
        case rest =>
          obtain ⟨rfl, HC⟩ := hcut
          clear P5 Y5 hPw
          have P5 : Hid (PolB P wc lim win rate) := HC.out.2
          have Y5 : Hid (Below w.heap.size w wc) := HC.out.1
          have hPw : P < wc.heap.size := P5.out.lt
          clear HC
          clear T22
          as_aux_lemma =>
          by_cases hk : ret < 9223372036854775807
          · by_cases hk2 : t0 ≤ 9223372036854775807 - ret
            · have T26' : Hid (BTake lim win rate cost ahead (t0 + ret) tn ts h l true) := T26.out hk hk2
              have hs : IntKind.i64.wrap (t0 + ret) = t0 + ret := wrap_i64 (by omega) (by omega)
              clear T26
              go_upto_region 26 with fail
              go_cut [41] (fun x wx => x = .bool true ∧ Hid (Below w.heap.size w wx ∧ PolB P wx lim win rate))
              case first =>
                as_aux_lemma =>
                  go_region_held3 (fun V' => V'.cell? ⟨P, 0, none⟩ = some (.int .u8 0) ∧ V'.cell? ⟨P, 1, none⟩ = some (.int .i64 lim) ∧ V'.cell? ⟨P, 2, none⟩ = some (.int .i64 win) ∧ V'.cell? ⟨P, 3, none⟩ = some (.int .i64 rate) ∧ V'.cell? ⟨P, 4, none⟩ = some (.int .u8 0) ∧ V'.cell? ⟨P, 5, none⟩ = some (.int .i64 0) ∧ V'.cell? ⟨P, 6, none⟩ = some (.int .i64 0) ∧ V'.cell? ⟨P, 7, none⟩ = some (.int .i64 0))
                    (first
                    | (exact P5.out)
                    | (exact P6.out)
                    | (exact P7.out))
                    (first
                    | (go_at_call 27; refine (N0.out _).mono ?_; rintro e w6 ⟨b6, rfl, hb6, x6, hBB⟩; have P6 : Hid (PolB P w6 lim win rate) := P5.out.later (bdrew x6); have Y6 : Hid (Below w.heap.size w w6) := Y5.out.trans ((bdrew x6).mono Y5.out.size); have B6 : Hid (BB w6 b6 tn ts h l) := hBB; clear hBB)
                    | (go_at_call 28; refine (T26'.out _ _ B6.out).mono ?_; rintro e w7 ⟨⟨r7, t7, rfl⟩, k7⟩; have P7 : Hid (PolB P w7 lim win rate) := P6.out.kept k7 (Nat.ne_of_lt (Nat.lt_of_lt_of_le hPw hb6))))
                  all_goals (go_wp2_with fail; go_meet; exact ⟨rfl, Kept.under Y6.out (Nat.le_trans Y5.out.size hb6) k7, P7.out⟩)
              case rest =>
                obtain ⟨rfl, HC⟩ := hcut
                go_wp2_with fail
                go_ret
                exact ⟨rfl, HC.out.1⟩
            · go_wp2_with fail
              go_ret
              exact ⟨rfl, Y5.out⟩
          · go_wp2_with fail
            go_ret
            exact ⟨rfl, Y5.out⟩
end Go.Proofs.Qxb6613076a
