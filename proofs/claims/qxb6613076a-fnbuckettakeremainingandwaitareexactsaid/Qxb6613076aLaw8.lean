/-
  The law of Remaining and RetryAfter: the plain part, and the law.
-/
import Derived.Test.Qxb6613076aLaw8V
namespace Go.Proofs.Qxb6613076a
open Go.RowKit
set_option linter.unusedVariables false
theorem late_self (N : Int) : late N N = N := by unfold late; split <;> rfl
theorem late_late (N T : Int) : late N (late N T) = late N T := by unfold late; split <;> (try split) <;> omega
theorem late_add (N T d : Int) (h : 0 ≤ d) : late N (late N T + d) = late N T + d := by have := late_ge N T; unfold late; rw [if_neg (by unfold late at this; omega)]
/-- A refused take: the bucket lacks something. -/
theorem refused_miss {lim win rate cost ahead N M T : Int} (D : Dom lim win rate cost ahead N M T) (h : ¬ fits N M T lim win rate cost ahead) : M ≠ 0 := by
  intro e
  subst e
  apply h
  unfold fits
  rw [lackf_zero N T rate (by have := D.r1; omega), Int.zero_add]
  exact Int.mul_le_mul_of_nonneg_right D.ca (by have := D.w1; omega)
theorem refused_t0 {lim win rate cost ahead N M T : Int} (D : Dom lim win rate cost ahead N M T) (h : ¬ fits N M T lim win rate cost ahead) : t0f N M T = late N T := by
  unfold t0f; rw [if_neg (refused_miss D h)]
/-- What the bucket lacks d later, where the take was refused. -/
theorem lack_later {lim win rate cost ahead N M T : Int} (D : Dom lim win rate cost ahead N M T) (h : ¬ fits N M T lim win rate cost ahead) (d : Int) (hd : 0 ≤ d) :
    fits N M (late N T + d) lim win rate cost ahead ↔ cdiv (lackf N M T rate + (cost + ahead) * win - lim * win) rate ≤ d := by
  obtain ⟨l1, l2, w1, w2, r1, r2, c1, a1, ca, m1, m2, n1, n2, t1, t2⟩ := D
  have hs : (cost + ahead) * win ≤ lim * win := Int.mul_le_mul_of_nonneg_right ca (by omega)
  rw [cdiv_le_iff _ _ _ (by omega)]
  unfold fits at *
  have e1 : lackf N M (late N T + d) rate = clip (M - (rate * (late N T - N) + d * rate)) := by
    unfold lackf
    rw [late_add N T d hd]
    have : rate * (late N T + d - N) = rate * (late N T - N) + d * rate := by
      rw [Int.mul_comm d rate, ← Int.mul_add]; congr 1; omega
    rw [this]
  rw [e1]
  have hd' : 0 ≤ d * rate := Int.mul_nonneg hd (by omega)
  have e2 : lackf N M T rate = clip (M - rate * (late N T - N)) := rfl
  rw [e2] at h ⊢
  generalize rate * (late N T - N) = x at *
  generalize d * rate = y at *
  generalize (cost + ahead) * win = s at *
  generalize lim * win = f at *
  unfold clip at *
  split at h <;> split <;> (try split) <;> omega
/-- Behind the take: what remains is what the bucket still holds. -/
theorem exact_rem (lim win X n : Int) (hw : 1 ≤ win) : X + n * win ≤ lim * win ↔ n ≤ lim - cdiv X win := by
  have h := cdiv_le_iff X win (lim - n) (by omega)
  have e : (lim - n) * win = lim * win - n * win := Int.sub_mul _ _ _
  rw [e] at h
  omega
/-- The bucket's lack at the take's time, behind the take. -/
theorem lack_behind {lim win rate cost ahead N M T : Int} (D : Dom lim win rate cost ahead N M T) :
    ∃ X, lackf (atf N M T lim win rate cost ahead) (missf N M T lim win rate cost ahead) (t0f N M T) rate = X ∧ remf N M T lim win rate cost ahead = lim - cdiv X win ∧ 0 ≤ X ∧ X ≤ lim * win ∧
      0 ≤ missf N M T lim win rate cost ahead ∧ missf N M T lim win rate cost ahead ≤ lim * win := by
  have hr := D.r1
  have hw := D.w1
  have L := lackf_le N M T rate D.m1 (by omega)
  have hm := D.m2
  have hm1 := D.m1
  by_cases h : fits N M T lim win rate cost ahead
  · have hf := fits_cost (by omega) D.a1 h
    have k1 : 0 ≤ cost * win := Int.mul_nonneg D.c1 (by omega)
    unfold atf missf remf
    rw [if_pos h, if_pos h, if_pos h]
    refine ⟨lackf N M T rate + cost * win, ?_, rfl, by omega, hf, by omega, hf⟩
    have hx : 0 ≤ lackf N M T rate + cost * win := by omega
    generalize lackf N M T rate + cost * win = X at hx ⊢
    unfold lackf
    rw [late_self, Int.sub_self, Int.mul_zero, Int.sub_zero]
    unfold clip; rw [if_neg (by omega)]
  · unfold atf missf remf
    rw [if_neg h, if_neg h, if_neg h]
    refine ⟨lackf N M T rate, ?_, rfl, by omega, by omega, by omega, by omega⟩
    rw [refused_t0 D h]
    unfold lackf
    rw [late_late]
theorem t0f_range {lim win rate cost ahead N M T : Int} (D : Dom lim win rate cost ahead N M T) : -9223372036854775808 ≤ t0f N M T ∧ t0f N M T ≤ 9223372036854775807 := by
  have a1 := D.n1; have a2 := D.n2; have a3 := D.t1; have a4 := D.t2
  unfold t0f late; split <;> (try split) <;> omega
theorem atf_range {lim win rate cost ahead N M T : Int} (D : Dom lim win rate cost ahead N M T) : -9223372036854775808 ≤ atf N M T lim win rate cost ahead ∧ atf N M T lim win rate cost ahead ≤ 9223372036854775807 := by
  have a1 := D.n1; have a2 := D.n2; have h := t0f_range D
  unfold atf; split <;> omega
theorem capD_range (n : Int) (h : 1 ≤ n) : 1 ≤ capD n ∧ capD n ≤ 9223372036854775807 ∧ capD n ≤ n ∧ (capD n < 9223372036854775807 → capD n = n) := by unfold capD; split <;> omega
theorem law8 (N M lim win rate cost ahead T : Int) (w : World) (hM : W128 M) (hl1 : -9223372036854775808 ≤ lim) (hl2 : lim ≤ 9223372036854775807) (hw2 : win ≤ 9223372036854775807) (hr2 : rate ≤ 9223372036854775807)
    (n1 : -9223372036854775808 ≤ N) (n2 : N ≤ 9223372036854775807) (t1 : -9223372036854775808 ≤ T) (t2 : T ≤ 9223372036854775807) :
    Calls Try.prog 8 #[.int .i64 N, .int .u64 (uH M), .int .u64 (uL M), .int .i64 lim, .int .i64 win, .int .i64 rate, .int .i64 cost, .int .i64 ahead, .int .i64 T] w fun e w' => e = .returned (.bool true) ∧ Below w.heap.size w w' := by
  by_cases o1 : lim < 1 ∨ win < 1 ∨ rate < 1
  · exact law8_out N (uH M) (uL M) lim win rate cost ahead T w (fun w => domain_out (uH M) (uL M) lim win rate cost ahead w o1)
  by_cases o2 : cost < 0 ∨ ahead < 0 ∨ lim < cost ∨ lim - cost < ahead
  · exact law8_out N (uH M) (uL M) lim win rate cost ahead T w (fun w => domain_out2 (uH M) (uL M) lim win rate cost ahead w (by omega) (by omega) (by omega) hl2 o2)
  by_cases o3 : M ≤ lim * win
  · have D : Dom lim win rate cost ahead N M T := ⟨by omega, hl2, by omega, hw2, by omega, hr2, by omega, by omega, by omega, hM.1, o3, n1, n2, t1, t2⟩
    have DG : Gives 21 #[.int .u64 (uH M), .int .u64 (uL M), .int .i64 lim, .int .i64 win, .int .i64 rate, .int .i64 cost, .int .i64 ahead] (.bool true) := fun w => by
      have h := domain_in M lim win rate cost ahead w (by omega) (by omega) (by omega) hl2 hw2 (by omega) (by omega) (by omega)
      rw [decide_eq_true o3] at h; exact h
    obtain ⟨X, e1, e2, x1, x2, y1, y2⟩ := lack_behind D
    have tr := t0f_range D
    have ar := atf_range D
    have cx1 := cdiv_nonneg X win (by omega) x1
    have cx2 : cdiv X win ≤ lim := (cdiv_le_iff _ _ _ (by omega)).mpr x2
    have D1 : ∀ k, 0 ≤ k → k ≤ lim → Dom lim win rate k 0 (atf N M T lim win rate cost ahead) (missf N M T lim win rate cost ahead) (t0f N M T) := fun k k0 k1 => ⟨by omega, hl2, by omega, hw2, by omega, hr2, k0, by omega, by omega, y1, y2, ar.1, ar.2, tr.1, tr.2⟩
    have f1 : ∀ k, fits (atf N M T lim win rate cost ahead) (missf N M T lim win rate cost ahead) (t0f N M T) lim win rate k 0 ↔ k ≤ remf N M T lim win rate cost ahead := fun k => by
      unfold fits
      rw [e1, Int.add_zero, exact_rem lim win X k (by omega), e2]
    have T12 : Hid (BTake lim win rate (remf N M T lim win rate cost ahead) 0 (t0f N M T) (tN (atf N M T lim win rate cost ahead)) (tS (atf N M T lim win rate cost ahead)) (uH (missf N M T lim win rate cost ahead)) (uL (missf N M T lim win rate cost ahead)) true) :=
      btake_is (D1 _ (by omega) (by omega)) true ⟨fun _ => rfl, fun _ => (f1 _).mpr (Int.le_refl _)⟩
    have T16 : Hid (remf N M T lim win rate cost ahead < lim → BTake lim win rate (remf N M T lim win rate cost ahead + 1) 0 (t0f N M T) (tN (atf N M T lim win rate cost ahead)) (tS (atf N M T lim win rate cost ahead)) (uH (missf N M T lim win rate cost ahead)) (uL (missf N M T lim win rate cost ahead)) false) := fun hk =>
      btake_is (D1 _ (by omega) (by omega)) false ⟨fun h => by have := (f1 _).mp h; omega, fun h => by cases h⟩
    have N0 : Hid (BNew N (tN N) (tS N) (uH M) (uL M)) := fun W => newBucket_u N _ _ W n1 n2
    have N1 : Hid (BNew (atf N M T lim win rate cost ahead) (tN (atf N M T lim win rate cost ahead)) (tS (atf N M T lim win rate cost ahead)) (uH (missf N M T lim win rate cost ahead)) (uL (missf N M T lim win rate cost ahead))) := fun W => newBucket_u _ _ _ W ar.1 ar.2
    have hc : Hid (decide (M ≠ 0 ∧ T < N) = ((uH M != 0 || uL M != 0) && decide (T < N))) := by
      have z := isZero_words M hM
      show _ = _
      by_cases c : M = 0
      · rw [c, zero_words.1, zero_words.2]; simp
      · have z' : (uH M == 0 && uL M == 0) = false := by rw [z]; simpa using c
        have z2 : (uH M != 0 || uL M != 0) = true := by
          have : (uH M != 0 || uL M != 0) = !(uH M == 0 && uL M == 0) := by simp [bne, Bool.not_and]
          rw [this, z']; rfl
        rw [z2]; simp [c]
    have ht : Hid ((decide (M ≠ 0 ∧ T < N) = true → t0f N M T = N) ∧ (decide (M ≠ 0 ∧ T < N) = false → t0f N M T = T)) := by
      refine ⟨fun h => ?_, fun h => ?_⟩
      · have h' : M ≠ 0 ∧ T < N := by simpa using h
        unfold t0f late; rw [if_neg h'.1, if_pos h'.2]
      · have h' : ¬ (M ≠ 0 ∧ T < N) := by simpa using h
        unfold t0f late; split
        · rfl
        · rw [if_neg (fun x => h' ⟨by assumption, x⟩)]
    have S0 : Hid (∀ (W : World) (b : Nat), BB W b (tN (atf N M T lim win rate cost ahead)) (tS (atf N M T lim win rate cost ahead)) (uH (missf N M T lim win rate cost ahead)) (uL (missf N M T lim win rate cost ahead)) → Calls Try.prog 29 #[.pointer (some ⟨b, 0, none⟩)] W fun e w' => e = .returned (.tuple #[.int .i64 (atf N M T lim win rate cost ahead), .int .u64 (uH (missf N M T lim win rate cost ahead)), .int .u64 (uL (missf N M T lim win rate cost ahead))]) ∧ Below W.heap.size W w') := fun W b hB =>
      bucketState_u b _ _ _ W hB ar.1 ar.2
    by_cases hf : fits N M T lim win rate cost ahead
    · refine law8_true N (uH M) (uL M) lim win rate cost ahead T (remf N M T lim win rate cost ahead) (t0f N M T) _ (tN N) (tS N) _ _ _ _ (decide (M ≠ 0 ∧ T < N)) w DG N0 N1 ?_ S0 T12 T16 (by omega) (by omega) hl2 hc ht
      intro W b hB
      refine (btake_u b lim win rate cost ahead N M T W hB D).mono ?_
      rintro e w' ⟨rfl, k, hb⟩
      refine ⟨?_, k, hb⟩
      have : retryf N M T lim win rate cost ahead = 0 := by unfold retryf; rw [if_pos hf]
      rw [this, decide_eq_true hf]
    · have hE : lim * win < lackf N M T rate + (cost + ahead) * win := by unfold fits at hf; omega
      have hq : 1 ≤ cdiv (lackf N M T rate + (cost + ahead) * win - lim * win) rate := by
        have h := cdiv_le_iff (lackf N M T rate + (cost + ahead) * win - lim * win) rate 0 (by omega)
        rw [Int.zero_mul] at h
        omega
      have hR : retryf N M T lim win rate cost ahead = capD (cdiv (lackf N M T rate + (cost + ahead) * win - lim * win) rate) := by unfold retryf; rw [if_neg hf]
      obtain ⟨r1, r2, r3, r4⟩ := capD_range _ hq
      rw [← hR] at r1 r2 r3 r4
      have et := refused_t0 D hf
      have later : ∀ d, 0 ≤ d → (fits N M (t0f N M T + d) lim win rate cost ahead ↔ cdiv (lackf N M T rate + (cost + ahead) * win - lim * win) rate ≤ d) := fun d hd => by rw [et]; exact lack_later D hf d hd
      have D2 : ∀ t, -9223372036854775808 ≤ t → t ≤ 9223372036854775807 → Dom lim win rate cost ahead N M t := fun t a b => ⟨by omega, hl2, by omega, hw2, by omega, hr2, by omega, by omega, by omega, hM.1, o3, n1, n2, a, b⟩
      refine law8_false N (uH M) (uL M) lim win rate cost ahead T (remf N M T lim win rate cost ahead) (retryf N M T lim win rate cost ahead) (t0f N M T) _ (tN N) (tS N) _ _ _ _ (decide (M ≠ 0 ∧ T < N)) w DG N0 N1 ?_ S0 T12 T16 ?_ ?_ r1 r2 tr.1 tr.2 (by omega) (by omega) hl2 hc ht
      · intro W b hB
        refine (btake_u b lim win rate cost ahead N M T W hB D).mono ?_
        rintro e w' ⟨rfl, k, hb⟩
        refine ⟨?_, k, hb⟩
        rw [decide_eq_false hf]
      · intro hk
        refine btake_is (D2 _ (by omega) (by omega)) false ⟨fun h => ?_, fun h => by cases h⟩
        have e3 : t0f N M T + retryf N M T lim win rate cost ahead - 1 = t0f N M T + (retryf N M T lim win rate cost ahead - 1) := by omega
        rw [e3] at h
        have := (later _ (by omega)).mp h
        omega
      · intro hk hk2
        refine btake_is (D2 _ (by omega) (by omega)) true ⟨fun _ => rfl, fun _ => ?_⟩
        have := r4 hk
        exact (later _ (by omega)).mpr (by omega)
  · refine law8_out N (uH M) (uL M) lim win rate cost ahead T w (fun w => ?_)
    have h := domain_in M lim win rate cost ahead w (by omega) (by omega) (by omega) hl2 hw2 (by omega) (by omega) (by omega)
    rw [decide_eq_false o3] at h; exact h
end Go.Proofs.Qxb6613076a
