/-
  The law of the token model: the plain part, and the law.
-/
import Derived.Test.Qxb6613076aLaw7W
namespace Go.Proofs.Qxb6613076a
open Go.RowKit
set_option linter.unusedVariables false
theorem cdiv_add (X c d : Int) (hd : 0 < d) : cdiv (X + c * d) d = cdiv X d + c := by
  unfold cdiv
  have e : X + c * d + d - 1 = X + d - 1 + c * d := by omega
  rw [e, Int.add_mul_ediv_right _ _ (by omega)]
theorem late_hi {N T : Int} (h1 : N ≤ 9223372036854775807) (h2 : T ≤ 9223372036854775807) : late N T ≤ 9223372036854775807 := by unfold late; split <;> omega
theorem nonzero_words (M : Int) (hM : W128 M) : decide (M ≠ 0) = (uH M != 0 || uL M != 0) := by
  have z := isZero_words M hM
  have e : (uH M != 0 || uL M != 0) = !(uH M == 0 && uL M == 0) := by simp [bne, Bool.not_and]
  rw [e, z]
  by_cases c : M = 0 <;> simp [c]
theorem law7 (N M lim win rate cost ahead T : Int) (w : World) (hM : W128 M) (hl1 : -9223372036854775808 ≤ lim) (hl2 : lim ≤ 9223372036854775807) (hw2 : win ≤ 9223372036854775807) (hr2 : rate ≤ 9223372036854775807)
    (n1 : -9223372036854775808 ≤ N) (n2 : N ≤ 9223372036854775807) (t1 : -9223372036854775808 ≤ T) (t2 : T ≤ 9223372036854775807) :
    Calls Try.prog 7 #[.int .i64 N, .int .u64 (uH M), .int .u64 (uL M), .int .i64 lim, .int .i64 win, .int .i64 rate, .int .i64 cost, .int .i64 ahead, .int .i64 T] w fun e w' => e = .returned (.bool true) ∧ Below w.heap.size w w' := by
  by_cases o1 : lim < 1 ∨ win < 1 ∨ rate < 1
  · exact law7_out N (uH M) (uL M) lim win rate cost ahead T w (fun w => domain_out (uH M) (uL M) lim win rate cost ahead w o1)
  by_cases o2 : cost < 0 ∨ ahead < 0 ∨ lim < cost ∨ lim - cost < ahead
  · exact law7_out N (uH M) (uL M) lim win rate cost ahead T w (fun w => domain_out2 (uH M) (uL M) lim win rate cost ahead w (by omega) (by omega) (by omega) hl2 o2)
  by_cases o3 : M ≤ lim * win
  · have D : Dom lim win rate cost ahead N M T := ⟨by omega, hl2, by omega, hw2, by omega, hr2, by omega, by omega, by omega, hM.1, o3, n1, n2, t1, t2⟩
    have DG : Gives 21 #[.int .u64 (uH M), .int .u64 (uL M), .int .i64 lim, .int .i64 win, .int .i64 rate, .int .i64 cost, .int .i64 ahead] (.bool true) := fun w => by
      have h := domain_in M lim win rate cost ahead w (by omega) (by omega) (by omega) hl2 hw2 (by omega) (by omega) (by omega)
      rw [decide_eq_true o3] at h; exact h
    obtain ⟨f1, f2⟩ := mul_small (by omega) hl2 (by omega : (0 : Int) ≤ win) hw2
    obtain ⟨s1, s2⟩ := mul_small (by omega : 0 ≤ cost + ahead) (by omega) (by omega : (0 : Int) ≤ win) hw2
    obtain ⟨k1, k2⟩ := mul_small (by omega : 0 ≤ cost) (by omega) (by omega : (0 : Int) ≤ win) hw2
    obtain ⟨L1, L2⟩ := lackf_le N M T rate hM.1 (by omega)
    have lg := late_ge N T
    have lh := late_hi n2 t2
    have hWP : W128 (rate * (late N T - N)) := prod_w rate (late N T - N) (by omega) (by omega) (by omega) (by omega)
    have hWL : W128 (lackf N M T rate) := ⟨by omega, by omega⟩
    have hWF : W128 (lim * win) := ⟨by omega, by omega⟩
    have hWS : W128 ((cost + ahead) * win) := ⟨by omega, by omega⟩
    have hWN : W128 (lackf N M T rate + (cost + ahead) * win) := ⟨by omega, by omega⟩
    have hWC : W128 (cost * win) := ⟨by omega, by omega⟩
    have hWA : W128 (lackf N M T rate + cost * win) := ⟨by omega, by omega⟩
    have hWE : W128 (clip (lackf N M T rate + (cost + ahead) * win - lim * win)) := by unfold W128 clip; split <;> omega
    have hcL : cdiv (lackf N M T rate) win ≤ lim := (cdiv_le_iff _ _ _ (by omega)).mpr (by omega)
    have hcL0 := cdiv_nonneg (lackf N M T rate) win (by omega) L1
    have hE0 := cdiv_nonneg (clip (lackf N M T rate + (cost + ahead) * win - lim * win)) rate (by omega) (clip_nonneg _)
    have tr : -9223372036854775808 ≤ t0f N M T ∧ t0f N M T ≤ 9223372036854775807 := by unfold t0f; split <;> omega
    have ar : -9223372036854775808 ≤ atf N M T lim win rate cost ahead ∧ atf N M T lim win rate cost ahead ≤ 9223372036854775807 := by unfold atf; split <;> omega
    refine law7_words N (uH M) (uL M) lim win rate cost ahead T (remf N M T lim win rate cost ahead) (retryf N M T lim win rate cost ahead) (t0f N M T) (atf N M T lim win rate cost ahead) (tN N) (tS N)
      (tN (atf N M T lim win rate cost ahead)) (tS (atf N M T lim win rate cost ahead)) (uH (missf N M T lim win rate cost ahead)) (uL (missf N M T lim win rate cost ahead))
      (uH (lim * win)) (uL (lim * win)) (uH (rate * (late N T - N))) (uL (rate * (late N T - N))) (uH (lackf N M T rate)) (uL (lackf N M T rate)) (uH ((cost + ahead) * win)) (uL ((cost + ahead) * win))
      (uH (lackf N M T rate + (cost + ahead) * win)) (uL (lackf N M T rate + (cost + ahead) * win)) (cdiv (lackf N M T rate) win) (cost + ahead) (late N T - N)
      (uH (cost * win)) (uL (cost * win)) (uH (lackf N M T rate + cost * win)) (uL (lackf N M T rate + cost * win))
      (uH (clip (lackf N M T rate + (cost + ahead) * win - lim * win))) (uL (clip (lackf N M T rate + (cost + ahead) * win - lim * win)))
      (if 9223372036854775807 < cdiv (clip (lackf N M T rate + (cost + ahead) * win - lim * win)) rate then 9223372036854775807 else cdiv (clip (lackf N M T rate + (cost + ahead) * win - lim * win)) rate)
      (decide (M ≠ 0)) (decide (lim * win < lackf N M T rate + (cost + ahead) * win)) (decide (cdiv (clip (lackf N M T rate + (cost + ahead) * win - lim * win)) rate ≤ 9223372036854775807)) w DG
      (wrap_u64 (by omega) hl2) (wrap_u64 (by omega) hw2) (wrap_u64 (by omega) hr2) (wrap_u64 (by omega) (by omega)) (by rw [wrap_i64 (by omega) (by omega), wrap_u64 (by omega) (by omega)])
      ?_ (nonzero_words M hM) ?_ ?_ ?_
      (fun w => zzMul_u lim win w (by omega) (by omega) (by omega) (by omega)) (fun _ w => zzMul_u rate _ w (by omega) (by omega) (by omega) (by omega)) (fun _ w => zzSub_u M _ w hM hWP)
      (fun w => zzMul_u (cost + ahead) win w (by omega) (by omega) (by omega) (by omega)) (fun w => zzAdd_u _ _ w hWL hWS hWN) (fun w => zzLess_u _ _ w)
      (fun w => leastQ_u _ win lim w hWL (by omega) (by omega) (by omega) (by omega) _ _ (fun h => by omega) (fun _ => ⟨rfl, rfl⟩))
      (fun W => newBucket_u N _ _ W n1 n2) ?_ (fun W b hB => bucketState_u b _ _ _ W hB ar.1 ar.2) (wrap_i64 (by omega) (by omega))
      (fun w => zzMul_u cost win w (by omega) (by omega) (by omega) (by omega)) (fun w => zzAdd_u _ _ w hWL hWC hWA) ?_
      (fun w => zzSub_u _ _ w hWN hWF) (fun w => leastQ_u _ rate 9223372036854775807 w hWE (by omega) (by omega) (by omega) (by omega) _ _ (fun h => ⟨if_pos h, by simp; omega⟩) (fun h => ⟨if_neg (by omega), by simp; omega⟩)) ?_
    · intro hz
      have hz' : M ≠ 0 := by simpa using hz
      have e : t0f N M T = late N T := by unfold t0f; rw [if_neg hz']
      rw [e, IntKind.wrap_u64, IntKind.wrap_u64, IntKind.wrap_u64]
      omega
    · intro hz
      have hz' : M = 0 := by simpa using hz
      subst hz'
      rw [lackf_zero N T rate (by omega)]
      exact ⟨by unfold t0f; rw [if_pos rfl], rfl, rfl⟩
    · intro hz hb
      have hz' : M ≠ 0 := by simpa using hz
      unfold t0f late; rw [if_neg hz', if_pos hb]
    · intro hz hb
      have hz' : M ≠ 0 := by simpa using hz
      unfold t0f late; rw [if_neg hz', if_neg hb]
    · intro W b hB
      refine (btake_u b lim win rate cost ahead N M T W hB D).mono ?_
      rintro e w' ⟨rfl, k, hb⟩
      refine ⟨?_, k, hb⟩
      by_cases hf : fits N M T lim win rate cost ahead
      · have : ¬ lim * win < lackf N M T rate + (cost + ahead) * win := by unfold fits at hf; omega
        rw [decide_eq_true hf, decide_eq_false this]; rfl
      · have : lim * win < lackf N M T rate + (cost + ahead) * win := by unfold fits at hf; omega
        rw [decide_eq_false hf, decide_eq_true this]; rfl
    · intro hl
      have hf : fits N M T lim win rate cost ahead := by have : ¬ lim * win < lackf N M T rate + (cost + ahead) * win := by simpa using hl
                                                         unfold fits; omega
      refine ⟨?_, ?_, ?_, ?_, ?_, wrap_i64 (by omega) (by omega), wrap_i64 (by omega) (by omega)⟩
      · unfold remf; rw [if_pos hf, cdiv_add _ _ _ (by omega)]; omega
      · unfold retryf; rw [if_pos hf]
      · unfold atf; rw [if_pos hf]
      · unfold missf; rw [if_pos hf]
      · unfold missf; rw [if_pos hf]
    · intro hl
      have hl' : lim * win < lackf N M T rate + (cost + ahead) * win := by simpa using hl
      have hf : ¬ fits N M T lim win rate cost ahead := by unfold fits; omega
      have ec : clip (lackf N M T rate + (cost + ahead) * win - lim * win) = lackf N M T rate + (cost + ahead) * win - lim * win := clip_id (by omega)
      have hR : retryf N M T lim win rate cost ahead = capD (cdiv (clip (lackf N M T rate + (cost + ahead) * win - lim * win)) rate) := by unfold retryf; rw [if_neg hf, ec]
      refine ⟨?_, ?_, ?_, ?_, wrap_i64 (by omega) (by omega), ?_, ?_⟩
      · unfold remf; rw [if_neg hf]
      · unfold atf; rw [if_neg hf]
      · unfold missf; rw [if_neg hf]
      · unfold missf; rw [if_neg hf]
      · intro hq
        have hq' : cdiv (clip (lackf N M T rate + (cost + ahead) * win - lim * win)) rate ≤ 9223372036854775807 := by simpa using hq
        rw [hR, if_neg (by omega), wrap_i64 (by omega) hq']
        unfold capD; rw [if_pos hq']
      · intro hq
        have hq' : ¬ cdiv (clip (lackf N M T rate + (cost + ahead) * win - lim * win)) rate ≤ 9223372036854775807 := by simpa using hq
        rw [hR]
        unfold capD; rw [if_neg hq']
  · refine law7_out N (uH M) (uL M) lim win rate cost ahead T w (fun w => ?_)
    have h := domain_in M lim win rate cost ahead w (by omega) (by omega) (by omega) hl2 hw2 (by omega) (by omega) (by omega)
    rw [decide_eq_false o3] at h; exact h
end Go.Proofs.Qxb6613076a
