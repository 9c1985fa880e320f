/-
  bucket.take over numbers: what it answers and leaves.
-/
import Derived.Test.Qxb6613076aBtake
namespace Go.Proofs.Qxb6613076a
open Go.RowKit
/-- The later of two times. -/
def late (N T : Int) : Int := if T < N then N else T
/-- The time at which the take is counted. -/
def t0f (N M T : Int) : Int := if M = 0 then T else late N T
/-- What the bucket lacks then. -/
def lackf (N M T rate : Int) : Int := clip (M - rate * (late N T - N))
theorem late_ge (N T : Int) : N ≤ late N T := by unfold late; split <;> omega
theorem lackf_zero (N T rate : Int) (hr : 0 ≤ rate) : lackf N 0 T rate = 0 := by
  have h : 0 ≤ rate * (late N T - N) := Int.mul_nonneg hr (by have := late_ge N T; omega)
  unfold lackf clip
  split <;> omega
theorem lackf_le (N M T rate : Int) (hM : 0 ≤ M) (hr : 0 ≤ rate) : 0 ≤ lackf N M T rate ∧ lackf N M T rate ≤ M := by
  have h : 0 ≤ rate * (late N T - N) := Int.mul_nonneg hr (by have := late_ge N T; omega)
  unfold lackf clip
  split <;> omega
/-- The domain of the bucket's laws. -/
structure Dom (lim win rate cost ahead N M T : Int) : Prop where
  l1 : 1 ≤ lim
  l2 : lim ≤ 9223372036854775807
  w1 : 1 ≤ win
  w2 : win ≤ 9223372036854775807
  r1 : 1 ≤ rate
  r2 : rate ≤ 9223372036854775807
  c1 : 0 ≤ cost
  a1 : 0 ≤ ahead
  ca : cost + ahead ≤ lim
  m1 : 0 ≤ M
  m2 : M ≤ lim * win
  n1 : -9223372036854775808 ≤ N
  n2 : N ≤ 9223372036854775807
  t1 : -9223372036854775808 ≤ T
  t2 : T ≤ 9223372036854775807
theorem mul_small {a b : Int} (h0 : 0 ≤ a) (h1 : a ≤ 9223372036854775807) (k0 : 0 ≤ b) (k1 : b ≤ 9223372036854775807) : 0 ≤ a * b ∧ a * b ≤ 85070591730234615847396907784232501249 := by
  refine ⟨Int.mul_nonneg h0 k0, ?_⟩
  have h2 : a * b ≤ 9223372036854775807 * b := Int.mul_le_mul_of_nonneg_right h1 k0
  omega
/-- Is the take admitted? -/
abbrev fits (N M T lim win rate cost ahead : Int) : Prop := lackf N M T rate + (cost + ahead) * win ≤ lim * win
theorem fits_cost {N M T lim win rate cost ahead : Int} (hw : 0 ≤ win) (ha : 0 ≤ ahead) (h : fits N M T lim win rate cost ahead) : lackf N M T rate + cost * win ≤ lim * win := by
  unfold fits at h
  have : 0 ≤ ahead * win := Int.mul_nonneg ha hw
  rw [Int.add_mul] at h
  omega
theorem wrap_u64 {x : Int} (h0 : 0 ≤ x) (h1 : x ≤ 9223372036854775807) : IntKind.u64.wrap x = x := by rw [IntKind.wrap_u64]; omega
theorem wrap_i64 {x : Int} (h0 : -9223372036854775808 ≤ x) (h1 : x ≤ 9223372036854775807) : IntKind.i64.wrap x = x := by rw [IntKind.wrap_i64]; omega
theorem BB.at {w : World} {b : Nat} {N M : Int} (h : BB w b (tN N) (tS N) (uH M) (uL M)) : BAt w b N M := ⟨h.a0, h.a1, h.a2, h.m0, h.m1⟩
theorem take_u (b : Nat) (lim win rate cost ahead N M T : Int) (w : World) (H : BB w b (tN N) (tS N) (uH M) (uL M)) (D : Dom lim win rate cost ahead N M T) :
    Calls Try.prog 37 #[.pointer (some ⟨b, 0, none⟩), .agg #[.int .u8 0, .int .i64 lim, .int .i64 win, .int .i64 rate, .int .u8 0, .int .i64 0, .int .i64 0, .int .i64 0], .int .i64 cost, .int .i64 ahead, .agg #[.int .u64 (tN T), .int .i64 (tS T), .pointer none]] w fun e w' =>
      (fits N M T lim win rate cost ahead → e = .returned (.agg #[.bool true, .int .i64 lim, .int .i64 (lim - cdiv (lackf N M T rate + cost * win) win), .int .i64 0]) ∧
        BB w' b (tN (t0f N M T)) (tS (t0f N M T)) (uH (lackf N M T rate + cost * win)) (uL (lackf N M T rate + cost * win)) ∧ Kept b b w w') ∧
      (¬ fits N M T lim win rate cost ahead → e = .returned (.agg #[.bool false, .int .i64 lim, .int .i64 (lim - cdiv (lackf N M T rate) win), .int .i64 (capD (cdiv (lackf N M T rate + (cost + ahead) * win - lim * win) rate))]) ∧ Below w.heap.size w w') := by
  obtain ⟨l1, l2, w1, w2, r1, r2, c1, a1, ca, m1, m2, n1, n2, t1, t2⟩ := D
  obtain ⟨f1, f2⟩ := mul_small (by omega) l2 (by omega : (0 : Int) ≤ win) w2
  obtain ⟨s1, s2⟩ := mul_small (by omega : 0 ≤ cost + ahead) (by omega) (by omega : (0 : Int) ≤ win) w2
  obtain ⟨k1, k2⟩ := mul_small c1 (by omega) (by omega : (0 : Int) ≤ win) w2
  obtain ⟨L1, L2⟩ := lackf_le N M T rate m1 (by omega)
  have hlack : ∀ (z : Int), z = lackf N M T rate → W128 z := fun z hz => by subst hz; exact ⟨by omega, by omega⟩
  have hWM : W128 M := ⟨by omega, by omega⟩
  have hWL : W128 (lackf N M T rate) := hlack _ rfl
  have hWF : W128 (lim * win) := ⟨by omega, by omega⟩
  have hWP : W128 ((cost + ahead) * win) := ⟨by omega, by omega⟩
  have hWN : W128 (lackf N M T rate + (cost + ahead) * win) := ⟨by omega, by omega⟩
  have hWC : W128 (cost * win) := ⟨by omega, by omega⟩
  have hWA : W128 (lackf N M T rate + cost * win) := ⟨by omega, by omega⟩
  have hWD : W128 (clip (lackf N M T rate + (cost + ahead) * win - lim * win)) := by unfold W128 clip; split <;> omega
  have hcL : cdiv (lackf N M T rate) win ≤ lim := (cdiv_le_iff _ _ _ (by omega)).mpr (by omega)
  have hcL0 := cdiv_nonneg (lackf N M T rate) win (by omega) L1
  refine (take_words b lim win rate cost ahead (tN T) (tS T) (tN N) (tS N) (uH M) (uL M) (tN (t0f N M T)) (tS (t0f N M T)) (uH (lackf N M T rate)) (uL (lackf N M T rate))
    (uH (lim * win)) (uL (lim * win)) (uH ((cost + ahead) * win)) (uL ((cost + ahead) * win)) (uH (lackf N M T rate + (cost + ahead) * win)) (uL (lackf N M T rate + (cost + ahead) * win))
    (uH (cost * win)) (uL (cost * win)) (uH (lackf N M T rate + cost * win)) (uL (lackf N M T rate + cost * win))
    (uH (clip (lackf N M T rate + (cost + ahead) * win - lim * win))) (uL (clip (lackf N M T rate + (cost + ahead) * win - lim * win)))
    (cdiv (lackf N M T rate + cost * win) win) (cdiv (lackf N M T rate) win) (capD (cdiv (clip (lackf N M T rate + (cost + ahead) * win - lim * win)) rate)) (cost + ahead)
    (decide (M = 0)) (decide (T < N)) (decide (lim * win < lackf N M T rate + (cost + ahead) * win)) w H
    (wrap_u64 (by omega) l2) (wrap_u64 (by omega) w2) (wrap_u64 (by omega) r2) (fun w => isZero_u M w hWM) (fun w => before_tm T N w) ?_ ?_ ?_ ?_
    (wrap_u64 c1 (by omega)) (by rw [wrap_i64 (by omega) (by omega), wrap_u64 (by omega) (by omega)])
    (fun w => mul_u lim win w (by omega) (by omega) (by omega) (by omega)) (fun w => mul_u (cost + ahead) win w (by omega) (by omega) (by omega) (by omega))
    (fun w => add_u _ _ w hWL hWP hWN) (fun w => less_u _ _ w) (fun w => mul_u cost win w (by omega) (by omega) (by omega) (by omega)) (fun w => add_u _ _ w hWL hWC hWA)
    ?_ (fun w => lacked_u _ win w hWL (by omega) (by omega) (by omega)) (fun w => sub_u _ _ w hWN hWF) (fun w => duration_u _ rate w hWD (by omega) (by omega)) ?_ (wrap_i64 (by omega) (by omega))).mono ?_
  · intro hz W hW
    have hz' : ¬ M = 0 := by simpa using hz
    have e1 : t0f N M T = late N T := by unfold t0f; rw [if_neg hz']
    rw [e1]
    have e2 : late N T ≤ 9223372036854775807 := by unfold late; split <;> omega
    exact lacking_u b N M (late N T) rate W hW.at hWM (by omega) (by omega) n1 e2 (late_ge N T)
  · intro hz
    have hz' : M = 0 := by simpa using hz
    subst hz'
    rw [lackf_zero N T rate (by omega)]
    refine ⟨?_, ?_, rfl, rfl⟩ <;> (unfold t0f; rw [if_pos rfl])
  · intro hz hb
    have hz' : ¬ M = 0 := by simpa using hz
    have hb' : T < N := by simpa using hb
    have e1 : t0f N M T = N := by unfold t0f late; rw [if_neg hz', if_pos hb']
    rw [e1]; exact ⟨rfl, rfl⟩
  · intro hz hb
    have hz' : ¬ M = 0 := by simpa using hz
    have hb' : ¬ T < N := by simpa using hb
    have e1 : t0f N M T = T := by unfold t0f late; rw [if_neg hz', if_neg hb']
    rw [e1]; exact ⟨rfl, rfl⟩
  · intro hl W
    have hf : fits N M T lim win rate cost ahead := by have : ¬ lim * win < lackf N M T rate + (cost + ahead) * win := by simpa using hl
                                                       unfold fits; omega
    have hx : cdiv (lackf N M T rate + cost * win) win ≤ lim := (cdiv_le_iff _ _ _ (by omega)).mpr (fits_cost (by omega) a1 hf)
    exact lacked_u _ win W hWA (by omega) (by omega) (by omega)
  · intro hl
    have hf : fits N M T lim win rate cost ahead := by have : ¬ lim * win < lackf N M T rate + (cost + ahead) * win := by simpa using hl
                                                       unfold fits; omega
    have hx : cdiv (lackf N M T rate + cost * win) win ≤ lim := (cdiv_le_iff _ _ _ (by omega)).mpr (fits_cost (by omega) a1 hf)
    have hy := cdiv_nonneg (lackf N M T rate + cost * win) win (by omega) (by omega)
    exact wrap_i64 (by omega) (by omega)
  · rintro e w' ⟨p1, p2⟩
    refine ⟨fun hf => p1 ?_, fun hf => ?_⟩
    · unfold fits at hf; simpa using hf
    · have hl : lim * win < lackf N M T rate + (cost + ahead) * win := by unfold fits at hf; omega
      have e1 : clip (lackf N M T rate + (cost + ahead) * win - lim * win) = lackf N M T rate + (cost + ahead) * win - lim * win := clip_id (by omega)
      rw [e1] at p2
      exact p2 (by simpa using hl)
end Go.Proofs.Qxb6613076a
