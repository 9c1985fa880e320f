/-
  ZZheldForgetAt over whatever contract of held.forgetAt.
-/
import Derived.Test.Qxb6613076aHeldC
namespace Go.Proofs.Qxb6613076a
open Go.RowKit
set_option linter.unusedVariables false
set_option maxRecDepth 100000 in
set_option maxHeartbeats 3200000 in
theorem hforget_of (hb x y : Nat) (F L lim win rate : Int) (Post : World → World → Prop) (w : World) (hx : x < w.heap.size) (hy : y < w.heap.size) (hF1 : -9223372036854775808 ≤ F) (hF2 : F ≤ 9223372036854775807) (hL1 : -9223372036854775808 ≤ L) (hL2 : L ≤ 9223372036854775807)
    (hT : Hid (∀ W, Below w.heap.size w W → Calls Try.prog 35 #[.pointer (some ⟨hb, 0, none⟩), .agg #[.int .u8 0, .int .i64 lim, .int .i64 win, .int .i64 rate, .int .u8 0, .int .i64 0, .int .i64 0, .int .i64 0], .agg #[.int .u64 (tN F), .int .i64 (tS F), .pointer none]] W fun e w' =>
      e = .returned (.agg #[.int .u64 (tN L), .int .i64 (tS L), .pointer none]) ∧ Kept x y W w' ∧ Post W w')) :
    Calls Try.prog 13 #[.pointer (some ⟨hb, 0, none⟩), .agg #[.int .u8 0, .int .i64 lim, .int .i64 win, .int .i64 rate, .int .u8 0, .int .i64 0, .int .i64 0, .int .i64 0], .int .i64 F] w fun e w' =>
      e = .returned (.int .i64 L) ∧ Kept x y w w' ∧ ∃ W w2, Below w.heap.size w W ∧ Post W w2 ∧ Below w2.heap.size w2 w' := by
  have C33 : Hid (∀ w, Calls Try.prog 33 #[.int .i64 F] w fun e w' => e = .returned (.agg #[.int .u64 (tN F), .int .i64 (tS F), .pointer none]) ∧ Below w.heap.size w w') := fun w => at_any F w hF1 hF2
  have C34 : Hid (∀ w, Calls Try.prog 34 #[.agg #[.int .u64 (tN L), .int .i64 (tS L), .pointer none]] w fun e w' => e = .returned (.int .i64 L) ∧ Below w.heap.size w w') := fun w => by
    have h := nanos_any L w (by omega) (by omega)
    have e : clampD L = L := by unfold clampD; split <;> (try split) <;> omega
    rw [e] at h
    exact h
  generalize tN F = fn at *
  generalize tS F = fs at *
  generalize tN L = ln at *
  generalize tS L = ls at *
  go_enter Try.func13, Try.ntmps13
  go_wp2_with fail
  refine gen_wp _ (fun W => Hid (Below w.heap.size w W ∧ PolC w.heap.size W lim win rate)) ?_ ?_
  · exact ⟨by go_grown, by unfold PolC; simp [go_sem]⟩
  rintro W HW
  have HB : Hid (Below w.heap.size w W) := HW.out.1
  have HP : Hid (PolC w.heap.size W lim win rate) := HW.out.2
  have n1 : w.heap.size ≠ x := by omega
  have n2 : w.heap.size ≠ y := by omega
  clear HW
  go_region_held3 (fun V' => V'.cell? ⟨w.heap.size, 0, none⟩ = some (.int .u8 0) ∧ V'.cell? ⟨w.heap.size, 1, none⟩ = some (.int .i64 lim) ∧ V'.cell? ⟨w.heap.size, 2, none⟩ = some (.int .i64 win) ∧ V'.cell? ⟨w.heap.size, 3, none⟩ = some (.int .i64 rate) ∧ V'.cell? ⟨w.heap.size, 4, none⟩ = some (.int .u8 0) ∧ V'.cell? ⟨w.heap.size, 5, none⟩ = some (.int .i64 0) ∧ V'.cell? ⟨w.heap.size, 6, none⟩ = some (.int .i64 0) ∧ V'.cell? ⟨w.heap.size, 7, none⟩ = some (.int .i64 0))
    (first
    | (exact HP.out)
    | (exact P1.out)
    | (exact P2.out)
    | (exact P3.out))
    (first
    | (go_at_call 33; refine (C33.out _).mono ?_; rintro e w1 ⟨rfl, x1⟩; have P1 : Hid (PolC w.heap.size w1 lim win rate) := HP.out.later (bdrew x1); have Y1 : Hid (Below w.heap.size w w1) := HB.out.trans ((bdrew x1).mono HB.out.size))
    | (go_at_call 35; refine (hT.out _ Y1.out).mono ?_; rintro e w2 ⟨rfl, k2, p2⟩; have P2 : Hid (PolC w.heap.size w2 lim win rate) := P1.out.kept k2 n1 n2; have Y2 : Hid (Kept x y w w2) := (Kept.of_below Y1.out).trans k2; have Z2 : Hid (Post w1 w2) := p2; clear p2)
    | (go_at_call 34; refine (C34.out _).mono ?_; rintro e w3 ⟨rfl, x3⟩; have P3 : Hid (PolC w.heap.size w3 lim win rate) := P2.out.later x3))
  all_goals
    have HE : Hid (Kept x y w w3 ∧ ∃ W w2, Below w.heap.size w W ∧ Post W w2 ∧ Below w2.heap.size w2 w3) := ⟨Y2.out.later x3, _, _, Y1.out, Z2.out, x3⟩
    go_wp2_with fail
    go_ret
    exact ⟨rfl, HE.out⟩
end Go.Proofs.Qxb6613076a
