/-
  The laws of held.forgetAt outside their own bounds.
-/
import Derived.Test.Qxb6613076aHeldI
namespace Go.Proofs.Qxb6613076a
open Go.RowKit Go.Deep
set_option linter.unusedVariables false
set_option maxRecDepth 100000 in
set_option maxHeartbeats 3200000 in
theorem law3_out (a0 a1 : Option Addr) (n0 n1 cap0 cap1 : Nat) (hasS : Bool) (M win F : Int) (w : World) (hw : win ≤ 9223372036854775807) (hw1 : -9223372036854775808 ≤ win) (h0 : (n0 : Int) ≤ 9223372036854775807) (h1 : (n1 : Int) ≤ 9223372036854775807)
    (h : ¬ (n0 ≤ 32768 ∧ n1 ≤ 32768 ∧ n1 = n0 ∧ 1 ≤ win ∧ (hasS = true → M ≤ 9223372036854775807 - win))) :
    Calls Try.prog 3 #[.slice a0 n0 cap0, .slice a1 n1 cap1, .bool hasS, .int .i64 M, .int .i64 win, .int .i64 F] w fun e w' => e = .returned (.bool true) ∧ Below w.heap.size w w' := by
  by_cases q1 : (1048576 : Int) < (n0 : Int)
  · clear h
    go_enter Try.func3, Try.ntmps3
    go_wp2_with (go_at_call 11; go_in)
    go_ret
    exact ⟨rfl, Below.refl _ _⟩
  by_cases q2 : (1048576 : Int) < (n1 : Int)
  · clear h
    go_enter Try.func3, Try.ntmps3
    go_wp2_with (go_at_call 11; go_in)
    go_ret
    exact ⟨rfl, Below.refl _ _⟩
  have v1 : IntKind.i64.wrap ((n0 : Int) + (n1 : Int)) = (n0 : Int) + (n1 : Int) := by rw [IntKind.wrap_i64]; omega
  by_cases q3 : (1048576 : Int) < (n0 : Int) + (n1 : Int)
  · clear h
    go_enter Try.func3, Try.ntmps3
    go_wp2_with (go_at_call 11; go_in)
    go_ret
    exact ⟨rfl, Below.refl _ _⟩
  by_cases q4 : (32768 : Int) < (n0 : Int)
  · clear h
    go_enter Try.func3, Try.ntmps3
    go_wp2_with (go_at_call 11; go_in)
    go_ret
    exact ⟨rfl, Below.refl _ _⟩
  by_cases q5 : (32768 : Int) < (n1 : Int)
  · clear h
    go_enter Try.func3, Try.ntmps3
    go_wp2_with (go_at_call 11; go_in)
    go_ret
    exact ⟨rfl, Below.refl _ _⟩
  by_cases q6 : n1 = n0
  · subst q6
    have t5 : ((n1 : Int) != (n1 : Int)) = false := by simp
    by_cases q7 : win < 1
    · clear h
      go_enter Try.func3, Try.ntmps3
      go_wp2_with (go_at_call 11; go_in)
      go_ret
      exact ⟨rfl, Below.refl _ _⟩
    have hS : hasS = true ∧ 9223372036854775807 - win < M := by
      cases hasS with
      | false => exact absurd ⟨by omega, by omega, rfl, by omega, fun x => by cases x⟩ h
      | true =>
        refine ⟨rfl, ?_⟩
        by_cases q : 9223372036854775807 - win < M
        · exact q
        · exact absurd ⟨by omega, by omega, rfl, by omega, fun _ => by omega⟩ h
    obtain ⟨rfl, hM⟩ := hS
    have d : decide (9223372036854775807 - win < M) = true := by simpa using hM
    clear h
    go_enter Try.func3, Try.ntmps3
    go_wp2_with (go_at_call 11; go_in)
    go_ret
    exact ⟨rfl, Below.refl _ _⟩
  · have t5 : ((n1 : Int) != (n0 : Int)) = true := by simp; omega
    clear h
    go_enter Try.func3, Try.ntmps3
    go_wp2_with (go_at_call 11; go_in)
    go_ret
    exact ⟨rfl, Below.refl _ _⟩
set_option maxRecDepth 100000 in
set_option maxHeartbeats 3200000 in
theorem law4_out (a0 a1 : Option Addr) (n0 n1 cap0 cap1 : Nat) (hasS : Bool) (M win F1 F2 : Int) (w : World) (hw : win ≤ 9223372036854775807) (hw1 : -9223372036854775808 ≤ win) (h0 : (n0 : Int) ≤ 9223372036854775807) (h1 : (n1 : Int) ≤ 9223372036854775807)
    (h : ¬ (n0 ≤ 32768 ∧ n1 ≤ 32768 ∧ n1 = n0 ∧ 1 ≤ win ∧ (hasS = true → M ≤ 9223372036854775807 - win) ∧ F1 ≤ F2)) :
    Calls Try.prog 4 #[.slice a0 n0 cap0, .slice a1 n1 cap1, .bool hasS, .int .i64 M, .int .i64 win, .int .i64 F1, .int .i64 F2] w fun e w' => e = .returned (.bool true) ∧ Below w.heap.size w w' := by
  by_cases q1 : (1048576 : Int) < (n0 : Int)
  · clear h
    go_enter Try.func4, Try.ntmps4
    go_wp2_with (go_at_call 16; go_in)
    go_ret
    exact ⟨rfl, Below.refl _ _⟩
  by_cases q2 : (1048576 : Int) < (n1 : Int)
  · clear h
    go_enter Try.func4, Try.ntmps4
    go_wp2_with (go_at_call 16; go_in)
    go_ret
    exact ⟨rfl, Below.refl _ _⟩
  have v1 : IntKind.i64.wrap ((n0 : Int) + (n1 : Int)) = (n0 : Int) + (n1 : Int) := by rw [IntKind.wrap_i64]; omega
  by_cases q3 : (1048576 : Int) < (n0 : Int) + (n1 : Int)
  · clear h
    go_enter Try.func4, Try.ntmps4
    go_wp2_with (go_at_call 16; go_in)
    go_ret
    exact ⟨rfl, Below.refl _ _⟩
  by_cases q4 : (32768 : Int) < (n0 : Int)
  · clear h
    go_enter Try.func4, Try.ntmps4
    go_wp2_with (go_at_call 16; go_in)
    go_ret
    exact ⟨rfl, Below.refl _ _⟩
  by_cases q5 : (32768 : Int) < (n1 : Int)
  · clear h
    go_enter Try.func4, Try.ntmps4
    go_wp2_with (go_at_call 16; go_in)
    go_ret
    exact ⟨rfl, Below.refl _ _⟩
  by_cases q6 : n1 = n0
  · subst q6
    have t5 : ((n1 : Int) != (n1 : Int)) = false := by simp
    by_cases q7 : win < 1
    · clear h
      go_enter Try.func4, Try.ntmps4
      go_wp2_with (go_at_call 16; go_in)
      go_ret
      exact ⟨rfl, Below.refl _ _⟩
    by_cases q8 : hasS = true ∧ 9223372036854775807 - win < M
    · obtain ⟨rfl, hM⟩ := q8
      have d : decide (9223372036854775807 - win < M) = true := by simpa using hM
      clear h
      go_enter Try.func4, Try.ntmps4
      go_wp2_with (go_at_call 16; go_in)
      go_ret
      exact ⟨rfl, Below.refl _ _⟩
    have hf : F2 < F1 := by
      by_cases q : F2 < F1
      · exact q
      · refine absurd ⟨by omega, by omega, rfl, by omega, fun x => ?_, by omega⟩ h
        by_cases r : 9223372036854775807 - win < M
        · exact absurd ⟨x, r⟩ q8
        · omega
    clear h
    cases hasS with
    | false =>
      go_enter Try.func4, Try.ntmps4
      go_wp2_with (go_at_call 16; go_in)
      go_ret
      exact ⟨rfl, Below.refl _ _⟩
    | true =>
      have d : decide (9223372036854775807 - win < M) = false := by simp; simp at q8; omega
      clear q8
      go_enter Try.func4, Try.ntmps4
      go_wp2_with (go_at_call 16; go_in)
      go_ret
      exact ⟨rfl, Below.refl _ _⟩
  · have t5 : ((n1 : Int) != (n0 : Int)) = true := by simp; omega
    clear h
    go_enter Try.func4, Try.ntmps4
    go_wp2_with (go_at_call 16; go_in)
    go_ret
    exact ⟨rfl, Below.refl _ _⟩
end Go.Proofs.Qxb6613076a
