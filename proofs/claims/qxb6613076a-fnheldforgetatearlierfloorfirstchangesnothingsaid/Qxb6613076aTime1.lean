/-
  Walks of package time: sec, nsec, addSec, Before: at a Time that keeps no monotonic reading.
-/
import Derived.Test.Qxb6613076aRows
import Derived.Test.Qxb6613076aBitsA
import Derived.WalkKit
import Derived.WalkSpells
import Derived.ProofKit
import Derived.Handy
import Derived.Deep.QuietTactic
import Derived.BigQuiet
namespace Go.Proofs.Qxb6613076a
open Go.RowKit

set_option maxHeartbeats 400000 in
theorem sec_any (b o : Nat) (n s : Int) (w : World) (h0 : w.cell? ⟨b, o, none⟩ = some (.int .u64 n)) (h1 : w.cell? ⟨b, o + 1, none⟩ = some (.int .i64 s)) (hn : 0 ≤ n) (hn' : n < 1000000000) :
    Calls Try.prog 45 #[.pointer (some ⟨b, o, none⟩)] w fun e w' => e = .returned (.int .i64 s) ∧ w' = w := by
  have e := no_mono n hn hn'
  go_enter Try.func45, Try.ntmps45
  go_wp2
  go_ret
  exact ⟨rfl, rfl⟩
set_option maxHeartbeats 400000 in
theorem nsec_any (b o : Nat) (n : Int) (w : World) (h0 : w.cell? ⟨b, o, none⟩ = some (.int .u64 n)) (hn : 0 ≤ n) (hn' : n < 1000000000) :
    Calls Try.prog 46 #[.pointer (some ⟨b, o, none⟩)] w fun e w' => e = .returned (.int .i32 n) ∧ w' = w := by
  have e := and_lo n hn (by omega)
  go_enter Try.func46, Try.ntmps46
  go_wp2
  go_ret
  exact ⟨rfl, rfl⟩

/-- What a Time without a monotonic reading holds: nanoseconds, seconds. -/
def ns (s n : Int) : Int := s * 1000000000 + n
def befB (s1 n1 s2 n2 : Int) : Bool := decide (ns s1 n1 < ns s2 n2)

set_option maxHeartbeats 400000 in
theorem before_any (n1 s1 n2 s2 : Int) (w : World) (h0 : 0 ≤ n1) (h1 : n1 < 1000000000) (h2 : 0 ≤ n2) (h3 : n2 < 1000000000) :
    Calls Try.prog 36 #[.agg #[.int .u64 n1, .int .i64 s1, .pointer none], .agg #[.int .u64 n2, .int .i64 s2, .pointer none]] w fun e w' => e = .returned (.bool (befB s1 n1 s2 n2)) ∧ Below w.heap.size w w' := by
  have e := no_mono2 n1 n2 h0 h1 h2 h3
  have e1 := no_mono n1 h0 h1
  have e2 := no_mono n2 h2 h3
  have f1 := and_lo n1 h0 (by omega)
  have f2 := and_lo n2 h2 (by omega)
  by_cases c : s1 < s2
  · have hb : befB s1 n1 s2 n2 = true := by unfold befB ns; simp; omega
    have H : Hid (befB s1 n1 s2 n2 = true) := hb
    clear hb
    go_enter Try.func36, Try.ntmps36
    go_wp2
    go_ret
    exact ⟨by rw [H.out]; rfl, by go_grown⟩
  · by_cases d : s1 = s2
    · subst d
      have hb : befB s1 n1 s1 n2 = decide (n1 < n2) := by unfold befB ns; simp
      have H : Hid (befB s1 n1 s1 n2 = decide (n1 < n2)) := hb
      clear hb
      go_enter Try.func36, Try.ntmps36
      go_wp2
      go_ret
      exact ⟨by rw [H.out]; rfl, by go_grown⟩
    · have hb : befB s1 n1 s2 n2 = false := by unfold befB ns; simp; omega
      have H : Hid (befB s1 n1 s2 n2 = false) := hb
      clear hb
      have d' : (s1 == s2) = false := by simpa using d
      have c' : decide (s1 < s2) = false := by simpa using c
      go_enter Try.func36, Try.ntmps36
      go_wp2
      go_ret
      exact ⟨by rw [H.out]; rfl, by go_grown⟩

set_option maxHeartbeats 400000 in
theorem addSec_any (b o : Nat) (n s k : Int) (w : World) (h0 : w.cell? ⟨b, o, none⟩ = some (.int .u64 n)) (h1 : w.cell? ⟨b, o + 1, none⟩ = some (.int .i64 s)) (hf : w.frozen? ⟨b, o + 1, none⟩ = false) (hn : 0 ≤ n) (hn' : n < 1000000000)
    (hs : -1000000000000000000 ≤ s) (hs' : s ≤ 1000000000000000000) (hk : -1000000000000000000 ≤ k) (hk' : k ≤ 1000000000000000000) :
    Calls Try.prog 58 #[.pointer (some ⟨b, o, none⟩), .int .i64 k] w fun e w' => e = .returned (.tuple #[]) ∧ w' = w.setCell ⟨b, o + 1, none⟩ (.int .i64 (s + k)) := by
  have e := no_mono n hn hn'
  by_cases c : 0 < k
  · have t1 : s < s + k := by omega
    go_enter Try.func58, Try.ntmps58
    go_wp2
    go_end0
    exact ⟨rfl, rfl⟩
  · have t1 : decide (s < s + k) = false := by simp; omega
    have t2 : decide (0 < k) = false := by simp; omega
    go_enter Try.func58, Try.ntmps58
    go_wp2
    go_end0
    exact ⟨rfl, rfl⟩
end Go.Proofs.Qxb6613076a
