/-
  The walk of the law FnForgetQueueLessScanFindsSoonest: both scans come to the first of the least.
-/
import Derived.Test.Qxb6613076aLaw5
namespace Go.Proofs.Qxb6613076a
open Go.RowKit Go.Deep
/-- The first of the least among z 0 .. z (r-1). -/
def fm (z : Nat → Int) : Nat → Nat
  | 0 => 0
  | r + 1 => if z r < z (fm z r) then r else fm z r
theorem fm_one (z : Nat → Int) : fm z 1 = 0 := by simp [fm]
theorem fm_lt (z : Nat → Int) : ∀ r, 1 ≤ r → fm z r < r
  | 1, _ => by rw [fm_one]; omega
  | r + 2, _ => by
    have := fm_lt z (r + 1) (by omega)
    rw [fm]
    split <;> omega
theorem fm_yes (z : Nat → Int) (r : Nat) (h : z r < z (fm z r)) : fm z (r + 1) = r := by rw [fm, if_pos h]
theorem fm_no (z : Nat → Int) (r : Nat) (h : ¬ z r < z (fm z r)) : fm z (r + 1) = fm z r := by rw [fm, if_neg h]
set_option maxHeartbeats 400000 in
theorem law6_big (a0 : Option Addr) (len0 cap0 : Nat) (w : World) (h : 1048576 < len0) :
    Calls Try.prog 6 #[.slice a0 len0 cap0] w fun e w' => e = .returned (.bool true) ∧ Below w.heap.size w w' := by
  have h' : (1048576 : Int) < (len0 : Int) := by omega
  go_enter Try.func6, Try.ntmps6
  go_wp2
  go_ret
  exact ⟨rfl, Below.refl _ _⟩
set_option maxHeartbeats 400000 in
theorem law6_mid (a0 : Option Addr) (len0 cap0 : Nat) (w : World) (h : 65536 < len0) (hh : len0 ≤ 1048576) :
    Calls Try.prog 6 #[.slice a0 len0 cap0] w fun e w' => e = .returned (.bool true) ∧ Below w.heap.size w w' := by
  have h' : (65536 : Int) < (len0 : Int) := by omega
  have h2 : ¬ (1048576 : Int) < (len0 : Int) := by omega
  go_enter Try.func6, Try.ntmps6
  go_wp2
  go_ret
  exact ⟨rfl, Below.refl _ _⟩
set_option maxHeartbeats 400000 in
theorem law6_none (a0 : Option Addr) (cap0 : Nat) (w : World) :
    Calls Try.prog 6 #[.slice a0 0 cap0] w fun e w' => e = .returned (.bool true) ∧ Below w.heap.size w w' := by
  go_enter Try.func6, Try.ntmps6
  go_wp2
  go_ret
  exact ⟨rfl, Below.refl _ _⟩
set_option maxRecDepth 100000 in
set_option maxHeartbeats 800000 in
theorem law6_main (x : Addr) (n cap : Nat) (z : Nat → Int) (w : World) (hn : n ≤ 65536) (hn0 : 1 ≤ n)
    (hz : ∀ j, -9223372036854775808 ≤ z j ∧ z j ≤ 9223372036854775807) (hc : ∀ i, i < n → w.cell? (x.add i) = some (.int .i64 (z i))) :
    Calls Try.prog 6 #[.slice (some x) n cap] w fun e w' => e = .returned (.bool true) ∧ Below w.heap.size w w' := by
  obtain ⟨w2, hcp, hb2, hs2, hc2⟩ := copied w x n cap z 3 hc
  have hmk := run_make_row' (P := Try.prog) 22 2 (.int .i64 0) 8 Try.underlying22 Try.info2 rfl .i64 .i64 n (by omega) (by omega)
  have hnil := fun w => run_neq_slice_nil_any (P := Try.prog) w 22 2 (some x) n cap 0 0 Try.underlying22
  have HC : Hid (∀ j, j < n → w2.cell? ⟨w.heap.size, j, none⟩ = some (.int .i64 (z j))) := hc2
  have HB : Hid (Below w.heap.size w w2) := hb2
  have HZ : Hid (∀ j, -9223372036854775808 ≤ z j ∧ z j ≤ 9223372036854775807) := hz
  clear hc hc2 hb2 hs2 hz
  have t1 : decide ((1048576 : Int) < (n : Int)) = false := by simp; omega
  have t2 : decide ((65536 : Int) < (n : Int)) = false := by simp; omega
  have t3 : ((n : Int) == 0) = false := by simp; omega
  go_enter Try.func6, Try.ntmps6
  go_wp2_with (first | (go_at_call 20; go_in) | fail)
  refine (newq_any w.heap.size 0 n n z w2 hn HZ.out (fun j hj => by rw [Nat.zero_add]; exact HC.out j hj)).mono ?_
  rintro e w3 ⟨rfl, hQ⟩
  have HB3 : Hid (Below w.heap.size w w3) := HB.out.trans (hQ.below.mono HB.out.size)
  have HC3 : Hid (∀ j, j < n → w3.cell? ⟨w.heap.size, j, none⟩ = some (.int .i64 (z j))) := fun j hj => cell_later hQ.below (HC.out j hj)
  have HQ : Hid (QRow w3 w2.heap.size n z) := hQ.q
  clear hQ HC HB hcp hmk hnil t1 t2 t3
  go_wp2_with fail
  go_loopg [5, 6] (n - 1) (fun g m i wr => ∃ r : Nat, 1 ≤ r ∧ r ≤ n ∧ g = n - r ∧ i = .int .i64 r ∧ m = .int .i64 (fm z r : Nat) ∧ Hid (Below w.heap.size w wr) ∧ Hid (QRow wr w2.heap.size n z) ∧ Hid (∀ j, j < n → wr.cell? ⟨w.heap.size, j, none⟩ = some (.int .i64 (z j))))
  case atStart => exact ⟨1, by omega, hn0, rfl, rfl, by rw [fm_one]; rfl, HB3, HQ, HC3⟩
  case round =>
    obtain ⟨r, hr1, hr, rfl, rfl, rfl, HBr, HQr, HCr⟩ := hrel
    by_cases hlt : r < n
    · have hlz : (r : Int) < (n : Int) := by omega
      go_wp2_with fail
      refine (less_q HQr.out r (fm z r) hlt (Nat.lt_trans (fm_lt z r hr1) hlt)).mono ?_
      rintro e w4 ⟨q, rfl, P, KB, HQ4⟩
      have HB4 : Hid (Below w.heap.size w w4) := HBr.out.trans (KB.out.mono HBr.out.size)
      have HC4 : Hid (∀ j, j < n → w4.cell? ⟨w.heap.size, j, none⟩ = some (.int .i64 (z j))) := fun j hj => cell_later KB.out (HCr.out j hj)
      clear KB
      cases q
      · have HF : Hid (fm z (r + 1) = fm z r) := fm_no z r (by have := P.out; simpa using this)
        go_wp2_with fail
        go_roundg (n - (r + 1))
        case measure => omega
        case rel => exact ⟨r + 1, by omega, by omega, rfl, by go_num, by rw [HF.out], HB4, HQ4, HC4⟩
      · have HF : Hid (fm z (r + 1) = r) := fm_yes z r (by have := P.out; simpa using this)
        go_wp2_with fail
        go_roundg (n - (r + 1))
        case measure => omega
        case rel => exact ⟨r + 1, by omega, by omega, rfl, by go_num, by rw [HF.out], HB4, HQ4, HC4⟩
    · obtain rfl : r = n := by omega
      clear HB3 HC3 HQ hr hlt HQr
      go_wp2_with fail
      go_loopg [7, 8] (r - 1) (fun g m i wx => ∃ k : Nat, 1 ≤ k ∧ k ≤ r ∧ g = r - k ∧ i = .int .i64 k ∧ m = .int .i64 (fm z k : Nat) ∧ Hid (Below w.heap.size w wx) ∧ Hid (∀ j, j < r → wx.cell? ⟨w.heap.size, j, none⟩ = some (.int .i64 (z j))))
      case atStart => exact ⟨1, by omega, hn0, rfl, rfl, by rw [fm_one]; rfl, HBr, HCr⟩
      case round =>
        clear HBr HCr
        obtain ⟨k, hk1, hk, rfl, rfl, rfl, HBk, HCk⟩ := hrel
        by_cases hlt : k < r
        · have hlz : (k : Int) < (r : Int) := by omega
          have hf := fm_lt z k hk1
          have hfz : (fm z k : Int) < (r : Int) := by omega
          have c1 := HCk.out k hlt
          have c2 := HCk.out (fm z k) (by omega)
          by_cases hs : z k < z (fm z k)
          · have HF : Hid (fm z (k + 1) = k) := fm_yes z k hs
            go_wp2_with fail
            go_quiet (fail)
            go_wp2_with fail
            go_roundg (r - (k + 1))
            case measure => omega
            case rel => exact ⟨k + 1, by omega, by omega, rfl, by go_num, by rw [HF.out], below_drewN HBk.out _, HCk⟩
          · have HF : Hid (fm z (k + 1) = fm z k) := fm_no z k hs
            have hs' : decide (z k < z (fm z k)) = false := by simpa using hs
            go_wp2_with fail
            go_quiet (fail)
            go_wp2_with fail
            go_roundg (r - (k + 1))
            case measure => omega
            case rel => exact ⟨k + 1, by omega, by omega, rfl, by go_num, by rw [HF.out], below_drewN HBk.out _, HCk⟩
        · obtain rfl : k = r := by omega
          go_wp2_with fail
          go_ret
          exact ⟨by simp, HBk.out⟩
end Go.Proofs.Qxb6613076a
