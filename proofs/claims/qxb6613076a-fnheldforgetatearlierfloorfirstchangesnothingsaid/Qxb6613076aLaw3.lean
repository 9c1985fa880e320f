/-
  The law of held.forgetAt: the latest of the state and of the claims that stand.
-/
import Derived.Test.Qxb6613076aHeldI
import Derived.Test.Qxb6613076aLaw10
import Derived.BigQuiet
namespace Go.Proofs.Qxb6613076a
open Go.RowKit Go.Deep
set_option linter.unusedVariables false
/-- A slice of n numbers z at its block's start (whatever it is where there is none). -/
def SRow (w : World) (la : Option Addr) (n : Nat) (z : Nat → Int) : Prop := 0 < n → ∃ A, la = some ⟨A, 0, none⟩ ∧ ∀ x, x < n → w.cell? ⟨A, x, none⟩ = some (.int .i64 (z x))
theorem SRow.later {w w' : World} {la : Option Addr} {n : Nat} {z : Nat → Int} (h : SRow w la n z) (b : Below w.heap.size w w') : SRow w' la n z := fun hn => by
  obtain ⟨A, e, hA⟩ := h hn
  exact ⟨A, e, fun x hx => cell_later b (hA x hx)⟩
/-- The claims out of two rows of numbers. -/
def claimsOf (n : Nat) (zl zc : Nat → Int) : List (Int × Int) := (List.range n).map fun j => (zl j, zc j)
theorem claimsOf_length (n : Nat) (zl zc : Nat → Int) : (claimsOf n zl zc).length = n := by simp [claimsOf]
theorem claimsOf_get {n : Nat} {zl zc : Nat → Int} {x : Nat} (hx : x < n) : (claimsOf n zl zc)[x]? = some (zl x, zc x) := by
  unfold claimsOf; rw [List.getElem?_map, List.getElem?_range hx]; rfl
theorem claimsOf_some {n : Nat} {zl zc : Nat → Int} {x : Nat} {c : Int × Int} (h : (claimsOf n zl zc)[x]? = some c) : x < n ∧ c = (zl x, zc x) := by
  have hx : x < n := by
    rcases Nat.lt_or_ge x n with q | q
    · exact q
    · rw [List.getElem?_eq_none (by rw [claimsOf_length]; exact q)] at h; cases h
  rw [claimsOf_get hx] at h
  injection h with h
  exact ⟨hx, h.symm⟩
theorem claimsOf_mem {n : Nat} {zl zc : Nat → Int} {P : Int × Int → Prop} (h : ∀ x, x < n → P (zl x, zc x)) : ∀ c ∈ claimsOf n zl zc, P c := by
  intro c hc
  simp only [claimsOf, List.mem_map, List.mem_range] at hc
  obtain ⟨j, hj, rfl⟩ := hc
  exact h j hj
/-- The claims of the first i that stand. -/
def stand (F : Int) (n : Nat) (zl zc : Nat → Int) (i : Nat) : List (Int × Int) := standing F ((claimsOf n zl zc).take i)
theorem stand_keep {F : Int} {n : Nat} {zl zc : Nat → Int} {i : Nat} (hi : i < n) (h : F < zl i) : stand F n zl zc (i + 1) = stand F n zl zc i ++ [(zl i, zc i)] := take_filter_keep (claimsOf_get hi) h
theorem stand_drop {F : Int} {n : Nat} {zl zc : Nat → Int} {i : Nat} (hi : i < n) (h : ¬ F < zl i) : stand F n zl zc (i + 1) = stand F n zl zc i := take_filter_drop (claimsOf_get hi) h
theorem stand_all (F : Int) (n : Nat) (zl zc : Nat → Int) : stand F n zl zc n = standing F (claimsOf n zl zc) := by
  unfold stand; rw [List.take_of_length_le (by rw [claimsOf_length]; exact Nat.le_refl _)]
theorem stand_get {F : Int} {n : Nat} {zl zc : Nat → Int} {i : Nat} (hi : i < n) (h : F < zl i) : (standing F (claimsOf n zl zc))[(stand F n zl zc i).length]? = some (zl i, zc i) := by
  have e : standing F (claimsOf n zl zc) = stand F n zl zc (i + 1) ++ standing F ((claimsOf n zl zc).drop (i + 1)) := by
    unfold stand standing; rw [← List.filter_append, List.take_append_drop]
  rw [e, stand_keep hi h, List.append_assoc, List.getElem?_append_right (Nat.le_refl _), Nat.sub_self]
  rfl
theorem stand_len (F : Int) (n : Nat) (zl zc : Nat → Int) (i : Nat) : (stand F n zl zc i).length ≤ n := by
  have h := standing_le F ((claimsOf n zl zc).take i)
  rw [List.length_take, claimsOf_length] at h
  unfold stand; omega
theorem latest_append (b : Int) (l : List (Int × Int)) (c : Int × Int) : latest b (l ++ [c]) = if latest b l < c.1 then c.1 else latest b l := by
  unfold latest; rw [List.foldl_append]; rfl
/-- ZZnewHeld at whatever two rows. -/
theorem newHeld_any (la ca : Option Addr) (n lc cc : Nat) (zl zc : Nat → Int) (hasS : Bool) (M : Int) (w : World) (hn' : n ≤ 32768) (hl : SRow w la n zl) (hc : SRow w ca n zc) (hr : ∀ x, x < n → -9223372036854775808 ≤ zl x ∧ zl x ≤ 9223372036854775807) (hM1 : -9223372036854775808 ≤ M) (hM2 : M ≤ 9223372036854775807) :
    Calls Try.prog 12 #[.slice la n lc, .slice ca n cc, .bool hasS, .int .i64 M] w fun e w' => e = .returned (.pointer (some ⟨w.heap.size, 0, none⟩)) ∧ Below w.heap.size w w' ∧ HOb w' w.heap.size w.heap.size (claimsOf n zl zc) hasS M := by
  by_cases h0 : n = 0
  · subst h0
    refine (newHeld_zero la ca lc cc hasS M w hM1 hM2).mono ?_
    rintro e w' ⟨rfl, st, sl, h⟩
    exact ⟨rfl, h.below, h.ob (by simp)⟩
  · obtain ⟨A, rfl, hA⟩ := hl (by omega)
    obtain ⟨C, rfl, hC⟩ := hc (by omega)
    have a1 : A < w.heap.size := World.block_lt_of_cell? w ⟨A, 0, none⟩ (hA 0 (by omega))
    have a2 : C < w.heap.size := World.block_lt_of_cell? w ⟨C, 0, none⟩ (hC 0 (by omega))
    refine (newHeld_loop A C n lc cc (claimsOf n zl zc) hasS M w (claimsOf_length _ _ _) hn' a1 a2 (fun x c h => ?_) (fun x c h => ?_) (fun x c h => ?_) hM1 hM2 (by omega)).mono ?_
    · obtain ⟨q1, rfl⟩ := claimsOf_some h; exact hA x q1
    · obtain ⟨q1, rfl⟩ := claimsOf_some h; exact hC x q1
    · obtain ⟨q1, rfl⟩ := claimsOf_some h; exact hr x q1
    · rintro e w' ⟨rfl, st, sl, h⟩
      exact ⟨rfl, h.below, h.ob (by rw [claimsOf_length]; exact hn')⟩
/-- What comes in as a slice of numbers. -/
def RowIn (w : World) (a : Option Addr) (n : Nat) (z : Nat → Int) : Prop := (a = none ∧ n = 0) ∨ ∃ x, a = some x ∧ ∀ i, i < n → w.cell? (x.add i) = some (.int .i64 (z i))
theorem RowIn.later {w w' : World} {a : Option Addr} {n : Nat} {z : Nat → Int} (h : RowIn w a n z) (b : Below w.heap.size w w') : RowIn w' a n z := by
  rcases h with h | ⟨x, e, hx⟩
  · exact .inl h
  · exact .inr ⟨x, e, fun i hi => cell_later b (hx i hi)⟩
set_option maxRecDepth 100000 in
set_option maxHeartbeats 6400000 in
theorem law3_main (a0 a1 : Option Addr) (n cap0 cap1 : Nat) (zl zc : Nat → Int) (hasS : Bool) (M win F : Int) (w : World) (hn : n ≤ 32768) (R0 : RowIn w a0 n zl) (R1 : RowIn w a1 n zc)
    (hr : ∀ x, x < n → -9223372036854775808 ≤ zl x ∧ zl x ≤ 9223372036854775807) (hM1 : -9223372036854775808 ≤ M) (hM2 : M ≤ 9223372036854775807) (hw : 1 ≤ win) (hw' : win ≤ 9223372036854775807) (hF1 : -9223372036854775808 ≤ F) (hF2 : F ≤ 9223372036854775807) (hS : hasS = true → M ≤ 9223372036854775807 - win) :
    Calls Try.prog 3 #[.slice a0 n cap0, .slice a1 n cap1, .bool hasS, .int .i64 M, .int .i64 win, .int .i64 F] w fun e w' => e = .returned (.bool true) ∧ Below w.heap.size w w' := by
  have HR0 : Hid (RowIn w a0 n zl) := R0
  have HR1 : Hid (RowIn w a1 n zc) := R1
  have HR : Hid (∀ x, x < n → -9223372036854775808 ≤ zl x ∧ zl x ≤ 9223372036854775807) := hr
  have HS : Hid (hasS = true → M ≤ 9223372036854775807 - win) := hS
  have t1 : decide ((1048576 : Int) < (n : Int)) = false := by simp; omega
  have t2 : decide ((1048576 : Int) < (n : Int) + (n : Int)) = false := by simp; omega
  have t3 : decide ((32768 : Int) < (n : Int)) = false := by simp; omega
  have t4 : decide (win < 1) = false := by simp; omega
  have t5 : ((n : Int) != (n : Int)) = false := by simp
  have v1 : IntKind.i64.wrap ((n : Int) + (n : Int)) = (n : Int) + (n : Int) := by rw [IntKind.wrap_i64]; omega
  clear R0 R1 hr hS
  go_enter Try.func3, Try.ntmps3
  go_upto_region 11 with (go_at_call 11; go_in)
  go_cut [51] (fun x wx => x = .bool false ∧ wx = w)
  case first =>
    cases hasS with
    | false =>
      go_wp2_with fail
      go_meet
      exact ⟨rfl, rfl⟩
    | true =>
      have h := HS.out (by simp)
      have d : decide (9223372036854775807 - win < M) = false := by simp; omega
      go_wp2_with fail
      go_meet
      exact ⟨rfl, rfl⟩
  case rest =>
  obtain ⟨rfl, hwc⟩ := hcut
  rw [hwc]
  clear hwc
  clear t1 t2 t3 t4 t5 v1
  go_upto_region 13 with fail
  go_cut [53] (fun x wx => x = .bool a0.isSome ∧ wx = w)
  case first =>
    have hnil := fun w => run_neq_slice_nil_any (P := Try.prog) w 22 2 a0 n cap0 0 0 Try.underlying22
    cases a0 with
    | none =>
      go_wp2_with fail
      go_meet
      exact ⟨rfl, rfl⟩
    | some x =>
      go_wp2_with fail
      go_meet
      exact ⟨rfl, rfl⟩
  case rest =>
  obtain ⟨rfl, hwc⟩ := hcut
  rw [hwc]
  clear hwc
  go_upto_if 53 with fail
  go_cut [0] (fun x wx => ∃ la lc, x = .slice la n lc ∧ Hid (Below w.heap.size w wx ∧ SRow wx la n zl))
  case first =>
    rcases HR0.out with ⟨rfl, h0⟩ | ⟨x, rfl, hx⟩
    · go_wp2_with fail
      go_meet
      exact ⟨none, _, rfl, Below.refl _ _, fun h => by omega⟩
    · obtain ⟨w2, hcp, hb2, hs2, hc2⟩ := copied w x n cap0 zl 3 hx
      have hmk := run_make_row' (P := Try.prog) 22 2 (.int .i64 0) 8 Try.underlying22 Try.info2 rfl .i64 .i64 n (by omega) (by omega)
      have HX : Hid (Below w.heap.size w w2 ∧ ∀ j, j < n → w2.cell? ⟨w.heap.size, j, none⟩ = some (.int .i64 (zl j))) := ⟨hb2, hc2⟩
      clear hb2 hs2 hc2 hx
      go_wp2_with fail
      go_meet
      exact ⟨some ⟨w.heap.size, 0, none⟩, n, rfl, HX.out.1, fun _ => ⟨_, rfl, HX.out.2⟩⟩
  case rest =>
  obtain ⟨la, lc, rfl, HC⟩ := hcut
  obtain ⟨V1, hV1⟩ : ∃ V1, V1 = wc := ⟨_, rfl⟩
  rw [← hV1]
  have HB1 : Hid (Below w.heap.size w V1) := by rw [hV1]; exact HC.out.1
  have HL1 : Hid (SRow V1 la n zl) := by rw [hV1]; exact HC.out.2
  have HR1' : Hid (RowIn V1 a1 n zc) := HR1.out.later HB1.out
  clear HC hV1 HR0 HR1
  go_upto_region 17 with fail
  go_cut [62] (fun x wx => x = .bool a1.isSome ∧ wx = V1)
  case first =>
    have hnil := fun w => run_neq_slice_nil_any (P := Try.prog) w 22 2 a1 n cap1 0 0 Try.underlying22
    cases a1 with
    | none =>
      go_wp2_with fail
      go_meet
      exact ⟨rfl, rfl⟩
    | some x =>
      go_wp2_with fail
      go_meet
      exact ⟨rfl, rfl⟩
  case rest =>
  obtain ⟨rfl, hwc⟩ := hcut
  rw [hwc]
  clear hwc
  go_upto_if 62 with fail
  go_cut [1] (fun x wx => ∃ ca cc, x = .slice ca n cc ∧ Hid (Below V1.heap.size V1 wx ∧ SRow wx ca n zc))
  case first =>
    rcases HR1'.out with ⟨rfl, h0⟩ | ⟨x, rfl, hx⟩
    · go_wp2_with fail
      go_meet
      exact ⟨none, _, rfl, Below.refl _ _, fun h => by omega⟩
    · obtain ⟨w2, hcp, hb2, hs2, hc2⟩ := copied V1 x n cap1 zc 3 hx
      have hmk := run_make_row' (P := Try.prog) 22 2 (.int .i64 0) 8 Try.underlying22 Try.info2 rfl .i64 .i64 n (by omega) (by omega)
      have HX : Hid (Below V1.heap.size V1 w2 ∧ ∀ j, j < n → w2.cell? ⟨V1.heap.size, j, none⟩ = some (.int .i64 (zc j))) := ⟨hb2, hc2⟩
      clear hb2 hs2 hc2 hx
      go_wp2_with fail
      go_meet
      exact ⟨some ⟨V1.heap.size, 0, none⟩, n, rfl, HX.out.1, fun _ => ⟨_, rfl, HX.out.2⟩⟩
  case rest =>
  obtain ⟨ca, cc, rfl, HC⟩ := hcut
  obtain ⟨V2, hV2⟩ : ∃ V2, V2 = wc := ⟨_, rfl⟩
  rw [← hV2]
  have x2 : Below V1.heap.size V1 V2 := by rw [hV2]; exact HC.out.1
  have HB2 : Hid (Below w.heap.size w V2) := HB1.out.trans (x2.mono HB1.out.size)
  have HL2 : Hid (SRow V2 la n zl) := HL1.out.later x2
  have HC2 : Hid (SRow V2 ca n zc) := by rw [hV2]; exact HC.out.2
  clear HC hV2 HR1' HB1 HL1 x2
  obtain ⟨base, hbase⟩ : ∃ base, base = if hasS then M + win else F := ⟨_, rfl⟩
  have HBS : Hid (base = if hasS then M + win else F) := hbase
  have hb1 : -9223372036854775808 ≤ base := by rw [hbase]; split <;> omega
  have hb2 : base ≤ 9223372036854775807 := by
    rw [hbase]; split
    · have := HS.out (by assumption); omega
    · omega
  clear hbase
  go_upto_if 71 with fail
  go_cut [15] (fun x wx => x = .int .i64 base ∧ wx = V2)
  case first =>
    cases hasS with
    | false =>
      have e : base = F := by simpa using HBS.out
      go_wp2_with fail
      go_meet
      exact ⟨by rw [e], rfl⟩
    | true =>
      have e : base = M + win := by simpa using HBS.out
      have h := HS.out (by simp)
      have v2 : IntKind.i64.wrap (M + win) = M + win := by rw [IntKind.wrap_i64]; omega
      go_wp2_with fail
      go_meet
      exact ⟨by rw [e], rfl⟩
  case rest =>
  obtain ⟨rfl, hwc⟩ := hcut
  rw [hwc]
  clear hwc
  go_wp2_with fail
  go_loopg [15, 16, 17] n (fun gg s15 s16 s17 wx => ∃ i : Nat, s17 = .int .i64 (i : Int) ∧ s16 = .int .i64 (((stand F n zl zc i).length : Nat) : Int) ∧ s15 = .int .i64 (latest base (stand F n zl zc i)) ∧ gg = n - i ∧ i ≤ n ∧ wx = V2)
  case atStart => exact ⟨0, rfl, rfl, rfl, by simp, by omega, rfl⟩
  case round =>
    obtain ⟨i, rfl, rfl, rfl, rfl, hi, rfl⟩ := hrel
    by_cases c : i < n
    · have ci : (i : Int) < (n : Int) := by omega
      obtain ⟨A, rfl, hA⟩ := HL2.out (by omega)
      have c0 := hA i c
      have hsl := stand_len F n zl zc i
      have hs1 : IntKind.i64.wrap ((i : Int) + 1) = (i : Int) + 1 := by rw [IntKind.wrap_i64]; omega
      have hs2 : IntKind.i64.wrap (((stand F n zl zc i).length : Int) + 1) = ((stand F n zl zc i).length : Int) + 1 := by rw [IntKind.wrap_i64]; omega
      clear hA
      by_cases c1 : F < zl i
      · have hk := stand_keep (zc := zc) c c1
        have hla : latest base (stand F n zl zc (i + 1)) = if latest base (stand F n zl zc i) < zl i then zl i else latest base (stand F n zl zc i) := by rw [hk]; exact latest_append _ _ _
        have hlen : (((stand F n zl zc (i + 1)).length : Nat) : Int) = ((stand F n zl zc i).length : Int) + 1 := by rw [hk]; simp
        have HLA : Hid (latest base (stand F n zl zc (i + 1)) = if latest base (stand F n zl zc i) < zl i then zl i else latest base (stand F n zl zc i)) := hla
        have HLE : Hid ((((stand F n zl zc (i + 1)).length : Nat) : Int) = ((stand F n zl zc i).length : Int) + 1) := hlen
        clear hk hla hlen
        by_cases c2 : latest base (stand F n zl zc i) < zl i
        · go_wp2_with fail
          go_roundg (n - (i + 1))
          case measure => omega
          case rel => exact ⟨i + 1, by push_cast; rfl, by rw [HLE.out], by rw [HLA.out, if_pos c2], rfl, by omega, rfl⟩
        · go_wp2_with fail
          go_roundg (n - (i + 1))
          case measure => omega
          case rel => exact ⟨i + 1, by push_cast; rfl, by rw [HLE.out], by rw [HLA.out, if_neg (by omega)], rfl, by omega, rfl⟩
      · have hk := stand_drop (zc := zc) c c1
        have HK : Hid (stand F n zl zc (i + 1) = stand F n zl zc i) := hk
        clear hk
        go_wp2_with fail
        go_roundg (n - (i + 1))
        case measure => omega
        case rel => exact ⟨i + 1, by push_cast; rfl, by rw [HK.out], by rw [HK.out], rfl, by omega, rfl⟩
    · have ci : ¬ (i : Int) < (n : Int) := by omega
      obtain rfl : i = n := by omega
      clear ci
      go_wp2_with fail
      refine (newHeld_any la ca i lc cc zl zc hasS M _ hn HL2.out HC2.out HR.out hM1 hM2).mono ?_
      rintro e w3 ⟨rfl, x3, ob3⟩
      have X3 : Hid (Below wr.heap.size wr w3) := x3
      have O3 : Hid (HOb w3 wr.heap.size wr.heap.size (claimsOf i zl zc) hasS M) := ob3
      clear x3 ob3
      go_wp2_with fail
      refine (newPolicy_any 1 win 1 _).mono ?_
      rintro e w4 ⟨rfl, x4⟩
      have X4 : Hid (Below wr.heap.size wr w4) := X3.out.trans (x4.mono X3.out.size)
      have O4 : Hid (HOb w4 wr.heap.size wr.heap.size (claimsOf i zl zc) hasS M) := O3.out.later x4
      clear x4 X3 O3
      have h13 := hforget_ob wr.heap.size wr.heap.size (claimsOf i zl zc) hasS M F 1 win 1 w4 O4.out X4.out.size hF1 hF2 (by omega) hw' (by rw [← HBS.out]; exact hb1) (by rw [← HBS.out]; exact hb2) (claimsOf_mem (P := fun c => -9223372036854775808 ≤ c.1 ∧ c.1 ≤ 9223372036854775807) HR.out)
      rw [← HBS.out, ← stand_all] at h13
      have H13 : Hid _ := h13
      clear h13
      go_wp2_with fail
      refine Calls.mono H13.out ?_
      rintro e w5 ⟨rfl, b5, ob5⟩
      have X5 : Hid (Below wr.heap.size wr w5) := X4.out.trans b5
      have O5 : Hid (HOb w5 wr.heap.size wr.heap.size (stand F i zl zc i) hasS M) := ob5
      clear b5 ob5 H13 X4 O4
      have h15 := hclaims_ob wr.heap.size wr.heap.size (stand F i zl zc i) hasS M w5 O5.out (fun x c hx => by
        have hm : c ∈ stand F i zl zc i := List.mem_of_getElem? hx
        rw [stand_all] at hm
        exact claimsOf_mem (P := fun c => -9223372036854775808 ≤ c.1 ∧ c.1 ≤ 9223372036854775807) HR.out c (List.mem_filter.mp (show c ∈ (claimsOf i zl zc).filter _ from hm)).1)
      have H15 : Hid _ := h15
      clear h15
      go_wp2_with fail
      refine Calls.mono H15.out ?_
      rintro e w6 ⟨rfl, x6, hcell⟩
      have X6 : Hid (Below wr.heap.size wr w6) := X5.out.trans (x6.mono X5.out.size)
      have G6 : Hid (∀ (x : Nat) (c : Int × Int), (stand F i zl zc i)[x]? = some c → w6.cell? ⟨w5.heap.size, x, none⟩ = some (.int .i64 c.1) ∧ w6.cell? ⟨w5.heap.size + 1, x, none⟩ = some (.int .i64 c.2)) := hcell
      clear x6 hcell H15 X5 O5
      generalize w5.heap.size = G at *
      have HSL := stand_len F i zl zc i
      have HSG : Hid (∀ j, j < i → F < zl j → (stand F i zl zc i)[(stand F i zl zc j).length]? = some (zl j, zc j)) := fun j hj h => by rw [stand_all]; exact stand_get hj h
      have hstand : Hid (stand F i zl zc i = stand F i zl zc i) := rfl
      generalize hm : (stand F i zl zc i).length = m at *
      have HM : Hid ((stand F i zl zc i).length = m) := hm
      clear hm
      generalize latest base (stand F i zl zc i) = LT at *
      have t6 : (LT != LT) = false := by simp
      have t7 : ((m : Int) != (m : Int)) = false := by simp
      go_wp2_with fail
      clear t6 t7
      go_loopg [22, 23] i (fun gg s22 s23 wx => ∃ j : Nat, s23 = .int .i64 (j : Int) ∧ s22 = .int .i64 (((stand F i zl zc j).length : Nat) : Int) ∧ gg = i - j ∧ j ≤ i ∧ Hid (Below w6.heap.size w6 wx))
      case atStart => exact ⟨0, rfl, rfl, by simp, by omega, Below.refl _ _⟩
      case round =>
        obtain ⟨j, rfl, rfl, rfl, hj, B7⟩ := hrel
        by_cases c : j < i
        · have cj : (j : Int) < (i : Int) := by omega
          have XX := X6.out.trans (B7.out.mono X6.out.size)
          obtain ⟨A, rfl, hA⟩ := HL2.out.later XX (by omega)
          obtain ⟨C, rfl, hC⟩ := HC2.out.later XX (by omega)
          have c0 := hA j c
          have c1 := hC j c
          have hs1 : IntKind.i64.wrap ((j : Int) + 1) = (j : Int) + 1 := by rw [IntKind.wrap_i64]; omega
          clear XX hA hC
          by_cases ck : F < zl j
          · have hg := G6.out _ _ (HSG.out j c ck)
            have g0 := cell_later B7.out hg.1
            have g1 := cell_later B7.out hg.2
            have hk : (stand F i zl zc j).length < m := by
              have h := HSG.out j c ck
              rw [← HM.out]
              rcases Nat.lt_or_ge (stand F i zl zc j).length (stand F i zl zc i).length with q | q
              · exact q
              · rw [List.getElem?_eq_none q] at h; cases h
            have hlen : (((stand F i zl zc (j + 1)).length : Nat) : Int) = ((stand F i zl zc j).length : Int) + 1 := by rw [stand_keep c ck]; simp
            have HLE : Hid ((((stand F i zl zc (j + 1)).length : Nat) : Int) = ((stand F i zl zc j).length : Int) + 1) := hlen
            clear hlen hg
            generalize (stand F i zl zc j).length = k at *
            have hkI : (k : Int) < (m : Int) := by omega
            have hs2 : IntKind.i64.wrap ((k : Int) + 1) = (k : Int) + 1 := by rw [IntKind.wrap_i64]; omega
            have e1 : (zl j != zl j) = false := by simp
            have e2 : (zc j != zc j) = false := by simp
            simp only [] at g0 g1
            generalize zl j = L at *
            generalize zc j = Q at *
            go_upto_region 42 with fail
            go_quiet (fail)
            have B8 : Hid (Below w6.heap.size w6 _) := below_drewN B7.out nq
            go_wp2_with fail
            go_roundg (i - (j + 1))
            case measure => omega
            case rel => exact ⟨j + 1, by push_cast; rfl, by rw [HLE.out], rfl, by omega, B8⟩
          · have HK : Hid (stand F i zl zc (j + 1) = stand F i zl zc j) := stand_drop c ck
            go_wp2_with fail
            go_roundg (i - (j + 1))
            case measure => omega
            case rel => exact ⟨j + 1, by push_cast; rfl, by rw [HK.out], rfl, by omega, B7⟩
        · have cj : ¬ (j : Int) < (i : Int) := by omega
          have HE : Hid (Below w.heap.size w _) := (HB2.out.trans (X6.out.mono HB2.out.size)).trans (B7.out.mono (Nat.le_trans HB2.out.size X6.out.size))
          go_wp2_with fail
          go_ret
          exact ⟨rfl, HE.out⟩
end Go.Proofs.Qxb6613076a
