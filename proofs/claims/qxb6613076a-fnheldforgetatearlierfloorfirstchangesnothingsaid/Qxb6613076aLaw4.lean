/-
  The law of held.forgetAt asked twice: the main walk.
-/
import Derived.Test.Qxb6613076aLaw3
namespace Go.Proofs.Qxb6613076a
open Go.RowKit Go.Deep
set_option linter.unusedVariables false
theorem standing_twice {F1 F2 : Int} (h : F1 ≤ F2) (cs : List (Int × Int)) : standing F2 (standing F1 cs) = standing F2 cs := by
  unfold standing
  rw [List.filter_filter]
  congr 1
  funext c
  by_cases q : F2 < c.1
  · have q' : F1 < c.1 := by omega
    simp [q, q']
  · simp [q]
theorem latest_ge : ∀ (cs : List (Int × Int)) (b : Int), b ≤ latest b cs ∧ ∀ c ∈ cs, c.1 ≤ latest b cs
  | [], b => ⟨Int.le_refl _, fun c h => by cases h⟩
  | a :: r, b => by
    obtain ⟨h1, h2⟩ := latest_ge r (if b < a.1 then a.1 else b)
    show b ≤ latest (if b < a.1 then a.1 else b) r ∧ ∀ c ∈ a :: r, c.1 ≤ latest (if b < a.1 then a.1 else b) r
    have h3 : b ≤ (if b < a.1 then a.1 else b) ∧ a.1 ≤ (if b < a.1 then a.1 else b) := by split <;> omega
    refine ⟨by omega, fun c hc => ?_⟩
    rcases List.mem_cons.mp hc with rfl | hc
    · omega
    · exact h2 c hc
theorem PolC.under {P B : Nat} {V V' : World} {lim win rate : Int} (h : PolC P V lim win rate) (b : Below B V V') (hP : P < B) : PolC P V' lim win rate := by
  obtain ⟨c0, c1, c2, c3, c4, c5, c6, c7⟩ := h
  refine ⟨?_, ?_, ?_, ?_, ?_, ?_, ?_, ?_⟩ <;> rw [b.cell hP] <;> assumption
set_option maxRecDepth 100000 in
set_option maxHeartbeats 6400000 in
theorem law4_main (a0 a1 : Option Addr) (n cap0 cap1 : Nat) (zl zc : Nat → Int) (hasS : Bool) (M win F1 F2 : Int) (w : World) (hn : n ≤ 32768) (R0 : RowIn w a0 n zl) (R1 : RowIn w a1 n zc)
    (hr : ∀ x, x < n → -9223372036854775808 ≤ zl x ∧ zl x ≤ 9223372036854775807) (hM1 : -9223372036854775808 ≤ M) (hM2 : M ≤ 9223372036854775807) (hw : 1 ≤ win) (hw' : win ≤ 9223372036854775807) (hF1 : -9223372036854775808 ≤ F1) (hF2 : F2 ≤ 9223372036854775807) (hFF : F1 ≤ F2) (hS : hasS = true → M ≤ 9223372036854775807 - win) :
    Calls Try.prog 4 #[.slice a0 n cap0, .slice a1 n cap1, .bool hasS, .int .i64 M, .int .i64 win, .int .i64 F1, .int .i64 F2] w fun e w' => e = .returned (.bool true) ∧ Below w.heap.size w w' := by
  have HR0 : Hid (RowIn w a0 n zl) := R0
  have HR1 : Hid (RowIn w a1 n zc) := R1
  have HR : Hid (∀ x, x < n → -9223372036854775808 ≤ zl x ∧ zl x ≤ 9223372036854775807) := hr
  have HS : Hid (hasS = true → M ≤ 9223372036854775807 - win) := hS
  have t1 : decide ((1048576 : Int) < (n : Int)) = false := by simp; omega
  have t2 : decide ((1048576 : Int) < (n : Int) + (n : Int)) = false := by simp; omega
  have t3 : decide ((32768 : Int) < (n : Int)) = false := by simp; omega
  have t4 : decide (win < 1) = false := by simp; omega
  have t5 : ((n : Int) != (n : Int)) = false := by simp
  have t6 : decide (F2 < F1) = false := by simp; omega
  have v1 : IntKind.i64.wrap ((n : Int) + (n : Int)) = (n : Int) + (n : Int) := by rw [IntKind.wrap_i64]; omega
  clear R0 R1 hr hS
  go_enter Try.func4, Try.ntmps4
  go_upto_region 11 with (go_at_call 16; go_in)
  go_cut [57] (fun x wx => x = .bool false ∧ wx = w)
  case first =>
    cases hasS with
    | false =>
      go_wp2_with fail
      go_meet
      exact ⟨rfl, rfl⟩
    | true =>
      have h := HS.out (by simp)
      have d : decide (9223372036854775807 - win < M) = false := by simp; omega
      go_wp2_with fail
      go_meet
      exact ⟨rfl, rfl⟩
  case rest =>
  obtain ⟨rfl, hwc⟩ := hcut
  rw [hwc]
  clear hwc
  clear t1 t2 t3 t4 t5 v1
  go_upto_region 15 with fail
  clear t6
  go_cut [62] (fun x wx => x = .bool a0.isSome ∧ wx = w)
  case first =>
    have hnil := fun w => run_neq_slice_nil_any (P := Try.prog) w 22 2 a0 n cap0 0 0 Try.underlying22
    cases a0 with
    | none =>
      go_wp2_with fail
      go_meet
      exact ⟨rfl, rfl⟩
    | some x =>
      go_wp2_with fail
      go_meet
      exact ⟨rfl, rfl⟩
  case rest =>
  obtain ⟨rfl, hwc⟩ := hcut
  rw [hwc]
  clear hwc
  go_upto_if 62 with fail
  go_cut [0] (fun x wx => ∃ la lc, x = .slice la n lc ∧ Hid (Below w.heap.size w wx ∧ SRow wx la n zl))
  case first =>
    rcases HR0.out with ⟨rfl, h0⟩ | ⟨x, rfl, hx⟩
    · go_wp2_with fail
      go_meet
      exact ⟨none, _, rfl, Below.refl _ _, fun h => by omega⟩
    · obtain ⟨w2, hcp, hb2, hs2, hc2⟩ := copied w x n cap0 zl 3 hx
      have hmk := run_make_row' (P := Try.prog) 22 2 (.int .i64 0) 8 Try.underlying22 Try.info2 rfl .i64 .i64 n (by omega) (by omega)
      have HX : Hid (Below w.heap.size w w2 ∧ ∀ j, j < n → w2.cell? ⟨w.heap.size, j, none⟩ = some (.int .i64 (zl j))) := ⟨hb2, hc2⟩
      clear hb2 hs2 hc2 hx
      go_wp2_with fail
      go_meet
      exact ⟨some ⟨w.heap.size, 0, none⟩, n, rfl, HX.out.1, fun _ => ⟨_, rfl, HX.out.2⟩⟩
  case rest =>
  obtain ⟨la, lc, rfl, HC⟩ := hcut
  obtain ⟨V1, hV1⟩ : ∃ V1, V1 = wc := ⟨_, rfl⟩
  rw [← hV1]
  have HB1 : Hid (Below w.heap.size w V1) := by rw [hV1]; exact HC.out.1
  have HL1 : Hid (SRow V1 la n zl) := by rw [hV1]; exact HC.out.2
  have HR1' : Hid (RowIn V1 a1 n zc) := HR1.out.later HB1.out
  clear HC hV1 HR0 HR1
  go_upto_region 19 with fail
  go_cut [71] (fun x wx => x = .bool a1.isSome ∧ wx = V1)
  case first =>
    have hnil := fun w => run_neq_slice_nil_any (P := Try.prog) w 22 2 a1 n cap1 0 0 Try.underlying22
    cases a1 with
    | none =>
      go_wp2_with fail
      go_meet
      exact ⟨rfl, rfl⟩
    | some x =>
      go_wp2_with fail
      go_meet
      exact ⟨rfl, rfl⟩
  case rest =>
  obtain ⟨rfl, hwc⟩ := hcut
  rw [hwc]
  clear hwc
  go_upto_if 71 with fail
  go_cut [1] (fun x wx => ∃ ca cc, x = .slice ca n cc ∧ Hid (Below V1.heap.size V1 wx ∧ SRow wx ca n zc))
  case first =>
    rcases HR1'.out with ⟨rfl, h0⟩ | ⟨x, rfl, hx⟩
    · go_wp2_with fail
      go_meet
      exact ⟨none, _, rfl, Below.refl _ _, fun h => by omega⟩
    · obtain ⟨w2, hcp, hb2, hs2, hc2⟩ := copied V1 x n cap1 zc 3 hx
      have hmk := run_make_row' (P := Try.prog) 22 2 (.int .i64 0) 8 Try.underlying22 Try.info2 rfl .i64 .i64 n (by omega) (by omega)
      have HX : Hid (Below V1.heap.size V1 w2 ∧ ∀ j, j < n → w2.cell? ⟨V1.heap.size, j, none⟩ = some (.int .i64 (zc j))) := ⟨hb2, hc2⟩
      clear hb2 hs2 hc2 hx
      go_wp2_with fail
      go_meet
      exact ⟨some ⟨V1.heap.size, 0, none⟩, n, rfl, HX.out.1, fun _ => ⟨_, rfl, HX.out.2⟩⟩
  case rest =>
  obtain ⟨ca, cc, rfl, HC⟩ := hcut
  obtain ⟨V2, hV2⟩ : ∃ V2, V2 = wc := ⟨_, rfl⟩
  rw [← hV2]
  have x2 : Below V1.heap.size V1 V2 := by rw [hV2]; exact HC.out.1
  have HB2 : Hid (Below w.heap.size w V2) := HB1.out.trans (x2.mono HB1.out.size)
  have HL2 : Hid (SRow V2 la n zl) := HL1.out.later x2
  have HC2 : Hid (SRow V2 ca n zc) := by rw [hV2]; exact HC.out.2
  clear HC hV2 HR1' HB1 HL1 x2
  go_wp2_with fail
  refine (newPolicy_any 1 win 1 _).mono ?_
  rintro e w3 ⟨rfl, x3⟩
  have X3 : Hid (Below V2.heap.size V2 w3) := x3
  clear x3
  go_wp2_with fail
  obtain ⟨W3, hW3⟩ : ∃ W3, W3 = w3.alloc (.cells #[.int .u8 0, .int .i64 1, .int .i64 win, .int .i64 1, .int .u8 0, .int .i64 0, .int .i64 0, .int .i64 0] 31) := ⟨_, rfl⟩
  rw [← hW3]
  have XW : Hid (Below V2.heap.size V2 W3) := by rw [hW3]; exact X3.out.alloc X3.out.size _
  have PW : Hid (PolC w3.heap.size W3 1 win 1) := by rw [hW3]; unfold Hid PolC; simp [go_sem]
  have hPW : w3.heap.size < W3.heap.size := by rw [hW3]; simp
  clear hW3 X3
  generalize w3.heap.size = P at *
  refine (newHeld_any la ca n lc cc zl zc hasS M W3 hn (HL2.out.later XW.out) (HC2.out.later XW.out) HR.out hM1 hM2).mono ?_
  rintro e w4 ⟨rfl, x4, ob4⟩
  have X4 : Hid (Below V2.heap.size V2 w4) := XW.out.trans (x4.mono XW.out.size)
  have P4 : Hid (PolC P w4 1 win 1) := PW.out.later x4
  have O4 : Hid (HOb w4 W3.heap.size W3.heap.size (claimsOf n zl zc) hasS M) := ob4
  have Z4 : Hid (W3.heap.size ≤ w4.heap.size) := x4.size
  have ZB : Hid (V2.heap.size ≤ W3.heap.size) := XW.out.size
  clear x4 ob4 PW XW
  generalize W3.heap.size = h1 at *
  have RG : Hid (∀ c ∈ claimsOf n zl zc, -9223372036854775808 ≤ c.1 ∧ c.1 ≤ 9223372036854775807) := claimsOf_mem (P := fun c => -9223372036854775808 ≤ c.1 ∧ c.1 ≤ 9223372036854775807) HR.out
  have BR : Hid (∀ F : Int, -9223372036854775808 ≤ F → F ≤ 9223372036854775807 → -9223372036854775808 ≤ (if hasS then M + win else F) ∧ (if hasS then M + win else F) ≤ 9223372036854775807) := fun F f1 f2 => by
    split
    · have := HS.out (by assumption); omega
    · omega
  obtain ⟨b1, hb1⟩ : ∃ b1, b1 = if hasS then M + win else F1 := ⟨_, rfl⟩
  obtain ⟨base, hb2⟩ : ∃ base, base = if hasS then M + win else F2 := ⟨_, rfl⟩
  have HB1 : Hid (b1 = if hasS then M + win else F1) := hb1
  have HBS : Hid (base = if hasS then M + win else F2) := hb2
  clear hb1 hb2
  have h13 := hforget_ob h1 h1 (claimsOf n zl zc) hasS M F1 1 win 1 w4 O4.out Z4.out hF1 (by omega) (by omega) hw' (BR.out F1 hF1 (by omega)).1 (BR.out F1 hF1 (by omega)).2 RG.out
  rw [← HB1.out] at h13
  have H13 : Hid _ := h13
  clear h13
  obtain ⟨p0, p1, p2, p3, p4, p5, p6, p7⟩ := P4.out
  go_wp2_with fail
  refine Calls.mono H13.out ?_
  rintro e w5 ⟨rfl, b5, ob5⟩
  have X5 : Hid (Below V2.heap.size V2 w5) := X4.out.trans (b5.mono ZB.out)
  have P5 : Hid (PolC P w5 1 win 1) := P4.out.under b5 hPW
  have O5 : Hid (HOb w5 h1 h1 (standing F1 (claimsOf n zl zc)) hasS M) := ob5
  have Z5 : Hid (h1 ≤ w5.heap.size) := Nat.le_trans Z4.out b5.size
  clear b5 ob5 H13 X4 P4 O4 Z4 p0 p1 p2 p3 p4 p5 p6 p7
  have h13 := hforget_ob h1 h1 (standing F1 (claimsOf n zl zc)) hasS M F2 1 win 1 w5 O5.out Z5.out (by omega) hF2 (by omega) hw' (BR.out F2 (by omega) hF2).1 (BR.out F2 (by omega) hF2).2 (fun c hc => RG.out c (List.mem_filter.mp (show c ∈ (claimsOf n zl zc).filter _ from hc)).1)
  rw [standing_twice hFF, ← HBS.out] at h13
  have H13 : Hid _ := h13
  clear h13
  obtain ⟨p0, p1, p2, p3, p4, p5, p6, p7⟩ := P5.out
  go_wp2_with fail
  refine Calls.mono H13.out ?_
  rintro e w6 ⟨rfl, b6, ob6⟩
  have X6 : Hid (Below V2.heap.size V2 w6) := X5.out.trans (b6.mono ZB.out)
  have P6 : Hid (PolC P w6 1 win 1) := P5.out.under b6 hPW
  have O6 : Hid (HOb w6 h1 h1 (standing F2 (claimsOf n zl zc)) hasS M) := ob6
  have Z6 : Hid (h1 ≤ w6.heap.size) := Nat.le_trans Z5.out b6.size
  clear b6 ob6 H13 X5 P5 O5 Z5 p0 p1 p2 p3 p4 p5 p6 p7
  go_wp2_with fail
  refine (newHeld_any la ca n lc cc zl zc hasS M w6 hn (HL2.out.later X6.out) (HC2.out.later X6.out) HR.out hM1 hM2).mono ?_
  rintro e w7 ⟨rfl, x7, ob7⟩
  have X7 : Hid (Below w6.heap.size w6 w7) := x7
  have P7 : Hid (PolC P w7 1 win 1) := P6.out.later x7
  have O7 : Hid (HOb w7 w6.heap.size w6.heap.size (claimsOf n zl zc) hasS M) := ob7
  clear x7 ob7
  have h13 := hforget_ob w6.heap.size w6.heap.size (claimsOf n zl zc) hasS M F2 1 win 1 w7 O7.out X7.out.size (by omega) hF2 (by omega) hw' (BR.out F2 (by omega) hF2).1 (BR.out F2 (by omega) hF2).2 RG.out
  rw [← HBS.out] at h13
  have H13 : Hid _ := h13
  clear h13
  obtain ⟨p0, p1, p2, p3, p4, p5, p6, p7⟩ := P7.out
  go_wp2_with fail
  refine Calls.mono H13.out ?_
  rintro e w8 ⟨rfl, b8, ob8⟩
  have X68 : Hid (Below w6.heap.size w6 w8) := X7.out.trans b8
  have X8 : Hid (Below V2.heap.size V2 w8) := X6.out.trans (X68.out.mono X6.out.size)
  have O8 : Hid (HOb w8 w6.heap.size w6.heap.size (standing F2 (claimsOf n zl zc)) hasS M) := ob8
  have Q8 : Hid (HOb w8 h1 h1 (standing F2 (claimsOf n zl zc)) hasS M) := O6.out.later X68.out
  clear b8 ob8 H13 X7 P6 P7 O6 O7 Z6 X68 X6 p0 p1 p2 p3 p4 p5 p6 p7
  generalize w6.heap.size = h2 at *
  have RS : Hid (∀ (x : Nat) (c : Int × Int), (standing F2 (claimsOf n zl zc))[x]? = some c → -9223372036854775808 ≤ c.1 ∧ c.1 ≤ 9223372036854775807) := fun x c hx => RG.out c (List.mem_filter.mp (show c ∈ (claimsOf n zl zc).filter _ from List.mem_of_getElem? hx)).1
  have LG := latest_ge (standing F2 (claimsOf n zl zc)) base
  have HLG : Hid (base ≤ latest base (standing F2 (claimsOf n zl zc)) ∧ ∀ x, x < n → F2 < zl x → zl x ≤ latest base (standing F2 (claimsOf n zl zc))) := by
    refine ⟨LG.1, fun x hx h => ?_⟩
    refine LG.2 (zl x, zc x) ?_
    exact List.mem_filter.mpr ⟨List.mem_of_getElem? (claimsOf_get hx), by simpa using h⟩
  clear LG BR HB1
  have HMN : Hid ((standing F2 (claimsOf n zl zc)).length ≤ n) := by have h := standing_le F2 (claimsOf n zl zc); rw [claimsOf_length] at h; exact h
  generalize latest base (standing F2 (claimsOf n zl zc)) = LT at *
  generalize standing F2 (claimsOf n zl zc) = cs' at *
  have t6 : (LT != LT) = false := by simp
  go_wp2_with fail
  have h15 := hclaims_ob h1 h1 cs' hasS M w8 Q8.out RS.out
  have H15 : Hid _ := h15
  clear h15
  refine Calls.mono H15.out ?_
  rintro e w9 ⟨rfl, x9, c9⟩
  have X9 : Hid (Below V2.heap.size V2 w9) := X8.out.trans (x9.mono X8.out.size)
  have O9 : Hid (HOb w9 h2 h2 cs' hasS M) := O8.out.later x9
  have G9 : Hid (∀ (x : Nat) (c : Int × Int), cs'[x]? = some c → w9.cell? ⟨w8.heap.size, x, none⟩ = some (.int .i64 c.1) ∧ w9.cell? ⟨w8.heap.size + 1, x, none⟩ = some (.int .i64 c.2)) := c9
  clear H15 x9 c9 X8 O8 Q8 t6
  generalize w8.heap.size = G1 at *
  go_wp2_with fail
  have h15 := hclaims_ob h2 h2 cs' hasS M w9 O9.out RS.out
  have H15 : Hid _ := h15
  clear h15
  refine Calls.mono H15.out ?_
  rintro e w10 ⟨rfl, x10, c10⟩
  have XA : Hid (Below V2.heap.size V2 w10) := X9.out.trans (x10.mono X9.out.size)
  have GA : Hid (∀ (x : Nat) (c : Int × Int), cs'[x]? = some c → w10.cell? ⟨G1, x, none⟩ = some (.int .i64 c.1) ∧ w10.cell? ⟨G1 + 1, x, none⟩ = some (.int .i64 c.2)) := fun x c h => ⟨cell_later x10 (G9.out x c h).1, cell_later x10 (G9.out x c h).2⟩
  have GB : Hid (∀ (x : Nat) (c : Int × Int), cs'[x]? = some c → w10.cell? ⟨w9.heap.size, x, none⟩ = some (.int .i64 c.1) ∧ w10.cell? ⟨w9.heap.size + 1, x, none⟩ = some (.int .i64 c.2)) := c10
  clear H15 x10 c10 X9 O9 G9 RS
  generalize w9.heap.size = G2 at *
  generalize hm : cs'.length = m at *
  have HM : Hid (cs'.length = m) := hm
  have hmn : (m : Int) ≤ 32768 := by
    have := HMN.out
    omega
  clear hm
  have t7 : ((m : Int) != (m : Int)) = false := by simp
  go_wp2_with fail
  clear t7
  go_loopg [26] m (fun gg s26 wx => ∃ j : Nat, s26 = .int .i64 (j : Int) ∧ gg = m - j ∧ j ≤ m ∧ Hid (Below w10.heap.size w10 wx))
  case atStart => exact ⟨0, rfl, by simp, by omega, Below.refl _ _⟩
  case round =>
    obtain ⟨j, rfl, rfl, hj, B7⟩ := hrel
    by_cases c : j < m
    · have cj : (j : Int) < (m : Int) := by omega
      obtain ⟨L, Q, hLC⟩ : ∃ L Q, cs'[j]? = some (L, Q) := ⟨(cs'[j]'(by have := HM.out; omega)).1, (cs'[j]'(by have := HM.out; omega)).2, by rw [List.getElem?_eq_getElem]⟩
      have g0 := cell_later B7.out (GA.out j _ hLC).1
      have g1 := cell_later B7.out (GA.out j _ hLC).2
      have g2 := cell_later B7.out (GB.out j _ hLC).1
      have g3 := cell_later B7.out (GB.out j _ hLC).2
      simp only [] at g0 g1 g2 g3
      have hs1 : IntKind.i64.wrap ((j : Int) + 1) = (j : Int) + 1 := by rw [IntKind.wrap_i64]; omega
      have e1 : (L != L) = false := by simp
      have e2 : (Q != Q) = false := by simp
      clear hLC
      go_upto_region 38 with fail
      go_quiet (fail)
      have B8 : Hid (Below w10.heap.size w10 _) := below_drewN B7.out nq
      go_wp2_with fail
      go_roundg (m - (j + 1))
      case measure => omega
      case rel => exact ⟨j + 1, by push_cast; rfl, rfl, by omega, B8⟩
    · have cj : ¬ (j : Int) < (m : Int) := by omega
      have hge := HLG.out.1
      clear GA GB
      cases hasS with
      | false =>
        obtain rfl : base = F2 := by simpa using HBS.out
        have d1 : decide (LT < base) = false := by simp; omega
        clear HBS HS
        go_wp2_with fail
        go_loopg [28] n (fun gg s28 wx => ∃ k : Nat, s28 = .int .i64 (k : Int) ∧ gg = n - k ∧ k ≤ n ∧ Hid (Below w10.heap.size w10 wx))
        case atStart => exact ⟨0, rfl, by simp, by omega, B7⟩
        case round =>
          clear B7
          obtain ⟨k, rfl, rfl, hk, B7⟩ := hrel
          by_cases c : k < n
          · have ck : (k : Int) < (n : Int) := by omega
            have XX := XA.out.trans (B7.out.mono XA.out.size)
            obtain ⟨A, rfl, hA⟩ := HL2.out.later XX (by omega)
            have c0 := hA k c
            have hs1 : IntKind.i64.wrap ((k : Int) + 1) = (k : Int) + 1 := by rw [IntKind.wrap_i64]; omega
            clear XX hA
            by_cases cf : base < zl k
            · have hle := HLG.out.2 k c cf
              have d2 : decide (LT < zl k) = false := by simp; omega
              go_wp2_with fail
              go_roundg (n - (k + 1))
              case measure => omega
              case rel => exact ⟨k + 1, by push_cast; rfl, rfl, by omega, B7⟩
            · go_wp2_with fail
              go_roundg (n - (k + 1))
              case measure => omega
              case rel => exact ⟨k + 1, by push_cast; rfl, rfl, by omega, B7⟩
          · have ck : ¬ (k : Int) < (n : Int) := by omega
            have HE : Hid (Below w.heap.size w _) := (HB2.out.trans (XA.out.mono HB2.out.size)).trans (B7.out.mono (Nat.le_trans HB2.out.size XA.out.size))
            go_wp2_with fail
            go_ret
            exact ⟨rfl, HE.out⟩
      | true =>
        have hb : base = M + win := by simpa using HBS.out
        have h := HS.out (by simp)
        have v2 : IntKind.i64.wrap (M + win) = M + win := by rw [IntKind.wrap_i64]; omega
        have d1 : decide (LT < M + win) = false := by simp; omega
        clear HBS HS hb h
        go_wp2_with fail
        go_loopg [28] n (fun gg s28 wx => ∃ k : Nat, s28 = .int .i64 (k : Int) ∧ gg = n - k ∧ k ≤ n ∧ Hid (Below w10.heap.size w10 wx))
        case atStart => exact ⟨0, rfl, by simp, by omega, B7⟩
        case round =>
          clear B7
          obtain ⟨k, rfl, rfl, hk, B7⟩ := hrel
          by_cases c : k < n
          · have ck : (k : Int) < (n : Int) := by omega
            have XX := XA.out.trans (B7.out.mono XA.out.size)
            obtain ⟨A, rfl, hA⟩ := HL2.out.later XX (by omega)
            have c0 := hA k c
            have hs1 : IntKind.i64.wrap ((k : Int) + 1) = (k : Int) + 1 := by rw [IntKind.wrap_i64]; omega
            clear XX hA
            by_cases cf : F2 < zl k
            · have hle := HLG.out.2 k c cf
              have d2 : decide (LT < zl k) = false := by simp; omega
              go_wp2_with fail
              go_roundg (n - (k + 1))
              case measure => omega
              case rel => exact ⟨k + 1, by push_cast; rfl, rfl, by omega, B7⟩
            · go_wp2_with fail
              go_roundg (n - (k + 1))
              case measure => omega
              case rel => exact ⟨k + 1, by push_cast; rfl, rfl, by omega, B7⟩
          · have ck : ¬ (k : Int) < (n : Int) := by omega
            have HE : Hid (Below w.heap.size w _) := (HB2.out.trans (XA.out.mono HB2.out.size)).trans (B7.out.mono (Nat.le_trans HB2.out.size XA.out.size))
            go_wp2_with fail
            go_ret
            exact ⟨rfl, HE.out⟩
end Go.Proofs.Qxb6613076a
