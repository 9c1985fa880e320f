/-
  THE SHELL OF A PROOF OF 'Rows.FnHeldForgetAtEarlierFloorFirstChangesNothingSaid' ('example.com/tidegate/tidegate/zzlaws_root_b1.FnHeldForgetAtEarlierFloorFirstChangesNothing'), WRITTEN BY PROGRAM (proof-skeleton.mjs, third state) off the guide's own print for that function. Not trusted: Lean checks it.
  The walk is filled by hand; the closed facts of the row are taken one by one (Closed); all else is the guide's own way at this function's number and types.
-/
import Derived.Test.Qxb6613076aRows
import Derived.Test.Qxb6613076aClosed
import Derived.Test.Qxb6613076aLaw4
import Derived.Test.Qxb6613076aHeldOut
import Derived.WalkKit
import Derived.ProofKit
import Derived.OpenShut
import Derived.ShutString
import Derived.ChangeOld
import Derived.Below
namespace Go.Proofs.Qxb6613076a.fnHeldForgetAtEarlierFloorFirstChangesNothing
open Go.ChangeShapes Go.WideShapes Go.ChangeAt Go.RowKit
open Go.ChangeMaps (open_string shut_string)
set_option linter.unusedVariables false

theorem own : ownKnob Try.prog.godebug = none := by kernel_rfl
theorem laidOut : laidOutB Try.prog = true := closed_laidOut

/-- WHAT THE WALK IS TOLD OF A SLICE OF INTEGERS THAT CAME IN: it is nil; or it leads to a row of 'cap' cells, the numbers 'zs' (the first 'len' are its elements, the rest its spare room), each fitting its kind. -/
def IsRow (k : IntKind) (w : World) (a : Option Addr) (len cap : Nat) (zs : List Int) : Prop :=
  (a = none ∧ len = 0 ∧ cap = 0 ∧ zs = []) ∨
  ∃ x, a = some x ∧ len ≤ cap ∧ cap ≤ maxLen ∧ zs.length = cap ∧ (∀ i, i < zs.length → w.cell? (x.add i) = some (.int k (zs.getD i 0))) ∧ ∀ n ∈ zs, (Lit.int k n).wf = true

/-! ### STEP 1: THE WALK: the Go text returns true, AND WRITES NOTHING THAT WAS THERE: 'Below w.heap.size w w'' (Derived/Below.lean: '.refl', '.alloc', '.drew', '.setCell' at a new block, '.trans'). Open each 'IsRow' by 'rcases' AHEAD of 'go_enter'; part every test ahead of the walk. -/
theorem walk (a0 : Option Addr) (len0 cap0 : Nat) (z0 : List Int) (a1 : Option Addr) (len1 cap1 : Nat) (z1 : List Int) (a2 : Bool) (a3 : Int) (a4 : Int) (a5 : Int) (a6 : Int) (w : World) (w0 : IsRow .i64 w a0 len0 cap0 z0) (w1 : IsRow .i64 w a1 len1 cap1 z1) (w3 : (Lit.int .i64 a3).wf = true) (w4 : (Lit.int .i64 a4).wf = true) (w5 : (Lit.int .i64 a5).wf = true) (w6 : (Lit.int .i64 a6).wf = true) :
    Calls Try.prog 4 #[.slice a0 len0 cap0, .slice a1 len1 cap1, .bool a2, .int .i64 a3, .int .i64 a4, .int .i64 a5, .int .i64 a6] w fun e w' => e = .returned (.bool true) ∧ Below w.heap.size w w' := by
  have b3 : -9223372036854775808 ≤ a3 ∧ a3 ≤ 9223372036854775807 := i64_of_wf w3
  have b4 : -9223372036854775808 ≤ a4 ∧ a4 ≤ 9223372036854775807 := i64_of_wf w4
  have b5 : -9223372036854775808 ≤ a5 ∧ a5 ≤ 9223372036854775807 := i64_of_wf w5
  have b6 : -9223372036854775808 ≤ a6 ∧ a6 ≤ 9223372036854775807 := i64_of_wf w6
  have row : ∀ (a : Option Addr) (len cap : Nat) (z : List Int), IsRow .i64 w a len cap z → RowIn w a len (fun i => z.getD i 0) ∧ (len : Int) ≤ 9223372036854775807 ∧ ∀ x, -9223372036854775808 ≤ z.getD x 0 ∧ z.getD x 0 ≤ 9223372036854775807 := by
    intro a len cap z h
    rcases h with ⟨rfl, rfl, rfl, rfl⟩ | ⟨x, rfl, hlc, hcm, hzl, hcell, hwf⟩
    · exact ⟨.inl ⟨rfl, rfl⟩, by omega, fun x => by simp⟩
    · refine ⟨.inr ⟨x, rfl, fun i hi => hcell i (by omega)⟩, ?_, getD_range hwf⟩
      have : maxLen = 9223372036854775807 := rfl
      omega
  obtain ⟨r0, n0, g0⟩ := row a0 len0 cap0 z0 w0
  obtain ⟨r1, n1, g1⟩ := row a1 len1 cap1 z1 w1
  by_cases h : len0 ≤ 32768 ∧ len1 ≤ 32768 ∧ len1 = len0 ∧ 1 ≤ a4 ∧ (a2 = true → a3 ≤ 9223372036854775807 - a4) ∧ a5 ≤ a6
  · obtain ⟨h1, h2, h3, h4, h5, h6⟩ := h
    subst h3
    exact law4_main a0 a1 len1 cap0 cap1 _ _ a2 a3 a4 a5 a6 w h1 r0 r1 (fun x _ => g0 x) b3.1 b3.2 h4 b4.2 b5.1 b6.2 h6 h5
  · exact law4_out a0 a1 len0 len1 cap0 cap1 a2 a3 a4 a5 a6 w b4.2 b4.1 n0 n1 h

/-! ### THE ROW's STEP: WRITTEN OUT: LEAVE IT -/
set_option maxRecDepth 100000 in
theorem lifted (os : Os) (started : os.Started) (H : Type) (enc : TypeId × Value → H) :
    ReturnsInHanded {} Try.checked os 4 .any (Rows.fnHeldForgetAtEarlierFloorFirstChangesNothingSpec.pre6 enc Try.prog Try.f4 Rows.fnHeldForgetAtEarlierFloorFirstChangesNothingRow.domain false) (Rows.fnHeldForgetAtEarlierFloorFirstChangesNothingSpec.post enc Try.prog Try.f4 false true false false) := by
  refine returnsInHanded_of_change (C := Try.checked) own started (by kernel_rfl) Try.func4
    (ChangeSpec.witness6 (enc := enc) (C := Try.checked) false ⟨#[], #[.slice none 0 0, .slice none 0 0, .bool false, .int .i64 0, .int .i64 0, .int .i64 0, .int .i64 0], []⟩ 8 (by kernel_rfl) (by kernel_rfl) (by kernel_rfl) (by kernel_rfl)) ?_
  intro W base args ds gs before hval0 hW hcnd _
  have hval : ∀ (j : Nat) t v, Try.f4.params[j]? = some t → args[j]? = some v → Value.okWide Try.prog W .any base t v := hval0
  have hW' := hW
  obtain ⟨p, q, hA0, hV, rfl, hfz, hnd⟩ := hW
  have hA : DataW.TrodAll enc Try.prog W 0 (fun _ => true) true Try.f4.params.toList args.toList ds p := hA0
  rw [Try.params4] at hA hval
  obtain ⟨v0, vs0, d0, ds0, p0, q0, hargs, rfl, rfl, h0, r0⟩ := trodAll_cons hA
  obtain ⟨v1, vs1, d1, ds1, p1, q1, rfl, rfl, rfl, h1, r1⟩ := trodAll_cons r0
  obtain ⟨v2, vs2, d2, ds2, p2, q2, rfl, rfl, rfl, h2, r2⟩ := trodAll_cons r1
  obtain ⟨v3, vs3, d3, ds3, p3, q3, rfl, rfl, rfl, h3, r3⟩ := trodAll_cons r2
  obtain ⟨v4, vs4, d4, ds4, p4, q4, rfl, rfl, rfl, h4, r4⟩ := trodAll_cons r3
  obtain ⟨v5, vs5, d5, ds5, p5, q5, rfl, rfl, rfl, h5, r5⟩ := trodAll_cons r4
  obtain ⟨v6, vs6, d6, ds6, p6, q6, rfl, rfl, rfl, h6, r6⟩ := trodAll_cons r5
  obtain ⟨rfl, rfl, rfl⟩ := trodAll_nil r6
  obtain rfl : args = #[v0, v1, v2, v3, v4, v5, v6] := by cases args; simp_all
  obtain ⟨rfl, rfl⟩ := trodVars_none hV
  obtain ⟨a0, len0, cap0, rfl⟩ := okWide_slice Try.underlying22 (hval 0 22 v0 rfl rfl)
  have k0 := h0
  have lt0 : ∀ x ∈ p0, x.block < W.heap.size := by obtain ⟨m, hm⟩ := k0; exact DataW.trod_lt m _ _ _ hm
  obtain ⟨z0, w0⟩ : ∃ zs, IsRow .i64 W a0 len0 cap0 zs := by
    obtain ⟨fuel, hf⟩ := h0
    rcases open_ints Try.underlying22 Try.underlying2 (by kernel_rfl) hf with ⟨hcs, _⟩ | ⟨x, l, c, zs, hcs, _, hl, hm, hz, _, hcell, hwz⟩
    · simp [Value.cells] at hcs
      obtain ⟨rfl, rfl, rfl⟩ := hcs
      exact ⟨[], .inl ⟨rfl, rfl, rfl, rfl⟩⟩
    · simp [Value.cells] at hcs
      obtain ⟨rfl, rfl, rfl⟩ := hcs
      exact ⟨zs, .inr ⟨_, rfl, hl, hm, by simpa using hz, hcell, hwz⟩⟩
  obtain ⟨a1, len1, cap1, rfl⟩ := okWide_slice Try.underlying22 (hval 1 22 v1 rfl rfl)
  have k1 := h1
  have lt1 : ∀ x ∈ p1, x.block < W.heap.size := by obtain ⟨m, hm⟩ := k1; exact DataW.trod_lt m _ _ _ hm
  obtain ⟨z1, w1⟩ : ∃ zs, IsRow .i64 W a1 len1 cap1 zs := by
    obtain ⟨fuel, hf⟩ := h1
    rcases open_ints Try.underlying22 Try.underlying2 (by kernel_rfl) hf with ⟨hcs, _⟩ | ⟨x, l, c, zs, hcs, _, hl, hm, hz, _, hcell, hwz⟩
    · simp [Value.cells] at hcs
      obtain ⟨rfl, rfl, rfl⟩ := hcs
      exact ⟨[], .inl ⟨rfl, rfl, rfl, rfl⟩⟩
    · simp [Value.cells] at hcs
      obtain ⟨rfl, rfl, rfl⟩ := hcs
      exact ⟨zs, .inr ⟨_, rfl, hl, hm, by simpa using hz, hcell, hwz⟩⟩
  obtain ⟨a2, rfl, rfl, rfl⟩ := open_bool Try.underlying4 (hval 2 4 v2 rfl rfl) h2
  obtain ⟨a3, rfl, rfl, rfl, w3⟩ := open_int Try.underlying2 (hval 3 2 v3 rfl rfl) h3
  obtain ⟨a4, rfl, rfl, rfl, w4⟩ := open_int Try.underlying2 (hval 4 2 v4 rfl rfl) h4
  obtain ⟨a5, rfl, rfl, rfl, w5⟩ := open_int Try.underlying2 (hval 5 2 v5 rfl rfl) h5
  obtain ⟨a6, rfl, rfl, rfl, w6⟩ := open_int Try.underlying2 (hval 6 2 v6 rfl rfl) h6
  clear hA0 hval0
  refine (walk a0 len0 cap0 z0 a1 len1 cap1 z1 a2 a3 a4 a5 a6 W w0 w1 w3 w4 w5 w6).mono fun e W' ⟨he, bel⟩ => ?_
  subst he
  exact ⟨_, rfl, _, _, _, [], _, [], hW', trodAll_mk1 (shut_bool Try.underlying4 _), (trodAll_cons_mk (Below.trod laidOut (by kernel_rfl) (of_decide_eq_true (by kernel_rfl)) k0 bel lt0) (trodAll_cons_mk (Below.trod laidOut (by kernel_rfl) (of_decide_eq_true (by kernel_rfl)) k1 bel lt1) (trodAll_cons_mk (shut_bool Try.underlying4 _) (trodAll_cons_mk (shut_int Try.underlying2 w3) (trodAll_cons_mk (shut_int Try.underlying2 w4) (trodAll_cons_mk (shut_int Try.underlying2 w5) (trodAll_cons_mk (shut_int Try.underlying2 w6) trodAll_mk0))))))), rfl, bel.frame _, fun h => by cases h⟩

theorem closed : joinedFacts Try.prog 4 Try.f4 Rows.fnHeldForgetAtEarlierFloorFirstChangesNothingSpec Rows.fnHeldForgetAtEarlierFloorFirstChangesNothingRow = true :=
  joined_of (by kernel_rfl) (by kernel_rfl) (by kernel_rfl) (by kernel_rfl) (by kernel_rfl) (by kernel_rfl) (by kernel_rfl) (by kernel_rfl) (by kernel_rfl) (by kernel_rfl) (by kernel_rfl) (by kernel_rfl) rfl rfl (by kernel_rfl)

theorem over : Rows.fnHeldForgetAtEarlierFloorFirstChangesNothingRow.holds Try.pinned (OpenSpec.ofChange Rows.fnHeldForgetAtEarlierFloorFirstChangesNothingSpec) :=
  OpenClaim.holds_of_wide 4 Try.f4 rfl rfl rfl rfl rfl rfl rfl ⟨rfl, rfl, rfl, rfl, rfl⟩ rfl rfl rfl rfl rfl (by kernel_rfl) Try.func4 closed
    (of_decide_eq_true (by kernel_rfl)) (by unfold Func.isWrapper; first | (rw [if_pos (by decide +kernel)]; kernel_rfl) | (rw [if_neg (by decide +kernel)]; exact ⟨rfl, rfl⟩))
    (fun os started H enc _ => lifted os started H enc)

/-- ████ THE STATEMENT ████ -/
theorem proved : Rows.FnHeldForgetAtEarlierFloorFirstChangesNothingSaid := over
#print axioms proved
end Go.Proofs.Qxb6613076a.fnHeldForgetAtEarlierFloorFirstChangesNothing
