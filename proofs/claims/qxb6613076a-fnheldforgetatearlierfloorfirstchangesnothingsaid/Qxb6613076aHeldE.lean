/-
  held.forgetAt at no claims.
-/
import Derived.Test.Qxb6613076aHeldD
namespace Go.Proofs.Qxb6613076a
open Go.RowKit
set_option linter.unusedVariables false
set_option maxRecDepth 100000 in
set_option maxHeartbeats 3200000 in
theorem forgetAt_nil (hb : Nat) (st : Value) (F base lim win rate : Int) (w : World) (H : Hd w hb st (.slice none 0 0)) (HK : ∀ o, w.frozen? ⟨hb, o, none⟩ = false) (HS : StAt w st hb hb F base win) (hw : 0 ≤ win) (hw' : win ≤ 9223372036854775807) :
    Calls Try.prog 35 #[.pointer (some ⟨hb, 0, none⟩), .agg #[.int .u8 0, .int .i64 lim, .int .i64 win, .int .i64 rate, .int .u8 0, .int .i64 0, .int .i64 0, .int .i64 0], .agg #[.int .u64 (tN F), .int .i64 (tS F), .pointer none]] w fun e w' =>
      e = .returned (.agg #[.int .u64 (tN base), .int .i64 (tS base), .pointer none]) ∧ Kept hb hb w w' ∧ Hd w' hb st (.slice none 0 0) ∧ (∀ o, w'.frozen? ⟨hb, o, none⟩ = false) ∧ StAt w' st hb hb F base win := by
  have hbl : hb < w.heap.size := World.block_lt_of_cell? _ _ H.s
  have b1 : hb < w.heap.size + 1 := by omega
  have b2 : hb < w.heap.size + 1 + 1 := by omega
  have b3 : hb < w.heap.size + 1 + 1 + 1 := by omega
  have b4 : hb < w.heap.size + 1 + 1 + 1 + 1 := by omega
  have HH : Hid (Hd w hb st (.slice none 0 0)) := H
  have HK' : Hid (∀ o, w.frozen? ⟨hb, o, none⟩ = false) := HK
  have HS' : Hid (StAt w st hb hb F base win) := HS
  have c2 := H.c
  clear H HK HS
  go_enter Try.func35, Try.ntmps35
  go_wp2_with fail
  obtain ⟨W0, hW0⟩ : ∃ W0, W0 = ((w.alloc (.cells #[.int .u8 0, .int .i64 lim, .int .i64 win, .int .i64 rate, .int .u8 0, .int .i64 0, .int .i64 0, .int .i64 0] 31)).alloc (.cells #[.int .u64 (tN F), .int .i64 (tS F), .pointer none] 69)).alloc (.cells #[.int .u64 0, .int .i64 0, .pointer none] 69) := ⟨_, rfl⟩
  rw [← hW0]
  have hX : Below w.heap.size w W0 := by rw [hW0]; go_grown
  have P0 : PolC w.heap.size W0 lim win rate := by rw [hW0]; unfold PolC; simp [go_sem]
  have T0 : TmAt W0 (w.heap.size + 1) F := by rw [hW0]; constructor <;> simp [go_sem]
  have R0 : TmAt W0 (w.heap.size + 1 + 1) 0 := by rw [hW0]; constructor <;> simp [go_sem, tz.1, tz.2]
  have F0 : W0.frozen? ⟨w.heap.size + 1 + 1, 0, none⟩ = false := by rw [hW0]; simp [go_sem]
  have F1 : W0.frozen? ⟨w.heap.size + 1 + 1, 1, none⟩ = false := by rw [hW0]; simp [go_sem]
  have F2 : W0.frozen? ⟨w.heap.size + 1 + 1, 2, none⟩ = false := by rw [hW0]; simp [go_sem]
  refine (delete_nil _ W0).mono ?_
  rintro e w1 ⟨rfl, rfl⟩
  have k1 : Kept hb hb w1 w1 := Kept.refl _ _ _
  have hrl : w.heap.size + 1 + 1 < w1.heap.size := World.block_lt_of_cell? _ _ R0.c0
  have G1 : Hid (Kept hb hb w w1) := Kept.of_below hX
  have A1 : Hid (Hd w1 hb st (.slice none 0 0)) := HH.out.later hX
  have A2 : Hid (PolC w.heap.size w1 lim win rate) := P0
  have A3 : Hid (TmAt w1 (w.heap.size + 1) F) := T0
  have A4 : Hid (TmAt w1 (w.heap.size + 1 + 1) 0) := R0
  have A5 : Hid (w1.frozen? ⟨w.heap.size + 1 + 1, 0, none⟩ = false ∧ w1.frozen? ⟨w.heap.size + 1 + 1, 1, none⟩ = false ∧ w1.frozen? ⟨w.heap.size + 1 + 1, 2, none⟩ = false) := ⟨F0, F1, F2⟩
  have A7 : Hid (Blk w1 hb 0) := ⟨fun o ho => by omega, fun o => by rw [hX.frozen (p := ⟨hb, o, none⟩) hbl]; exact HK'.out o⟩
  have hs1 : w.heap.size + 1 + 1 < w1.heap.size := hrl
  have a1 := A1.out.c
  have a2 := A1.out.f
  have a3 := A3.out.c0
  have a4 := A3.out.c1
  have a5 := A3.out.c2
  have a6 : ¬ w.heap.size + 1 = hb := by omega
  have a7 : ¬ hb = w.heap.size + 1 := by omega
  clear hX P0 T0 R0 F0 F1 F2 k1 HH HK' c2 hW0 hrl b1 b2 b3 b4
  go_upto_region 3 with fail
  refine gen_wp _ (fun V => Hid (Fa V w.heap.size hb hb 0 w1.heap.size st (.slice none 0 0) F F lim win rate [] ∧ Kept hb hb w V ∧ hb < V.heap.size)) ?_ ?_
  · have k2 : Kept hb hb w1 (w1.setCell ⟨hb, 2, none⟩ (.slice none 0 0)) := (Kept.refl hb hb w1).setCell ⟨hb, 2, none⟩ _ (.inl rfl)
    have al : Below (w1.setCell ⟨hb, 2, none⟩ (.slice none 0 0)).heap.size (w1.setCell ⟨hb, 2, none⟩ (.slice none 0 0)) ((w1.setCell ⟨hb, 2, none⟩ (.slice none 0 0)).alloc (.cells #[.int .u64 (tN F), .int .i64 (tS F), .pointer none] 69)) := (Below.refl _ _).alloc (Nat.le_refl _) _
    have hg1 : hb < w1.heap.size := Nat.lt_of_lt_of_le hbl G1.out.size
    have hgV : hb < (w1.setCell ⟨hb, 2, none⟩ (.slice none 0 0)).heap.size := by simpa using hg1
    have q1 : w.heap.size ≠ hb := by omega
    have q2 : w.heap.size + 1 ≠ hb := by omega
    have q3 : w.heap.size + 1 + 1 ≠ hb := by omega
    have hres := A4.out.kept k2 q3 q3
    have ff : ∀ o, w1.frozen? ⟨w.heap.size + 1 + 1, o, none⟩ = false → ((w1.setCell ⟨hb, 2, none⟩ (.slice none 0 0)).alloc (.cells #[.int .u64 (tN F), .int .i64 (tS F), .pointer none] 69)).frozen? ⟨w.heap.size + 1 + 1, o, none⟩ = false := fun o h => by
      rw [World.frozen?_alloc_past _ _ _ (by simpa using hs1), World.frozen?_setCell]; exact h
    refine ⟨⟨(A1.out.put _).later al, (A7.out.setCell _ _).of_block (al.block hb hgV), fun x c h => by simp at h, (A2.out.kept k2 q1 q1).later al, (A3.out.kept k2 q2 q2).later al, hres.later al,
      ff 0 A5.out.1, ff 1 A5.out.2.1, ff 2 A5.out.2.2, ?_, ?_, ?_, ?_⟩, (G1.out.trans k2.wide').alloc _, Nat.lt_of_lt_of_le hgV al.size⟩
    · constructor <;> simp [go_sem]
    all_goals simp [go_sem]
  generalize hT : w1.heap.size = T
  have hTw : w.heap.size + 1 + 1 < T := by omega
  clear A1 A2 A3 A4 A5 A7 a1 a2 a3 a4 a5 a6 a7 G1 hT hs1
  rintro V HV
  have A : Hid (Fa V w.heap.size hb hb 0 T st (.slice none 0 0) F F lim win rate []) := HV.out.1
  have K : Hid (Kept hb hb w V) := HV.out.2.1
  have hgV : hb < V.heap.size := HV.out.2.2
  clear HV
  obtain ⟨z, hz0, hz1⟩ : ∃ z : Bool, Hid (z = false → st = .nilIface ∧ base = F) ∧ Hid (z = true → ∃ wb g2 c M, st = .iface 60 (.pointer (some ⟨wb, 0, none⟩)) ∧ LastAt V wb g2 c M ∧ base = M + win ∧ -9223372036854775808 ≤ M ∧ M ≤ 9223372036854775807) := by
    rcases HS'.out.kept K.out with h | ⟨wb, g2, c, M, h1, h2, h3, h4, h5, _⟩
    · exact ⟨false, fun _ => h, fun x => by cases x⟩
    · exact ⟨true, fun x => by (cases x), fun _ => ⟨wb, g2, c, M, h1, h2, h3, h4, h5⟩⟩
  have s1 := A.out.hd.s
  go_cut [24] (fun x wx => x = .bool z ∧ wx = V)
  case first =>
    cases z with
    | false =>
      obtain ⟨rfl, -⟩ := hz0.out (by simp)
      go_wp2_with fail
      go_meet
      exact ⟨rfl, rfl⟩
    | true =>
      obtain ⟨wb, g2, c, M, rfl, -⟩ := hz1.out (by simp)
      go_wp2_with fail
      go_meet
      exact ⟨rfl, rfl⟩
  case rest =>
  obtain ⟨rfl, rfl⟩ := hcut
  clear s1
  go_upto_if 24 with fail
  go_cut [24] (fun x wx => x = .bool z ∧ Hid (Fa wx w.heap.size hb hb 0 T st (.slice none 0 0) F base lim win rate [] ∧ Kept hb hb w wx ∧ hb < wx.heap.size))
  case first =>
    cases z with
    | false =>
      obtain ⟨rfl, rfl⟩ := hz0.out (by simp)
      go_wp2_with fail
      go_meet
      exact ⟨rfl, A.out, K.out, hgV⟩
    | true =>
      obtain ⟨wb, g2, c, M, rfl, hLa, rfl, hM1, hM2⟩ := hz1.out (by simp)
      go_upto_region 4 with fail
      have CW : Hid (∀ W, LastAt W wb g2 c M → Calls Try.prog 92 #[.pointer (some ⟨wb, 0, none⟩), .agg #[.int .u8 0, .int .i64 lim, .int .i64 win, .int .i64 rate, .int .u8 0, .int .i64 0, .int .i64 0, .int .i64 0], .agg #[.int .u64 (tN F), .int .i64 (tS F), .pointer none]] W fun e w' => e = .returned (.agg #[.int .u64 (tN (M + win)), .int .i64 (tS (M + win)), .pointer none]) ∧ Below W.heap.size W w') :=
        fun W h => wforget_any wb g2 c M lim win rate _ _ W h hM1 hM2 hw hw'
      have n1 : hb ≠ T := by omega
      have n2 : w.heap.size ≠ T := by omega
      have n3 : w.heap.size + 1 ≠ T := by omega
      have HLa : Hid (LastAt wc wb g2 c M) := hLa
      have s1 := A.out.hd.s
      have l0 := A.out.lat.c0
      have l1 := A.out.lat.c1
      have l2 := A.out.lat.c2
      have f0 := A.out.ft0
      have f1 := A.out.ft1
      have f2 := A.out.ft2
      clear hLa
      go_region_held3 (fun V' => Kept T T wc V' ∧ V'.cell? ⟨hb, 1, none⟩ = some (.iface 60 (.pointer (some ⟨wb, 0, none⟩))) ∧ (V'.cell? ⟨w.heap.size, 0, none⟩ = some (.int .u8 0) ∧ V'.cell? ⟨w.heap.size, 1, none⟩ = some (.int .i64 lim) ∧ V'.cell? ⟨w.heap.size, 2, none⟩ = some (.int .i64 win) ∧ V'.cell? ⟨w.heap.size, 3, none⟩ = some (.int .i64 rate) ∧ V'.cell? ⟨w.heap.size, 4, none⟩ = some (.int .u8 0) ∧ V'.cell? ⟨w.heap.size, 5, none⟩ = some (.int .i64 0) ∧ V'.cell? ⟨w.heap.size, 6, none⟩ = some (.int .i64 0) ∧ V'.cell? ⟨w.heap.size, 7, none⟩ = some (.int .i64 0)) ∧
          V'.cell? ⟨w.heap.size + 1, 0, none⟩ = some (.int .u64 (tN F)) ∧ V'.cell? ⟨w.heap.size + 1, 1, none⟩ = some (.int .i64 (tS F)) ∧ V'.cell? ⟨w.heap.size + 1, 2, none⟩ = some (.pointer none))
        (first
        | (exact s35 s1 A.out.pol A.out.flo n1 n2 n3 ((Kept.refl _ _ wc).drew))
        | (exact s35 s1 A.out.pol A.out.flo n1 n2 n3 (hkeptL (by assumption) (by assumption)))
        | (exact s35 s1 A.out.pol A.out.flo n1 n2 n3 (hkeptS3 (by assumption))))
        (first
        | (go_at_call 92; refine (CW.out _ (HLa.out.later ((Below.refl _ _).drew))).mono ?_; rintro e w3 ⟨rfl, x3⟩; have l0' := cell_later (bdrew x3) l0; have l1' := cell_later (bdrew x3) l1; have l2' := cell_later (bdrew x3) l2; have f0' := hfrozen (bdrew x3) l0 f0; have f1' := hfrozen (bdrew x3) l0 f1; have f2' := hfrozen (bdrew x3) l0 f2)
        | (go_invoke; go_at_call 92; refine (CW.out _ (HLa.out.later ((Below.refl _ _).drew))).mono ?_; rintro e w3 ⟨rfl, x3⟩; have l0' := cell_later (bdrew x3) l0; have l1' := cell_later (bdrew x3) l1; have l2' := cell_later (bdrew x3) l2; have f0' := hfrozen (bdrew x3) l0 f0; have f1' := hfrozen (bdrew x3) l0 f1; have f2' := hfrozen (bdrew x3) l0 f2))
      go_wp2_with fail
      go_meet
      have hY := bdrew x3
      exact ⟨rfl, (A.out.later hgV hY).putL n1 (by omega) hTw (M + win), (K.out.later hY).three (by omega) _ _ _, by simpa using Nat.lt_of_lt_of_le hgV x3.size⟩
  case rest =>
    obtain ⟨rfl, HC⟩ := hcut
    clear A K hgV hz0 hz1
    have A : Hid (Fa wc w.heap.size hb hb 0 T st (.slice none 0 0) F base lim win rate []) := HC.out.1
    have K : Hid (Kept hb hb w wc) := HC.out.2.1
    have hgV : hb < wc.heap.size := HC.out.2.2
    clear HC
    have c2 := A.out.hd.c
    have l0 := A.out.lat.c0
    have l1 := A.out.lat.c1
    have l2 := A.out.lat.c2
    have r0 := A.out.res.c0
    have r1 := A.out.res.c1
    have r2 := A.out.res.c2
    have f0 := A.out.fr0
    have f1 := A.out.fr1
    have f2 := A.out.fr2
    have n4 : ¬ T = w.heap.size + 1 + 1 := by omega
    have n5 : ¬ w.heap.size + 1 + 1 = T := by omega
    go_wp2_with fail
    refine wp_loop_rounds 1 ?_
    rw [rounds_succ]
    go_wp2_with fail
    refine bodyPost_ret (v := .agg #[.int .u64 (tN base), .int .i64 (tS base), .pointer none]) (by simp [results, Try.results35, go_sem, r0, r1, r2]) rfl ?_
    have k9 : Kept (w.heap.size + 1 + 1) (w.heap.size + 1 + 1) wc (((wc.setCell ⟨w.heap.size + 1 + 1, 0, none⟩ (.int .u64 (tN base))).setCell ⟨w.heap.size + 1 + 1, 1, none⟩ (.int .i64 (tS base))).setCell ⟨w.heap.size + 1 + 1, 2, none⟩ (.pointer none)) := hkeptS3 (R := True) ⟨Kept.refl _ _ wc, trivial⟩
    have K9 := K.out.three (c := w.heap.size + 1 + 1) (by omega) (.int .u64 (tN base)) (.int .i64 (tS base)) (.pointer none)
    refine ⟨rfl, K9, A.out.hd.kept k9 (by omega) (by omega), (((A.out.blk.setCell _ _).setCell _ _).setCell _ _).free, HS'.out.kept K9⟩
end Go.Proofs.Qxb6613076a
