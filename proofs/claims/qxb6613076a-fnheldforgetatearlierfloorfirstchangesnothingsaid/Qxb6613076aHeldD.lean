/-
  held.forgetAt at a row of claims.
-/
import Derived.Test.Qxb6613076aHeldC
namespace Go.Proofs.Qxb6613076a
open Go.RowKit
set_option linter.unusedVariables false
/-- What the state says: no state: the floor F; a window: its last take's end. -/
def StAt (V : World) (st : Value) (hb g : Nat) (F base win : Int) : Prop :=
  (st = .nilIface ∧ base = F) ∨ ∃ wb g2 c M, st = .iface 60 (.pointer (some ⟨wb, 0, none⟩)) ∧ LastAt V wb g2 c M ∧ base = M + win ∧ -9223372036854775808 ≤ M ∧ M ≤ 9223372036854775807 ∧ wb ≠ hb ∧ wb ≠ g ∧ g2 ≠ hb ∧ g2 ≠ g
theorem StAt.later {V V' : World} {st : Value} {hb g : Nat} {F base win : Int} (h : StAt V st hb g F base win) (b : Below V.heap.size V V') : StAt V' st hb g F base win := by
  rcases h with h | ⟨wb, g2, c, M, h1, h2, h3⟩
  · exact .inl h
  · exact .inr ⟨wb, g2, c, M, h1, h2.later b, h3⟩
theorem StAt.kept {V V' : World} {st : Value} {hb g : Nat} {F base win : Int} (h : StAt V st hb g F base win) (k : Kept hb g V V') : StAt V' st hb g F base win := by
  rcases h with h | ⟨wb, g2, c, M, h1, h2, h3, h4, h5, n1, n2, n3, n4⟩
  · exact .inl h
  · exact .inr ⟨wb, g2, c, M, h1, ⟨k.cell h2.s n1 n2, k.cell h2.r0 n3 n4, k.cell h2.r1 n3 n4, k.cell h2.r2 n3 n4⟩, h3, h4, h5, n1, n2, n3, n4⟩
/-- What forgetAt's loop and its end want. -/
structure Fa (V : World) (B hb g n T : Nat) (st sl : Value) (F L lim win rate : Int) (cs : List (Int × Int)) : Prop where
  hd : Hd V hb st sl
  blk : Blk V g n
  rows : CRows V g 0 cs
  pol : PolC B V lim win rate
  flo : TmAt V (B + 1) F
  res : TmAt V (B + 1 + 1) 0
  fr0 : V.frozen? ⟨B + 1 + 1, 0, none⟩ = false
  fr1 : V.frozen? ⟨B + 1 + 1, 1, none⟩ = false
  fr2 : V.frozen? ⟨B + 1 + 1, 2, none⟩ = false
  lat : TmAt V T L
  ft0 : V.frozen? ⟨T, 0, none⟩ = false
  ft1 : V.frozen? ⟨T, 1, none⟩ = false
  ft2 : V.frozen? ⟨T, 2, none⟩ = false
theorem Fa.later {V V' : World} {B hb g n T : Nat} {st sl : Value} {F L lim win rate : Int} {cs : List (Int × Int)} (h : Fa V B hb g n T st sl F L lim win rate cs) (hg : g < V.heap.size) (b : Below V.heap.size V V') : Fa V' B hb g n T st sl F L lim win rate cs :=
  ⟨h.hd.later b, h.blk.of_block (b.block g hg), h.rows.later b, h.pol.later b, h.flo.later b, h.res.later b, hfrozen b h.res.c0 h.fr0, hfrozen b h.res.c0 h.fr1, hfrozen b h.res.c0 h.fr2, h.lat.later b, hfrozen b h.lat.c0 h.ft0, hfrozen b h.lat.c0 h.ft1, hfrozen b h.lat.c0 h.ft2⟩
theorem Fa.putL {V : World} {B hb g n T : Nat} {st sl : Value} {F L lim win rate : Int} {cs : List (Int × Int)} (h : Fa V B hb g n T st sl F L lim win rate cs) (n1 : hb ≠ T) (n2 : g ≠ T) (n3 : B + 1 + 1 < T) (L' : Int) :
    Fa (((V.setCell ⟨T, 0, none⟩ (.int .u64 (tN L'))).setCell ⟨T, 1, none⟩ (.int .i64 (tS L'))).setCell ⟨T, 2, none⟩ (.pointer none)) B hb g n T st sl F L' lim win rate cs := by
  have k : Kept T T V (((V.setCell ⟨T, 0, none⟩ (.int .u64 (tN L'))).setCell ⟨T, 1, none⟩ (.int .i64 (tS L'))).setCell ⟨T, 2, none⟩ (.pointer none)) := ((((Kept.refl T T V).setCell ⟨T, 0, none⟩ _ (.inl rfl)).setCell ⟨T, 1, none⟩ _ (.inl rfl)).setCell ⟨T, 2, none⟩ _ (.inl rfl))
  have ff : ∀ a, (((V.setCell ⟨T, 0, none⟩ (.int .u64 (tN L'))).setCell ⟨T, 1, none⟩ (.int .i64 (tS L'))).setCell ⟨T, 2, none⟩ (.pointer none)).frozen? a = V.frozen? a := fun a => by
    rw [World.frozen?_setCell, World.frozen?_setCell, World.frozen?_setCell]
  exact ⟨h.hd.kept k n1 n1, ((h.blk.setCell _ _).setCell _ _).setCell _ _, h.rows.kept k n2 n2, h.pol.kept k (by omega) (by omega), h.flo.kept k (by omega) (by omega), h.res.kept k (by omega) (by omega),
    (ff _).trans h.fr0, (ff _).trans h.fr1, (ff _).trans h.fr2, h.lat.put L', (ff _).trans h.ft0, (ff _).trans h.ft1, (ff _).trans h.ft2⟩
theorem Kept.wide' {x y : Nat} {w w' : World} (k : Kept x x w w') : Kept x y w w' := ⟨k.os, k.tape, k.output, k.size, fun i hi h1 _ => k.block i hi h1 h1⟩
theorem tz : tN 0 = 0 ∧ tS 0 = 0 := by unfold tN tS; omega
theorem s35 {V V' : World} {hb P T : Nat} {st : Value} {F lim win rate : Int} (h1 : V.cell? ⟨hb, 1, none⟩ = some st) (hp : PolC P V lim win rate) (hf : TmAt V (P + 1) F) (n1 : hb ≠ T) (n2 : P ≠ T) (n3 : P + 1 ≠ T) (k : Kept T T V V') :
    Kept T T V V' ∧ V'.cell? ⟨hb, 1, none⟩ = some st ∧ (V'.cell? ⟨P, 0, none⟩ = some (.int .u8 0) ∧ V'.cell? ⟨P, 1, none⟩ = some (.int .i64 lim) ∧ V'.cell? ⟨P, 2, none⟩ = some (.int .i64 win) ∧ V'.cell? ⟨P, 3, none⟩ = some (.int .i64 rate) ∧ V'.cell? ⟨P, 4, none⟩ = some (.int .u8 0) ∧ V'.cell? ⟨P, 5, none⟩ = some (.int .i64 0) ∧ V'.cell? ⟨P, 6, none⟩ = some (.int .i64 0) ∧ V'.cell? ⟨P, 7, none⟩ = some (.int .i64 0)) ∧
      V'.cell? ⟨P + 1, 0, none⟩ = some (.int .u64 (tN F)) ∧ V'.cell? ⟨P + 1, 1, none⟩ = some (.int .i64 (tS F)) ∧ V'.cell? ⟨P + 1, 2, none⟩ = some (.pointer none) :=
  ⟨k, k.cell h1 n1 n1, hp.kept k n2 n2, (hf.kept k n3 n3).c0, (hf.kept k n3 n3).c1, (hf.kept k n3 n3).c2⟩
set_option maxRecDepth 100000 in
set_option maxHeartbeats 3200000 in
theorem forgetAt_row (hb g n cap : Nat) (st : Value) (F base lim win rate : Int) (cs : List (Int × Int)) (w : World) (H : Hd w hb st (.slice (some ⟨g, 0, none⟩) n cap)) (hn : cs.length = n) (HR : CRows w g 0 cs) (HK : Blk w g n) (HS : StAt w st hb g F base win)
    (hgb : hb ≠ g) (hg : g < w.heap.size) (hn' : (n : Int) ≤ 32768) (hcap : n ≤ cap) (hw : 0 ≤ win) (hw' : win ≤ 9223372036854775807) :
    Calls Try.prog 35 #[.pointer (some ⟨hb, 0, none⟩), .agg #[.int .u8 0, .int .i64 lim, .int .i64 win, .int .i64 rate, .int .u8 0, .int .i64 0, .int .i64 0, .int .i64 0], .agg #[.int .u64 (tN F), .int .i64 (tS F), .pointer none]] w fun e w' =>
      e = .returned (.agg #[.int .u64 (tN (latest base (standing F cs))), .int .i64 (tS (latest base (standing F cs))), .pointer none]) ∧ Kept hb g w w' ∧ Hd w' hb st (.slice (some ⟨g, 0, none⟩) (standing F cs).length cap) ∧ Blk w' g n ∧ CRows w' g 0 (standing F cs) ∧ StAt w' st hb g F base win := by
  have hbl : hb < w.heap.size := World.block_lt_of_cell? _ _ H.s
  have hm : (standing F cs).length ≤ n := by rw [← hn]; exact List.length_filter_le _ _
  have b1 : hb < w.heap.size + 1 := by omega
  have b2 : hb < w.heap.size + 1 + 1 := by omega
  have b3 : hb < w.heap.size + 1 + 1 + 1 := by omega
  have b4 : hb < w.heap.size + 1 + 1 + 1 + 1 := by omega
  have HN : Hid (cs.length = n) := hn
  have HH : Hid (Hd w hb st (.slice (some ⟨g, 0, none⟩) n cap)) := H
  have HR' : Hid (CRows w g 0 cs) := HR
  have HK' : Hid (Blk w g n) := HK
  have HS' : Hid (StAt w st hb g F base win) := HS
  have c2 := H.c
  clear H HR HK HS hn
  go_enter Try.func35, Try.ntmps35
  go_wp2_with fail
  obtain ⟨W0, hW0⟩ : ∃ W0, W0 = ((w.alloc (.cells #[.int .u8 0, .int .i64 lim, .int .i64 win, .int .i64 rate, .int .u8 0, .int .i64 0, .int .i64 0, .int .i64 0] 31)).alloc (.cells #[.int .u64 (tN F), .int .i64 (tS F), .pointer none] 69)).alloc (.cells #[.int .u64 0, .int .i64 0, .pointer none] 69) := ⟨_, rfl⟩
  rw [← hW0]
  have hX : Below w.heap.size w W0 := by rw [hW0]; go_grown
  have P0 : PolC w.heap.size W0 lim win rate := by rw [hW0]; unfold PolC; simp [go_sem]
  have T0 : TmAt W0 (w.heap.size + 1) F := by rw [hW0]; constructor <;> simp [go_sem]
  have R0 : TmAt W0 (w.heap.size + 1 + 1) 0 := by rw [hW0]; constructor <;> simp [go_sem, tz.1, tz.2]
  have F0 : W0.frozen? ⟨w.heap.size + 1 + 1, 0, none⟩ = false := by rw [hW0]; simp [go_sem]
  have F1 : W0.frozen? ⟨w.heap.size + 1 + 1, 1, none⟩ = false := by rw [hW0]; simp [go_sem]
  have F2 : W0.frozen? ⟨w.heap.size + 1 + 1, 2, none⟩ = false := by rw [hW0]; simp [go_sem]
  refine (delete_any g n cap (w.heap.size + 1) F cs W0 HN.out (HR'.out.later hX) T0 (HK'.out.of_block (hX.block g hg)) (by omega) hn' hcap (Nat.lt_of_lt_of_le hg hX.size)).mono ?_
  rintro e w1 ⟨rfl, k1, hBlk, hRows⟩
  have hrl : w.heap.size + 1 + 1 < W0.heap.size := World.block_lt_of_cell? _ _ R0.c0
  have G1 : Hid (Kept hb g w w1) := (Kept.of_below hX).trans k1.wide
  have A1 : Hid (Hd w1 hb st (.slice (some ⟨g, 0, none⟩) n cap)) := (HH.out.later hX).kept k1 hgb hgb
  have A2 : Hid (PolC w.heap.size w1 lim win rate) := P0.kept k1 (by omega) (by omega)
  have A3 : Hid (TmAt w1 (w.heap.size + 1) F) := T0.kept k1 (by omega) (by omega)
  have A4 : Hid (TmAt w1 (w.heap.size + 1 + 1) 0) := R0.kept k1 (by omega) (by omega)
  have A5 : Hid (w1.frozen? ⟨w.heap.size + 1 + 1, 0, none⟩ = false ∧ w1.frozen? ⟨w.heap.size + 1 + 1, 1, none⟩ = false ∧ w1.frozen? ⟨w.heap.size + 1 + 1, 2, none⟩ = false) :=
    ⟨(k1.frozen (p := ⟨w.heap.size + 1 + 1, 0, none⟩) hrl (by show w.heap.size + 1 + 1 ≠ g; omega) (by show w.heap.size + 1 + 1 ≠ g; omega)).trans F0, (k1.frozen (p := ⟨w.heap.size + 1 + 1, 1, none⟩) hrl (by show w.heap.size + 1 + 1 ≠ g; omega) (by show w.heap.size + 1 + 1 ≠ g; omega)).trans F1, (k1.frozen (p := ⟨w.heap.size + 1 + 1, 2, none⟩) hrl (by show w.heap.size + 1 + 1 ≠ g; omega) (by show w.heap.size + 1 + 1 ≠ g; omega)).trans F2⟩
  have A7 : Hid (Blk w1 g n ∧ CRows w1 g 0 (standing F cs)) := ⟨hBlk, hRows⟩
  have hs1 : w.heap.size + 1 + 1 < w1.heap.size := Nat.lt_of_lt_of_le hrl k1.size
  have a1 := A1.out.c
  have a2 := A1.out.f
  have a3 := A3.out.c0
  have a4 := A3.out.c1
  have a5 := A3.out.c2
  have a6 : ¬ w.heap.size + 1 = hb := by omega
  have a7 : ¬ hb = w.heap.size + 1 := by omega
  clear hX P0 T0 R0 F0 F1 F2 k1 hBlk hRows HH HR' HK' c2 hW0 hrl b1 b2 b3 b4
  generalize hcs : (standing F cs) = cs' at *
  have HCS : Hid (standing F cs = cs') := hcs
  clear hcs
  go_upto_region 3 with fail
  refine gen_wp _ (fun V => Hid (Fa V w.heap.size hb g n w1.heap.size st (.slice (some ⟨g, 0, none⟩) cs'.length cap) F F lim win rate cs' ∧ Kept hb g w V ∧ g < V.heap.size)) ?_ ?_
  · have k2 : Kept hb hb w1 (w1.setCell ⟨hb, 2, none⟩ (.slice (some ⟨g, 0, none⟩) cs'.length cap)) := (Kept.refl hb hb w1).setCell ⟨hb, 2, none⟩ _ (.inl rfl)
    have al : Below (w1.setCell ⟨hb, 2, none⟩ (.slice (some ⟨g, 0, none⟩) cs'.length cap)).heap.size (w1.setCell ⟨hb, 2, none⟩ (.slice (some ⟨g, 0, none⟩) cs'.length cap)) ((w1.setCell ⟨hb, 2, none⟩ (.slice (some ⟨g, 0, none⟩) cs'.length cap)).alloc (.cells #[.int .u64 (tN F), .int .i64 (tS F), .pointer none] 69)) := (Below.refl _ _).alloc (Nat.le_refl _) _
    have hg1 : g < w1.heap.size := Nat.lt_of_lt_of_le hg G1.out.size
    have hgV : g < (w1.setCell ⟨hb, 2, none⟩ (.slice (some ⟨g, 0, none⟩) cs'.length cap)).heap.size := by simpa using hg1
    have q1 : w.heap.size ≠ hb := by omega
    have q2 : w.heap.size + 1 ≠ hb := by omega
    have q3 : w.heap.size + 1 + 1 ≠ hb := by omega
    have hres := A4.out.kept k2 q3 q3
    have ff : ∀ o, w1.frozen? ⟨w.heap.size + 1 + 1, o, none⟩ = false → ((w1.setCell ⟨hb, 2, none⟩ (.slice (some ⟨g, 0, none⟩) cs'.length cap)).alloc (.cells #[.int .u64 (tN F), .int .i64 (tS F), .pointer none] 69)).frozen? ⟨w.heap.size + 1 + 1, o, none⟩ = false := fun o h => by
      rw [World.frozen?_alloc_past _ _ _ (by simpa using hs1), World.frozen?_setCell]; exact h
    refine ⟨⟨(A1.out.put _).later al, (A7.out.1.setCell _ _).of_block (al.block g hgV), (A7.out.2.kept k2 (Ne.symm hgb) (Ne.symm hgb)).later al, (A2.out.kept k2 q1 q1).later al, (A3.out.kept k2 q2 q2).later al, hres.later al,
      ff 0 A5.out.1, ff 1 A5.out.2.1, ff 2 A5.out.2.2, ?_, ?_, ?_, ?_⟩, (G1.out.trans k2.wide').alloc _, Nat.lt_of_lt_of_le hgV al.size⟩
    · constructor <;> simp [go_sem]
    all_goals simp [go_sem]
  generalize hT : w1.heap.size = T
  have hTw : w.heap.size + 1 + 1 < T := by omega
  clear A1 A2 A3 A4 A5 A7 a1 a2 a3 a4 a5 a6 a7 G1 hT hs1
  rintro V HV
  have A : Hid (Fa V w.heap.size hb g n T st (.slice (some ⟨g, 0, none⟩) cs'.length cap) F F lim win rate cs') := HV.out.1
  have K : Hid (Kept hb g w V) := HV.out.2.1
  have hgV : g < V.heap.size := HV.out.2.2
  clear HV
  obtain ⟨z, hz0, hz1⟩ : ∃ z : Bool, Hid (z = false → st = .nilIface ∧ base = F) ∧ Hid (z = true → ∃ wb g2 c M, st = .iface 60 (.pointer (some ⟨wb, 0, none⟩)) ∧ LastAt V wb g2 c M ∧ base = M + win ∧ -9223372036854775808 ≤ M ∧ M ≤ 9223372036854775807) := by
    rcases HS'.out.kept K.out with h | ⟨wb, g2, c, M, h1, h2, h3, h4, h5, _⟩
    · exact ⟨false, fun _ => h, fun x => by cases x⟩
    · exact ⟨true, fun x => by (cases x), fun _ => ⟨wb, g2, c, M, h1, h2, h3, h4, h5⟩⟩
  have s1 := A.out.hd.s
  go_cut [24] (fun x wx => x = .bool z ∧ wx = V)
  case first =>
    cases z with
    | false =>
      obtain ⟨rfl, -⟩ := hz0.out (by simp)
      go_wp2_with fail
      go_meet
      exact ⟨rfl, rfl⟩
    | true =>
      obtain ⟨wb, g2, c, M, rfl, -⟩ := hz1.out (by simp)
      go_wp2_with fail
      go_meet
      exact ⟨rfl, rfl⟩
  case rest =>
  obtain ⟨rfl, rfl⟩ := hcut
  clear s1
  go_upto_if 24 with fail
  go_cut [24] (fun x wx => x = .bool z ∧ Hid (Fa wx w.heap.size hb g n T st (.slice (some ⟨g, 0, none⟩) cs'.length cap) F base lim win rate cs' ∧ Kept hb g w wx ∧ g < wx.heap.size))
  case first =>
    cases z with
    | false =>
      obtain ⟨rfl, rfl⟩ := hz0.out (by simp)
      go_wp2_with fail
      go_meet
      exact ⟨rfl, A.out, K.out, hgV⟩
    | true =>
      obtain ⟨wb, g2, c, M, rfl, hLa, rfl, hM1, hM2⟩ := hz1.out (by simp)
      go_upto_region 4 with fail
      have CW : Hid (∀ W, LastAt W wb g2 c M → Calls Try.prog 92 #[.pointer (some ⟨wb, 0, none⟩), .agg #[.int .u8 0, .int .i64 lim, .int .i64 win, .int .i64 rate, .int .u8 0, .int .i64 0, .int .i64 0, .int .i64 0], .agg #[.int .u64 (tN F), .int .i64 (tS F), .pointer none]] W fun e w' => e = .returned (.agg #[.int .u64 (tN (M + win)), .int .i64 (tS (M + win)), .pointer none]) ∧ Below W.heap.size W w') :=
        fun W h => wforget_any wb g2 c M lim win rate _ _ W h hM1 hM2 hw hw'
      have n1 : hb ≠ T := by omega
      have n2 : w.heap.size ≠ T := by omega
      have n3 : w.heap.size + 1 ≠ T := by omega
      have HLa : Hid (LastAt wc wb g2 c M) := hLa
      have s1 := A.out.hd.s
      have l0 := A.out.lat.c0
      have l1 := A.out.lat.c1
      have l2 := A.out.lat.c2
      have f0 := A.out.ft0
      have f1 := A.out.ft1
      have f2 := A.out.ft2
      clear hLa
      go_region_held3 (fun V' => Kept T T wc V' ∧ V'.cell? ⟨hb, 1, none⟩ = some (.iface 60 (.pointer (some ⟨wb, 0, none⟩))) ∧ (V'.cell? ⟨w.heap.size, 0, none⟩ = some (.int .u8 0) ∧ V'.cell? ⟨w.heap.size, 1, none⟩ = some (.int .i64 lim) ∧ V'.cell? ⟨w.heap.size, 2, none⟩ = some (.int .i64 win) ∧ V'.cell? ⟨w.heap.size, 3, none⟩ = some (.int .i64 rate) ∧ V'.cell? ⟨w.heap.size, 4, none⟩ = some (.int .u8 0) ∧ V'.cell? ⟨w.heap.size, 5, none⟩ = some (.int .i64 0) ∧ V'.cell? ⟨w.heap.size, 6, none⟩ = some (.int .i64 0) ∧ V'.cell? ⟨w.heap.size, 7, none⟩ = some (.int .i64 0)) ∧
          V'.cell? ⟨w.heap.size + 1, 0, none⟩ = some (.int .u64 (tN F)) ∧ V'.cell? ⟨w.heap.size + 1, 1, none⟩ = some (.int .i64 (tS F)) ∧ V'.cell? ⟨w.heap.size + 1, 2, none⟩ = some (.pointer none))
        (first
        | (exact s35 s1 A.out.pol A.out.flo n1 n2 n3 ((Kept.refl _ _ wc).drew))
        | (exact s35 s1 A.out.pol A.out.flo n1 n2 n3 (hkeptL (by assumption) (by assumption)))
        | (exact s35 s1 A.out.pol A.out.flo n1 n2 n3 (hkeptS3 (by assumption))))
        (first
        | (go_at_call 92; refine (CW.out _ (HLa.out.later ((Below.refl _ _).drew))).mono ?_; rintro e w3 ⟨rfl, x3⟩; have l0' := cell_later (bdrew x3) l0; have l1' := cell_later (bdrew x3) l1; have l2' := cell_later (bdrew x3) l2; have f0' := hfrozen (bdrew x3) l0 f0; have f1' := hfrozen (bdrew x3) l0 f1; have f2' := hfrozen (bdrew x3) l0 f2)
        | (go_invoke; go_at_call 92; refine (CW.out _ (HLa.out.later ((Below.refl _ _).drew))).mono ?_; rintro e w3 ⟨rfl, x3⟩; have l0' := cell_later (bdrew x3) l0; have l1' := cell_later (bdrew x3) l1; have l2' := cell_later (bdrew x3) l2; have f0' := hfrozen (bdrew x3) l0 f0; have f1' := hfrozen (bdrew x3) l0 f1; have f2' := hfrozen (bdrew x3) l0 f2))
      go_wp2_with fail
      go_meet
      have hY := bdrew x3
      exact ⟨rfl, (A.out.later hgV hY).putL n1 (by omega) hTw (M + win), (K.out.later hY).three (by omega) _ _ _, by simpa using Nat.lt_of_lt_of_le hgV x3.size⟩
  case rest =>
    obtain ⟨rfl, HC⟩ := hcut
    clear A K hgV hz0 hz1
    have A : Hid (Fa wc w.heap.size hb g n T st (.slice (some ⟨g, 0, none⟩) cs'.length cap) F base lim win rate cs') := HC.out.1
    have K : Hid (Kept hb g w wc) := HC.out.2.1
    have hgV : g < wc.heap.size := HC.out.2.2
    clear HC
    have c2 := A.out.hd.c
    go_wp2_with fail
    clear c2
    go_loopg [37] cs'.length (fun gg s37 wx => ∃ i : Nat, s37 = .int .i64 (i : Int) ∧ gg = cs'.length - i ∧ i ≤ cs'.length ∧ Hid (Fa wx w.heap.size hb g n T st (.slice (some ⟨g, 0, none⟩) cs'.length cap) F (latest base (cs'.take i)) lim win rate cs') ∧ Hid (Kept hb g w wx) ∧ g < wx.heap.size)
    case atStart => exact ⟨0, rfl, by simp, by omega, by simpa [latest] using A, K, hgV⟩
    case round =>
      clear A K hgV
      obtain ⟨i, rfl, rfl, hi, A, K, hgV⟩ := hrel
      by_cases c : i < cs'.length
      · have ci : (i : Int) < (cs'.length : Int) := by omega
        obtain ⟨L, C, hLC⟩ : ∃ L C, cs'[i]? = some (L, C) := ⟨cs'[i].1, cs'[i].2, by rw [List.getElem?_eq_getElem]⟩
        have HL : Hid (cs'[i]? = some (L, C)) := hLC
        have hrow := A.out.rows i (L, C) hLC
        rw [Nat.zero_add] at hrow
        obtain ⟨c0, c1, c2, c3, c4⟩ := hrow
        have l0 := A.out.lat.c0
        have l1 := A.out.lat.c1
        have l2 := A.out.lat.c2
        have hTl : T < wr.heap.size := World.block_lt_of_cell? _ _ l0
        have hTl1 : T < wr.heap.size + 1 := by omega
        clear hLC
        generalize hq : latest base (cs'.take i) = q at *
        have Hq : Hid (latest base (cs'.take i) = q) := hq
        clear hq
        go_wp2_with fail
        have hX : Below wr.heap.size wr (wr.alloc (.cells #[.string { data := #[] }, .int .i64 C, .int .u64 (tN L), .int .i64 (tS L), .pointer none] 74)) := (Below.refl _ _).alloc (Nat.le_refl _) _
        refine (after_tm L q _).mono ?_
        rintro e w2 ⟨rfl, x2⟩
        have hY : Below wr.heap.size wr w2 := hX.trans (x2.mono (by simp))
        have A2 : Hid (Fa w2 w.heap.size hb g n T st (.slice (some ⟨g, 0, none⟩) cs'.length cap) F q lim win rate cs') := A.out.later hgV hY
        have K2 : Hid (Kept hb g w w2) := K.out.later hY
        have hg2 : g < w2.heap.size := Nat.lt_of_lt_of_le hgV hY.size
        have z2 : w2.cell? ⟨wr.heap.size, 2, none⟩ = some (.int .u64 (tN L)) := cell_later x2 (by simp [go_sem])
        have z3 : w2.cell? ⟨wr.heap.size, 3, none⟩ = some (.int .i64 (tS L)) := cell_later x2 (by simp [go_sem])
        have z4 : w2.cell? ⟨wr.heap.size, 4, none⟩ = some (.pointer none) := cell_later x2 (by simp [go_sem])
        have hs2 : IntKind.i64.wrap ((i : Int) + 1) = (i : Int) + 1 := by rw [IntKind.wrap_i64]; omega
        clear x2 hX hY A K c0 c1 c2 c3 c4 l0 l1 l2 hgV hTl1
        generalize wr.heap.size = Q at *
        by_cases ck : q < L
        · have d : decide (q < L) = true := by rw [decide_eq_true_iff]; exact ck
          have l0 := A2.out.lat.c0
          have l1 := A2.out.lat.c1
          have l2 := A2.out.lat.c2
          have f0 := A2.out.ft0
          have f1 := A2.out.ft1
          have f2 := A2.out.ft2
          have e : Hid (latest base (cs'.take (i + 1)) = L) := by
            have h := latest_step (b := base) HL.out
            rw [Hq.out, if_pos ck] at h; exact h
          rw [d]
          go_wp2_with fail
          go_roundg (cs'.length - (i + 1))
          case measure => omega
          case rel => exact ⟨i + 1, by push_cast; rfl, rfl, by omega, by rw [e.out]; exact A2.out.putL (by omega) (by omega) hTw L, K2.out.three (by omega) _ _ _, by simpa using hg2⟩
        · have d : decide (q < L) = false := by rw [decide_eq_false_iff_not]; exact ck
          have e : Hid (latest base (cs'.take (i + 1)) = q) := by
            have h := latest_step (b := base) HL.out
            rw [Hq.out, if_neg ck] at h; exact h
          rw [d]
          go_wp2_with fail
          go_roundg (cs'.length - (i + 1))
          case measure => omega
          case rel => exact ⟨i + 1, by push_cast; rfl, rfl, by omega, by rw [e.out]; exact A2, K2, hg2⟩
      · have ci : ¬ (i : Int) < (cs'.length : Int) := by omega
        have ei : i = cs'.length := by omega
        have e : Hid (latest base (cs'.take i) = latest base cs') := by rw [ei, List.take_of_length_le (Nat.le_refl _)]; rfl
        have l0 := A.out.lat.c0
        have l1 := A.out.lat.c1
        have l2 := A.out.lat.c2
        have r0 := A.out.res.c0
        have r1 := A.out.res.c1
        have r2 := A.out.res.c2
        have f0 := A.out.fr0
        have f1 := A.out.fr1
        have f2 := A.out.fr2
        have A9 : Hid (Fa wr w.heap.size hb g n T st (.slice (some ⟨g, 0, none⟩) cs'.length cap) F (latest base (cs'.take i)) lim win rate cs') := A
        have n4 : ¬ T = w.heap.size + 1 + 1 := by omega
        have n5 : ¬ w.heap.size + 1 + 1 = T := by omega
        clear A
        generalize hq : latest base (cs'.take i) = q at *
        have Hq : Hid (q = latest base cs') := e
        clear hq e
        go_wp2_with fail
        refine bodyPost_ret (v := .agg #[.int .u64 (tN q), .int .i64 (tS q), .pointer none]) (by simp [results, Try.results35, go_sem, r0, r1, r2]) rfl ?_
        have k9 : Kept (w.heap.size + 1 + 1) (w.heap.size + 1 + 1) wr (((wr.setCell ⟨w.heap.size + 1 + 1, 0, none⟩ (.int .u64 (tN q))).setCell ⟨w.heap.size + 1 + 1, 1, none⟩ (.int .i64 (tS q))).setCell ⟨w.heap.size + 1 + 1, 2, none⟩ (.pointer none)) := hkeptS3 (R := True) ⟨Kept.refl _ _ wr, trivial⟩
        have K9 := K.out.three (c := w.heap.size + 1 + 1) (by omega) (.int .u64 (tN q)) (.int .i64 (tS q)) (.pointer none)
        rw [HCS.out]
        refine ⟨by rw [Hq.out], K9, A9.out.hd.kept k9 (by omega) (by omega), ((A9.out.blk.setCell _ _).setCell _ _).setCell _ _, A9.out.rows.kept k9 (by omega) (by omega), HS'.out.kept K9⟩
end Go.Proofs.Qxb6613076a
