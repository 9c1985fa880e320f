/-
  A held key as one thing: made, asked for its forget time, read.
-/
import Derived.Test.Qxb6613076aHeldE
import Derived.Test.Qxb6613076aHeldF
import Derived.Test.Qxb6613076aHeldG
import Derived.Test.Qxb6613076aHeldH
namespace Go.Proofs.Qxb6613076a
open Go.RowKit Go.Deep
set_option linter.unusedVariables false
/-- A held key at hb: its claims cs, its state's last start M (if it has one); all its blocks lie from B on. -/
def HOb (V : World) (hb B : Nat) (cs : List (Int × Int)) (hasS : Bool) (M : Int) : Prop :=
  B ≤ hb ∧ ∃ st sl, Hd V hb st sl ∧
    ((cs = [] ∧ sl = .slice none 0 0 ∧ (∀ o, V.frozen? ⟨hb, o, none⟩ = false) ∧ StOk V st hb hb hasS M) ∨ ∃ g cap n, sl = .slice (some ⟨g, 0, none⟩) cs.length cap ∧ hb ≠ g ∧ B ≤ g ∧ g < V.heap.size ∧ cs.length ≤ n ∧ n ≤ cap ∧ n ≤ 32768 ∧ CRows V g 0 cs ∧ Blk V g n ∧ StOk V st hb g hasS M)
theorem StOk.later {V V' : World} {st : Value} {hb g : Nat} {hasS : Bool} {M : Int} (h : StOk V st hb g hasS M) (b : Below V.heap.size V V') : StOk V' st hb g hasS M := fun F base win e => (h F base win e).later b
theorem StOk.kept {V V' : World} {st : Value} {hb g : Nat} {hasS : Bool} {M : Int} (h : StOk V st hb g hasS M) (k : Kept hb g V V') : StOk V' st hb g hasS M := fun F base win e => (h F base win e).kept k
theorem HOb.later {V V' : World} {hb B : Nat} {cs : List (Int × Int)} {hasS : Bool} {M : Int} (h : HOb V hb B cs hasS M) (b : Below V.heap.size V V') : HOb V' hb B cs hasS M := by
  obtain ⟨h0, st, sl, h1, h3⟩ := h
  refine ⟨h0, st, sl, h1.later b, ?_⟩
  rcases h3 with ⟨e1, e2, h2, e3⟩ | ⟨g, cap, n, e1, e2, e3, e4, e5, e6, e7, e8, e9, e10⟩
  · exact .inl ⟨e1, e2, fun o => hfrozen b h1.c (h2 o), e3.later b⟩
  · exact .inr ⟨g, cap, n, e1, e2, e3, Nat.lt_of_lt_of_le e4 b.size, e5, e6, e7, e8.later b, e9.of_block (b.block g e4), e10.later b⟩
theorem HOb.lt {V : World} {hb B : Nat} {cs : List (Int × Int)} {hasS : Bool} {M : Int} (h : HOb V hb B cs hasS M) : hb < V.heap.size := by
  obtain ⟨h0, st, sl, h1, h3⟩ := h
  exact World.block_lt_of_cell? V ⟨hb, 2, none⟩ h1.c
theorem Made.ob {w w' : World} {hb : Nat} {st sl : Value} {cs : List (Int × Int)} {hasS : Bool} {M : Int} (h : Made w w' hb st sl cs hasS M) (hn : cs.length ≤ 32768) : HOb w' hb w.heap.size cs hasS M := by
  refine ⟨h.new, st, sl, h.hd, ?_⟩
  rcases h.claims with ⟨e1, e2, e3⟩ | ⟨g, cap, e1, e2, e3, e4, e5, e6, e7, e8⟩
  · exact .inl ⟨e1, e2, h.free, e3⟩
  · exact .inr ⟨g, cap, cs.length, e1, e2, e3, e4, Nat.le_refl _, e5, hn, e6, e7, e8⟩
theorem standing_le (F : Int) (cs : List (Int × Int)) : (standing F cs).length ≤ cs.length := List.length_filter_le _ _
theorem latest_range {b lo hi : Int} : ∀ {cs : List (Int × Int)}, lo ≤ b → b ≤ hi → (∀ c ∈ cs, lo ≤ c.1 ∧ c.1 ≤ hi) → lo ≤ latest b cs ∧ latest b cs ≤ hi
  | [], h1, h2, _ => ⟨h1, h2⟩
  | c :: r, h1, h2, h3 => by
    have hc := h3 c (by simp)
    have hr : ∀ d ∈ r, lo ≤ d.1 ∧ d.1 ≤ hi := fun d hd => h3 d (by simp [hd])
    show lo ≤ latest (if b < c.1 then c.1 else b) r ∧ latest (if b < c.1 then c.1 else b) r ≤ hi
    split
    · exact latest_range hc.1 hc.2 hr
    · exact latest_range h1 h2 hr
theorem Blk.less {V : World} {g n m : Nat} (h : Blk V g n) (hm : m ≤ n) : Blk V g m := ⟨fun o ho => h.room o (by omega), h.free⟩
/-- ZZheldForgetAt: the latest of the state's own time and the claims that stand; these alone are left. -/
theorem hforget_ob (hb B : Nat) (cs : List (Int × Int)) (hasS : Bool) (M F lim win rate : Int) (w : World) (H : HOb w hb B cs hasS M) (hB : B ≤ w.heap.size) (hF1 : -9223372036854775808 ≤ F) (hF2 : F ≤ 9223372036854775807) (hw : 0 ≤ win) (hw' : win ≤ 9223372036854775807)
    (hb1 : -9223372036854775808 ≤ (if hasS then M + win else F)) (hb2 : (if hasS then M + win else F) ≤ 9223372036854775807) (hr : ∀ c ∈ cs, -9223372036854775808 ≤ c.1 ∧ c.1 ≤ 9223372036854775807) :
    Calls Try.prog 13 #[.pointer (some ⟨hb, 0, none⟩), .agg #[.int .u8 0, .int .i64 lim, .int .i64 win, .int .i64 rate, .int .u8 0, .int .i64 0, .int .i64 0, .int .i64 0], .int .i64 F] w fun e w' =>
      e = .returned (.int .i64 (latest (if hasS then M + win else F) (standing F cs))) ∧ Below B w w' ∧ HOb w' hb B (standing F cs) hasS M := by
  have hbl := H.lt
  obtain ⟨h0, st, sl, h1, h3⟩ := H
  obtain ⟨L1, L2⟩ := latest_range (cs := standing F cs) hb1 hb2 (fun c hc => hr c (List.mem_filter.mp (show c ∈ cs.filter _ from hc)).1)
  rcases h3 with ⟨rfl, rfl, h2, e3⟩ | ⟨g, cap, n, rfl, e2, e3, e4, e5, e6, e7, e8, e9, e10⟩
  · have hst : standing F [] = [] := rfl
    rw [hst] at L1 L2 ⊢
    refine (hforget_of hb hb hb F (latest (if hasS then M + win else F) []) lim win rate (fun W w2 => Hd w2 hb st (.slice none 0 0) ∧ (∀ o, w2.frozen? ⟨hb, o, none⟩ = false) ∧ StOk w2 st hb hb hasS M) w hbl hbl hF1 hF2 L1 L2 ?_).mono ?_
    · intro W hW
      refine (forgetAt_nil hb st F (if hasS then M + win else F) lim win rate W (h1.later hW) (fun o => hfrozen hW h1.c (h2 o)) (e3.later hW F _ win rfl) hw hw').mono ?_
      rintro e w' ⟨rfl, k, a1, a2, a3⟩
      exact ⟨rfl, k, a1, a2, (e3.later hW).kept k⟩
    · rintro e w' ⟨rfl, k, W, w2, hW, ⟨a1, a2, a3⟩, b2⟩
      exact ⟨rfl, k.below h0 h0 hB, h0, st, _, a1.later b2, .inl ⟨rfl, rfl, fun o => hfrozen b2 a1.c (a2 o), a3.later b2⟩⟩
  · have hcl : (cs.length : Int) ≤ 32768 := by omega
    refine (hforget_of hb hb g F (latest (if hasS then M + win else F) (standing F cs)) lim win rate (fun W w2 => Hd w2 hb st (.slice (some ⟨g, 0, none⟩) (standing F cs).length cap) ∧ Blk w2 g cs.length ∧ CRows w2 g 0 (standing F cs) ∧ StOk w2 st hb g hasS M ∧ g < w2.heap.size) w hbl e4 hF1 hF2 L1 L2 ?_).mono ?_
    · intro W hW
      have hWg : g < W.heap.size := Nat.lt_of_lt_of_le e4 hW.size
      refine (forgetAt_row hb g cs.length cap st F (if hasS then M + win else F) lim win rate cs W (h1.later hW) rfl (e8.later hW) ((e9.less e5).of_block (hW.block g e4)) (e10.later hW F _ win rfl) e2 hWg hcl (by omega) hw hw').mono ?_
      rintro e w' ⟨rfl, k, a1, a2, a3, a4⟩
      exact ⟨rfl, k, a1, a2, a3, (e10.later hW).kept k, Nat.lt_of_lt_of_le hWg k.size⟩
    · rintro e w' ⟨rfl, k, W, w2, hW, ⟨a1, a3, a4, a5, a6⟩, b2⟩
      have hs := standing_le F cs
      exact ⟨rfl, k.below h0 e3 hB, h0, st, _, a1.later b2, .inr ⟨g, cap, cs.length, rfl, e2, e3, Nat.lt_of_lt_of_le a6 b2.size, hs, by omega, by omega, a4.later b2, a3.of_block (b2.block g a6), a5.later b2⟩⟩
/-- ZZheldClaims: the claims' ends and costs. -/
theorem hclaims_ob (hb B : Nat) (cs : List (Int × Int)) (hasS : Bool) (M : Int) (w : World) (H : HOb w hb B cs hasS M) (hr : ∀ (x : Nat) (c : Int × Int), cs[x]? = some c → -9223372036854775808 ≤ c.1 ∧ c.1 ≤ 9223372036854775807) :
    Calls Try.prog 15 #[.pointer (some ⟨hb, 0, none⟩)] w fun e w' => e = .returned (.tuple #[.slice (some ⟨w.heap.size, 0, none⟩) cs.length cs.length, .slice (some ⟨w.heap.size + 1, 0, none⟩) cs.length cs.length]) ∧ Below w.heap.size w w' ∧
      ∀ (x : Nat) (c : Int × Int), cs[x]? = some c → w'.cell? ⟨w.heap.size, x, none⟩ = some (.int .i64 c.1) ∧ w'.cell? ⟨w.heap.size + 1, x, none⟩ = some (.int .i64 c.2) := by
  obtain ⟨h0, st, sl, h1, h3⟩ := H
  rcases h3 with ⟨rfl, rfl, h2, e3⟩ | ⟨g, cap, n, rfl, e2, e3, e4, e5, e6, e7, e8, e9, e10⟩
  · refine (claims_nil hb st w h1).mono ?_
    rintro e w' ⟨rfl, b⟩
    exact ⟨rfl, b, fun x c hx => by simp at hx⟩
  · refine (claims_row hb g cs.length cap st cs w h1 rfl e8 e4 (by omega) hr).mono ?_
    rintro e w' ⟨rfl, b, c⟩
    refine ⟨rfl, b, fun x d hx => ?_⟩
    have hx' : x < cs.length := by
      rcases Nat.lt_or_ge x cs.length with q | q
      · exact q
      · rw [List.getElem?_eq_none q] at hx; cases hx
    exact ⟨c.da x d hx' hx, c.db x d hx' hx⟩
end Go.Proofs.Qxb6613076a
